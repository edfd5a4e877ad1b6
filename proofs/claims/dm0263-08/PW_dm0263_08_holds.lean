import PyProof.Rows.All
import Wide.All
import OpenK.AllK
import Wide.FinOn
import PyProof.FactsAll.tuple_2
import PySem.Challenge.RW_dm0263_08
set_option Elab.async false
set_option maxHeartbeats 4000000
set_option maxRecDepth 100000
open PySem PySem.W PyProof.Rows
namespace Mine

/-- nothing that stands is changed -/
abbrev StIn (h h' : Heap) : Prop := ∀ b o, h.get? b = some o → h'.get? b = some o

theorem StIn.refl (h : Heap) : StIn h h := fun _ _ e => e
theorem StIn.trans {a b c : Heap} (x : StIn a b) (y : StIn b c) : StIn a c := fun p o e => y p o (x p o e)
theorem StIn.push (h : Heap) (o : Obj) : StIn h (h.push o) := fun _ _ e => Heap.get?_push_of_some o e

/-- abstract values -/
inductive AV where
  | int (i : Int)
  | bool (b : Bool)
  | none
  | str (s : Str)
  | ty (n : String)
  | bi (n : String)
  | rng (a b c : Int)
  | tup (l : List AV)
  | lst (l : List AV)

mutual
def RelV (X : List Addr) (h : Heap) : AV → Value → Prop
  | .int i, v => ∃ t, v = .int i t
  | .bool b, v => v = .bool b
  | .none, v => v = .none
  | .str s, v => ∃ t, v = .str s t
  | .ty n, v => v = .type n
  | .bi n, v => v = .builtin n
  | .rng a b c, v => ∃ r t u w, v = .ref r ∧ IsRange h r a b c t u w
  | .tup l, v => ∃ a vs, v = .ref a ∧ h.IsTuple a vs.toArray ∧ RelVs X h l vs
  | .lst l, v => ∃ a vs, v = .ref a ∧ a ∉ X ∧ h.IsList a vs.toArray ∧ RelVs X h l vs
def RelVs (X : List Addr) (h : Heap) : List AV → List Value → Prop
  | [], vs => vs = []
  | a :: l, vs => ∃ v r, vs = v :: r ∧ RelV X h a v ∧ RelVs X h l r
end

/-- the objects that values are made of -/
def isVal (o : Obj) : Prop := (∃ xs n, o.data = .seq xs n) ∨ (o.cls = .type "range" ∧ ∃ fs, o.data = .fields fs)

mutual
theorem RelV.mono {X Y : List Addr} {h h' : Heap} (hk : ∀ a o, a ∉ X → isVal o → h.get? a = some o → h'.get? a = some o) (htup : ∀ a o, isVal o → o.cls ≠ .type "list" → h.get? a = some o → h'.get? a = some o) (hY : ∀ p, p ∈ Y → p ∈ X) : (av : AV) → (v : Value) → RelV X h av v → RelV Y h' av v
  | .int _, _, r => r
  | .bool _, _, r => r
  | .none, _, r => r
  | .str _, _, r => r
  | .ty _, _, r => r
  | .bi _, _, r => r
  | .rng _ _ _, _, ⟨r, t, u, w, e, hr⟩ => ⟨r, t, u, w, e, htup _ _ (.inr ⟨rfl, _, rfl⟩) (show Value.type "range" ≠ Value.type "list" by decide) hr⟩
  | .tup l, _, ⟨a, vs, e, ⟨o, ho, hc, n, hd⟩, rr⟩ => ⟨a, vs, e, ⟨o, htup a o (.inl ⟨_, n, hd⟩) (by rw [hc]; decide) ho, hc, n, hd⟩, RelVs.mono hk htup hY l vs rr⟩
  | .lst l, _, ⟨a, vs, e, hx, ⟨o, ho, hc, n, hd⟩, rr⟩ => ⟨a, vs, e, fun q => hx (hY a q), ⟨o, hk a o hx (.inl ⟨_, n, hd⟩) ho, hc, n, hd⟩, RelVs.mono hk htup hY l vs rr⟩
theorem RelVs.mono {X Y : List Addr} {h h' : Heap} (hk : ∀ a o, a ∉ X → isVal o → h.get? a = some o → h'.get? a = some o) (htup : ∀ a o, isVal o → o.cls ≠ .type "list" → h.get? a = some o → h'.get? a = some o) (hY : ∀ p, p ∈ Y → p ∈ X) : (l : List AV) → (vs : List Value) → RelVs X h l vs → RelVs Y h' l vs
  | [], _, r => r
  | a :: l, _, ⟨v, r, e, h1, h2⟩ => ⟨v, r, e, RelV.mono hk htup hY a v h1, RelVs.mono hk htup hY l r h2⟩
end

/-- value objects off X stand, and all but lists stand wherever they are -/
structure VKeep (X : List Addr) (h h' : Heap) : Prop where
  off : ∀ a o, a ∉ X → isVal o → h.get? a = some o → h'.get? a = some o
  imm : ∀ a o, isVal o → o.cls ≠ .type "list" → h.get? a = some o → h'.get? a = some o

theorem VKeep.of (X : List Addr) {h h' : Heap} (x : StIn h h') : VKeep X h h' := ⟨fun a o _ _ e => x a o e, fun a o _ _ e => x a o e⟩
theorem VKeep.refl (X : List Addr) (h : Heap) : VKeep X h h := .of X (StIn.refl h)
theorem VKeep.trans {X : List Addr} {a b c : Heap} (x : VKeep X a b) (y : VKeep X b c) : VKeep X a c := ⟨fun p o hp hv e => y.off p o hp hv (x.off p o hp hv e), fun p o hv hc e => y.imm p o hv hc (x.imm p o hv hc e)⟩
theorem VKeep.sub {X Y : List Addr} {a b : Heap} (x : VKeep X a b) (hs : ∀ p, p ∈ X → p ∈ Y) : VKeep Y a b := ⟨fun p o hp hv e => x.off p o (fun q => hp (hs p q)) hv e, x.imm⟩

theorem RelV.keep {X : List Addr} {h h' : Heap} {av : AV} {v : Value} (r : RelV X h av v) (k : VKeep X h h') : RelV X h' av v := RelV.mono k.off k.imm (fun _ q => q) av v r
theorem RelVs.keep {X : List Addr} {h h' : Heap} {l : List AV} {vs : List Value} (r : RelVs X h l vs) (k : VKeep X h h') : RelVs X h' l vs := RelVs.mono k.off k.imm (fun _ q => q) l vs r
theorem RelV.st {X : List Addr} {h h' : Heap} {av : AV} {v : Value} (r : RelV X h av v) (k : StIn h h') : RelV X h' av v := r.keep (.of X k)
theorem RelVs.st {X : List Addr} {h h' : Heap} {l : List AV} {vs : List Value} (r : RelVs X h l vs) (k : StIn h h') : RelVs X h' l vs := r.keep (.of X k)
theorem RelV.less {X Y : List Addr} {h : Heap} {av : AV} {v : Value} (r : RelV X h av v) (hs : ∀ p, p ∈ Y → p ∈ X) : RelV Y h av v := RelV.mono (fun _ _ _ _ e => e) (fun _ _ _ _ e => e) hs av v r
theorem RelVs.length {X : List Addr} {h : Heap} : ∀ {l : List AV} {vs : List Value}, RelVs X h l vs → vs.length = l.length
  | [], _, r => by rw [show _ = [] from r]; rfl
  | _ :: l, _, ⟨v, r, e, _, h2⟩ => by rw [e, List.length_cons, List.length_cons, h2.length]
theorem RelVs.get {X : List Addr} {h : Heap} : ∀ {l : List AV} {vs : List Value} (_ : RelVs X h l vs) (i : Nat) (a : AV), l[i]? = some a → ∃ v, vs[i]? = some v ∧ RelV X h a v
  | b :: l, _, ⟨v, r, e, h1, h2⟩, 0, a, hi => by
    have : b = a := by simpa using hi
    exact ⟨v, by rw [e]; rfl, this ▸ h1⟩
  | b :: l, _, ⟨v, r, e, h1, h2⟩, i + 1, a, hi => by
    obtain ⟨v', hv', hr⟩ := h2.get i a (by simpa using hi)
    exact ⟨v', by rw [e]; simpa using hv', hr⟩
theorem RelVs.append {X : List Addr} {h : Heap} : ∀ {l l' : List AV} {vs vs' : List Value}, RelVs X h l vs → RelVs X h l' vs' → RelVs X h (l ++ l') (vs ++ vs')
  | [], _, _, _, r, r' => by rw [show _ = [] from r]; exact r'
  | _ :: l, _, _, _, ⟨v, r, e, h1, h2⟩, r' => ⟨v, r ++ _, by rw [e]; rfl, h1, h2.append r'⟩
/-- the built-in names that are used -/
def bltNames : List Str := ["abs", "len", "divmod", "isinstance", "range", "sum", "min", "max", "str", "int", "bool", "sorted", "type", "ValueError"]
/-- the program at hand -/
structure GX where
  prog : Program
  w : World
  p : Program
  loose : List Str
  mean : ExcName → Option Value
  mg : Str → Option Value
  mb : Str → Option Value
  ex : Heap → Prop
  exm : ∀ h h', ex h → StIn h h' → ex h'
  tree : prog.given.tree = none
  noimp : importsNone p = true
  inh : ∃ h, Top p loose mean mg mb h ∧ ex h
  nob : ∀ x ∈ bltNames, mg x = none

structure PG (g : GX) (h : Heap) : Prop where
  top : Top g.p g.loose g.mean g.mg g.mb h
  ex : g.ex h
theorem PG.st {g : GX} {h h' : Heap} (x : PG g h) (k : StIn h h') : PG g h' := ⟨x.top.keeps k, g.exm _ _ x.ex k⟩

structure Room (A : Around) (n : Nat) : Prop where
  hh : A.handled = none
  depth : A.depth + n + 110 < recursionLimit
  units : A.units + 16 * n + 100 < cLine
  fr : ∃ l, A.frames = some l
theorem Room.le {A : Around} {n k : Nat} (x : Room A n) (hk : k ≤ n) : Room A k := ⟨x.hh, by have := x.depth; omega, by have := x.units; omega, x.fr⟩

structure CX where
  g : GX
  A : Around
  env : Env
  n : Nat

structure CX.Ok (C : CX) : Prop where
  room : Room C.A C.n
  kind : C.env.scope.kind = .function
  glob : C.env.globals = mainGlobals
  blt : C.env.builtins = builtinsNs
  seer : ∃ e l, C.A.frames = some (e :: l) ∧ e.scope.isGenerator = false ∧ e.scope.isCoroutine = false ∧ e.builtins = builtinsNs ∧ e.globals = mainGlobals

theorem CX.Ok.pylong {C : CX} (k : C.Ok) {s : Shared} (p : PG C.g s.heap) : PylongRoom (model C.g.prog C.g.w) C.A s := by
  obtain ⟨e, l, h1, h2, h3, h4, h5⟩ := k.seer
  refine PylongRoom.of p.top.nolimit ?_ (SeerAt.of (p.top.seer C.g.noimp) C.g.tree h1 h2 h3 h4 h5)
  have := k.room.depth
  show C.A.depth + 100 < recursionLimit
  omega

/-- a name that reads as v -/
def Rd (env : Env) (h : Heap) (x : Str) (v : Value) : Prop :=
  (env.kindOf x = some .local ∧ ∃ m, h.Ns env.locals m ∧ m x = some v) ∨ ((env.kindOf x = some .cell ∨ env.kindOf x = some .free) ∧ ∃ c, env.cells.lookup x = some c ∧ h.IsCell c (some v))
theorem Rd.st {env : Env} {h h' : Heap} {x : Str} {v : Value} (r : Rd env h x v) (k : StIn h h') : Rd env h' x v := by
  rcases r with ⟨hl, m, hn, hv⟩ | ⟨hl, c, hc, hv⟩
  · exact .inl ⟨hl, m, hn.keeps k, hv⟩
  · exact .inr ⟨hl, c, hc, hv.keeps k⟩

abbrev AM := List (Str × AV)
structure AS where
  vs : AM
  own : Option (Str × List AV) := none

def RelE (env : Env) (X : List Addr) (h : Heap) (S : AM) : Prop := ∀ x av, S.lookup x = some av → ∃ v, Rd env h x v ∧ RelV X h av v
theorem RelE.st {env : Env} {X : List Addr} {h h' : Heap} {S : AM} (r : RelE env X h S) (k : StIn h h') : RelE env X h' S := fun x av e => let ⟨v, h1, h2⟩ := r x av e; ⟨v, h1.st k, h2.st k⟩

/-- the own list stands at b -/
structure OwnAt (env : Env) (X : List Addr) (h : Heap) (x : Str) (l : List AV) (b : Addr) (vs : List Value) : Prop where
  rd : Rd env h x (.ref b)
  inX : b ∈ X
  lst : h.PlainList b vs.toArray
  rel : RelVs X h l vs
theorem OwnAt.st {env : Env} {X : List Addr} {h h' : Heap} {x : Str} {l : List AV} {b : Addr} {vs : List Value} (r : OwnAt env X h x l b vs) (k : StIn h h') : OwnAt env X h' x l b vs :=
  ⟨r.rd.st k, r.inX, r.lst.at fun o e => k b o e, r.rel.st k⟩

def RelS (env : Env) (X : List Addr) (h : Heap) (S : AS) : Prop := RelE env X h S.vs ∧ ∀ x l, S.own = some (x, l) → ∃ b vs, OwnAt env X h x l b vs
theorem RelS.st {env : Env} {X : List Addr} {h h' : Heap} {S : AS} (r : RelS env X h S) (k : StIn h h') : RelS env X h' S := ⟨r.1.st k, fun x l e => let ⟨b, vs, h1⟩ := r.2 x l e; ⟨b, vs, h1.st k⟩⟩

def XIn (X : List Addr) (h : Heap) : Prop := ∀ a ∈ X, (h.get? a).isSome = true
theorem XIn.st {X : List Addr} {h h' : Heap} (x : XIn X h) (k : StIn h h') : XIn X h' := fun a ha => by
  obtain ⟨o, ho⟩ := Option.isSome_iff_exists.mp (x a ha)
  rw [k a o ho]; rfl
theorem XIn.fresh {X : List Addr} {h : Heap} (x : XIn X h) : h.objs.size ∉ X := fun q => by
  obtain ⟨o, ho⟩ := Option.isSome_iff_exists.mp (x _ q)
  exact absurd (Heap.lt_size ho) (Nat.lt_irrefl _)
theorem XIn.none {X : List Addr} {h : Heap} (x : XIn X h) {a : Addr} (e : h.get? a = none) : a ∉ X := fun q => by
  have := x a q; rw [e] at this; cases this

/-- an expression: it gives a value with Φ, and changes nothing that stands -/
structure Ev (C : CX) (S : AS) (e : Expr) (Φ : AV → Prop) : Prop where
  go : C.Ok → ∀ (X : List Addr) (s : Shared) (Q : Value → Shared → Prop) (E : Value → Shared → Prop), PG C.g s.heap → XIn X s.heap → RelS C.env X s.heap S →
    (∀ av v h' tk, StIn s.heap h' → RelV X h' av v → Φ av → Q v { s with heap := h', toks := tk }) → wpAny (model C.g.prog C.g.w) C.A (eval e C.env) Q E s

/-- a list of expressions, from left to right -/
structure Evs (C : CX) (S : AS) (es : List Expr) (Φ : List AV → Prop) : Prop where
  go : C.Ok → ∀ (pos : Pos) (X : List Addr) (s : Shared) (Q : List Value → Shared → Prop) (E : Value → Shared → Prop), PG C.g s.heap → XIn X s.heap → RelS C.env X s.heap S →
    (∀ avs vs h' tk, StIn s.heap h' → RelVs X h' avs vs → avs.length = es.length → Φ avs → Q vs { s with heap := h', toks := tk }) → wpAny (model C.g.prog C.g.w) C.A (spliced (backTo pos (starEach es C.env))) Q E s

/-- a test -/
structure Tst (C : CX) (S : AS) (e : Expr) (Φ : Bool → Prop) : Prop where
  go : C.Ok → ∀ (X : List Addr) (s : Shared) (Q : Bool → Shared → Prop) (E : Value → Shared → Prop), PG C.g s.heap → XIn X s.heap → RelS C.env X s.heap S →
    (∀ b h' tk, StIn s.heap h' → Φ b → Q b { s with heap := h', toks := tk }) → wpAny (model C.g.prog C.g.w) C.A (isTrue e C.env (eval e C.env)) Q E s

/-- a call of a value -/
structure CallsV (g : GX) (n : Nat) (f : Value) (args : List AV) (Φ : AV → Prop) : Prop where
  go : ∀ (A : Around) (X : List Addr) (s : Shared) (vs : List Value) (Q : Value → Shared → Prop) (E : Value → Shared → Prop), Room A n → PG g s.heap → XIn X s.heap → RelVs X s.heap args vs →
    (∀ av v h' tk, StIn s.heap h' → RelV X h' av v → Φ av → Q v { s with heap := h', toks := tk }) → wpAny (model g.prog g.w) A (call f vs) Q E s

theorem Ev.mono {C : CX} {S : AS} {e : Expr} {Φ Ψ : AV → Prop} (x : Ev C S e Φ) (h : ∀ a, Φ a → Ψ a) : Ev C S e Ψ :=
  ⟨fun ok X s Q E p xi r k => x.go ok X s Q E p xi r fun av v h' tk a b c => k av v h' tk a b (h _ c)⟩
theorem Tst.mono {C : CX} {S : AS} {e : Expr} {Φ Ψ : Bool → Prop} (x : Tst C S e Φ) (h : ∀ a, Φ a → Ψ a) : Tst C S e Ψ :=
  ⟨fun ok X s Q E p xi r k => x.go ok X s Q E p xi r fun b h' tk a c => k b h' tk a (h _ c)⟩
variable {C : CX} {S : AS} {Φ : AV → Prop}

/-- a binary operation on values -/
structure Bin (C : CX) (op : Operator) (a b : AV) (Φ : AV → Prop) : Prop where
  go : C.Ok → ∀ (X : List Addr) (s : Shared) (va vb : Value) (Q : Value → Shared → Prop) (E : Value → Shared → Prop), PG C.g s.heap → XIn X s.heap → RelV X s.heap a va → RelV X s.heap b vb →
    (∀ av v h' tk, StIn s.heap h' → RelV X h' av v → Φ av → Q v { s with heap := h', toks := tk }) → wpAny (model C.g.prog C.g.w) C.A (binaryOp op va vb) Q E s
structure IBin (C : CX) (op : Operator) (a b : AV) (Φ : AV → Prop) : Prop where
  go : C.Ok → ∀ (X : List Addr) (s : Shared) (va vb : Value) (Q : Value → Shared → Prop) (E : Value → Shared → Prop), PG C.g s.heap → XIn X s.heap → RelV X s.heap a va → RelV X s.heap b vb →
    (∀ av v h' tk, StIn s.heap h' → RelV X h' av v → Φ av → Q v { s with heap := h', toks := tk }) → wpAny (model C.g.prog C.g.w) C.A (inplaceOp op va vb) Q E s
structure Una (C : CX) (op : UnaryOp) (a : AV) (Φ : AV → Prop) : Prop where
  go : C.Ok → ∀ (X : List Addr) (s : Shared) (va : Value) (Q : Value → Shared → Prop) (E : Value → Shared → Prop), PG C.g s.heap → XIn X s.heap → RelV X s.heap a va →
    (∀ av v h' tk, StIn s.heap h' → RelV X h' av v → Φ av → Q v { s with heap := h', toks := tk }) → wpAny (model C.g.prog C.g.w) C.A (unaryOp op va) Q E s
structure Cmp (C : CX) (op : CmpOp) (a b : AV) (Φ : AV → Prop) : Prop where
  go : C.Ok → ∀ (X : List Addr) (s : Shared) (va vb : Value) (Q : Value → Shared → Prop) (E : Value → Shared → Prop), PG C.g s.heap → XIn X s.heap → RelV X s.heap a va → RelV X s.heap b vb →
    (∀ av v h' tk, StIn s.heap h' → RelV X h' av v → Φ av → Q v { s with heap := h', toks := tk }) → wpAny (model C.g.prog C.g.w) C.A (compareOp op va vb) Q E s
structure Trt (C : CX) (a : AV) (Φ : Bool → Prop) : Prop where
  go : C.Ok → ∀ (X : List Addr) (s : Shared) (va : Value) (Q : Bool → Shared → Prop) (E : Value → Shared → Prop), PG C.g s.heap → XIn X s.heap → RelV X s.heap a va →
    (∀ b h' tk, StIn s.heap h' → Φ b → Q b { s with heap := h', toks := tk }) → wpAny (model C.g.prog C.g.w) C.A (truthy va) Q E s
/-- a call in this frame -/
structure CallB (C : CX) (f : Value) (args : List AV) (Φ : AV → Prop) : Prop where
  go : C.Ok → ∀ (X : List Addr) (s : Shared) (vs : List Value) (Q : Value → Shared → Prop) (E : Value → Shared → Prop), PG C.g s.heap → XIn X s.heap → RelVs X s.heap args vs →
    (∀ av v h' tk, StIn s.heap h' → RelV X h' av v → Φ av → Q v { s with heap := h', toks := tk }) → wpAny (model C.g.prog C.g.w) C.A (call f vs) Q E s

theorem Ev_bin {l r : Expr} {op : Operator} {pos : Pos} (h : Ev C S l fun a => Ev C S r fun b => Bin C op a b Φ) : Ev C S (.BinOp l op r pos) Φ := by
  refine ⟨fun ok X s Q E p xi rs k => ?_⟩
  refine wpAny_BinOp (h.go ok X s _ E p xi rs fun a va h₁ t₁ st₁ ra hb => ?_)
  refine hb.go ok X _ _ E (p.st st₁) (xi.st st₁) (rs.st st₁) fun b vb h₂ t₂ st₂ rb hc => ?_
  exact hc.go ok X _ va vb Q E ((p.st st₁).st st₂) ((xi.st st₁).st st₂) (ra.st st₂) rb fun av v h' tk st r φ => k av v h' tk (st₁.trans (st₂.trans st)) r φ

theorem Ev_una {e : Expr} {op : UnaryOp} {pos : Pos} (h : Ev C S e fun a => Una C op a Φ) : Ev C S (.UnaryOp op e pos) Φ := by
  refine ⟨fun ok X s Q E p xi rs k => ?_⟩
  refine wpAny_UnaryOp (h.go ok X s _ E p xi rs fun a va h₁ t₁ st₁ ra hb => ?_)
  exact hb.go ok X _ va Q E (p.st st₁) (xi.st st₁) ra fun av v h' tk st r φ => k av v h' tk (st₁.trans st) r φ

theorem Ev_cmp {l r : Expr} {op : CmpOp} {pos : Pos} (h : Ev C S l fun a => Ev C S r fun b => Cmp C op a b Φ) (hm : behindInMarks op r = false := by with_unfolding_all rfl) : Ev C S (.Compare l [op] [r] pos) Φ := by
  refine ⟨fun ok X s Q E p xi rs k => ?_⟩
  refine wpAny_Compare1 (h.go ok X s _ E p xi rs fun a va h₁ t₁ st₁ ra hb => ?_) hm
  refine hb.go ok X _ _ E (p.st st₁) (xi.st st₁) (rs.st st₁) fun b vb h₂ t₂ st₂ rb hc => ?_
  exact hc.go ok X _ va vb Q E ((p.st st₁).st st₂) ((xi.st st₁).st st₂) (ra.st st₂) rb fun av v h' tk st r φ => k av v h' tk (st₁.trans (st₂.trans st)) r φ

theorem Tst_cmp {l r : Expr} {op : CmpOp} {pos : Pos} {Φ : Bool → Prop} (h : Ev C S l fun a => Ev C S r fun b => Cmp C op a b fun c => Trt C c Φ) (hm : behindInMarks op r = false := by with_unfolding_all rfl) : Tst C S (.Compare l [op] [r] pos) Φ := by
  refine ⟨fun ok X s Q E p xi rs k => ?_⟩
  refine wpAny_isTrue_Compare1 (h.go ok X s _ E p xi rs fun a va h₁ t₁ st₁ ra hb => ?_) hm
  refine hb.go ok X _ _ E (p.st st₁) (xi.st st₁) (rs.st st₁) fun b vb h₂ t₂ st₂ rb hc => ?_
  refine hc.go ok X _ va vb _ E ((p.st st₁).st st₂) ((xi.st st₁).st st₂) (ra.st st₂) rb fun c vc h₃ t₃ st₃ rc hd => ?_
  exact hd.go ok X _ vc Q E (((p.st st₁).st st₂).st st₃) (((xi.st st₁).st st₂).st st₃) rc fun b h' tk st φ => k b h' tk (st₁.trans (st₂.trans (st₃.trans st))) φ

theorem Ev_const_int {i : Int} {k : Nat} {pos : Pos} (h : Φ (.int i)) : Ev C S (.Constant (.int i) k pos) Φ :=
  ⟨fun _ _ s _ _ _ _ _ k => wpAny_Constant_int (k (.int i) _ s.heap _ (StIn.refl _) ⟨_, rfl⟩ h)⟩
theorem Ev_const_bool {b : Bool} {k : Nat} {pos : Pos} (h : Φ (.bool b)) : Ev C S (.Constant (.bool b) k pos) Φ :=
  ⟨fun _ _ s _ _ _ _ _ k => wpAny_Constant_bool (k (.bool b) _ s.heap s.toks (StIn.refl _) rfl h)⟩
theorem load_rd {M : Model} {A : Around} {env : Env} {x : Str} {v : Value} {s : Shared} {Q : Value → Shared → Prop} {E : Value → Shared → Prop} (hk : env.scope.kind = .function) (r : Rd env s.heap x v) (h : Q v s)
    (hn : (x == ("__classdict__" : Str)) = false) : wpAny M A (loadName env x) Q E s := by
  rcases r with ⟨hl, m, hns, hv⟩ | ⟨hl | hl, c, hc, hv⟩
  · exact wpAny_loadName_local hk hl hns hv h
  · exact wpAny_loadName_cell hk hl hc hv h
  · exact wpAny_loadName_free hk hl hc hv h hn

theorem Ev_name {x : Str} {pos : Pos} {av : AV} (hx : S.vs.lookup x = some av) (h : Φ av) (hd : (x == ("__debug__" : Str)) = false := by decide) (hn : (x == ("__classdict__" : Str)) = false := by decide) : Ev C S (.Name x pos) Φ := by
  refine ⟨fun ok X s Q E p xi rs k => ?_⟩
  obtain ⟨v, hr, hv⟩ := rs.1 x av hx
  exact wpAny_Name (load_rd ok.kind hr (k av v s.heap s.toks (StIn.refl _) hv h) hn) hd

theorem Ev_ifexp {t a b : Expr} {pos : Pos} (h : Tst C S t fun c => if c then Ev C S a Φ else Ev C S b Φ) : Ev C S (.IfExp t a b pos) Φ := by
  refine ⟨fun ok X s Q E p xi rs k => ?_⟩
  refine wpAny_IfExp (h.go ok X s _ E p xi rs fun c h₁ t₁ st₁ φ => ?_)
  cases c with
  | true => exact φ.go ok X _ Q E (p.st st₁) (xi.st st₁) (rs.st st₁) fun av v h' tk st r ψ => k av v h' tk (st₁.trans st) r ψ
  | false => exact φ.go ok X _ Q E (p.st st₁) (xi.st st₁) (rs.st st₁) fun av v h' tk st r ψ => k av v h' tk (st₁.trans st) r ψ

theorem Evs_nil {Φ : List AV → Prop} (h : Φ []) : Evs C S [] Φ := ⟨fun _ _ _ s _ _ _ _ _ k => wpAny_items_nil (k [] [] s.heap s.toks (StIn.refl _) rfl rfl h)⟩
theorem Evs_cons {e : Expr} {es : List Expr} {Φ : List AV → Prop} (h : Ev C S e fun a => Evs C S es fun l => Φ (a :: l))
    (he : starEach (e :: es) C.env = (false, eval e C.env) :: starEach es C.env := by rfl) : Evs C S (e :: es) Φ := by
  refine ⟨fun ok pos X s Q E p xi rs k => ?_⟩
  refine wpAny_items_cons (h.go ok X s _ E p xi rs fun a va h₁ t₁ st₁ ra hb => ?_) he
  exact hb.go ok pos X _ _ E (p.st st₁) (xi.st st₁) (rs.st st₁) fun avs vs h₂ t₂ st₂ rb hl φ => k (a :: avs) (va :: vs) h₂ t₂ (st₁.trans st₂) ⟨va, vs, rfl, ra.st st₂, rb⟩ (by rw [List.length_cons, List.length_cons, hl]) φ

-- tests
structure Tsts (C : CX) (S : AS) (op : BoolOp) (es : List Expr) (Φ : Bool → Prop) : Prop where
  go : C.Ok → ∀ (X : List Addr) (s : Shared) (Q : Bool → Shared → Prop) (E : Value → Shared → Prop), PG C.g s.heap → XIn X s.heap → RelS C.env X s.heap S →
    (∀ b h' tk, StIn s.heap h' → Φ b → Q b { s with heap := h', toks := tk }) → wpAny (model C.g.prog C.g.w) C.A (allTrue op es C.env) Q E s
theorem Tst_boolop {op : BoolOp} {es : List Expr} {pos : Pos} {Φ : Bool → Prop} (h : Tsts C S op es Φ) : Tst C S (.BoolOp op es pos) Φ :=
  ⟨fun ok X s Q E p xi rs k => wpAny_isTrue_BoolOp (h.go ok X s Q E p xi rs k)⟩
theorem Tsts_and_nil {Φ : Bool → Prop} (h : Φ true) : Tsts C S .And [] Φ := ⟨fun _ _ s _ _ _ _ _ k => wpAny_allTrue_And_nil (k true s.heap s.toks (StIn.refl _) h)⟩
theorem Tsts_or_nil {Φ : Bool → Prop} (h : Φ false) : Tsts C S .Or [] Φ := ⟨fun _ _ s _ _ _ _ _ k => wpAny_allTrue_Or_nil (k false s.heap s.toks (StIn.refl _) h)⟩
theorem Tsts_and_cons {e : Expr} {es : List Expr} {Φ : Bool → Prop} (h : Tst C S e fun b => if b then Tsts C S .And es Φ else Φ false) : Tsts C S .And (e :: es) Φ := by
  refine ⟨fun ok X s Q E p xi rs k => ?_⟩
  refine wpAny_allTrue_And_cons (h.go ok X s _ E p xi rs fun b h₁ t₁ st₁ φ => ?_)
  cases b with
  | false => exact k false h₁ t₁ st₁ φ
  | true => exact φ.go ok X _ Q E (p.st st₁) (xi.st st₁) (rs.st st₁) fun b h' tk st ψ => k b h' tk (st₁.trans st) ψ
theorem Tsts_or_cons {e : Expr} {es : List Expr} {Φ : Bool → Prop} (h : Tst C S e fun b => if b then Φ true else Tsts C S .Or es Φ) : Tsts C S .Or (e :: es) Φ := by
  refine ⟨fun ok X s Q E p xi rs k => ?_⟩
  refine wpAny_allTrue_Or_cons (h.go ok X s _ E p xi rs fun b h₁ t₁ st₁ φ => ?_)
  cases b with
  | true => exact k true h₁ t₁ st₁ φ
  | false => exact φ.go ok X _ Q E (p.st st₁) (xi.st st₁) (rs.st st₁) fun b h' tk st ψ => k b h' tk (st₁.trans st) ψ
-- and, or as values, of two
theorem Trt_bool {b : Bool} {Φ : Bool → Prop} (h : Φ b) : Trt C (.bool b) Φ := by
  refine ⟨fun _ _ s va _ _ _ _ r k => ?_⟩
  obtain rfl : va = .bool b := r
  exact wpAny_truthy_bool (k b s.heap s.toks (StIn.refl _) h)
-- ints
section
variable {a b : Int}
theorem Bin_add (h : Φ (.int (a + b))) : Bin C .Add (.int a) (.int b) Φ := by
  refine ⟨fun _ _ s va vb _ _ _ _ ra rb k => ?_⟩
  obtain ⟨t, rfl⟩ : ∃ t, va = .int a t := ra
  obtain ⟨u, rfl⟩ : ∃ t, vb = .int b t := rb
  exact PyProof.Rows.add_int (k (.int _) _ s.heap _ (StIn.refl _) ⟨_, rfl⟩ h)
theorem Bin_sub (h : Φ (.int (a - b))) : Bin C .Sub (.int a) (.int b) Φ := by
  refine ⟨fun _ _ s va vb _ _ _ _ ra rb k => ?_⟩
  obtain ⟨t, rfl⟩ : ∃ t, va = .int a t := ra
  obtain ⟨u, rfl⟩ : ∃ t, vb = .int b t := rb
  exact PyProof.Rows.sub_int' (k (.int _) _ s.heap _ (StIn.refl _) ⟨_, rfl⟩ h)
theorem Bin_mul (hm : IntMulOk a b) (h : Φ (.int (a * b))) : Bin C .Mult (.int a) (.int b) Φ := by
  refine ⟨fun _ _ s va vb _ _ _ _ ra rb k => ?_⟩
  obtain ⟨t, rfl⟩ : ∃ t, va = .int a t := ra
  obtain ⟨u, rfl⟩ : ∃ t, vb = .int b t := rb
  exact PyProof.Rows.mul_int (k (.int _) _ s.heap _ (StIn.refl _) ⟨_, rfl⟩ h) hm
theorem Bin_fdiv (hb : b ≠ 0) (h : Φ (.int (a.fdiv b))) : Bin C .FloorDiv (.int a) (.int b) Φ := by
  refine ⟨fun ok _ s va vb _ _ p _ ra rb k => ?_⟩
  obtain ⟨t, rfl⟩ : ∃ t, va = .int a t := ra
  obtain ⟨u, rfl⟩ : ∃ t, vb = .int b t := rb
  exact PyProof.Rows.floordiv_int hb (k (.int _) _ s.heap _ (StIn.refl _) ⟨_, rfl⟩ h) (.inr (ok.pylong p))
theorem Bin_mod (hb : b ≠ 0) (h : Φ (.int (a.fmod b))) : Bin C .Mod (.int a) (.int b) Φ := by
  refine ⟨fun ok _ s va vb _ _ p _ ra rb k => ?_⟩
  obtain ⟨t, rfl⟩ : ∃ t, va = .int a t := ra
  obtain ⟨u, rfl⟩ : ∃ t, vb = .int b t := rb
  exact PyProof.Rows.mod_int' hb (k (.int _) _ s.heap _ (StIn.refl _) ⟨_, rfl⟩ h)
theorem Bin_pow (hn : 0 ≤ b) (hsz : (Builtin.Int.intBits a : Int) * b ≤ 2 ^ 27) (h : Φ (.int (a ^ b.toNat))) : Bin C .Pow (.int a) (.int b) Φ := by
  refine ⟨fun ok _ s va vb _ _ p _ ra rb k => ?_⟩
  obtain ⟨t, rfl⟩ : ∃ t, va = .int a t := ra
  obtain ⟨u, rfl⟩ : ∃ t, vb = .int b t := rb
  exact PyProof.Rows.pow_int hn hsz (k (.int _) _ s.heap _ (StIn.refl _) ⟨_, rfl⟩ h)
theorem Bin_shl (hn : 0 ≤ b) (hsz : (Builtin.Int.intBits a : Int) + b ≤ 2 ^ 27) (h : Φ (.int (a * 2 ^ b.toNat))) : Bin C .LShift (.int a) (.int b) Φ := by
  refine ⟨fun ok _ s va vb _ _ p _ ra rb k => ?_⟩
  obtain ⟨t, rfl⟩ : ∃ t, va = .int a t := ra
  obtain ⟨u, rfl⟩ : ∃ t, vb = .int b t := rb
  exact PyProof.Rows.lshift_int hn hsz (k (.int _) _ s.heap _ (StIn.refl _) ⟨_, rfl⟩ h)
theorem Bin_shr (hn : 0 ≤ b) (h : Φ (.int (a.fdiv (2 ^ b.toNat)))) : Bin C .RShift (.int a) (.int b) Φ := by
  refine ⟨fun ok _ s va vb _ _ p _ ra rb k => ?_⟩
  obtain ⟨t, rfl⟩ : ∃ t, va = .int a t := ra
  obtain ⟨u, rfl⟩ : ∃ t, vb = .int b t := rb
  exact PyProof.Rows.rshift_int hn (k (.int _) _ s.heap _ (StIn.refl _) ⟨_, rfl⟩ h)
theorem Bin_and (h : Φ (.int (Builtin.bitAnd a b))) : Bin C .BitAnd (.int a) (.int b) Φ := by
  refine ⟨fun ok _ s va vb _ _ p _ ra rb k => ?_⟩
  obtain ⟨t, rfl⟩ : ∃ t, va = .int a t := ra
  obtain ⟨u, rfl⟩ : ∃ t, vb = .int b t := rb
  exact PyProof.Rows.and_int (k (.int _) _ s.heap _ (StIn.refl _) ⟨_, rfl⟩ h)
theorem Bin_add_bool {c : Bool} (h : Φ (.int (a + if c = true then (1 : Int) else 0))) : Bin C .Add (.int a) (.bool c) Φ := by
  refine ⟨fun ok _ s va vb _ _ p _ ra rb k => ?_⟩
  obtain ⟨t, rfl⟩ : ∃ t, va = .int a t := ra
  obtain rfl : vb = .bool c := rb
  exact PySem.add_int_bool (k (.int _) _ s.heap _ (StIn.refl _) ⟨_, rfl⟩ h)
theorem Una_neg (h : Φ (.int (-a))) : Una C .USub (.int a) Φ := by
  refine ⟨fun _ _ s va _ _ _ _ ra k => ?_⟩
  obtain ⟨t, rfl⟩ : ∃ t, va = .int a t := ra
  exact PyProof.Rows.neg_int (k (.int _) _ s.heap _ (StIn.refl _) ⟨_, rfl⟩ h)
theorem Cmp_ne (h : Φ (.bool (a != b))) : Cmp C .NotEq (.int a) (.int b) Φ := by
  refine ⟨fun ok _ s va vb _ _ p _ ra rb k => ?_⟩
  obtain ⟨t, rfl⟩ : ∃ t, va = .int a t := ra
  obtain ⟨u, rfl⟩ : ∃ t, vb = .int b t := rb
  exact PyProof.Rows.ne_int (k (.bool _) _ s.heap s.toks (StIn.refl _) rfl h)
theorem Cmp_lt (h : Φ (.bool (decide (a < b)))) : Cmp C .Lt (.int a) (.int b) Φ := by
  refine ⟨fun ok _ s va vb _ _ p _ ra rb k => ?_⟩
  obtain ⟨t, rfl⟩ : ∃ t, va = .int a t := ra
  obtain ⟨u, rfl⟩ : ∃ t, vb = .int b t := rb
  exact PyProof.Rows.lt_int (k (.bool _) _ s.heap s.toks (StIn.refl _) rfl h)
theorem Cmp_le (h : Φ (.bool (decide (a ≤ b)))) : Cmp C .LtE (.int a) (.int b) Φ := by
  refine ⟨fun ok _ s va vb _ _ p _ ra rb k => ?_⟩
  obtain ⟨t, rfl⟩ : ∃ t, va = .int a t := ra
  obtain ⟨u, rfl⟩ : ∃ t, vb = .int b t := rb
  exact PyProof.Rows.le_int (k (.bool _) _ s.heap s.toks (StIn.refl _) rfl h)
theorem Cmp_gt (h : Φ (.bool (decide (b < a)))) : Cmp C .Gt (.int a) (.int b) Φ := by
  refine ⟨fun ok _ s va vb _ _ p _ ra rb k => ?_⟩
  obtain ⟨t, rfl⟩ : ∃ t, va = .int a t := ra
  obtain ⟨u, rfl⟩ : ∃ t, vb = .int b t := rb
  exact PyProof.Rows.gt_int (k (.bool _) _ s.heap s.toks (StIn.refl _) rfl h)
theorem Cmp_ge (h : Φ (.bool (decide (b ≤ a)))) : Cmp C .GtE (.int a) (.int b) Φ := by
  refine ⟨fun ok _ s va vb _ _ p _ ra rb k => ?_⟩
  obtain ⟨t, rfl⟩ : ∃ t, va = .int a t := ra
  obtain ⟨u, rfl⟩ : ∃ t, vb = .int b t := rb
  exact PyProof.Rows.ge_int (k (.bool _) _ s.heap s.toks (StIn.refl _) rfl h)
end

theorem IBin_add {a b : Int} (h : Φ (.int (a + b))) : IBin C .Add (.int a) (.int b) Φ := by
  refine ⟨fun _ _ s va vb _ _ _ _ ra rb k => ?_⟩
  obtain ⟨t, rfl⟩ : ∃ t, va = .int a t := ra
  obtain ⟨u, rfl⟩ : ∃ t, vb = .int b t := rb
  exact PyProof.Rows.iadd_int (k (.int _) _ s.heap _ (StIn.refl _) ⟨_, rfl⟩ h)
-- displays
theorem newTuple_rel {M : Model} {A : Around} {X : List Addr} {s : Shared} {avs : List AV} {vs : List Value} {Q : Value → Shared → Prop} {E : Value → Shared → Prop} (r : RelVs X s.heap avs vs) (hsz : avs.length ≤ sizeLine)
    (k : ∀ v h' tk, StIn s.heap h' → RelV X h' (.tup avs) v → Q v { s with heap := h', toks := tk }) : wpAny M A (newTuple vs) Q E s := by
  refine wpAny_newTuple (k _ _ s.toks (StIn.push _ _) ⟨_, vs, rfl, ⟨_, Heap.get?_push_size _ rfl, rfl, 0, rfl⟩, r.st (StIn.push _ _)⟩) ?_
  rw [r.length]; exact hsz
theorem newList_rel {M : Model} {A : Around} {X : List Addr} {s : Shared} {avs : List AV} {vs : List Value} {Q : Value → Shared → Prop} {E : Value → Shared → Prop} (xi : XIn X s.heap) (r : RelVs X s.heap avs vs) (hsz : avs.length ≤ sizeLine)
    (k : ∀ v h' tk, StIn s.heap h' → RelV X h' (.lst avs) v → Q v { s with heap := h', toks := tk }) : wpAny M A (newList vs) Q E s := by
  refine wpAny_newObj_type (k _ _ s.toks (StIn.push _ _) ⟨_, vs, rfl, xi.fresh, ⟨_, Heap.get?_push_size _ rfl, rfl, 0, rfl⟩, r.st (StIn.push _ _)⟩) ?_
  show vs.toArray.size ≤ sizeLine
  rw [List.size_toArray, r.length]; exact hsz

theorem Ev_tuple {es : List Expr} {k : Nat} {pos : Pos} (h : Evs C S es fun l => Φ (.tup l)) (hsz : es.length ≤ 1000 := by decide) : Ev C S (.Tuple es k pos) Φ := by
  refine ⟨fun ok X s Q E p xi rs k => ?_⟩
  refine PyProof.Rows.Tuple_ (h.go ok pos X s _ E p xi rs fun avs vs h₁ t₁ st₁ r hl φ => ?_)
  exact newTuple_rel r (by rw [hl, sizeLine_eq]; omega) fun v h' tk st rr => k _ v h' tk (st₁.trans st) rr φ
theorem Ev_list {es : List Expr} {pos : Pos} (h : Evs C S es fun l => Φ (.lst l)) (hsz : es.length ≤ 1000 := by decide) : Ev C S (.List es pos) Φ := by
  refine ⟨fun ok X s Q E p xi rs k => ?_⟩
  refine PyProof.Rows.List_ (h.go ok pos X s _ E p xi rs fun avs vs h₁ t₁ st₁ r hl φ => ?_)
  exact newList_rel (xi.st st₁) r (by rw [hl, sizeLine_eq]; omega) fun v h' tk st rr => k _ v h' tk (st₁.trans st) rr φ
variable {C : CX} {S : AS} {Φ : AV → Prop}

/-- a built-in name, not covered -/
theorem Ev_boot {x : Str} {pos : Pos} {fv : Value} {av : AV} (hm : C.g.mg x = none) (hb : bootBuiltins x = some fv) (hx : C.env.kindOf x = some .globalImplicit) (hr : ∀ X h, RelV X h av fv) (h : Φ av)
    (hn : x ≠ "__name__" := by decide) (hd : (x == ("__debug__" : Str)) = false := by decide) : Ev C S (.Name x pos) Φ := by
  refine ⟨fun ok X s Q E p xi rs k => ?_⟩
  refine Calls.Name_function_global ok.kind hx (Calls.loadGlobal_builtin (by rw [ok.glob]; exact p.top.g) hm (by rw [ok.blt]; exact p.top.b) ((p.top.builtins x hn).trans hb) ?_) hd
  exact k av fv s.heap s.toks (StIn.refl _) (hr X _) h

theorem spliced_any {args : List Expr} {pos : Pos} {env : Env} (h : (starEach args env).any (·.1) = false) : (backTo pos (starEach args env)).any (·.1) = false := by
  rw [← h]; unfold backTo
  induction starEach args env with
  | nil => rfl
  | cons x r ih => simp_all

/-- a call of a built-in function -/
theorem Ev_callB {f : Str} {fp pos : Pos} {args : List Expr} {id : String} (hm : C.g.mg f = none) (hb : bootBuiltins f = some (.builtin id)) (hx : C.env.kindOf f = some .globalImplicit) (h : Evs C S args fun avs => CallB C (.builtin id) avs Φ)
    (ha : ∃ x r, starEach args C.env = (false, x) :: r ∧ (starEach args C.env).any (·.1) = false := by exact ⟨_, _, rfl, rfl⟩)
    (hn : f ≠ "__name__" := by decide) (hd : (f == ("__debug__" : Str)) = false := by decide) : Ev C S (.Call (.Name f fp) args [] pos) Φ := by
  refine ⟨fun ok X s Q E p xi rs k => ?_⟩
  obtain ⟨x, r, he, hany⟩ := ha
  refine wpAny_Call_Name_kw ?_
  refine Calls.Name_function_global ok.kind hx (Calls.loadGlobal_builtin (by rw [ok.glob]; exact p.top.g) hm (by rw [ok.blt]; exact p.top.b) ((p.top.builtins f hn).trans hb) ?_) hd
  refine Calls.callWith_builtin (spliced_any hany) ?_
  have hb' : ∃ x' r', backTo pos (starEach args C.env) = (false, x') :: r' := by rw [he]; exact ⟨_, _, rfl⟩
  obtain ⟨x', r', hb'⟩ := hb'
  rw [hb']
  refine Calls.evalArgs_plain ?_
  rw [← hb']
  refine h.go ok pos X s _ E p xi rs fun avs vs h₁ t₁ st₁ ra _ hc => ?_
  exact hc.go ok X _ vs Q E (p.st st₁) (xi.st st₁) ra fun av v h' tk st r φ => k av v h' tk (st₁.trans st) r φ
/-- a call of a built-in type -/
theorem Ev_callT {f : Str} {fp pos : Pos} {args : List Expr} {T : String} (hm : C.g.mg f = none) (hb : bootBuiltins f = some (.type T)) (hx : C.env.kindOf f = some .globalImplicit) (h : Evs C S args fun avs => CallB C (.type T) avs Φ)
    (ha : ∃ x r, starEach args C.env = (false, x) :: r ∧ (starEach args C.env).any (·.1) = false := by exact ⟨_, _, rfl, rfl⟩)
    (hn : f ≠ "__name__" := by decide) (hd : (f == ("__debug__" : Str)) = false := by decide) : Ev C S (.Call (.Name f fp) args [] pos) Φ := by
  refine ⟨fun ok X s Q E p xi rs k => ?_⟩
  obtain ⟨x, r, he, hany⟩ := ha
  refine wpAny_Call_Name_kw ?_
  refine Calls.Name_function_global ok.kind hx (Calls.loadGlobal_builtin (by rw [ok.glob]; exact p.top.g) hm (by rw [ok.blt]; exact p.top.b) ((p.top.builtins f hn).trans hb) ?_) hd
  refine PyProof.Rows.callWith_type (spliced_any hany) ?_
  have hb' : ∃ x' r', backTo pos (starEach args C.env) = (false, x') :: r' := by rw [he]; exact ⟨_, _, rfl⟩
  obtain ⟨x', r', hb'⟩ := hb'
  rw [hb']
  refine Calls.evalArgs_plain ?_
  rw [← hb']
  refine h.go ok pos X s _ E p xi rs fun avs vs h₁ t₁ st₁ ra _ hc => ?_
  exact hc.go ok X _ vs Q E (p.st st₁) (xi.st st₁) ra fun av v h' tk st r φ => k av v h' tk (st₁.trans st) r φ

/-- a def of the text: where it stands -/
def FnIs (g : GX) (f : Str) (a : Addr) : Prop := g.mg f = some (.ref a) ∧ ∀ h, PG g h → ∃ o fd, h.get? a = some o ∧ o.data = .func fd
/-- what a call of it gives -/
def Calls (g : GX) (n : Nat) (f : Str) (args : List AV) (Φ : AV → Prop) : Prop := ∃ a, FnIs g f a ∧ CallsV g n (.ref a) args Φ

theorem Calls.mono {g : GX} {n : Nat} {f : Str} {args : List AV} {Φ Ψ : AV → Prop} (x : Calls g n f args Φ) (h : ∀ a, Φ a → Ψ a) : Calls g n f args Ψ :=
  let ⟨a, hf, hc⟩ := x; ⟨a, hf, ⟨fun A X s vs Q E ro p xi r k => hc.go A X s vs Q E ro p xi r fun av v h' tk st rv φ => k av v h' tk st rv (h _ φ)⟩⟩

theorem Ev_call {f : Str} {fp pos : Pos} {args : List Expr} {n : Nat} (hx : C.env.kindOf f = some .globalImplicit) (h : Evs C S args fun avs => Calls C.g n f avs Φ) (hn : n ≤ C.n)
    (ha : ∃ x r, starEach args C.env = (false, x) :: r ∧ (starEach args C.env).any (·.1) = false := by exact ⟨_, _, rfl, rfl⟩)
    (hg : ∃ a, FnIs C.g f a)
    (hd : (f == ("__debug__" : Str)) = false := by decide) : Ev C S (.Call (.Name f fp) args [] pos) Φ := by
  refine ⟨fun ok X s Q E p xi rs k => ?_⟩
  obtain ⟨x, r, he, hany⟩ := ha
  obtain ⟨a, hfa, hfo⟩ := hg
  refine wpAny_Call_Name_kw ?_
  refine Calls.Name_function_global ok.kind hx (Calls.loadGlobal_global (by rw [ok.glob]; exact p.top.g) hfa ?_) hd
  have hb' : ∃ x' r', backTo pos (starEach args C.env) = (false, x') :: r' := by rw [he]; exact ⟨_, _, rfl⟩
  obtain ⟨x', r', hb'⟩ := hb'
  obtain ⟨o, fd, ho, hd⟩ := hfo _ p
  refine Calls.callWith_function (o := o) (fd := fd) ?_
  rw [hb']
  refine Calls.evalArgs_plain ?_
  rw [← hb']
  refine h.go ok pos X s _ E p xi rs fun avs vs h₁ t₁ st₁ ra _ hc => ?_
  obtain ⟨a', ⟨hfa', _⟩, hc⟩ := hc
  rw [hfa] at hfa'
  cases hfa'
  exact ⟨⟨st₁ _ _ ho, hd⟩, hc.go C.A X _ vs Q E (ok.room.le hn) (p.st st₁) (xi.st st₁) ra fun av v h' tk st r φ => k av v h' tk (st₁.trans st) r φ⟩

-- built-ins
theorem CallB_abs {a : Int} (h : Φ (.int (if a < 0 then -a else a))) : CallB C (.builtin "abs") [.int a] Φ := by
  refine ⟨?_⟩
  rintro _ X s vs Q E _ _ ⟨v, r, rfl, ⟨t, rfl⟩, rfl⟩ k
  exact PyProof.Rows.call_abs_int fun u tk => k (.int _) _ s.heap tk (StIn.refl _) ⟨_, rfl⟩ h
theorem CallB_divmod {a b : Int} (hb : b ≠ 0) (h : Φ (.tup [.int (a.fdiv b), .int (a.fmod b)])) : CallB C (.builtin "divmod") [.int a, .int b] Φ := by
  refine ⟨?_⟩
  rintro ok X s vs Q E p xi ⟨v, r, rfl, ⟨t, rfl⟩, ⟨v', r', rfl, ⟨t', rfl⟩, rfl⟩⟩ k
  exact PyProof.Rows.divmod_int hb (k (.tup [.int (a.fdiv b), .int (a.fmod b)]) _ _ _ (StIn.push _ _) ⟨_, [_, _], rfl, ⟨_, Heap.get?_push_size _ rfl, rfl, 0, rfl⟩, ⟨_, _, rfl, ⟨_, rfl⟩, _, _, rfl, ⟨_, rfl⟩, rfl⟩⟩ h) (.inr (ok.pylong p))
theorem CallB_len {l : List AV} (hl : l.length < 2 ^ 60) (h : Φ (.int l.length)) : CallB C (.builtin "len") [.lst l] Φ := by
  refine ⟨?_⟩
  rintro ok X s vs Q E p xi ⟨v, r, rfl, ⟨a, vs', rfl, hx, hl', hr⟩, rfl⟩ k
  have e : vs'.toArray.size = l.length := by rw [List.size_toArray, hr.length]
  refine Calls.call_len_list hl' (by rw [e]; omega) (k (.int _) _ s.heap _ (StIn.refl _) ⟨_, by rw [e]⟩ h)
theorem CallB_range2 {a b : Int} (h : Φ (.rng a b 1)) : CallB C (.type "range") [.int a, .int b] Φ := by
  refine ⟨?_⟩
  rintro _ X s vs Q E _ _ ⟨v, r, rfl, ⟨t, rfl⟩, ⟨v', r', rfl, ⟨t', rfl⟩, rfl⟩⟩ k
  exact call_range_2 (k (.rng _ _ _) _ _ _ (StIn.push _ _) ⟨_, _, _, _, rfl, Heap.get?_push_size _ rfl⟩ h)
theorem CallB_range3 {a b c : Int} (hc : c ≠ 0) (h : Φ (.rng a b c)) : CallB C (.type "range") [.int a, .int b, .int c] Φ := by
  refine ⟨?_⟩
  rintro ok X s vs Q E p _ ⟨v, r, rfl, ⟨t, rfl⟩, ⟨v', r', rfl, ⟨t', rfl⟩, ⟨v'', r'', rfl, ⟨t'', rfl⟩, rfl⟩⟩⟩ k
  exact call_range_3 hc (k (.rng _ _ _) _ _ _ (StIn.push _ _) ⟨_, _, _, _, rfl, Heap.get?_push_size _ rfl⟩ h) (.inr (ok.pylong p))
theorem CallB_max {a b : Int} (h : Φ (.int (max a b))) : CallB C (.builtin "max") [.int a, .int b] Φ := by
  refine ⟨?_⟩
  rintro ok X s vs Q E _ _ ⟨v, r, rfl, ⟨t, rfl⟩, ⟨v', r', rfl, ⟨t', rfl⟩, rfl⟩⟩ k
  refine max_two_ints ok.room.hh fun h' tk st => k (.int _) _ h' tk st ?_ h
  by_cases hab : b > a
  · rw [if_pos hab]; exact ⟨_, by rw [Int.max_eq_right (by omega)]⟩
  · rw [if_neg hab]; exact ⟨_, by rw [Int.max_eq_left (by omega)]⟩
theorem CallB_min {a b : Int} (h : Φ (.int (min a b))) : CallB C (.builtin "min") [.int a, .int b] Φ := by
  refine ⟨?_⟩
  rintro ok X s vs Q E _ _ ⟨v, r, rfl, ⟨t, rfl⟩, ⟨v', r', rfl, ⟨t', rfl⟩, rfl⟩⟩ k
  refine min_two_ints ok.room.hh fun h' tk st => k (.int _) _ h' tk st ?_ h
  by_cases hab : b < a
  · rw [if_pos hab]; exact ⟨_, by rw [Int.min_eq_right (by omega)]⟩
  · rw [if_neg hab]; exact ⟨_, by rw [Int.min_eq_left (by omega)]⟩
theorem CallB_int {a : Int} (h : Φ (.int a)) : CallB C (.type "int") [.int a] Φ := by
  refine ⟨?_⟩
  rintro _ X s vs Q E _ _ ⟨v, r, rfl, ⟨t, rfl⟩, rfl⟩ k
  exact call_int_int (k (.int _) _ s.heap s.toks (StIn.refl _) ⟨_, rfl⟩ h)

abbrev IL (l : List Int) : List AV := l.map AV.int
theorem RelVs.ints {X : List Addr} {h : Heap} : ∀ {l : List Int} {vs : List Value}, RelVs X h (Mine.IL l) vs → IntsAre vs l
  | [], vs, r => by rw [show vs = [] from r]; exact .nil
  | n :: l, vs, ⟨v, r, e, ⟨t, hv⟩, h2⟩ => by rw [e, hv]; exact .cons n t h2.ints
theorem RelVs.of_ints {X : List Addr} {h : Heap} : ∀ {l : List Int} {vs : List Value}, IntsAre vs l → RelVs X h (Mine.IL l) vs
  | _, _, .nil => rfl
  | _, _, .cons n t r => ⟨_, _, rfl, ⟨t, rfl⟩, RelVs.of_ints r⟩

-- items
structure Itm (C : CX) (o i : AV) (Φ : AV → Prop) : Prop where
  go : C.Ok → ∀ (X : List Addr) (s : Shared) (vo vi : Value) (Q : Value → Shared → Prop) (E : Value → Shared → Prop), PG C.g s.heap → XIn X s.heap → RelV X s.heap o vo → RelV X s.heap i vi →
    (∃ T id, s.TypeIs vo T ∧ typeLookup (.type T) "__getitem__" = pure (some (.builtin id))) ∧
    ((∀ av v h' tk, StIn s.heap h' → RelV X h' av v → Φ av → Q v { s with heap := h', toks := tk }) → wpAny (model C.g.prog C.g.w) C.A (getItem vo vi) Q E s)

theorem Ev_item {value slice : Expr} {pos : Pos} (h : Ev C S value fun o => Ev C S slice fun i => Itm C o i Φ)
    (hs : ∀ o i, subscripted slice false o i = operate [o, i] (getItem o i) := by intro _ _; with_unfolding_all rfl) : Ev C S (.Subscript value slice pos) Φ := by
  refine ⟨fun ok X s Q E p xi rs k => ?_⟩
  refine PyProof.Rows.Subscript_ (h.go ok X s _ E p xi rs fun o vo h₁ t₁ st₁ ro hb => ?_)
  refine hb.go ok X _ _ E (p.st st₁) (xi.st st₁) (rs.st st₁) fun i vi h₂ t₂ st₂ ri hc => ?_
  obtain ⟨⟨T, id, hT, hl⟩, hc⟩ := hc.go ok X { s with heap := h₂, toks := t₂ } vo vi Q E ((p.st st₁).st st₂) ((xi.st st₁).st st₂) (ro.st st₂) ri
  exact PyProof.Rows.tail_any hT hl (hc fun av v h' tk st r φ => k av v h' tk (st₁.trans (st₂.trans st)) r φ) (hs vo vi)

theorem Itm_list {l : List AV} {i : Int} {av : AV} (h0 : 0 ≤ i) (hi : i < 2 ^ 60) (hx : l[i.toNat]? = some av) (h : Φ av) : Itm C (.lst l) (.int i) Φ := by
  refine ⟨?_⟩
  rintro ok X s vo vi Q E p xi ⟨a, vs, rfl, hax, hl, hr⟩ ⟨t, rfl⟩
  refine ⟨⟨_, _, hl.typeIs, slot_list_getitem.lookup⟩, fun k => ?_⟩
  obtain ⟨v, hv, rv⟩ := hr.get i.toNat av hx
  exact wpAny_getItem_list hl h0 (by omega) (by simpa using hv) (k av v s.heap s.toks (StIn.refl _) rv h)
-- slices
def pickL {α : Type} (l : List α) (lo hi st : Option Int) : List α :=
  (sliceRange (sliceBounds lo hi st l.length).1 (sliceBounds lo hi st l.length).2.1 (sliceBounds lo hi st l.length).2.2).filterMap (l[·]?)
/-- a part of a slice -/
def EvPart (C : CX) (S : AS) (e : Option Expr) (Φ : Option Int → Prop) : Prop := match e with
  | none => Φ none
  | some e => Ev C S e fun a => match a with | .int i => Φ (some i) | _ => False
variable {C : CX} {S : AS}

inductive AFl where
  | next | brk | cont
  | ret (v : AV)

def RelFl (X : List Addr) (h : Heap) : AFl → Flow → Prop
  | .next, f => f = .next
  | .brk, f => f = .brk
  | .cont, f => f = .cont
  | .ret av, f => ∃ v, f = .ret v ∧ RelV X h av v

def AS.set (S : AS) (x : Str) (av : AV) : AS := { S with vs := (x, av) :: S.vs }
def AS.off (S : AS) (x : Str) : Prop := match S.own with | none => True | some (y, _) => (y == x) = false
def AS.le (S S' : AS) : Prop := (∀ x av, S'.vs.lookup x = some av → S.vs.lookup x = some av) ∧ S.own = S'.own

/-- the own list, if there is one -/
def OwnOk (C : CX) (s₀ : Shared) (X₀ : List Addr) (h : Heap) : Option (Str × List AV) → Option Addr → Prop
  | none, none => True
  | some (x, l), some b => (∃ vs, OwnAt C.env (b :: X₀) h x l b vs) ∧ s₀.heap.objs.size ≤ b
  | none, some _ => False
  | some _, none => False

/-- the frame at hand -/
structure FS (C : CX) (s₀ : Shared) (X₀ : List Addr) (β : Option Addr) (S : AS) (s : Shared) : Prop where
  call : ∃ m cm, InCallC s₀ C.env.locals m C.env.cells cm s
  vars : RelE C.env (β.toList ++ X₀) s.heap S.vs
  own : OwnOk C s₀ X₀ s.heap S.own β
  xin : XIn X₀ s₀.heap

theorem FS.same {s₀ s : Shared} {X₀ : List Addr} {β : Option Addr} (F : FS C s₀ X₀ β S s) : ∃ h tk, s = { s₀ with heap := h, toks := tk } := let ⟨_, _, c⟩ := F.call; c.toInCall.same
theorem FS.keep {s₀ s : Shared} {X₀ : List Addr} {β : Option Addr} (F : FS C s₀ X₀ β S s) : StIn s₀.heap s.heap := let ⟨_, _, c⟩ := F.call; c.toInCall.keep
theorem FS.relS {s₀ s : Shared} {X₀ : List Addr} {β : Option Addr} (F : FS C s₀ X₀ β S s) : RelS C.env (β.toList ++ X₀) s.heap S := by
  refine ⟨F.vars, fun x l e => ?_⟩
  have h := F.own
  rw [e] at h
  cases β with
  | none => exact h.elim
  | some b => obtain ⟨⟨vs, o⟩, _⟩ := h; exact ⟨b, vs, o⟩
theorem FS.xinh {s₀ s : Shared} {X₀ : List Addr} {β : Option Addr} (F : FS C s₀ X₀ β S s) : XIn (β.toList ++ X₀) s.heap := by
  intro a ha
  rcases List.mem_append.mp ha with h | h
  · cases β with
    | none => cases h
    | some b =>
      obtain rfl : a = b := by simpa using h
      have h := F.own
      cases ho : S.own with
      | none => rw [ho] at h; exact h.elim
      | some p =>
        rw [ho] at h
        obtain ⟨⟨vs, o⟩, _⟩ := h
        obtain ⟨n, hb⟩ := o.lst
        rw [hb]; rfl
  · exact (F.xin.st F.keep) a h

theorem Ns.uniq {h : Heap} {a : Addr} {m m' : Str → Option Value} (x : h.Ns a m) (y : h.Ns a m') : m = m' := by
  obtain ⟨o, es, ep, h1, h2, _, h4⟩ := x
  obtain ⟨o', es', ep', g1, g2, _, g4⟩ := y
  rw [h1] at g1; cases g1
  rw [h2] at g2; cases g2
  funext n; rw [← h4 n, ← g4 n]

/-- all but the frame's own and the own list stands -/
def FKeep (C : CX) (β : Option Addr) (h h' : Heap) : Prop := ∀ a o, a ≠ C.env.locals → (∀ x, C.env.cells.lookup x ≠ some a) → β ≠ some a → h.get? a = some o → h'.get? a = some o
def BEv (β : Option Addr) (h : Heap) (β' : Option Addr) : Prop := ∀ b, β' = some b → β = some b ∨ h.get? b = none
theorem FKeep.of {β : Option Addr} {h h' : Heap} (x : StIn h h') : FKeep C β h h' := fun a o _ _ _ e => x a o e
theorem BEv.refl (β : Option Addr) (h : Heap) : BEv β h β := fun _ e => .inl e
theorem FKeep.trans {β β' : Option Addr} {h h' h'' : Heap} (x : FKeep C β h h') (b : BEv β h β') (y : FKeep C β' h' h'') : FKeep C β h h'' := by
  intro a o h1 h2 h3 e
  refine y a o h1 h2 (fun hb => ?_) (x a o h1 h2 h3 e)
  rcases b a hb with hb | hb
  · exact h3 hb
  · rw [e] at hb; cases hb

/-- where the frame's own stand, and the own list -/
structure FFr (C : CX) (β : Option Addr) (h : Heap) : Prop where
  loc : ∃ m, h.Ns C.env.locals m
  cel : ∀ x c, C.env.cells.lookup x = some c → ∃ v, h.IsCell c v
  own : ∀ b, β = some b → ∃ vs, h.PlainList b vs
theorem FS.ffr {s₀ s : Shared} {X₀ : List Addr} {β : Option Addr} (F : FS C s₀ X₀ β S s) : FFr C β s.heap := by
  obtain ⟨m, cm, c⟩ := F.call
  refine ⟨⟨m, c.toInCall.ns⟩, fun x a e => ⟨_, c.cell x a e⟩, fun b e => ?_⟩
  subst e
  have h := F.own
  cases ho : S.own with
  | none => rw [ho] at h; exact h.elim
  | some p => rw [ho] at h; obtain ⟨⟨vs, o⟩, _⟩ := h; exact ⟨_, o.lst⟩
theorem BEv.trans {β β' β'' : Option Addr} {h h' : Heap} (x : BEv β h β') (y : BEv β' h' β'') (k : FKeep C β h h') (f' : FFr C β' h') : BEv β h β'' := by
  intro b e
  rcases y b e with e | e
  · exact x b e
  · cases hq : h.get? b with
    | none => exact .inr rfl
    | some o =>
      by_cases h1 : b = C.env.locals
      · obtain ⟨m, o', _, _, ho', _⟩ := f'.loc
        rw [h1, ho'] at e; cases e
      · by_cases h3 : β = some b
        · exact .inl h3
        · by_cases h2 : ∃ x, C.env.cells.lookup x = some b
          · obtain ⟨x, h2⟩ := h2
            obtain ⟨v, o', ho', _⟩ := f'.cel x b h2
            rw [ho'] at e; cases e
          · rw [k b o h1 (fun x hx => h2 ⟨x, hx⟩) h3 hq] at e; cases e
theorem FKeep.vkeep {β : Option Addr} {h h' : Heap} {X₀ : List Addr} (x : FKeep C β h h') (f : FFr C β h) : VKeep (β.toList ++ X₀) h h' := by
  have hL : ∀ a o, isVal o → h.get? a = some o → a ≠ C.env.locals := by
    rintro a o hv e rfl
    obtain ⟨m, o', es, ep, ho', hd, _⟩ := f.loc
    rw [e] at ho'; cases ho'
    rcases hv with ⟨xs, n, q⟩ | ⟨_, fs, q⟩ <;> rw [hd] at q <;> cases q
  have hC : ∀ a o, isVal o → h.get? a = some o → ∀ x, C.env.cells.lookup x ≠ some a := by
    intro a o hv e x hx
    obtain ⟨v, o', ho', hd⟩ := f.cel x a hx
    rw [e] at ho'; cases ho'
    rcases hv with ⟨xs, n, q⟩ | ⟨_, fs, q⟩ <;> rw [hd] at q <;> cases q
  refine ⟨fun a o ha hv e => x a o (hL a o hv e) (hC a o hv e) (fun hb => ha ?_) e, fun a o hv hc e => x a o (hL a o hv e) (hC a o hv e) (fun hb => hc ?_) e⟩
  · subst hb; simp
  · obtain ⟨vs, n, ho⟩ := f.own a hb
    rw [e] at ho; cases ho; rfl

/-- a store of a name -/
theorem store_rel {s₀ s : Shared} {X₀ : List Addr} {β : Option Addr} {x : Str} {av : AV} {v : Value} {M : Model} {A : Around} {Q : Unit → Shared → Prop} {E : Value → Shared → Prop} (ok : C.Ok) (F : FS C s₀ X₀ β S s) (hv : RelV (β.toList ++ X₀) s.heap av v)
    (hx : C.env.kindOf x = some .local ∨ (C.env.kindOf x = some .cell ∧ (C.env.cells.lookup x).isSome = true)) (hown : S.off x)
    (k : ∀ h' tk, FS C s₀ X₀ β (S.set x av) { s with heap := h', toks := tk } → FKeep C β s.heap h' → Q () { s with heap := h', toks := tk }) : wpAny M A (storeName C.env x v) Q E s := by
  obtain ⟨m, cm, c⟩ := F.call
  have fin : ∀ (h' : Heap) (tk : Nat), (∃ m cm, InCallC s₀ C.env.locals m C.env.cells cm { s with heap := h', toks := tk }) → FKeep C β s.heap h' → (∀ a o, isVal o → s.heap.get? a = some o → h'.get? a = some o) → Rd C.env h' x v → (∀ y w, (y == x) = false → Rd C.env s.heap y w → Rd C.env h' y w) → Q () { s with heap := h', toks := tk } := by
    intro h' tk hc fk hk hr hy
    have vk : ∀ X, VKeep X s.heap h' := fun X => ⟨fun a o _ hv e => hk a o hv e, fun a o hv _ e => hk a o hv e⟩
    refine k h' tk ⟨hc, ?_, ?_, F.xin⟩ fk
    · intro y aw e
      simp only [AS.set, List.lookup_cons] at e
      cases hb : y == x with
      | true =>
        rw [hb] at e; cases e
        rw [beq_iff_eq.mp hb]
        exact ⟨v, hr, hv.keep (vk _)⟩
      | false =>
        rw [hb] at e
        obtain ⟨w, h1, h2⟩ := F.vars y aw e
        exact ⟨w, hy y w hb h1, h2.keep (vk _)⟩
    · have h := F.own
      show OwnOk C s₀ X₀ h' S.own β
      cases ho : S.own with
      | none => rw [ho] at h; cases β with | none => trivial | some _ => exact h
      | some p =>
        obtain ⟨y, l⟩ := p
        rw [ho] at h
        cases β with
        | none => exact h
        | some b =>
          obtain ⟨⟨vs, o⟩, h1⟩ := h
          unfold AS.off at hown
          rw [ho] at hown
          obtain ⟨n, hb⟩ := o.lst
          exact ⟨⟨vs, hy y _ hown o.rd, o.inX, ⟨n, hk _ _ (.inl ⟨_, n, rfl⟩) hb⟩, o.rel.keep (vk _)⟩, h1⟩
  have fr := F.ffr
  have valL : ∀ a o, isVal o → s.heap.get? a = some o → a ≠ C.env.locals := by
    rintro a o hv e rfl
    obtain ⟨m, o', es, ep, ho', hd, _⟩ := fr.loc
    rw [e] at ho'; cases ho'
    rcases hv with ⟨xs, n, q⟩ | ⟨_, fs, q⟩ <;> rw [hd] at q <;> cases q
  have valC : ∀ a o, isVal o → s.heap.get? a = some o → ∀ x, C.env.cells.lookup x ≠ some a := by
    intro a o hv e x hx
    obtain ⟨v, o', ho', hd⟩ := fr.cel x a hx
    rw [e] at ho'; cases ho'
    rcases hv with ⟨xs, n, q⟩ | ⟨_, fs, q⟩ <;> rw [hd] at q <;> cases q
  rcases hx with hl | ⟨hl, hc⟩
  · refine wpAny_storeName_local hl c.toInCall.ns (fun h' hn' hs' => ?_) (by rw [ok.kind]; rfl)
    refine fin h' _ ⟨_, cm, ⟨⟨?_, hn', fun b o e => ?_, c.toInCall.fresh⟩, fun k' c' hc' => ?_, c.apart, c.above⟩⟩ ?_ ?_ (.inl ⟨hl, _, hn', by simp⟩) ?_
    · obtain ⟨h₁, tk, e⟩ := c.toInCall.same
      exact ⟨h', _, by rw [e]⟩
    · exact hs'.extBut b o (Nat.ne_of_lt (Nat.lt_of_lt_of_le (Heap.lt_size e) c.toInCall.fresh)) (c.toInCall.keep b o e)
    · exact (c.cell k' c' hc').sameBut hs' (Nat.ne_of_gt (c.above k' c' (mem_of_lookup hc')))
    · exact fun a o h1 _ _ e => hs'.extBut a o h1 e
    · exact fun a o hv e => hs'.extBut a o (valL a o hv e) e
    · rintro y w hy (⟨hk, m', hn, hw⟩ | ⟨hk, c', hc', hw⟩)
      · refine .inl ⟨hk, _, hn', ?_⟩
        rw [Ns.uniq hn c.toInCall.ns] at hw
        show (if y = x then some v else m y) = some w
        rw [if_neg (by intro e; rw [e] at hy; simp at hy)]; exact hw
      · exact .inr ⟨hk, c', hc', hw.sameBut hs' (Nat.ne_of_gt (c.above y c' (mem_of_lookup hc')))⟩
  · obtain ⟨cc, hc⟩ := Option.isSome_iff_exists.mp hc
    have hLc := c.above x cc (mem_of_lookup hc)
    refine wpAny_storeName_cell ok.kind hl hc (c.cell x cc hc) fun h' hc' hs' => ?_
    refine fin h' s.toks ⟨m, (fun y => if y = x then some v else cm y), ⟨⟨?_, c.toInCall.ns.sameBut hs' (Nat.ne_of_lt hLc), fun b o e => ?_, c.toInCall.fresh⟩, fun k' c' hk' => ?_, c.apart, c.above⟩⟩ ?_ ?_ (.inr ⟨.inl hl, cc, hc, hc'⟩) ?_
    · obtain ⟨h₁, tk, e⟩ := c.toInCall.same
      exact ⟨h', s.toks, by rw [e]⟩
    · exact hs'.extBut b o (Nat.ne_of_lt (Nat.lt_trans (Nat.lt_of_lt_of_le (Heap.lt_size e) c.toInCall.fresh) hLc)) (c.toInCall.keep b o e)
    · by_cases hkn : k' = x
      · subst hkn
        rw [hc] at hk'; cases hk'
        simpa using hc'
      · rw [if_neg hkn]
        exact (c.cell k' c' hk').sameBut hs' fun e => hkn (name_of_addr c.apart (mem_of_lookup hk') (e ▸ mem_of_lookup hc))
    · exact fun a o _ h2 _ e => hs'.extBut a o (fun q => h2 x (q ▸ hc)) e
    · exact fun a o hv e => hs'.extBut a o (fun q => valC a o hv e x (q ▸ hc)) e
    · rintro y w hy (⟨hk, m', hn, hw⟩ | ⟨hk, c', hc'', hw⟩)
      · exact .inl ⟨hk, m', hn.sameBut hs' (Nat.ne_of_lt hLc), hw⟩
      · refine .inr ⟨hk, c', hc'', hw.sameBut hs' fun e => ?_⟩
        have := name_of_addr c.apart (mem_of_lookup hc'') (e ▸ mem_of_lookup hc)
        rw [this] at hy; simp at hy

/-- statements: no exception leaves them -/
structure Ex (C : CX) (S : AS) (st : List Stmt) (Ψ : AFl → AS → Prop) : Prop where
  go : C.Ok → ∀ (s₀ : Shared) (X₀ : List Addr) (β : Option Addr) (s : Shared) (Q : Flow → Shared → Prop), PG C.g s₀.heap → FS C s₀ X₀ β S s →
    (∀ afl fl S' β' h' tk, FS C s₀ X₀ β' S' { s with heap := h', toks := tk } → FKeep C β s.heap h' → BEv β s.heap β' → RelFl X₀ h' afl fl → Ψ afl S' → Q fl { s with heap := h', toks := tk }) →
    wpAny (model C.g.prog C.g.w) C.A (execs st C.env) Q (fun _ _ => False) s
/-- one statement -/
structure ExS (C : CX) (S : AS) (st : Stmt) (Ψ : AFl → AS → Prop) : Prop where
  go : C.Ok → ∀ (s₀ : Shared) (X₀ : List Addr) (β : Option Addr) (s : Shared) (Q : Flow → Shared → Prop), PG C.g s₀.heap → FS C s₀ X₀ β S s →
    (∀ afl fl S' β' h' tk, FS C s₀ X₀ β' S' { s with heap := h', toks := tk } → FKeep C β s.heap h' → BEv β s.heap β' → RelFl X₀ h' afl fl → Ψ afl S' → Q fl { s with heap := h', toks := tk }) →
    wpAny (model C.g.prog C.g.w) C.A (exec st C.env) Q (fun _ _ => False) s

variable {Ψ : AFl → AS → Prop}

theorem Ex_nil (h : Ψ .next S) : Ex C S [] Ψ := ⟨fun _ _ _ β s _ _ F k => wpAny_execs_nil (k .next .next S β s.heap s.toks F (.of (StIn.refl _)) (.refl _ _) rfl h)⟩
theorem Ex_cons {st : Stmt} {rest : List Stmt} (h : ExS C S st fun fl S' => match fl with | .next => Ex C S' rest Ψ | fl => Ψ fl S') : Ex C S (st :: rest) Ψ := by
  refine ⟨fun ok s₀ X₀ β s Q p F k => ?_⟩
  refine wpAny_execs_cons (h.go ok s₀ X₀ β s _ p F fun afl fl S' β' h' tk F' fk bv rf ψ => ?_)
  cases afl with
  | next =>
    obtain rfl : fl = .next := rf
    exact ψ.go ok s₀ X₀ β' _ Q p F' fun afl fl S'' β'' h'' tk'' F'' fk'' bv'' rf'' ψ'' => k afl fl S'' β'' h'' tk'' F'' (fk.trans bv fk'') (bv.trans bv'' fk F'.ffr) rf'' ψ''
  | brk => obtain rfl : fl = .brk := rf; exact k .brk .brk S' β' h' tk F' fk bv rfl ψ
  | cont => obtain rfl : fl = .cont := rf; exact k .cont .cont S' β' h' tk F' fk bv rfl ψ
  | ret av => obtain ⟨v, rfl, rv⟩ := rf; exact k (.ret av) (.ret v) S' β' h' tk F' fk bv ⟨v, rfl, rv⟩ ψ

theorem FS.st {s₀ s : Shared} {X₀ : List Addr} {β : Option Addr} (F : FS C s₀ X₀ β S s) {h' : Heap} {tk : Nat} (k : StIn s.heap h') : FS C s₀ X₀ β S { s with heap := h', toks := tk } := by
  obtain ⟨m, cm, c⟩ := F.call
  refine ⟨⟨m, cm, ⟨⟨?_, c.toInCall.ns.keeps k, fun b o e => k b o (c.toInCall.keep b o e), c.toInCall.fresh⟩, fun x a e => (c.cell x a e).keeps k, c.apart, c.above⟩⟩, F.vars.st k, ?_, F.xin⟩
  · obtain ⟨h₁, tk₁, e⟩ := c.toInCall.same
    exact ⟨h', tk, by rw [e]⟩
  · have h := F.own
    show OwnOk C s₀ X₀ h' S.own β
    cases ho : S.own with
    | none => rw [ho] at h; cases β with | none => trivial | some _ => exact h
    | some p =>
      rw [ho] at h
      cases β with
      | none => exact h
      | some b => obtain ⟨⟨vs, o⟩, h1⟩ := h; exact ⟨⟨vs, o.st k⟩, h1⟩

theorem FS.weak {s₀ s : Shared} {X₀ : List Addr} {β : Option Addr} {S' : AS} (F : FS C s₀ X₀ β S s) (hl : S.le S') : FS C s₀ X₀ β S' s :=
  ⟨F.call, fun x av e => F.vars x av (hl.1 x av e), hl.2 ▸ F.own, F.xin⟩
/-- where a name may be stored -/
def Stb (C : CX) (S : AS) (x : Str) : Prop := (C.env.kindOf x = some .local ∨ (C.env.kindOf x = some .cell ∧ (C.env.cells.lookup x).isSome = true)) ∧ S.off x

theorem ExS_assign {x : Str} {px pos : Pos} {e : Expr} (h : Ev C S e fun av => Ψ .next (S.set x av)) (hx : Stb C S x)
    (hs : swapsWith e (some (.Name x px)) pos.line C.env = pure false := by rfl) : ExS C S (.Assign [.Name x px] e pos) Ψ := by
  refine ⟨fun ok s₀ X₀ β s Q p F k => ?_⟩
  refine wpAny_Assign_Name (h.go ok _ s _ _ (p.st F.keep) F.xinh F.relS fun av v h₁ t₁ st₁ rv ψ => ?_) hs
  exact store_rel ok (F.st (tk := t₁) st₁) rv hx.1 hx.2 fun h' tk F' fk => k .next .next _ β h' tk F' (FKeep.trans (.of st₁) (.refl _ _) fk) (.refl _ _) rfl ψ

theorem ExS_aug {x : Str} {px pos : Pos} {op : Operator} {e : Expr} {av : AV} (hl : S.vs.lookup x = some av) (h : Ev C S e fun b => IBin C op av b fun c => Ψ .next (S.set x c)) (hx : Stb C S x) (hn : (x == ("__classdict__" : Str)) = false := by decide) : ExS C S (.AugAssign (.Name x px) op e pos) Ψ := by
  refine ⟨fun ok s₀ X₀ β s Q p F k => ?_⟩
  obtain ⟨v, hr, hv⟩ := F.vars x av hl
  refine wpAny_AugAssign_Name (load_rd ok.kind hr ?_ hn)
  refine h.go ok _ s _ _ (p.st F.keep) F.xinh F.relS fun b vb h₁ t₁ st₁ rb hc => ?_
  refine hc.go ok _ _ v vb _ _ ((p.st F.keep).st st₁) (F.xinh.st st₁) (hv.st st₁) rb fun c vc h₂ t₂ st₂ rc ψ => ?_
  exact store_rel ok (F.st (tk := t₂) (st₁.trans st₂)) rc hx.1 hx.2 fun h' tk F' fk => k .next .next _ β h' tk F' (FKeep.trans (.of (st₁.trans st₂)) (.refl _ _) fk) (.refl _ _) rfl ψ

theorem ExS_return {e : Expr} {pos : Pos} (h : Ev C S e fun av => Ψ (.ret av) S) : ExS C S (.Return (some e) pos) Ψ := by
  refine ⟨fun ok s₀ X₀ β s Q p F k => ?_⟩
  refine wpAny_Return_some (h.go ok _ s _ _ (p.st F.keep) F.xinh F.relS fun av v h₁ t₁ st₁ rv ψ => ?_)
  exact k (.ret av) (.ret v) S β h₁ t₁ (F.st st₁) (.of st₁) (.refl _ _) ⟨v, rfl, rv.less fun _ hp => List.mem_append_right _ hp⟩ ψ

theorem ExS_if {t : Expr} {a b : List Stmt} {pos : Pos} (h : Tst C S t fun c => if c then Ex C S a Ψ else Ex C S b Ψ) : ExS C S (.If t a b pos) Ψ := by
  refine ⟨fun ok s₀ X₀ β s Q p F k => ?_⟩
  refine wpAny_If (h.go ok _ s _ _ (p.st F.keep) F.xinh F.relS fun c h₁ t₁ st₁ φ => ?_)
  have k' : ∀ afl fl S' β' h' tk, FS C s₀ X₀ β' S' { ({ s with heap := h₁, toks := t₁ } : Shared) with heap := h', toks := tk } → FKeep C β h₁ h' → BEv β h₁ β' → RelFl X₀ h' afl fl → Ψ afl S' → Q fl { ({ s with heap := h₁, toks := t₁ } : Shared) with heap := h', toks := tk } := by
    intro afl fl S' β' h' tk F' fk bv rf ψ
    exact k afl fl S' β' h' tk F' (FKeep.trans (.of st₁) (.refl _ _) fk) (BEv.trans (.refl _ _) bv (.of st₁) (F.st (tk := t₁) st₁).ffr) rf ψ
  cases c with
  | true => exact φ.go ok s₀ X₀ β _ Q p (F.st st₁) k'
  | false => exact φ.go ok s₀ X₀ β _ Q p (F.st st₁) k'
variable {C : CX} {S : AS} {Ψ : AFl → AS → Prop}

/-- while, by an invariant and a measure -/
theorem ExS_while {t : Expr} {body : List Stmt} {pos : Pos} (I : Nat → AS → Prop) {n₀ : Nat} {S₀ : AS} (hle : S.le S₀) (h0 : I n₀ S₀)
    (turn : ∀ n S, I n S → Tst C S t fun b => if b then Ex C S body (fun fl S' => match fl with
        | .next => ∃ S'' m, S'.le S'' ∧ m < n ∧ I m S''
        | .cont => ∃ S'' m, S'.le S'' ∧ m < n ∧ I m S''
        | .brk => Ψ .next S'
        | .ret v => Ψ (.ret v) S') else Ψ .next S) : ExS C S (.While t body [] pos) Ψ := by
  refine ⟨fun ok s₀ X₀ β s Q p F k => ?_⟩
  refine wpAny_While (codeAny_whileLoop (fun n s' => ∃ h' tk S' β', s' = { s with heap := h', toks := tk } ∧ FS C s₀ X₀ β' S' s' ∧ FKeep C β s.heap h' ∧ BEv β s.heap β' ∧ I n S') ?_ n₀ ⟨s.heap, s.toks, S₀, β, rfl, F.weak hle, .of (StIn.refl _), .refl _ _, h0⟩)
  rintro n s' ⟨h₁, t₁, S₁, β₁, rfl, F₁, fk₁, bv₁, hI⟩
  refine wpAny_mono ((turn n S₁ hI).go ok _ _ _ (fun _ _ => False) (p.st F₁.keep) F₁.xinh F₁.relS fun b h₂ t₂ st₂ φ => ?_) (fun _ _ x => x) fun _ _ x => x.elim
  cases b with
  | false =>
    exact wpAny_execs_nil (k .next .next S₁ β₁ h₂ t₂ (F₁.st st₂) (fk₁.trans bv₁ (.of st₂)) bv₁ rfl φ)
  | true =>
    refine wpAny_mono (φ.go ok s₀ X₀ β₁ _ _ p (F₁.st (tk := t₂) st₂) fun afl fl S₃ β₃ h₃ t₃ F₃ fk₃ bv₃ rf ψ => ?_) (fun _ _ x => x) fun _ _ x => x.elim
    have fk' : FKeep C β s.heap h₃ := (fk₁.trans bv₁ (FKeep.of st₂)).trans bv₁ fk₃
    have bv' : BEv β s.heap β₃ := bv₁.trans (BEv.trans (.refl _ _) bv₃ (.of st₂) (F₁.st (tk := t₂) st₂).ffr) fk₁ F₁.ffr
    cases afl with
    | next => obtain rfl : fl = .next := rf; obtain ⟨S'', m, hle, hm, hI'⟩ := ψ; exact ⟨m, hm, h₃, t₃, S'', β₃, rfl, F₃.weak hle, fk', bv', hI'⟩
    | cont => obtain rfl : fl = .cont := rf; obtain ⟨S'', m, hle, hm, hI'⟩ := ψ; exact ⟨m, hm, h₃, t₃, S'', β₃, rfl, F₃.weak hle, fk', bv', hI'⟩
    | brk => obtain rfl : fl = .brk := rf; exact k .next .next S₃ β₃ h₃ t₃ F₃ fk' bv' rfl ψ
    | ret av => obtain ⟨v, rfl, rv⟩ := rf; exact k (.ret av) (.ret v) S₃ β₃ h₃ t₃ F₃ fk' bv' ⟨v, rfl, rv⟩ ψ

/-- a range's ints -/
def rngL (a c : Int) (n : Nat) : List AV := (List.range n).map fun (i : Nat) => AV.int (a + i * c)
/-- what an iteration gives -/
inductive Items : AV → List AV → Prop
  | lst (l : List AV) : Items (.lst l) l
  | tup (l : List AV) : Items (.tup l) l
  | rng (a b c : Int) (n : Nat) (hn : Builtin.Range.rangeSize a b c = n) : Items (.rng a b c) (rngL a c n)

mutual
theorem RelV.more {X : List Addr} {h : Heap} {b : Addr} (hb : h.get? b = none) : (av : AV) → (v : Value) → RelV X h av v → RelV (b :: X) h av v
  | .int _, _, r => r
  | .bool _, _, r => r
  | .none, _, r => r
  | .str _, _, r => r
  | .ty _, _, r => r
  | .bi _, _, r => r
  | .rng _ _ _, _, r => r
  | .tup l, _, ⟨a, vs, e, ht, rr⟩ => ⟨a, vs, e, ht, RelVs.more hb l vs rr⟩
  | .lst l, _, ⟨a, vs, e, hx, ht, rr⟩ => ⟨a, vs, e, fun q => by
      rcases List.mem_cons.mp q with q | q
      · obtain ⟨o, ho, _⟩ := ht; rw [q, hb] at ho; cases ho
      · exact hx q, ht, RelVs.more hb l vs rr⟩
theorem RelVs.more {X : List Addr} {h : Heap} {b : Addr} (hb : h.get? b = none) : (l : List AV) → (vs : List Value) → RelVs X h l vs → RelVs (b :: X) h l vs
  | [], _, r => r
  | a :: l, _, ⟨v, r, e, h1, h2⟩ => ⟨v, r, e, RelV.more hb a v h1, RelVs.more hb l r h2⟩
end

/-- iterators that hand out a tuple of their own -/
def ownIters : List String := ["enumerate", "zip", "dict_itemiterator", "dict_reverseitemiterator", "odict_iterator", "itertools.zip_longest", "itertools.pairwise"]
/-- an iterator over the items xs, made at I -/
structure Itr (C : CX) (X : List Addr) (xs : List AV) (I : Addr) (h₀ : Heap) (fp : List Addr) (P : Nat → Value → Prop) (St : Nat → Heap → Prop) : Prop where
  walk : Walks C.g.prog C.g.w C.A I fp [I] xs.length P St
  start : St 0 h₀
  fps : ∀ b ∈ fp, b = I ∨ (b ∉ X ∧ ∃ o, h₀.get? b = some o ∧ isVal o) ∨ (∃ o, h₀.get? b = some o ∧ isVal o ∧ o.cls ≠ .type "list")
  item : ∀ i v, P i v → ∃ av, xs[i]? = some av ∧ RelV X h₀ av v
  itr : ∀ i h, St i h → ∃ o, h.get? I = some o ∧ ¬ isVal o
  cls : ∀ i h, St i h → ∃ o n, h.get? I = some o ∧ o.cls = .type n ∧ ownIters.contains n = false

theorem iter_go {X : List Addr} {xs : List AV} {av : AV} {v : Value} {s : Shared} {Q : Value → Shared → Prop} {E : Value → Shared → Prop} (ok : C.Ok) (hi : Items av xs) (r : RelV X s.heap av v)
    (k : ∀ fp P St o, Itr C X xs s.heap.objs.size (s.heap.push o) fp P St → o.isFreed = false → Q (.ref s.heap.objs.size) { s with heap := s.heap.push o }) : wpAny (model C.g.prog C.g.w) C.A (pyIter v) Q E s := by
  cases hi with
  | lst =>
    obtain ⟨ax, vs, rfl, hx, hl, hr⟩ := r
    have hne : ax ≠ s.heap.objs.size := by obtain ⟨o, ho, _⟩ := hl; exact Nat.ne_of_lt (Heap.lt_size ho)
    refine wpAny_pyIter_list hl (k [s.heap.objs.size, ax] (fun i v => vs.toArray[i]? = some v) (fun i h => h.IsListIter s.heap.objs.size ax i ∧ h.IsList ax vs.toArray) _ ⟨?_, ?_, ?_, ?_, ?_, ?_⟩ rfl)
    · have W := Walks.list (prog := C.g.prog) (w := C.g.w) ok.room.hh s.heap.objs.size ax hne vs.toArray
      rw [show vs.toArray.size = xs.length from hr.length] at W
      exact W
    · exact ⟨⟨_, Heap.get?_push_size _ rfl, rfl, rfl⟩, hl.push _⟩
    · intro b hb
      rcases List.mem_cons.mp hb with e | hb
      · exact .inl e
      · obtain rfl := List.mem_singleton.mp hb
        obtain ⟨o, ho, hc, n, hd⟩ := hl
        exact .inr (.inl ⟨hx, o, Heap.get?_push_of_some _ ho, .inl ⟨_, n, hd⟩⟩)
    · intro i v hP
      have hP' : vs[i]? = some v := by simpa using hP
      have hlt : i < xs.length := by rw [← hr.length]; exact (List.getElem?_eq_some_iff.mp hP').1
      obtain ⟨v', hv', rv⟩ := hr.get i xs[i] (by simp)
      rw [hP'] at hv'; cases hv'
      exact ⟨xs[i], by simp, rv.st (StIn.push _ _)⟩
    · rintro i h ⟨⟨o, ho, hc, hd⟩, _⟩
      refine ⟨o, ho, ?_⟩
      rintro (⟨xs, n, q⟩ | ⟨q, _⟩)
      · rw [hd] at q; cases q
      · rw [hc] at q; exact absurd q (by decide)
    · rintro i h ⟨⟨o, ho, hc, hd⟩, _⟩
      exact ⟨o, _, ho, hc, by decide⟩
  | tup =>
    obtain ⟨ax, vs, rfl, hl, hr⟩ := r
    have hne : ax ≠ s.heap.objs.size := by obtain ⟨o, ho, _⟩ := hl; exact Nat.ne_of_lt (Heap.lt_size ho)
    refine wpAny_pyIter_tuple hl (k [s.heap.objs.size, ax] (fun i v => vs.toArray[i]? = some v) (fun i h => h.IsTupleIter s.heap.objs.size ax i ∧ h.IsTuple ax vs.toArray) _ ⟨?_, ?_, ?_, ?_, ?_, ?_⟩ rfl)
    · have W := Walks.tuple (prog := C.g.prog) (w := C.g.w) ok.room.hh s.heap.objs.size ax hne vs.toArray
      rw [show vs.toArray.size = xs.length from hr.length] at W
      exact W
    · exact ⟨⟨_, Heap.get?_push_size _ rfl, rfl, rfl⟩, hl.push _⟩
    · intro b hb
      rcases List.mem_cons.mp hb with e | hb
      · exact .inl e
      · obtain rfl := List.mem_singleton.mp hb
        obtain ⟨o, ho, hc, n, hd⟩ := hl
        exact .inr (.inr ⟨o, Heap.get?_push_of_some _ ho, .inl ⟨_, n, hd⟩, by rw [hc]; decide⟩)
    · intro i v hP
      have hP' : vs[i]? = some v := by simpa using hP
      have hlt : i < xs.length := by rw [← hr.length]; exact (List.getElem?_eq_some_iff.mp hP').1
      obtain ⟨v', hv', rv⟩ := hr.get i xs[i] (by simp)
      rw [hP'] at hv'; cases hv'
      exact ⟨xs[i], by simp, rv.st (StIn.push _ _)⟩
    · rintro i h ⟨⟨o, ho, hc, hd⟩, _⟩
      refine ⟨o, ho, ?_⟩
      rintro (⟨xs, n, q⟩ | ⟨q, _⟩)
      · rw [hd] at q; cases q
      · rw [hc] at q; exact absurd q (by decide)
    · rintro i h ⟨⟨o, ho, hc, hd⟩, _⟩
      exact ⟨o, _, ho, hc, by decide⟩
  | rng a b c n hn =>
    obtain ⟨r, t, u, w, rfl, hr⟩ := r
    have hlen : (rngL a c n).length = n := by simp [rngL]
    have hit : ∀ (i : Nat) v (h : Heap), (∃ t, v = Value.int (a + i * c) t) → i < n → ∃ av, (rngL a c n)[i]? = some av ∧ RelV X h av v := by
      rintro i v h ⟨t, rfl⟩ hlt
      exact ⟨.int (a + i * c), by simp [rngL, hlt], ⟨t, rfl⟩⟩
    cases hs : Builtin.Range.small a b c with
    | true =>
      refine wpAny_pyIter_range hr hs (k [s.heap.objs.size] (fun i v => i < n ∧ ∃ t, v = .int (a + i * c) t) (fun i h => IsRangeIter h s.heap.objs.size (a + (i : Nat) * c) ((n : Int) - (i : Nat)) c) _ ⟨?_, ?_, ?_, ?_, ?_, ?_⟩ rfl)
      · rw [hlen]
        have W := Walks.range (prog := C.g.prog) (w := C.g.w) ok.room.hh s.heap.objs.size a c n
        exact ⟨W.sub, W.frame, fun i s Q E hi st hQ => W.item i s Q E hi st fun v h' tk hP => hQ v h' tk ⟨hi, hP⟩, W.done, W.self⟩
      · show IsRangeIter _ _ _ _ _
        rw [show a + ((0 : Nat) : Int) * c = a by simp, show (n : Int) - ((0 : Nat) : Int) = Builtin.Range.rangeSize a b c by rw [hn]; simp]
        exact Heap.get?_push_size _ rfl
      · intro b hb; exact .inl (List.mem_singleton.mp hb)
      · exact fun i v hP => hit i v _ hP.2 hP.1
      · intro i h hst
        refine ⟨_, hst, ?_⟩
        rintro (⟨xs, n, q⟩ | ⟨q, _⟩)
        · cases q
        · exact absurd q (show Value.type "range_iterator" ≠ Value.type "range" by decide)
      · intro i h hst
        exact ⟨_, "range_iterator", hst, rfl, by decide⟩
    | false =>
      refine wpAny_pyIter_longrange hr hs (k [s.heap.objs.size] (fun i v => i < n ∧ ∃ t, v = .int (a + i * c) t) (fun i h => IsLongIter h s.heap.objs.size (a + (i : Nat) * c) ((n : Int) - (i : Nat)) c) _ ⟨?_, ?_, ?_, ?_, ?_, ?_⟩ rfl)
      · rw [hlen]
        have W := Walks.longrange (prog := C.g.prog) (w := C.g.w) ok.room.hh s.heap.objs.size a c n
        exact ⟨W.sub, W.frame, fun i s Q E hi st hQ => W.item i s Q E hi st fun v h' tk hP => hQ v h' tk ⟨hi, hP⟩, W.done, W.self⟩
      · show IsLongIter _ _ _ _ _
        rw [show a + ((0 : Nat) : Int) * c = a by simp, show (n : Int) - ((0 : Nat) : Int) = Builtin.Range.rangeSize a b c by rw [hn]; simp]
        exact Heap.get?_push_size _ rfl
      · intro b hb; exact .inl (List.mem_singleton.mp hb)
      · exact fun i v hP => hit i v _ hP.2 hP.1
      · intro i h hst
        refine ⟨_, hst, ?_⟩
        rintro (⟨xs, n, q⟩ | ⟨q, _⟩)
        · cases q
        · exact absurd q (show Value.type "longrange_iterator" ≠ Value.type "range" by decide)
      · intro i h hst
        exact ⟨_, "longrange_iterator", hst, rfl, by decide⟩

/-- for, over a name, by an invariant on the turn's number -/
theorem ExS_for {x : Str} {px pos : Pos} {iter : Expr} {body : List Stmt}
    (h : Ev C S iter fun av => ∃ xs, Items av xs ∧ ∃ I : Nat → AS → Prop, (∃ S₀, S.le S₀ ∧ I 0 S₀) ∧
      (∀ i S av, xs[i]? = some av → I i S → Stb C S x ∧ Ex C (S.set x av) body fun fl S' => match fl with
        | .next => ∃ S'', S'.le S'' ∧ I (i + 1) S''
        | .cont => ∃ S'', S'.le S'' ∧ I (i + 1) S''
        | .brk => Ψ .next S'
        | .ret v => Ψ (.ret v) S') ∧ (∀ S, I xs.length S → Ψ .next S))
    (hs : ∀ x, foldedSetIterable iter C.env x = pure x := by intro _; rfl) : ExS C S (.For (.Name x px) iter body [] pos) Ψ := by
  refine ⟨fun ok s₀ X₀ β s Q p F k => ?_⟩
  refine wpAny_For (h.go ok _ s _ _ (p.st F.keep) F.xinh F.relS fun av v h₁ t₁ st₁ rv hyp => ?_) hs
  obtain ⟨xs, hit, I, ⟨S₀, hle0, hI0⟩, hturn, hend⟩ := hyp
  refine iter_go ok hit rv fun fp P St o itr hfree => ?_
  have F₁ : FS C s₀ X₀ β S { s with heap := h₁.push o, toks := t₁ } := F.st (st₁.trans (StIn.push _ _))
  generalize hIaddr : h₁.objs.size = J at itr
  -- what is kept: relative to the heap with the iterator
  have hJ : (h₁.push o).get? J = some o := by rw [← hIaddr]; exact Heap.get?_push_size _ hfree
  have hJnone : h₁.get? J = none := by
    cases e : h₁.get? J with
    | none => rfl
    | some o' => have := Heap.lt_size e; rw [hIaddr] at this; exact absurd this (Nat.lt_irrefl _)
  have hJs : s.heap.get? J = none := by
    cases e : s.heap.get? J with
    | none => rfl
    | some o' => rw [st₁ _ _ e] at hJnone; cases hJnone
  refine codeAny_forLoop (fun n s' => ∃ h' tk S' β' i, s' = { s with heap := h', toks := tk } ∧ FS C s₀ X₀ β' S' s' ∧ FKeep C β s.heap h' ∧ BEv β s.heap β' ∧ (∀ b, β' = some b → β = some b ∨ (h₁.push o).get? b = none) ∧
      VKeep (β.toList ++ X₀) (h₁.push o) h' ∧ (∀ a oa, a ≠ C.env.locals → (∀ x, C.env.cells.lookup x ≠ some a) → β ≠ some a → a ≠ J → (h₁.push o).get? a = some oa → h'.get? a = some oa) ∧ St i h' ∧ i ≤ xs.length ∧ n = xs.length + 1 - i ∧ I i S') ?_ (xs.length + 1)
    ⟨h₁.push o, t₁, S₀, β, 0, rfl, F₁.weak hle0, .of (st₁.trans (StIn.push _ _)), .refl _ _, (fun b e => .inl e), .refl _ _, (fun _ _ _ _ _ _ e => e), itr.start, Nat.zero_le _, rfl, hI0⟩
  rintro n s' ⟨h', tk, S', β', i, rfl, F', fk, bv, bo, vk, lk, hst, hle, rfl, hI⟩
  -- the iterator is none of the frame's
  have hJL : J ≠ C.env.locals := by
    rintro rfl
    obtain ⟨m, hn⟩ := F.ffr.loc
    obtain ⟨o', _, _, ho', _⟩ := hn
    rw [ho'] at hJs; cases hJs
  have hJc : ∀ y, C.env.cells.lookup y ≠ some J := by
    intro y e
    obtain ⟨w, o', ho', _⟩ := F.ffr.cel y J e
    rw [ho'] at hJs; cases hJs
  have hJb : β' ≠ some J := by
    intro e
    rcases bo J e with e | e
    · obtain ⟨vs, n, ho'⟩ := F.ffr.own J e
      rw [ho'] at hJs; cases hJs
    · rw [hJ] at e; cases e
  have kp : ∀ {h'' : Heap}, (∀ b o, b ∉ [J] → h'.get? b = some o → h''.get? b = some o) → ∀ tk, FS C s₀ X₀ β' S' { s with heap := h'', toks := tk } ∧ FKeep C β s.heap h'' ∧ VKeep (β.toList ++ X₀) (h₁.push o) h'' := by
    intro h'' hk tk
    have hkJ : ∀ b o, b ≠ J → h'.get? b = some o → h''.get? b = some o := fun b o hb e => hk b o (by simpa using hb) e
    obtain ⟨oi, hoi, hnv⟩ := itr.itr i h' hst
    have vk2 : ∀ X, VKeep X h' h'' := fun X => ⟨fun a o _ hv e => hkJ a o (by rintro rfl; rw [e] at hoi; cases hoi; exact hnv hv) e, fun a o hv _ e => hkJ a o (by rintro rfl; rw [e] at hoi; cases hoi; exact hnv hv) e⟩
    refine ⟨?_, ?_, vk.trans (vk2 _)⟩
    · obtain ⟨m, cm, c⟩ := F'.call
      have hrd : ∀ y w, Rd C.env h' y w → Rd C.env h'' y w := by
        rintro y w (⟨hk', m', hn, hw⟩ | ⟨hk', c', hc', hw⟩)
        · exact .inl ⟨hk', m', hn.at' fun o e => hkJ _ o (Ne.symm hJL) e, hw⟩
        · obtain ⟨o', ho', hd'⟩ := hw
          exact .inr ⟨hk', c', hc', o', hkJ _ _ (fun q => hJc y (q ▸ hc')) ho', hd'⟩
      refine ⟨⟨m, cm, ⟨⟨?_, c.toInCall.ns.at' fun o e => hkJ _ o (Ne.symm hJL) e, fun b o e => ?_, c.toInCall.fresh⟩, fun y a e => ?_, c.apart, c.above⟩⟩, ?_, ?_, F'.xin⟩
      · obtain ⟨h₁, tk₁, e⟩ := F.same
        exact ⟨h'', tk, by rw [e]⟩
      · refine hkJ b o ?_ (c.toInCall.keep b o e)
        rintro rfl
        rw [F.keep _ _ e] at hJs; cases hJs
      · obtain ⟨o', ho', hd'⟩ := c.cell y a e
        exact ⟨o', hkJ _ _ (fun q => hJc y (q ▸ e)) ho', hd'⟩
      · exact fun y aw e => let ⟨w, h1, h2⟩ := F'.vars y aw e; ⟨w, hrd y w h1, h2.keep (vk2 _)⟩
      · have h := F'.own
        show OwnOk C s₀ X₀ h'' S'.own β'
        cases ho : S'.own with
        | none => rw [ho] at h; cases β' with | none => trivial | some _ => exact h
        | some q =>
          rw [ho] at h
          cases β' with
          | none => exact h
          | some b =>
            obtain ⟨⟨vs, ow⟩, h1⟩ := h
            exact ⟨⟨vs, hrd _ _ ow.rd, ow.inX, ow.lst.at fun o e => hkJ b o (by rintro rfl; exact hJb rfl) e, ow.rel.keep (vk2 _)⟩, h1⟩
    · intro a oa h1 h2 h3 e
      refine hkJ a oa ?_ (fk a oa h1 h2 h3 e)
      rintro rfl; rw [hJs] at e; cases e
  by_cases hlt : i < xs.length
  · refine itr.walk.item i _ _ _ hlt hst fun w h₂ t₂ hP hst₂ hk₂ => ?_
    obtain ⟨F₂, fk₂, vk₂⟩ := kp hk₂ t₂
    obtain ⟨aw, haw, raw⟩ := itr.item i w hP
    obtain ⟨hstb, hbody⟩ := hturn i S' aw haw hI
    have rw₂ : RelV (β'.toList ++ X₀) h₂ aw w := by
      cases hb : β' with
      | none => exact (raw.keep vk₂).less fun q hq => List.mem_append_right _ (by simpa using hq)
      | some b =>
        rcases bo b hb with e | e
        · rw [← e]; exact raw.keep vk₂
        · have r1 : RelV (b :: (β.toList ++ X₀)) (h₁.push o) aw w := RelV.more e aw w raw
          have r2 := r1.keep (vk₂.sub fun q hq => List.mem_cons_of_mem _ hq)
          exact r2.less fun q hq => by
            rcases List.mem_append.mp hq with hq | hq
            · obtain rfl : q = b := by simpa using hq
              exact List.mem_cons_self
            · exact List.mem_cons_of_mem _ (List.mem_append_right _ hq)
    refine wpAny_assign_Name (store_rel ok F₂ rw₂ hstb.1 hstb.2 fun h₃ t₃ F₃ fk₃ => ?_)
    refine wpAny_mono (hbody.go ok s₀ X₀ β' _ _ p F₃ fun afl fl S₄ β₄ h₄ t₄ F₄ fk₄ bv₄ rf ψ => ?_) (fun _ _ q => q) fun _ _ q => q.elim
    have fk23 : FKeep C β' h₂ h₄ := fk₃.trans (.refl _ _) fk₄
    have fk' : FKeep C β s.heap h₄ := fk₂.trans bv fk23
    have bv24 : BEv β' h₂ β₄ := BEv.trans (.refl _ _) bv₄ fk₃ F₃.ffr
    have bv' : BEv β s.heap β₄ := bv.trans bv24 fk₂ F₂.ffr
    have hst₄ : St (i + 1) h₄ := itr.walk.frame _ _ _ hst₂ fun b hb ob e => by
      rcases itr.fps b hb with rfl | ⟨hx, oo, ho, hv⟩ | ⟨oo, ho, hv, hcl⟩
      · exact fk23 _ _ hJL hJc hJb e
      · have e2 := vk₂.off b oo hx hv ho
        rw [e] at e2; cases e2
        refine (fk23.vkeep (X₀ := X₀) F₂.ffr).off b _ (fun q => ?_) hv e
        rcases List.mem_append.mp q with q | q
        · cases hbb : β' with
          | none => rw [hbb] at q; cases q
          | some b' =>
            rw [hbb] at q
            obtain rfl : b = b' := by simpa using q
            rcases bo _ hbb with h1 | h1
            · exact hx (by rw [h1]; simp)
            · rw [ho] at h1; cases h1
        · exact hx (List.mem_append_right _ q)
      · have e2 := vk₂.imm b oo hv hcl ho
        rw [e] at e2; cases e2
        exact (fk23.vkeep (X₀ := X₀) F₂.ffr).imm b _ hv hcl e
    have vk' : VKeep (β.toList ++ X₀) (h₁.push o) h₄ := by
      have v4 := fk23.vkeep (X₀ := X₀) F₂.ffr
      refine ⟨fun a oa ha hv e => v4.off a oa (fun q => ?_) hv (vk₂.off a oa ha hv e), fun a oa hv hc e => v4.imm a oa hv hc (vk₂.imm a oa hv hc e)⟩
      rcases List.mem_append.mp q with q | q
      · cases hbb : β' with
        | none => rw [hbb] at q; cases q
        | some b' =>
          rw [hbb] at q
          obtain rfl : a = b' := by simpa using q
          rcases bo _ hbb with h1 | h1
          · exact ha (by rw [h1]; simp)
          · rw [e] at h1; cases h1
      · exact ha (List.mem_append_right _ q)
    have bo' : ∀ b, β₄ = some b → β = some b ∨ (h₁.push o).get? b = none := by
      intro b hb
      by_cases h3 : β = some b
      · exact .inl h3
      rcases bv24 b hb with e | e
      · exact bo b e
      · cases hq : (h₁.push o).get? b with
        | none => exact .inr rfl
        | some oq =>
          exfalso
          by_cases hbJ : b = J
          · subst hbJ
            obtain ⟨oi, hoi, _⟩ := itr.itr (i + 1) h₂ hst₂
            rw [hoi] at e; cases e
          · by_cases h1 : b = C.env.locals
            · obtain ⟨m, o', _, _, ho', _⟩ := F₂.ffr.loc
              rw [h1, ho'] at e; cases e
            · by_cases h2 : ∃ y, C.env.cells.lookup y = some b
              · obtain ⟨y, h2⟩ := h2
                obtain ⟨v, o', ho', _⟩ := F₂.ffr.cel y b h2
                rw [ho'] at e; cases e
              · have hkJ := hk₂ b oq (by simpa using hbJ) (lk b oq h1 (fun y hy => h2 ⟨y, hy⟩) h3 hbJ hq)
                rw [hkJ] at e; cases e
    have lk' : ∀ a oa, a ≠ C.env.locals → (∀ x, C.env.cells.lookup x ≠ some a) → β ≠ some a → a ≠ J → (h₁.push o).get? a = some oa → h₄.get? a = some oa := by
      intro a oa h1 h2 h3 h4 e
      refine fk23 a oa h1 h2 (fun hb => ?_) (hk₂ a oa (by simpa using h4) (lk a oa h1 h2 h3 h4 e))
      rcases bo a hb with q | q
      · exact h3 q
      · rw [e] at q; cases q
    have hn' : xs.length + 1 - (i + 1) < xs.length + 1 - i := by omega
    cases afl with
    | next => obtain rfl : fl = .next := rf; obtain ⟨S'', hle', hI'⟩ := ψ; exact ⟨_, hn', h₄, t₄, S'', β₄, i + 1, rfl, F₄.weak hle', fk', bv', bo', vk', lk', hst₄, hlt, rfl, hI'⟩
    | cont => obtain rfl : fl = .cont := rf; obtain ⟨S'', hle', hI'⟩ := ψ; exact ⟨_, hn', h₄, t₄, S'', β₄, i + 1, rfl, F₄.weak hle', fk', bv', bo', vk', lk', hst₄, hlt, rfl, hI'⟩
    | brk => obtain rfl : fl = .brk := rf; exact k .next .next S₄ β₄ h₄ t₄ F₄ fk' bv' rfl ψ
    | ret av => obtain ⟨v, rfl, rv⟩ := rf; exact k (.ret av) (.ret v) S₄ β₄ h₄ t₄ F₄ fk' bv' ⟨v, rfl, rv⟩ ψ
  · have hin : i = xs.length := by omega
    subst hin
    refine itr.walk.done _ _ _ hst fun h₂ t₂ hk₂ => wpAny_execs_nil ?_
    obtain ⟨F₂, fk₂, _⟩ := kp hk₂ t₂
    exact k .next .next S' β' h₂ t₂ F₂ fk₂ bv rfl (hend S' hI)
variable {C : CX} {S : AS} {Ψ : AFl → AS → Prop}

def AS.sets (S : AS) : List Str → List AV → AS
  | x :: xs, a :: as => (S.set x a).sets xs as
  | _, _ => S

/-- names stored one after the other -/
theorem stores_rel {s₀ : Shared} {X₀ : List Addr} {β : Option Addr} (ok : C.Ok) {M : Model} {A : Around} {E : Value → Shared → Prop} :
    ∀ (fs : List (Str × (Value → Sem Unit))) (as : List AV) (vs : List Value) (S : AS) (s : Shared) (Q : Unit → Shared → Prop), FS C s₀ X₀ β S s → RelVs (β.toList ++ X₀) s.heap as vs → fs.length = as.length →
      (∀ x ∈ fs, ∀ v Q s, wpAny M A (storeName C.env x.1 v) Q E s → wpAny M A (x.2 v) Q E s) →
      (∀ x ∈ fs, (C.env.kindOf x.1 = some .local ∨ (C.env.kindOf x.1 = some .cell ∧ (C.env.cells.lookup x.1).isSome = true)) ∧ S.off x.1) →
      (∀ h' tk, FS C s₀ X₀ β (S.sets (fs.map (·.1)) as) { s with heap := h', toks := tk } → FKeep C β s.heap h' → Q () { s with heap := h', toks := tk }) → wpAny M A (assignInOrder (fs.map (·.2)) vs) Q E s
  | [], _, vs, S, s, Q, F, r, hl, hf, hx, k => by
    show wpAny M A (assignInOrder [] vs) Q E s
    unfold assignInOrder
    exact wpAny_pure (k s.heap s.toks F (.of (StIn.refl _)))
  | x :: xs, [], vs, S, s, Q, F, r, hl, hf, hx, k => by simp at hl
  | (x, f) :: xs, a :: as, vs, S, s, Q, F, r, hl, hf, hx, k => by
    obtain ⟨v, vs', rfl, rv, rr⟩ := r
    show wpAny M A (do holding vs' (f v); assignInOrder (xs.map (·.2)) vs') Q E s
    refine wpAny_bind (wpAny_holding (hf (x, f) (List.mem_cons_self) v _ s ?_))
    refine store_rel ok F rv (hx (x, f) List.mem_cons_self).1 (hx (x, f) List.mem_cons_self).2 fun h' tk F' fk => ?_
    refine stores_rel ok xs as vs' (S.set x a) _ Q F' (rr.keep (fk.vkeep F.ffr)) (by simpa using hl) (fun y hy => hf y (List.mem_cons_of_mem _ hy)) (fun y hy => hx y (List.mem_cons_of_mem _ hy)) fun h'' tk' F'' fk' => ?_
    exact k h'' tk' F'' (fk.trans (.refl _ _) fk')

theorem RelVs.snoc {X : List Addr} {h : Heap} : ∀ {l : List AV} {vs : List Value} {a : AV} {v : Value}, RelVs X h l vs → RelV X h a v → RelVs X h (l ++ [a]) (vs ++ [v])
  | _, _, _, _, r, ra => r.append ⟨_, _, rfl, ra, rfl⟩
theorem RelVs.rev {X : List Addr} {h : Heap} : ∀ {l : List AV} {vs : List Value}, RelVs X h l vs → RelVs X h l.reverse vs.reverse
  | [], _, r => by rw [show _ = [] from r]; rfl
  | a :: l, _, ⟨v, r, e, h1, h2⟩ => by rw [e, List.reverse_cons, List.reverse_cons]; exact (RelVs.rev h2).snoc h1

theorem ext_st {h h' : Heap} (he : Heap.ExtBut h.objs.size h h') : StIn h h' := fun b o e => he b o (Nat.ne_of_lt (Heap.lt_size e)) e

/-- a tuple handed to targets that are names -/
theorem unpack_go {s₀ s : Shared} {X₀ : List Addr} {β : Option Addr} {a : Addr} {l : List AV} {vs : List Value} {nps : List (Str × Pos)} {elts : List Expr} {k₀ : Nat} {tp : Pos} {Q : Unit → Shared → Prop} {E : Value → Shared → Prop} (ok : C.Ok) (F : FS C s₀ X₀ β S s)
    (ht : s.heap.IsTuple a vs.toArray) (hr : RelVs (β.toList ++ X₀) s.heap l vs) (hl : l.length = nps.length) (hx : ∀ x ∈ nps, Stb C S x.1) (he : elts = nps.map fun p => Expr.Name p.1 p.2)
    (k : ∀ h' tk, FS C s₀ X₀ β (S.sets (nps.map (·.1)) l) { s with heap := h', toks := tk } → FKeep C β s.heap h' → Q () { s with heap := h', toks := tk }) :
    wpAny (model C.g.prog C.g.w) C.A (assign (.Tuple elts k₀ tp) C.env (.ref a)) Q E s := by
  have hae : ∀ nps : List (Str × Pos), assignEach (nps.map fun p => Expr.Name p.1 p.2) C.env = nps.map fun p => (false, assign (.Name p.1 p.2) C.env) := by
    intro nps
    induction nps with
    | nil => rfl
    | cons p r ih => rw [List.map_cons, List.map_cons, ← ih]; rfl
  subst he
  refine wpAny_assign_Tuple ok.room.hh ht (by rw [hae, List.length_map, List.size_toArray, hr.length, hl]) (by
    rw [hae]
    induction nps with
    | nil => rfl
    | cons p r _ => simp) fun h' hb => ?_
  have st := ext_st hb
  have e1 : (nps.map fun p => (p.1, assign (.Name p.1 p.2) C.env)).map (·.1) = nps.map (·.1) := by rw [List.map_map]; rfl
  have e2 : (nps.map fun p => (p.1, assign (.Name p.1 p.2) C.env)).map (·.2) = (nps.map fun p => (false, assign (.Name p.1 p.2) C.env)).map (·.2) := by rw [List.map_map, List.map_map]; rfl
  have := stores_rel (M := model C.g.prog C.g.w) (A := C.A) (E := E) ok (nps.map fun p => (p.1, assign (.Name p.1 p.2) C.env)) l vs S { s with heap := h' } Q (F.st (tk := s.toks) st) (hr.st st) (by rw [List.length_map, hl])
    (fun x hx v Q s hq => by obtain ⟨p, _, rfl⟩ := List.mem_map.mp hx; exact wpAny_assign_Name hq)
    (fun x hx' => by obtain ⟨p, hp, rfl⟩ := List.mem_map.mp hx'; exact hx p hp)
    (fun h'' tk F'' fk => k h'' tk (by rw [e1] at F''; exact F'') (FKeep.trans (.of st) (.refl _ _) fk))
  rw [hae, ← e2]
  exact this

theorem ExS_unpack2 {x y : Str} {px py tp pos : Pos} {k₀ : Nat} {e : Expr} (h : Ev C S e fun av => ∃ a b, av = .tup [a, b] ∧ Ψ .next ((S.set x a).set y b)) (hx : Stb C S x) (hy : Stb C S y)
    (hs : swapsWithSole [.Tuple [.Name x px, .Name y py] k₀ tp] e pos.line C.env = pure false := by rfl) (hw : swappedStores [.Tuple [.Name x px, .Name y py] k₀ tp] e C.env = pure none := by rfl) : ExS C S (.Assign [.Tuple [.Name x px, .Name y py] k₀ tp] e pos) Ψ := by
  refine ⟨fun ok s₀ X₀ β s Q p F k => ?_⟩
  refine PyProof.Rows.Assign_Tuple (h.go ok _ s _ _ (p.st F.keep) F.xinh F.relS fun av v h₁ t₁ st₁ rv hyp => ?_) hs hw
  obtain ⟨a, b, rfl, ψ⟩ := hyp
  obtain ⟨ad, vs, rfl, ht, hr⟩ := rv
  refine unpack_go (nps := [(x, px), (y, py)]) ok (F.st (tk := t₁) st₁) ht hr rfl (by intro z hz; simp at hz; rcases hz with rfl | rfl <;> assumption) rfl fun h' tk F' fk => ?_
  exact k .next .next _ β h' tk F' (FKeep.trans (.of st₁) (.refl _ _) fk) (.refl _ _) rfl ψ

theorem ExS_swap2 {x y : Str} {px py tp pos : Pos} {k₀ : Nat} {e : Expr} (h : Ev C S e fun av => ∃ a b, av = .tup [a, b] ∧ Ψ .next ((S.set y b).set x a)) (hx : Stb C S x) (hy : Stb C S y)
    (hs : swapsWithSole [.Tuple [.Name x px, .Name y py] k₀ tp] e pos.line C.env = pure false := by rfl) (hw : swappedStores [.Tuple [.Name x px, .Name y py] k₀ tp] e C.env = pure (some [x, y]) := by rfl) : ExS C S (.Assign [.Tuple [.Name x px, .Name y py] k₀ tp] e pos) Ψ := by
  refine ⟨fun ok s₀ X₀ β s Q p F k => ?_⟩
  refine PyProof.Rows.Assign_Tuple_swapped (names := [x, y]) (h.go ok _ s _ _ (p.st F.keep) F.xinh F.relS fun av v h₁ t₁ st₁ rv hyp => ?_) hs hw
  obtain ⟨a, b, rfl, ψ⟩ := hyp
  obtain ⟨ad, vs, rfl, ht, hr⟩ := rv
  have F₁ := F.st (tk := t₁) st₁
  have e2 : [x, y].length = vs.toArray.size := by rw [List.size_toArray, hr.length]; rfl
  rw [e2]
  refine wpAny_unpackItems_tuple (s := { s with heap := h₁, toks := t₁ }) ok.room.hh ht fun h' he => ?_
  have st₂ : StIn h₁ h' := ext_st he
  refine stores_rel ok [(y, fun v => bindName C.env y v), (x, fun v => bindName C.env x v)] [b, a] vs.reverse S _ _ (F₁.st (tk := t₁) st₂) (hr.st st₂).rev rfl (fun z hz v Q s hq => ?_) (fun z hz => ?_) fun h'' tk F'' fk => ?_
  · simp at hz; rcases hz with rfl | rfl <;> exact wpAny_bindName hq
  · simp at hz; rcases hz with rfl | rfl <;> assumption
  · exact k .next .next _ β h'' tk F'' (FKeep.trans (.of (st₁.trans st₂)) (.refl _ _) fk) (.refl _ _) rfl ψ

-- defs
theorem bindL_spec {kindOf : Str → Option NameKind} : ∀ (binds : List (Str × Value)) (m : Str → Option Value) (x : Str) (v : Value), (binds.map (·.1)).Nodup → binds.lookup x = some v → kindOf x = some .local → bindL kindOf binds m x = some v
  | (n, w) :: r, m, x, v, hnd, hl, hk => by
    rw [List.lookup_cons] at hl
    obtain ⟨hn, hr⟩ := List.nodup_cons.mp hnd
    unfold bindL
    cases hb : x == n with
    | true =>
      rw [hb] at hl; cases hl
      obtain rfl := beq_iff_eq.mp hb
      rw [if_pos hk]
      have skip : ∀ (r : List (Str × Value)) (m : Str → Option Value), x ∉ r.map (·.1) → bindL kindOf r m x = m x := by
        intro r
        induction r with
        | nil => intro m _; rfl
        | cons p r ih =>
          intro m hx
          obtain ⟨q, u⟩ := p
          simp only [List.map_cons, List.mem_cons, not_or] at hx
          unfold bindL
          rw [ih _ hx.2]
          split
          · simp [hx.1]
          · rfl
      rw [skip r _ hn]; simp
    | false => rw [hb] at hl; exact bindL_spec r _ x v hr hl hk
theorem bindC_spec {kindOf : Str → Option NameKind} : ∀ (binds : List (Str × Value)) (m : Str → Option Value) (x : Str) (v : Value), (binds.map (·.1)).Nodup → binds.lookup x = some v → kindOf x = some .cell → bindC kindOf binds m x = some v
  | (n, w) :: r, m, x, v, hnd, hl, hk => by
    rw [List.lookup_cons] at hl
    obtain ⟨hn, hr⟩ := List.nodup_cons.mp hnd
    unfold bindC
    cases hb : x == n with
    | true =>
      rw [hb] at hl; cases hl
      obtain rfl := beq_iff_eq.mp hb
      rw [if_neg (by rw [hk]; decide)]
      have skip : ∀ (r : List (Str × Value)) (m : Str → Option Value), x ∉ r.map (·.1) → bindC kindOf r m x = m x := by
        intro r
        induction r with
        | nil => intro m _; rfl
        | cons p r ih =>
          intro m hx
          obtain ⟨q, u⟩ := p
          simp only [List.map_cons, List.mem_cons, not_or] at hx
          unfold bindC
          rw [ih _ hx.2]
          split
          · rfl
          · simp [hx.1]
      rw [skip r _ hn]; simp
    | false => rw [hb] at hl; exact bindC_spec r _ x v hr hl hk

theorem lookup_zip {X : List Addr} {h : Heap} : ∀ {ns : List Str} {as : List AV} {vs : List Value} {x : Str} {a : AV}, RelVs X h as vs → (ns.zip as).lookup x = some a → ∃ v, (ns.zip vs).lookup x = some v ∧ RelV X h a v
  | [], _, _, _, _, _, e => by simp at e
  | n :: ns, [], _, _, _, _, e => by simp at e
  | n :: ns, b :: as, _, x, a, ⟨v, vs, rfl, rv, rr⟩, e => by
    rw [List.zip_cons_cons, List.lookup_cons] at e
    rw [List.zip_cons_cons, List.lookup_cons]
    cases hb : x == n with
    | true => rw [hb] at e; cases e; exact ⟨v, rfl, rv⟩
    | false => rw [hb] at e; exact lookup_zip rr e

/-- where the parameters lie -/
def parsOk (ns : List Str) (scope : Scope) : Bool := ns.all fun x => match scope.names.lookup x with
  | some .local => true
  | some .cell => ((cellsFrom 0 scope.names []).lookup x).isSome
  | _ => false

theorem cells_some {x : Str} : ∀ (names : List (Str × NameKind)) (n m : Nat) (acc acc' : List (Str × Addr)), ((acc.lookup x).isSome = (acc'.lookup x).isSome) → ((cellsFrom n names acc).lookup x).isSome = ((cellsFrom m names acc').lookup x).isSome
  | [], _, _, _, _, e => e
  | (y, k) :: r, n, m, acc, acc', e => by
    unfold cellsFrom
    split
    · refine cells_some r _ _ _ _ ?_
      rw [List.lookup_cons, List.lookup_cons]
      cases x == y with
      | true => rfl
      | false => exact e
    · exact cells_some r _ _ _ _ e

theorem parsOk_spec {ns : List Str} {scope : Scope} (h : parsOk ns scope = true) (n : Nat) {x : Str} (hx : x ∈ ns) : scope.names.lookup x = some .local ∨ (scope.names.lookup x = some .cell ∧ ((cellsFrom n scope.names []).lookup x).isSome = true) := by
  have := List.all_eq_true.mp h x hx
  cases hk : scope.names.lookup x with
  | none => rw [hk] at this; cases this
  | some k =>
    rw [hk] at this
    cases k with
    | «local» => exact .inl rfl
    | cell => exact .inr ⟨rfl, by rw [cells_some scope.names n 0 [] [] rfl]; exact this⟩
    | _ => cases this

/-- what a call of the def gives, by its body -/
theorem CallsV_of {g : GX} {n : Nat} {a : Addr} {ns : List Str} {body : List Stmt} {scope : Scope} {args : List AV} {Φ : AV → Prop}
    (hfd : ∀ h, PG g h → ∃ o d, h.get? a = some o ∧ o.data = .func d ∧ h.CodeRec d.code d.qualname ∧ d.body = .stmts body ∧ d.scope = scope ∧ d.closure = [] ∧ d.globals = mainGlobals ∧ d.builtins = builtinsNs ∧
      ∀ vs : List Value, vs.length = args.length → bindArgs d ⟨vs, []⟩ = pure (ns.zip vs))
    (hlen : ns.length = args.length) (hp : parsOk ns scope = true) (hnd : ns.Nodup) (hk : scope.kind = .function) (hgen : scope.isGenerator = false) (hco : scope.isCoroutine = false)
    (hbody : ∀ (A : Around) (L : Addr) (qual : Str) (code : Value), Ex ⟨g, A, newEnv scope L mainGlobals (cellsFrom (L + 1) scope.names []) qual (some a) code none builtinsNs, n⟩ ⟨ns.zip args, none⟩ body fun fl _ => match fl with
      | .ret v => Φ v
      | .next => Φ .none
      | _ => False) : CallsV g (n + 1) (.ref a) args Φ := by
  refine ⟨fun A X s vs Q E ro p xi rv k => ?_⟩
  obtain ⟨o, d, ho, hd, hcd, hdb, hds, hdc, hdg, hdbl, hbind⟩ := hfd _ p
  have hvl : vs.length = args.length := rv.length
  have hb := hbind vs hvl
  have hdep := ro.depth
  have hun := ro.units
  have hzip1 : ∀ x ∈ ns.zip vs, x.1 ∈ ns := fun x hx => (List.of_mem_zip (a := x.1) (b := x.2) hx).1
  have hmapz : (ns.zip vs).map (·.1) = ns := by
    rw [List.map_fst_zip]; omega
  refine wpAny_call (codeAny_call_cells (by omega) ho hd p.top.nolimit hcd hdb hb hdc (fun x hx => by rw [hds]; exact parsOk_spec hp _ (hzip1 x hx)) (fun s₁ ic => ?_) (by rw [hds]; exact hco) (by rw [hds]; exact hgen) (by rw [hds]; exact hk))
  generalize hL : s.heap.objs.size = L at ic
  have henv : callEnvC d L a = newEnv scope L mainGlobals (cellsFrom (L + 1) scope.names []) (d.qualname ++ ".<locals>.") (some a) d.code none builtinsNs := by
    unfold callEnvC; rw [hds, hdg, hdbl]
  rw [henv] at ic ⊢
  generalize d.qualname ++ ".<locals>." = qual at *
  obtain ⟨h₁, tk₁, hs₁⟩ := ic.toInCall.same
  subst hs₁
  have st₁ : StIn s.heap h₁ := ic.toInCall.keep
  obtain ⟨lfr, hlfr⟩ := ro.fr
  let C : CX := ⟨g, A.deeper (newEnv scope L mainGlobals (cellsFrom (L + 1) scope.names []) qual (some a) d.code none builtinsNs), newEnv scope L mainGlobals (cellsFrom (L + 1) scope.names []) qual (some a) d.code none builtinsNs, n⟩
  have ok : C.Ok := by
    refine ⟨⟨ro.hh, ?_, ?_, ⟨_, Around.frames_deeper hlfr⟩⟩, hk, rfl, rfl, ⟨_, lfr, Around.frames_deeper hlfr, hgen, hco, rfl, rfl⟩⟩
    · show A.depth + 1 + n + 110 < recursionLimit; omega
    · show A.units + 3 + 16 * n + 100 < cLine; omega
  have FS1 : FS C s X none ⟨ns.zip args, none⟩ { s with heap := h₁, toks := tk₁ } := by
    refine ⟨⟨_, _, ic⟩, ?_, trivial, xi⟩
    intro x av e
    obtain ⟨v, hv, rx⟩ := lookup_zip (rv.st st₁) e
    refine ⟨v, ?_, by simpa using rx⟩
    have hxn : x ∈ ns := hzip1 (x, v) (mem_of_lookup hv)
    rcases parsOk_spec hp (L + 1) hxn with h1 | ⟨h1, h2⟩
    · exact .inl ⟨h1, _, ic.toInCall.ns, bindL_spec _ _ x v (by rw [hmapz]; exact hnd) hv h1⟩
    · obtain ⟨c, hc⟩ := Option.isSome_iff_exists.mp h2
      refine .inr ⟨.inl h1, c, hc, ?_⟩
      have := ic.cell x c hc
      rw [bindC_spec _ _ x v (by rw [hmapz]; exact hnd) hv h1] at this
      exact this
  refine wpAny_mono ((hbody _ L qual d.code).go ok s X none _ _ p FS1 fun afl fl S' β' h' tk F' fk bv rf ψ => ?_) (fun _ _ x => x) fun _ _ x => x.elim
  have keep := F'.keep
  cases afl with
  | ret av => obtain ⟨v, rfl, rv'⟩ := rf; exact k av v h' tk keep rv' ψ
  | next => obtain rfl : fl = .next := rf; exact k .none .none h' tk keep rfl ψ
  | brk => exact ψ.elim
  | cont => exact ψ.elim

/-- a plain def of the text -/
theorem Calls_of {g : GX} {n : Nat} {f : Str} {params : Arguments} {pos : Pos} {ns : List Str} {body : List Stmt} {scope : Scope} {args : List AV} {Φ : AV → Prop}
    (hd : (⟨f, params, body, scope, pos⟩ : DefRec) ∈ recsOf g.p)
    (hbind : ∀ (vs : List Value) (pm cd doc : Value), vs.length = args.length → bindArgs (Calls.docDef f params body scope pm cd doc) ⟨vs, []⟩ = pure (ns.zip vs))
    (hlen : ns.length = args.length) (hp : parsOk ns scope = true) (hnd : ns.Nodup) (hk : scope.kind = .function) (hgen : scope.isGenerator = false) (hco : scope.isCoroutine = false)
    (hbody : ∀ (A : Around) (L a : Addr) (qual : Str) (code : Value), Ex ⟨g, A, newEnv scope L mainGlobals (cellsFrom (L + 1) scope.names []) qual (some a) code none builtinsNs, n⟩ ⟨ns.zip args, none⟩ body fun fl _ => match fl with
      | .ret v => Φ v
      | .next => Φ .none
      | _ => False) : Calls g (n + 1) f args Φ := by
  obtain ⟨h, T, _⟩ := g.inh
  obtain ⟨a, o, pm, code, doc, h1, _⟩ := T.fn _ hd
  have at_ : ∀ h, PG g h → ∃ o pm code doc, h.get? a = some o ∧ o.data = .func (Calls.docDef f params body scope pm code doc) ∧ h.CodeRec code f := by
    intro h p
    obtain ⟨a', o, pm, code, doc, h1', h2, h3, h4⟩ := p.top.fn _ hd
    rw [h1] at h1'; cases h1'
    exact ⟨o, pm, code, doc, h2, h3, h4⟩
  refine ⟨a, ⟨h1, fun h p => let ⟨o, pm, code, doc, q1, q2, _⟩ := at_ h p; ⟨o, _, q1, q2⟩⟩, ?_⟩
  refine CallsV_of (fun h p => ?_) hlen hp hnd hk hgen hco (fun A L qual code => hbody A L a qual code)
  obtain ⟨o, pm, code, doc, q1, q2, q3⟩ := at_ h p
  exact ⟨o, _, q1, q2, q3, rfl, rfl, rfl, rfl, rfl, fun vs hv => hbind vs pm code doc hv⟩
theorem FnIs_of {g : GX} {f : Str} {params : Arguments} {pos : Pos} {body : List Stmt} {scope : Scope} (hd : (⟨f, params, body, scope, pos⟩ : DefRec) ∈ recsOf g.p) : ∃ a, FnIs g f a := by
  obtain ⟨h, T, _⟩ := g.inh
  obtain ⟨a, o, pm, code, doc, h1, _⟩ := T.fn _ hd
  refine ⟨a, h1, fun h p => ?_⟩
  obtain ⟨a', o, pm, code, doc, h1', h2, h3, h4⟩ := p.top.fn _ hd
  rw [h1] at h1'; cases h1'
  exact ⟨o, _, h2, h3⟩
theorem law_end {l : OpenLaw} {cl : Str → Option Addr} {mean : ExcName → Option Value} {args : List WData} {s₁ s' : Shared} (hk : StIn s₁.heap s'.heap) (ho : s'.os = s₁.os) (hg : s'.gens = #[]) :
    GoodWG l.row.claim cl mean args s₁ (.ok (.ret (.bool true))) s' := by
  refine GoodW.toG ⟨.inl ⟨.bool true, .bool true, [], rfl, fun _ => rfl, .bool true, ?_, fun _ => ⟨.nil, fun _ h => nomatch h⟩⟩, hk, ho, hg⟩
  exact postW_of rfl (w_eq_bool (w_res rfl) w_lit) rfl

theorem law_go {l : OpenLaw} {g : GX} {cl : Str → Option Addr} {mean : ExcName → Option Value} {args : List WData} {s₁ : Shared} {fa la : Addr} {vs : List Value} {ns : List Int} {n : Nat} (hpr : g.prog = l.row.prog) (p : PG g s₁.heap) (hg : s₁.gens = #[])
    (hf : g.mg "law" = some (.ref fa)) (hL : s₁.heap.IsList la vs.toArray) (hI : IntsAre vs ns) (hn : n ≤ 400) (hc : Calls g n "law" [.lst (IL ns)] fun v => v = .bool true) :
    wpAny (model l.row.prog g.w) callerA (call (.ref fa) [.ref la]) (fun v s' => GoodWG l.row.claim cl mean args s₁ (.ok (.ret v)) s') (fun e s' => GoodWG l.row.claim cl mean args s₁ (.error e) s') s₁ := by
  obtain ⟨a, ⟨h1, _⟩, hc⟩ := hc
  rw [hf] at h1; cases h1
  rw [← hpr]
  refine hc.go callerA [] s₁ [.ref la] _ _ ⟨rfl, ?_, ?_, ⟨_, rfl⟩⟩ p (fun _ h => nomatch h) ⟨_, _, rfl, ⟨la, vs, rfl, by simp, hL, RelVs.of_ints hI⟩, rfl⟩ fun av v h' tk st rv e => ?_
  · show 1 + 300 + n + 110 < 1000; omega
  · show 4 + 16 * n + 100 < 9900; omega
  · subst e
    obtain rfl : v = .bool true := rv
    exact law_end st rfl hg
theorem ifT {c : Bool} {P Q : Prop} (h1 : c = true → P) (h2 : c = false → Q) : if c = true then P else Q := by cases c <;> simp_all
theorem ifD {p : Prop} [Decidable p] {P Q : Prop} (h1 : p → P) (h2 : ¬ p → Q) : if decide p = true then P else Q := ifT (fun h => h1 (of_decide_eq_true h)) (fun h => h2 (of_decide_eq_false h))
theorem ifN {a b : Int} {P Q : Prop} (h1 : a ≠ b → P) (h2 : a = b → Q) : if (a != b) = true then P else Q := ifT (fun h => h1 (by simpa using h)) (fun h => h2 (by simpa using h))
theorem IntMulOk.small_l {a b : Int} (h : a.natAbs < 2 ^ 62) : IntMulOk a b := IntMulOk.of_left (intBits_le_64 (by omega) (by omega))
theorem boot_abs : bootBuiltins "abs" = some (.builtin "abs") := by decide +kernel
theorem boot_len : bootBuiltins "len" = some (.builtin "len") := by decide +kernel
theorem boot_divmod : bootBuiltins "divmod" = some (.builtin "divmod") := by decide +kernel
theorem boot_min : bootBuiltins "min" = some (.builtin "min") := by decide +kernel
theorem boot_max : bootBuiltins "max" = some (.builtin "max") := by decide +kernel
theorem boot_sorted : bootBuiltins "sorted" = some (.builtin "sorted") := by decide +kernel
theorem boot_range : bootBuiltins "range" = some (.type "range") := by decide +kernel
theorem boot_int : bootBuiltins "int" = some (.type "int") := by decide +kernel
theorem boot_str : bootBuiltins "str" = some (.type "str") := by decide +kernel
theorem boot_type : bootBuiltins "type" = some (.type "type") := by decide +kernel
section
variable {C : CX} {S : AS} {Φ : AV → Prop} {fp pos : Pos} {args : List Expr}
theorem Ev_abs (hx : C.env.kindOf "abs" = some .globalImplicit) (h : Evs C S args fun avs => CallB C (.builtin "abs") avs Φ) (ha : ∃ x r, starEach args C.env = (false, x) :: r ∧ (starEach args C.env).any (·.1) = false := by exact ⟨_, _, rfl, rfl⟩) :
    Ev C S (.Call (.Name "abs" fp) args [] pos) Φ := Ev_callB (C.g.nob _ (by decide)) boot_abs hx h ha
theorem Ev_len (hx : C.env.kindOf "len" = some .globalImplicit) (h : Evs C S args fun avs => CallB C (.builtin "len") avs Φ) (ha : ∃ x r, starEach args C.env = (false, x) :: r ∧ (starEach args C.env).any (·.1) = false := by exact ⟨_, _, rfl, rfl⟩) :
    Ev C S (.Call (.Name "len" fp) args [] pos) Φ := Ev_callB (C.g.nob _ (by decide)) boot_len hx h ha
theorem Ev_divmod (hx : C.env.kindOf "divmod" = some .globalImplicit) (h : Evs C S args fun avs => CallB C (.builtin "divmod") avs Φ) (ha : ∃ x r, starEach args C.env = (false, x) :: r ∧ (starEach args C.env).any (·.1) = false := by exact ⟨_, _, rfl, rfl⟩) :
    Ev C S (.Call (.Name "divmod" fp) args [] pos) Φ := Ev_callB (C.g.nob _ (by decide)) boot_divmod hx h ha
theorem Ev_min (hx : C.env.kindOf "min" = some .globalImplicit) (h : Evs C S args fun avs => CallB C (.builtin "min") avs Φ) (ha : ∃ x r, starEach args C.env = (false, x) :: r ∧ (starEach args C.env).any (·.1) = false := by exact ⟨_, _, rfl, rfl⟩) :
    Ev C S (.Call (.Name "min" fp) args [] pos) Φ := Ev_callB (C.g.nob _ (by decide)) boot_min hx h ha
theorem Ev_max (hx : C.env.kindOf "max" = some .globalImplicit) (h : Evs C S args fun avs => CallB C (.builtin "max") avs Φ) (ha : ∃ x r, starEach args C.env = (false, x) :: r ∧ (starEach args C.env).any (·.1) = false := by exact ⟨_, _, rfl, rfl⟩) :
    Ev C S (.Call (.Name "max" fp) args [] pos) Φ := Ev_callB (C.g.nob _ (by decide)) boot_max hx h ha
theorem Ev_sorted (hx : C.env.kindOf "sorted" = some .globalImplicit) (h : Evs C S args fun avs => CallB C (.builtin "sorted") avs Φ) (ha : ∃ x r, starEach args C.env = (false, x) :: r ∧ (starEach args C.env).any (·.1) = false := by exact ⟨_, _, rfl, rfl⟩) :
    Ev C S (.Call (.Name "sorted" fp) args [] pos) Φ := Ev_callB (C.g.nob _ (by decide)) boot_sorted hx h ha
theorem Ev_range (hx : C.env.kindOf "range" = some .globalImplicit) (h : Evs C S args fun avs => CallB C (.type "range") avs Φ) (ha : ∃ x r, starEach args C.env = (false, x) :: r ∧ (starEach args C.env).any (·.1) = false := by exact ⟨_, _, rfl, rfl⟩) :
    Ev C S (.Call (.Name "range" fp) args [] pos) Φ := Ev_callT (C.g.nob _ (by decide)) boot_range hx h ha
theorem Ev_int (hx : C.env.kindOf "int" = some .globalImplicit) (h : Evs C S args fun avs => CallB C (.type "int") avs Φ) (ha : ∃ x r, starEach args C.env = (false, x) :: r ∧ (starEach args C.env).any (·.1) = false := by exact ⟨_, _, rfl, rfl⟩) :
    Ev C S (.Call (.Name "int" fp) args [] pos) Φ := Ev_callT (C.g.nob _ (by decide)) boot_int hx h ha
theorem Ev_str (hx : C.env.kindOf "str" = some .globalImplicit) (h : Evs C S args fun avs => CallB C (.type "str") avs Φ) (ha : ∃ x r, starEach args C.env = (false, x) :: r ∧ (starEach args C.env).any (·.1) = false := by exact ⟨_, _, rfl, rfl⟩) :
    Ev C S (.Call (.Name "str" fp) args [] pos) Φ := Ev_callT (C.g.nob _ (by decide)) boot_str hx h ha
theorem Ev_type (hx : C.env.kindOf "type" = some .globalImplicit) (h : Evs C S args fun avs => CallB C (.type "type") avs Φ) (ha : ∃ x r, starEach args C.env = (false, x) :: r ∧ (starEach args C.env).any (·.1) = false := by exact ⟨_, _, rfl, rfl⟩) :
    Ev C S (.Call (.Name "type" fp) args [] pos) Φ := Ev_callT (C.g.nob _ (by decide)) boot_type hx h ha
theorem Ev_ty_int (hx : C.env.kindOf "int" = some .globalImplicit) (h : Φ (.ty "int")) : Ev C S (.Name "int" pos) Φ := Ev_boot (av := .ty "int") (C.g.nob _ (by decide)) boot_int hx (fun _ _ => rfl) h
end
theorem AS.le_of {S S' : AS} (h : ∀ p ∈ S'.vs, S.vs.lookup p.1 = some p.2) (ho : S.own = S'.own) : S.le S' := ⟨fun x av e => h (x, av) (mem_of_lookup e), ho⟩
-- one step of the walk
local macro_rules | `(tactic| walk_at "mw") => `(tactic| first
  | refine Ex_cons ?_
  | refine Ex_nil ?_
  | refine ExS_assign ?_ ⟨.inl rfl, by first | exact trivial | exact rfl⟩
  | refine ExS_assign ?_ ⟨.inr ⟨rfl, rfl⟩, by first | exact trivial | exact rfl⟩
  | refine ExS_return ?_
  | refine ExS_if ?_
  | refine ExS_swap2 ?_ ⟨.inl rfl, by first | exact trivial | exact rfl⟩ ⟨.inl rfl, by first | exact trivial | exact rfl⟩
  | refine ExS_unpack2 ?_ ⟨.inl rfl, by first | exact trivial | exact rfl⟩ ⟨.inl rfl, by first | exact trivial | exact rfl⟩
  | refine ExS_aug rfl ?_ ⟨.inl rfl, by first | exact trivial | exact rfl⟩
  | refine Ev_const_int ?_
  | refine Ev_const_bool ?_
  | refine Ev_const_str ?_
  | refine Ev_const_none ?_
  | refine Ev_name rfl ?_
  | refine Ev_bin ?_
  | refine Ev_una ?_
  | refine Ev_cmp ?_
  | refine Ev_tuple ?_
  | refine Ev_list ?_
  | refine Ev_ifexp ?_
  | refine Evs_cons ?_
  | refine Evs_nil ?_
  | refine Tst_cmp ?_
  | refine Tst_not ?_
  | refine Tst_boolop ?_
  | refine Tsts_and_cons ?_
  | refine Tsts_and_nil ?_
  | refine Tsts_or_cons ?_
  | refine Tsts_or_nil ?_
  | refine Bin_add ?_
  | refine Bin_sub ?_
  | refine Bin_mul (IntMulOk.of_left (by decide)) ?_
  | refine Bin_mul (IntMulOk.of_right (by decide)) ?_
  | refine Bin_and ?_
  | refine Bin_add_bool ?_
  | refine Una_neg ?_
  | refine Una_not ?_
  | refine Cmp_eq ?_
  | refine Cmp_ne ?_
  | refine Cmp_lt ?_
  | refine Cmp_le ?_
  | refine Cmp_gt ?_
  | refine Cmp_ge ?_
  | refine Trt_bool ?_
  | refine Trt_int ?_
  | refine Ev_abs rfl ?_
  | refine Ev_len rfl ?_
  | refine Ev_divmod rfl ?_
  | refine Ev_isinstance rfl ?_
  | refine Ev_sum rfl ?_
  | refine Ev_min rfl ?_
  | refine Ev_max rfl ?_
  | refine Ev_sorted rfl ?_
  | refine Ev_range rfl ?_
  | refine Ev_int rfl ?_
  | refine Ev_str rfl ?_
  | refine Ev_type rfl ?_
  | refine Ev_ty_int rfl ?_
  | refine Ev_ty_bool rfl ?_
  | refine CallB_abs ?_
  | refine CallB_divmod (by first | assumption | omega) ?_
  | refine Bin_fdiv (by first | assumption | omega | decide) ?_
  | refine Bin_mod (by first | assumption | omega | decide) ?_
  | refine Bin_shr (by first | assumption | omega | decide) ?_
  | refine CallB_len (by first | assumption | omega | decide) ?_
  | (refine ⟨_, _, rfl, ?_⟩)
  | refine CallB_isint ?_
  | refine CallB_isbool ?_
  | refine CallB_range1 ?_
  | refine CallB_range2 ?_
  | refine CallB_range3 (by decide) ?_
  | refine CallB_max ?_
  | refine CallB_min ?_
  | refine CallB_int ?_
  | refine CallB_sum ?_
  | refine IBin_add ?_
  | refine IBin_sub ?_
  | refine Tst_val ?_)
local macro_rules | `(tactic| walk_at "le") => `(tactic| (refine AS.le_of ?_ rfl; repeat (first | (refine List.forall_mem_cons.mpr ⟨rfl, ?_⟩) | exact List.forall_mem_nil _)))
variable {C : CX} {S : AS} {Φ : AV → Prop} {Ψ : AFl → AS → Prop}

/-- the frame of a comprehension -/
abbrev CX.comp (C : CX) (scope : Scope) (cl : List (Str × Addr)) (a : Addr) : CX := { C with env := compEnvC scope cl a C.env }
/-- a comprehension's tests -/
def CTst (C : CX) (S : AS) (ifs : List Expr) (b : Bool) : Prop := match ifs with
  | [] => b = true
  | [e] => Tst C S e fun c => c = b
  | _ => False

/-- what a comprehension takes from without -/
def Caps (C : CX) (S : AS) (scope : Scope) (cl : List (Str × Addr)) (x : Str) (caps : AM) : Prop :=
  ∀ p ∈ caps, S.vs.lookup p.1 = some p.2 ∧ C.env.kindOf p.1 = some .cell ∧ (relabel scope C.env).names.lookup p.1 = some .cell ∧ cl.lookup p.1 = C.env.cells.lookup p.1 ∧ (p.1 == x) = false

/-- the parts of a comprehension over ints -/
structure CompIn (C : CX) (S : AS) (scope : Scope) (cl : List (Str × Addr)) (x : Str) (caps : AM) (ifs : List Expr) (elt : Expr) (ns : List Int) (c : Int → Bool) (f : Int → Int) : Prop where
  capt : Caps C S scope cl x caps
  tests : ∀ n ∈ ns, ∀ a, CTst (C.comp scope cl a) ⟨(x, .int n) :: caps, none⟩ ifs (c n)
  elts : ∀ n ∈ ns, c n = true → ∀ a, Ev (C.comp scope cl a) ⟨(x, .int n) :: caps, none⟩ elt fun v => v = .int (f n)

theorem lookup_caps {x y : Str} {av : AV} {n : Int} {caps : AM} (e : ((x, AV.int n) :: caps).lookup y = some av) : (y = x ∧ av = .int n) ∨ ((y, av) ∈ caps) := by
  rw [List.lookup_cons] at e
  cases hb : y == x with
  | true => rw [hb] at e; cases e; exact .inl ⟨beq_iff_eq.mp hb, rfl⟩
  | false => rw [hb] at e; exact .inr (mem_of_lookup e)

theorem CX.Ok.comp (ok : C.Ok) {scope : Scope} {cl : List (Str × Addr)} {a : Addr} (hk : scope.kind = .function) : (C.comp scope cl a).Ok := ⟨ok.room, hk, ok.glob, ok.blt, ok.seer⟩

/-- the quiet parts, as the library wants them -/
theorem comp_quiet {scope : Scope} {cl : List (Str × Addr)} {x : Str} {caps : AM} {ifs : List Expr} {elt : Expr} {ns : List Int} {c : Int → Bool} {f : Int → Int} {X : List Addr} {h₁ : Heap} {o : Obj} {P : Nat → Value → Prop} {s₂ : Shared}
    (ok : C.Ok) (hk : scope.kind = .function) (hx : scope.names.lookup x = some .local) (hin : CompIn C S scope cl x caps ifs elt ns c f) (p : PG C.g h₁) (xi : XIn X h₁) (rs : RelS C.env X h₁ S) (hs₂ : s₂.heap = h₁.push o)
    (hP : ∀ i v, P i v → ∃ n t, ns[i]? = some n ∧ v = .int n t) :
    QuietOnC C.g.prog C.g.w C.A C.env scope cl x ifs elt [h₁.objs.size] P (fun v => match v with | .int n _ => c n | _ => false) (fun v y => ∃ n t u, v = .int n t ∧ y = .int (f n) u) s₂ := by
  have old : ∀ s₃ : Shared, (∀ b o, b ∉ [h₁.objs.size] → s₂.heap.get? b = some o → s₃.heap.get? b = some o) → StIn h₁ s₃.heap := fun s₃ hk b o' e => by
    refine hk b o' ?_ (by rw [hs₂]; exact Heap.get?_push_of_some _ e)
    intro hm
    have := Heap.lt_size e
    rw [List.mem_singleton.mp hm] at this
    exact Nat.lt_irrefl _ this
  have relS : ∀ (a : Addr) (n : Int) (t : Tok) (s₃ : Shared) (m₃ : Str → Option Value), StIn h₁ s₃.heap → s₃.heap.Ns a m₃ → m₃ x = some (.int n t) → RelS (C.comp scope cl a).env X s₃.heap ⟨(x, .int n) :: caps, none⟩ := by
    intro a n t s₃ m₃ st hn hm
    refine ⟨fun y av e => ?_, fun _ _ e => by cases e⟩
    rcases lookup_caps e with ⟨rfl, rfl⟩ | hmem
    · exact ⟨.int n t, .inl ⟨lookup_relabel_local hx, m₃, hn, hm⟩, ⟨t, rfl⟩⟩
    · obtain ⟨h1, h2, h3, h4, _⟩ := hin.capt _ hmem
      obtain ⟨v, hr, hv⟩ := rs.1 y av h1
      rcases hr with ⟨hk', _⟩ | ⟨_, c', hc', hcell⟩
      · have h2' : C.env.kindOf y = some .cell := h2
        rw [h2'] at hk'; cases hk'
      · exact ⟨v, .inr ⟨.inl h3, c', by rw [← hc']; exact h4, hcell.keeps st⟩, hv.st st⟩
  constructor
  · intro a i v s₃ m₃ E' ha hPv hn hm hkp _
    obtain ⟨n, t, hni, rfl⟩ := hP i v hPv
    have st := old s₃ hkp
    have hT := hin.tests n (List.mem_of_getElem? hni) a
    unfold CTst at hT
    split at hT
    · exact wpAny_tests_nil ⟨hT.symm, ⟨s₃.heap, s₃.toks, rfl, fun _ _ e => e⟩⟩
    · refine wpAny_tests_one (hT.go (ok.comp hk) X s₃ _ E' (p.st st) (xi.st st) (relS a n t s₃ m₃ st hn hm) fun b h' tk st' e => ⟨e, ⟨h', tk, rfl, st'⟩⟩)
    · exact hT.elim
  · intro a i v s₃ m₃ E' ha hPv hpv hn hm hkp _
    obtain ⟨n, t, hni, rfl⟩ := hP i v hPv
    have st := old s₃ hkp
    exact (hin.elts n (List.mem_of_getElem? hni) hpv a).go (ok.comp hk) X s₃ _ E' (p.st st) (xi.st st) (relS a n t s₃ m₃ st hn hm) fun av w h' tk st' rv e => by
      subst e
      obtain ⟨u, rfl⟩ := rv
      exact ⟨⟨n, t, u, rfl, rfl⟩, ⟨h', tk, rfl, st'⟩⟩

theorem comp_ends {ns : List Int} {c : Int → Bool} {f : Int → Int} {P : Nat → Value → Prop} {vs ys : List Value} (hP : ∀ i v, P i v → ∃ n t, ns[i]? = some n ∧ v = .int n t) (hlen : vs.length = ns.length) (hvs : ∀ (j : Nat) v, vs[j]? = some v → P j v)
    (hF : Paired (fun v y => ∃ n t u, v = Value.int n t ∧ y = Value.int (f n) u) (vs.filter fun v => match v with | .int n _ => c n | _ => false) ys) : IntsAre ys ((ns.filter c).map f) := by
  have hall : ∀ v, v ∈ vs → ∃ a t, v = Value.int a t := fun v hv => by
    obtain ⟨j, hj⟩ := List.mem_iff_getElem?.mp hv
    obtain ⟨n, t, _, e⟩ := hP j v (hvs j v hj)
    exact ⟨n, t, e⟩
  obtain ⟨h1, h2⟩ := paired_ints c f vs ys hall hF
  have hI : ∀ (ns : List Int) (vs : List Value), vs.length = ns.length → (∀ (j : Nat) v, vs[j]? = some v → ∃ n t, ns[j]? = some n ∧ v = .int n t) → IntsAre vs ns := by
    intro ns
    induction ns with
    | nil => intro vs hl _; rw [List.length_eq_zero_iff.mp hl]; exact .nil
    | cons n ns ih =>
      intro vs hl hv
      cases vs with
      | nil => simp at hl
      | cons v vs =>
        obtain ⟨n', t, e1, e2⟩ := hv 0 v rfl
        obtain rfl : n = n' := by simpa using e1
        rw [e2]
        exact .cons n t (ih vs (by simpa using hl) fun j w hw => by simpa using hv (j + 1) w (by simpa using hw))
  have hvI := hI ns vs hlen fun j v hj => hP j v (hvs j v hj)
  rw [hvI.numsOf] at h2
  have hyI : ∀ ys : List Value, (∀ y, y ∈ ys → ∃ b u, y = Value.int b u) → IntsAre ys (numsOf ys) := by
    intro ys
    induction ys with
    | nil => intro _; exact .nil
    | cons y ys ih =>
      intro hy
      obtain ⟨b, u, rfl⟩ := hy y List.mem_cons_self
      exact .cons b u (ih fun z hz => hy z (List.mem_cons_of_mem _ hz))
  rw [← h2]
  exact hyI ys h1

theorem itr_ints {X : List Addr} {ns : List Int} {I : Addr} {h₀ : Heap} {fp : List Addr} {P : Nat → Value → Prop} {St : Nat → Heap → Prop} (it : Itr C X (IL ns) I h₀ fp P St) : ∀ i v, P i v → ∃ n t, ns[i]? = some n ∧ v = .int n t := by
  intro i v hP
  obtain ⟨av, h1, h2⟩ := it.item i v hP
  rw [List.getElem?_map] at h1
  cases hn : ns[i]? with
  | none => rw [hn] at h1; cases h1
  | some n =>
    rw [hn] at h1; cases h1
    obtain ⟨t, rfl⟩ := h2
    exact ⟨n, t, rfl, rfl⟩

/-- a list comprehension over ints -/
theorem Ev_comp {elt iter : Expr} {x : Str} {px pos : Pos} {ifs : List Expr} {scope : Scope} {cl : List (Str × Addr)} (caps : AM) (c : Int → Bool) (f : Int → Int)
    (hclos : closureFor scope C.env = pure cl)
    (h : Ev C S iter fun av => ∃ ns : List Int, Items av (IL ns) ∧ ns.length ≤ 2 ^ 20 ∧ CompIn C S scope cl x caps ifs elt ns c f ∧ Φ (.lst (IL ((ns.filter c).map f))))
    (hcell : ∀ y ∈ scope.names, y.2 ≠ .cell := by decide) (hkind : scope.kind = .function := by rfl)
    (hnames : ∀ y ∈ scope.names, y.2 = .local → scope.names.lookup y.1 = some .local := by decide) (hx : scope.names.lookup x = some .local := by rfl)
    (hs : ∀ x, foldedSetIterable iter C.env x = pure x := by intro _; rfl) : Ev C S (.ListComp elt [⟨.Name x px, iter, ifs, 0⟩] scope pos) Φ := by
  refine ⟨fun ok X s Q E p xi rs k => ?_⟩
  refine wpAny_ListComp_free (fun v => match v with | .int n _ => c n | _ => false) (fun v y => ∃ n t u, v = .int n t ∧ y = .int (f n) u) hclos hcell hkind hnames hx
    (h.go ok X s _ E p xi rs fun av v h₁ t₁ st₁ rv hyp => ?_) hs
  obtain ⟨ns, hit, hlen, hin, φ⟩ := hyp
  refine iter_go ok hit rv fun fp P St o itr hfree => ?_
  have hP := itr_ints itr
  have hI : St 0 (h₁.push o) := itr.start
  have st₂ : StIn s.heap (h₁.push o) := st₁.trans (StIn.push _ _)
  refine ⟨h₁.objs.size, fp, [h₁.objs.size], (IL ns).length, P, St, rfl, itr.walk, ?_, hI, ?_, comp_quiet (s₂ := { s with heap := h₁.push o, toks := t₁ }) ok hkind hx hin (p.st st₁) (xi.st st₁) (rs.st st₁) rfl hP, fun D h' tk ys vs hD hl hpl hvl hvP hF hkp => ?_⟩
  · rw [List.length_map, sizeLine_eq]; omega
  · intro b hb
    rcases itr.fps b hb with rfl | ⟨_, o', ho', _⟩ | ⟨o', ho', _⟩
    · show h₁.objs.size < (h₁.push o).objs.size
      rw [Heap.size_push]; exact Nat.lt_succ_self _
    · exact Heap.lt_size ho'
    · exact Heap.lt_size ho'
  · have stE : StIn s.heap h' := fun b o' e => hkp b o' (fun hm => by
      have h2 := Heap.lt_size (st₁ _ _ e)
      rw [List.mem_singleton.mp hm] at h2
      exact Nat.lt_irrefl _ h2) (st₂ _ _ e)
    have hi := comp_ends (ys := ys.toList) hP (by rw [hvl, List.length_map]) hvP hF
    exact k (.lst (IL ((ns.filter c).map f))) _ h' tk stE ⟨D, ys.toList, rfl, (xi.st st₂).none hD, hl, RelVs.of_ints hi⟩ φ

/-- the same, stored in a name at once (the stores exchanged) -/
theorem ExS_compAssign {elt iter : Expr} {x y : Str} {px py pos spos : Pos} {ifs : List Expr} {scope : Scope} {cl : List (Str × Addr)} (caps : AM) (c : Int → Bool) (f : Int → Int)
    (hclos : closureFor scope C.env = pure cl)
    (h : Ev C S iter fun av => ∃ ns : List Int, Items av (IL ns) ∧ ns.length ≤ 2 ^ 20 ∧ CompIn C S scope cl x caps ifs elt ns c f ∧ Ψ .next (S.set y (.lst (IL ((ns.filter c).map f)))))
    (hy : C.env.kindOf y = some .local) (hoff : S.off y)
    (hsw : swapsWith (.ListComp elt [⟨.Name x px, iter, ifs, 0⟩] scope pos) (some (.Name y py)) spos.line C.env = pure true := by rfl)
    (hcell : ∀ y ∈ scope.names, y.2 ≠ .cell := by decide) (hkind : scope.kind = .function := by rfl)
    (hnames : ∀ y ∈ scope.names, y.2 = .local → scope.names.lookup y.1 = some .local := by decide) (hx : scope.names.lookup x = some .local := by rfl)
    (hs : ∀ x, foldedSetIterable iter C.env x = pure x := by intro _; rfl) : ExS C S (.Assign [.Name y py] (.ListComp elt [⟨.Name x px, iter, ifs, 0⟩] scope pos) spos) Ψ := by
  refine ⟨fun ok s₀ X₀ β s Q p F k => ?_⟩
  refine wpAny_Assign_ListComp_free (fun v => match v with | .int n _ => c n | _ => false) (fun v y => ∃ n t u, v = .int n t ∧ y = .int (f n) u) hsw hclos hcell hkind hnames hx hy (by rw [ok.kind]; rfl)
    (h.go ok _ s _ _ (p.st F.keep) F.xinh F.relS fun av v h₁ t₁ st₁ rv hyp => ?_) hs
  obtain ⟨ns, hit, hlen, hin, ψ⟩ := hyp
  refine iter_go ok hit rv fun fp P St o itr hfree => ?_
  have hP := itr_ints itr
  have hI : St 0 (h₁.push o) := itr.start
  have st₂ : StIn s.heap (h₁.push o) := st₁.trans (StIn.push _ _)
  have F₂ := F.st (tk := t₁) st₂
  obtain ⟨m, cm, ic⟩ := F₂.call
  have hLlt : C.env.locals < h₁.objs.size := by
    obtain ⟨m', cm', ic'⟩ := (F.st (tk := t₁) st₁).call
    exact ic'.toInCall.ns.lt
  refine ⟨h₁.objs.size, fp, [h₁.objs.size], (IL ns).length, P, St, m, rfl, itr.walk, ?_, hI, ?_, ?_, ic.toInCall.ns, comp_quiet (s₂ := { s with heap := h₁.push o, toks := t₁ }) ok hkind hx hin ((p.st F.keep).st st₁) (F.xinh.st st₁) (F.relS.st st₁) rfl hP, fun D h' tk ys vs hD hl hpl hvl hvP hF hns hkp => ?_⟩
  · rw [List.length_map, sizeLine_eq]; omega
  · intro b hb
    rcases itr.fps b hb with rfl | ⟨_, o', ho', _⟩ | ⟨o', ho', _⟩
    · show h₁.objs.size < (h₁.push o).objs.size
      rw [Heap.size_push]; exact Nat.lt_succ_self _
    · exact Heap.lt_size ho'
    · exact Heap.lt_size ho'
  · intro hm; rw [List.mem_singleton.mp hm] at hLlt; exact Nat.lt_irrefl _ hLlt
  · have hi := comp_ends (ys := ys.toList) hP (by rw [hvl, List.length_map]) hvP hF
    have kp : ∀ b o', b ≠ C.env.locals → s.heap.get? b = some o' → h'.get? b = some o' := fun b o' hb e => hkp b o' hb (fun hm => by
      have h2 := Heap.lt_size (st₁ _ _ e)
      rw [List.mem_singleton.mp hm] at h2
      exact Nat.lt_irrefl _ h2) (st₂ _ _ e)
    have valL : ∀ a o, isVal o → s.heap.get? a = some o → a ≠ C.env.locals := by
      rintro a o hv e rfl
      obtain ⟨m, o', es, ep, ho', hd, _⟩ := F.ffr.loc
      rw [e] at ho'; cases ho'
      rcases hv with ⟨xs, n, q⟩ | ⟨_, fs, q⟩ <;> rw [hd] at q <;> cases q
    have vk : ∀ X, VKeep X s.heap h' := fun X => ⟨fun a o _ hv e => kp a o (valL a o hv e) e, fun a o hv _ e => kp a o (valL a o hv e) e⟩
    obtain ⟨m₀, cm₀, ic₀⟩ := F.call
    have hm : m = m₀ := Ns.uniq ic.toInCall.ns (ic₀.toInCall.ns.keeps st₂)
    subst hm
    have hrd : ∀ z w, (z == y) = false → Rd C.env s.heap z w → Rd C.env h' z w := by
      rintro z w hz (⟨hk, m', hn, hw⟩ | ⟨hk, c', hc', hw⟩)
      · refine .inl ⟨hk, _, hns, ?_⟩
        rw [Ns.uniq hn ic₀.toInCall.ns] at hw
        show (if z = y then some (Value.ref D) else m z) = some w
        rw [if_neg (by intro e; rw [e] at hz; simp at hz)]; exact hw
      · obtain ⟨oc, hoc, hdc⟩ := hw
        exact .inr ⟨hk, c', hc', oc, kp _ _ (Nat.ne_of_gt (ic₀.above z c' (mem_of_lookup hc'))) hoc, hdc⟩
    have hDn : s.heap.get? D = none := by
      cases e : s.heap.get? D with
      | none => rfl
      | some o' => have hD' : (h₁.push o).get? D = none := hD; rw [st₂ _ _ e] at hD'; cases hD'
    refine k .next .next _ β h' tk ⟨⟨_, cm₀, ⟨⟨?_, hns, fun b o' e => kp b o' (Nat.ne_of_lt (Nat.lt_of_lt_of_le (Heap.lt_size e) ic₀.toInCall.fresh)) (ic₀.toInCall.keep b o' e), ic₀.toInCall.fresh⟩, fun z a e => ?_, ic₀.apart, ic₀.above⟩⟩, ?_, ?_, F.xin⟩
      (fun a o' h1 _ _ e => kp a o' h1 e) (.refl _ _) rfl ψ
    · obtain ⟨h₀, t₀, e⟩ := F.same
      exact ⟨h', tk, by rw [e]⟩
    · obtain ⟨oc, hoc, hdc⟩ := ic₀.cell z a e
      exact ⟨oc, kp _ _ (Nat.ne_of_gt (ic₀.above z a (mem_of_lookup e))) hoc, hdc⟩
    · intro z aw e
      simp only [AS.set, List.lookup_cons] at e
      cases hb : z == y with
      | true =>
        rw [hb] at e; cases e
        rw [beq_iff_eq.mp hb]
        exact ⟨.ref D, .inl ⟨hy, _, hns, by simp⟩, ⟨D, ys.toList, rfl, F.xinh.none hDn, hl, RelVs.of_ints hi⟩⟩
      | false =>
        rw [hb] at e
        obtain ⟨w, h1, h2⟩ := F.vars z aw e
        exact ⟨w, hrd z w hb h1, h2.keep (vk _)⟩
    · have h := F.own
      show OwnOk C s₀ X₀ h' S.own β
      cases ho : S.own with
      | none => rw [ho] at h; cases β with | none => trivial | some _ => exact h
      | some q =>
        obtain ⟨z, l⟩ := q
        rw [ho] at h
        cases β with
        | none => exact h
        | some b =>
          obtain ⟨⟨vs, ow⟩, h1⟩ := h
          unfold AS.off at hoff
          rw [ho] at hoff
          obtain ⟨n, hb⟩ := ow.lst
          exact ⟨⟨vs, hrd z _ hoff ow.rd, ow.inX, ⟨n, kp _ _ (valL _ _ (.inl ⟨_, n, rfl⟩) hb) hb⟩, ow.rel.keep (vk _)⟩, h1⟩
variable {C : CX} {S : AS} {Φ : AV → Prop} {Ψ : AFl → AS → Prop}

-- reads of the own list
-- lists of ints compared
theorem ne_lists {A : Around} {s : Shared} {prog : Program} {w : World} {Q : Value → Shared → Prop} {E : Value → Shared → Prop} {a b : Addr} {va vb : List Value} {la lb : List Int} (hu : A.units < cLine) (ha : s.heap.IsList a va.toArray) (hb : s.heap.IsList b vb.toArray) (ia : IntsAre va la) (ib : IntsAre vb lb)
    (h : Q (.bool (decide (la ≠ lb))) s) : wpAny (model prog w) A (compareOp .NotEq (.ref a) (.ref b)) Q E s := by
  show wpAny _ _ (richCompare .NotEq (.ref a) (.ref b)) Q E s
  have l1 : va.length = la.length := ia.length
  have l2 : vb.length = lb.length := ib.length
  by_cases hl : va.length = vb.length
  · have hN := SeqAt.RcNeAt.lists (A := A) (s := s) (e := fun j => la.getD j 0 == lb.getD j 0) ha hb (by simpa using hl) hu (fun j h1 h2 => by
      have j1 : j < la.length := by rw [← l1]; simpa using h1
      have j2 : j < lb.length := by rw [← l2]; simpa using h2
      obtain ⟨t, ht⟩ := ia.get j la[j] (by simp)
      obtain ⟨u, hu'⟩ := ib.get j lb[j] (by simp)
      have e1 : va.toArray[j] = .int la[j] t := by
        have : va[j]? = some (va.toArray[j]) := by simp
        rw [ht] at this; exact (Option.some.inj this).symm
      have e2 : vb.toArray[j] = .int lb[j] u := by
        have : vb[j]? = some (vb.toArray[j]) := by simp
        rw [hu'] at this; exact (Option.some.inj this).symm
      rw [e1, e2]
      have g1 : la.getD j 0 = la[j] := by simp [j1]
      have g2 : lb.getD j 0 = lb[j] := by simp [j2]
      simp only [g1, g2]
      exact SeqAt.EqAt.int_int la[j] t lb[j] u)
    refine hN _ _ _ _ ?_
    have e : (!(List.range va.toArray.size).all fun j => la.getD j 0 == lb.getD j 0) = decide (la ≠ lb) := by
      rw [Bool.eq_iff_iff, Bool.not_eq_true', decide_eq_true_eq, List.all_eq_false]
      constructor
      · rintro ⟨j, hj, hne⟩ rfl; simp at hne
      · intro hne
        apply Classical.byContradiction
        intro hall
        apply hne
        apply List.ext_getElem
        · omega
        · intro j j1 j2
          apply Classical.byContradiction
          intro hj
          exact hall ⟨j, by simp [l1, j1], by simp [j1, j2, hj]⟩
    rw [e]; exact h
  · have hN := SeqAt.RcNeAt.lists_lengths (A := A) (s := s) ha hb (by simpa using hl) hu
    refine hN _ _ _ _ ?_
    have e : decide (la ≠ lb) = true := decide_eq_true fun e => hl (by rw [l1, l2, e])
    rw [e] at h; exact h
theorem Cmp_neL {la lb : List Int} (h : Φ (.bool (decide (la ≠ lb)))) : Cmp C .NotEq (.lst (IL la)) (.lst (IL lb)) Φ := by
  refine ⟨?_⟩
  rintro ok X s va vb Q E p xi ⟨a, vs, rfl, hax, hl, hr⟩ ⟨a', vs', rfl, hax', hl', hr'⟩ k
  exact ne_lists (by have := ok.room.units; omega) hl hl' hr.ints hr'.ints (k (.bool _) _ s.heap s.toks (StIn.refl _) rfl h)

/-- an expression whose ways meet -/
theorem Ev_cut {e : Expr} (P : AV → Prop) (h1 : Ev C S e P) (h2 : ∀ v, P v → Φ v) : Ev C S e Φ := h1.mono h2
/-- the nearest quotient, a half to the even one -/
def dn (a b : Int) : Int := a / b + if b < 2 * (a % b) + (a / b) % 2 then 1 else 0

theorem dn_spec {a b : Int} (hb : 0 < b) : -b ≤ 2 * (a - b * dn a b) ∧ 2 * (a - b * dn a b) ≤ b ∧ (2 * (a - b * dn a b) = b → dn a b % 2 = 0) ∧ (2 * (a - b * dn a b) = -b → dn a b % 2 = 0) := by
  have h1 := Int.mul_ediv_add_emod a b
  have h2 := Int.emod_nonneg a (show b ≠ 0 by omega)
  have h3 := Int.emod_lt_of_pos a hb
  unfold dn
  generalize a / b = q at *
  generalize a % b = r at *
  have h4 : q % 2 = 0 ∨ q % 2 = 1 := by omega
  split
  · rename_i h
    have e : b * (q + 1) = b * q + b := by rw [Int.mul_add, Int.mul_one]
    rw [e]
    generalize b * q = m at *
    refine ⟨by omega, by omega, fun _ => by omega, fun _ => by omega⟩
  · rename_i h
    rw [Int.add_zero]
    generalize b * q = m at *
    refine ⟨by omega, by omega, fun _ => by omega, fun _ => by omega⟩

theorem dn_uniq {a b q : Int} (hb : 0 < b) (h1 : -b ≤ 2 * (a - b * q)) (h2 : 2 * (a - b * q) ≤ b) (h3 : 2 * (a - b * q) = b → q % 2 = 0) (h4 : 2 * (a - b * q) = -b → q % 2 = 0) : dn a b = q := by
  have s := dn_spec (a := a) hb
  generalize dn a b = p at *
  obtain ⟨s1, s2, s3, s4⟩ := s
  have hd : p = q ∨ p ≤ q - 1 ∨ q + 1 ≤ p := by omega
  rcases hd with h | h | h
  · exact h
  · have e : b * p ≤ b * (q - 1) := Int.mul_le_mul_of_nonneg_left h (by omega)
    rw [Int.mul_sub, Int.mul_one] at e
    by_cases hq : p = q - 1
    · subst hq
      have e' : b * (q - 1) = b * q - b := by rw [Int.mul_sub, Int.mul_one]
      rw [e'] at s1 s2 s3 s4
      generalize b * q = m at *
      omega
    · have e2 : b * p ≤ b * (q - 2) := Int.mul_le_mul_of_nonneg_left (by omega) (by omega)
      rw [Int.mul_sub] at e2
      generalize b * q = m at *
      generalize b * p = n at *
      omega
  · have e : b * (q + 1) ≤ b * p := Int.mul_le_mul_of_nonneg_left h (by omega)
    rw [Int.mul_add, Int.mul_one] at e
    by_cases hq : p = q + 1
    · subst hq
      have e' : b * (q + 1) = b * q + b := by rw [Int.mul_add, Int.mul_one]
      rw [e'] at s1 s2 s3 s4
      generalize b * q = m at *
      omega
    · have e2 : b * (q + 2) ≤ b * p := Int.mul_le_mul_of_nonneg_left (by omega) (by omega)
      rw [Int.mul_add] at e2
      generalize b * q = m at *
      generalize b * p = n at *
      omega

theorem dn_zero {b : Int} (hb : 0 < b) : dn 0 b = 0 := by
  refine dn_uniq hb ?_ ?_ ?_ ?_ <;> simp <;> omega
theorem dn_mul {a b : Int} (hb : 0 < b) : dn (b * a) b = a := by
  refine dn_uniq hb ?_ ?_ ?_ ?_ <;> omega

/-- what _div_nearest gives, as the walk tells it -/
theorem dn_walk {a b : Int} (hb : 0 < b) : (a.fdiv b + if decide (b < 2 * a.fmod b + Builtin.bitAnd (a.fdiv b) 1) = true then (1 : Int) else 0) = dn a b := by
  unfold dn
  rw [Int.fdiv_eq_ediv_of_nonneg _ (by omega), Int.fmod_eq_emod_of_nonneg _ (by omega), bitAnd_m1]
  simp
theorem dn_walkS {a : Int} {k : Nat} : (a.fdiv (2 ^ k) + if decide ((2 : Int) ^ k < 2 * Builtin.bitAnd a (2 ^ k - 1) + Builtin.bitAnd (a.fdiv (2 ^ k)) 1) = true then (1 : Int) else 0) = dn a (2 ^ k) := by
  have h : (0 : Int) < 2 ^ k := Int.pow_pos (by decide)
  rw [kbt_maskF]; exact dn_walk h

-- sizes
open Builtin.Int (intBits)
theorem bits_lt {x : Int} {m : Nat} (h : intBits x ≤ m) : x.natAbs < 2 ^ m := intBits_le_iff.mp h
theorem lt_bits {x : Int} {m : Nat} (h : x.natAbs < 2 ^ m) : intBits x ≤ m := intBits_le_iff.mpr h

-- slices
theorem rngL_get {a c : Int} {n i : Nat} {av : AV} (h : (rngL a c n)[i]? = some av) : i < n ∧ av = .int (a + i * c) := by
  unfold rngL at h
  rw [List.getElem?_map] at h
  by_cases hi : i < n
  · rw [List.getElem?_range hi] at h; cases h; exact ⟨hi, rfl⟩
  · rw [List.getElem?_eq_none (by simp; omega)] at h; cases h
theorem rngL_len {a c : Int} {n : Nat} : (rngL a c n).length = n := by simp [rngL]
theorem abs_if (x : Int) : (if x < 0 then -x else x) = (x.natAbs : Int) := by split <;> omega
set_option linter.unusedVariables false
local macro_rules | `(tactic| walk_at "mw") => `(tactic| first
  | refine ExS_aug rfl ?_ ⟨.inr ⟨rfl, rfl⟩, by first | exact trivial | exact rfl⟩)
local macro_rules | `(tactic| walk_at "cap") => `(tactic| repeat (first | exact List.forall_mem_nil _ | refine List.forall_mem_cons.mpr ⟨⟨rfl, rfl, rfl, rfl, rfl⟩, ?_⟩))
theorem rng_up (a b : Int) : Builtin.Range.rangeSize a b 1 = ((b - a).toNat : Int) := by
  unfold Builtin.Range.rangeSize; simp; omega
theorem Items_up (a b : Int) : Items (.rng a b 1) (IL ((List.range (b - a).toNat).map fun i : Nat => a + i)) := by
  have h := Items.rng a b 1 _ (rng_up a b)
  rw [show rngL a 1 (b - a).toNat = IL ((List.range (b - a).toNat).map fun i : Nat => a + i) from by simp [rngL]] at h
  exact h
set_option linter.unusedVariables false
-- the nearest whole root, and Newton's way to it
/-- r is the nearest whole root of n -/
structure Rt (n r : Int) : Prop where
  pos : 0 < r
  lo : r * (r - 1) < n
  hi : n ≤ r * (r + 1)
theorem Rt.uniq {n r q : Int} (h : Rt n r) (h' : Rt n q) : r = q := by
  have key : ∀ {a b : Int}, Rt n a → Rt n b → ¬ a < b := by
    intro a b h h' hl
    have h1 := h.hi
    have h2 := h'.lo
    have h3 : a * (a + 1) ≤ (b - 1) * b := Int.mul_le_mul (by omega) (by omega) (by have := h.pos; omega) (by have := h.pos; omega)
    rw [Int.mul_comm (b - 1)] at h3
    omega
  have := key h h'
  have := key h' h
  omega
/-- Newton's step -/
def ns1 (n a : Int) : Int := (a - (-n) / a) / 2
theorem ns1_c {n a : Int} (ha : 0 < a) (hn : 0 < n) : ∃ c : Int, ns1 n a = (a + c) / 2 ∧ n ≤ a * c ∧ a * (c - 1) < n ∧ 0 < c := by
  refine ⟨-((-n) / a), by unfold ns1; rw [Int.sub_eq_add_neg], ?_, ?_, ?_⟩
  · have := Int.mul_ediv_add_emod (-n) a
    have := Int.emod_nonneg (-n) (show a ≠ 0 by omega)
    rw [Int.mul_neg]; omega
  · have := Int.mul_ediv_add_emod (-n) a
    have := Int.emod_lt_of_pos (-n) ha
    rw [Int.mul_sub, Int.mul_neg, Int.mul_one]; omega
  · have : (-n) / a < 0 := Int.ediv_neg_of_neg_of_pos (by omega) ha
    omega
theorem ns1_pos {n a : Int} (ha : 0 < a) (hn : 0 < n) : 0 < ns1 n a := by
  obtain ⟨c, h1, _, _, h4⟩ := ns1_c ha hn
  rw [h1]; omega
theorem ns1_hi {n a : Int} (ha : 0 < a) (hn : 0 < n) : n ≤ ns1 n a * (ns1 n a + 1) := by
  obtain ⟨c, h1, h2, _, h4⟩ := ns1_c ha hn
  rw [h1]
  rcases Int.emod_two_eq (a + c) with h | h
  · obtain ⟨k, hk⟩ : ∃ k, a + c = 2 * k := ⟨(a + c) / 2, by omega⟩
    rw [show (a + c) / 2 = k by omega]
    have : 0 ≤ (a - c) * (a - c) := by
      rcases Int.le_total 0 (a - c) with h | h
      · exact Int.mul_nonneg h h
      · exact Int.mul_nonneg_of_nonpos_of_nonpos h h
    have e : 4 * (k * k) = (a - c) * (a - c) + 4 * (a * c) := by
      have : c = 2 * k - a := by omega
      subst this; grind
    have hk0 : 0 ≤ k := by omega
    rw [Int.mul_add, Int.mul_one]
    generalize k * k = x at *; generalize a * c = y at *; generalize (a - c) * (a - c) = z at *
    omega
  · obtain ⟨k, hk⟩ : ∃ k, a + c = 2 * k + 1 := ⟨(a + c) / 2, by omega⟩
    rw [show (a + c) / 2 = k by omega]
    have : 1 ≤ (a - c) * (a - c) := by
      have hne : a - c ≠ 0 := by omega
      rcases Int.lt_or_gt_of_ne hne with h | h
      · have := Int.mul_pos_of_neg_of_neg h h; omega
      · have := Int.mul_pos h h; omega
    have e : 4 * (k * (k + 1)) + 1 = (a - c) * (a - c) + 4 * (a * c) := by
      have : c = 2 * k + 1 - a := by omega
      subst this; grind
    generalize k * (k + 1) = x at *; generalize a * c = y at *; generalize (a - c) * (a - c) = z at *
    omega
theorem ns1_fix {n a : Int} (ha : 0 < a) (hn : 0 < n) (h : ns1 n a = a) : Rt n a := by
  obtain ⟨c, h1, h2, h3, h4⟩ := ns1_c ha hn
  rw [h1] at h
  have hc : c = a ∨ c = a + 1 := by omega
  rcases hc with rfl | rfl
  · exact ⟨ha, h3, by rw [Int.mul_add]; omega⟩
  · refine ⟨ha, ?_, h2⟩
    have : a * (a - 1) ≤ a * (a + 1 - 1) := Int.mul_le_mul_of_nonneg_left (by omega) (by omega)
    omega
theorem ns1_le {n a : Int} (ha : 0 < a) (hn : 0 < n) (h : n ≤ a * (a + 1)) : ns1 n a ≤ a := by
  obtain ⟨c, h1, h2, h3, h4⟩ := ns1_c ha hn
  rw [h1]
  have : c - 1 < a + 1 := Int.lt_of_mul_lt_mul_left (Int.lt_of_lt_of_le h3 h) (by omega)
  omega
set_option linter.unusedVariables false
/-- the order of triples -/
def lt3 (x y : Int × Int × Int) : Bool := if x.1 = y.1 then (if x.2.1 = y.2.1 then decide (x.2.2 < y.2.2) else decide (x.2.1 < y.2.1)) else decide (x.1 < y.1)

section
variable {C : CX} {S : AS} {Φ : AV → Prop}
theorem CallB_typeI {a : Int} (h : Φ (.ty "int")) : CallB C (.type "type") [.int a] Φ := by
  refine ⟨?_⟩
  rintro ok X s vs Q E _ _ ⟨v, r, rfl, ⟨t, rfl⟩, rfl⟩ k
  exact call_type_of (typeIs_int s a t) (by decide) (k (.ty "int") _ s.heap s.toks (StIn.refl _) rfl h)
theorem Cmp_isnotT {X Y : String} (h : Φ (.bool (!(Value.type X == Value.type Y)))) : Cmp C .IsNot (.ty X) (.ty Y) Φ := by
  refine ⟨?_⟩
  rintro ok Z s va vb Q E _ _ rfl rfl k
  exact isnot_type (k (.bool _) _ s.heap s.toks (StIn.refl _) rfl h)
theorem CallB_strI {a : Int} (ha : a.natAbs.log2 < 1920) (h : Φ (.str (toString a))) : CallB C (.type "str") [.int a] Φ := by
  refine ⟨?_⟩
  rintro ok X s vs Q E _ _ ⟨v, r, rfl, ⟨t, rfl⟩, rfl⟩ k
  exact PySem.P.str_of_int ha (k (.str _) _ s.heap _ (StIn.refl _) ⟨_, rfl⟩ h)
theorem CallB_lenS {x : Str} (hx : x.length < 2 ^ 62) (h : Φ (.int x.length)) : CallB C (.builtin "len") [.str x] Φ := by
  refine ⟨?_⟩
  rintro ok X s vs Q E _ _ ⟨v, r, rfl, ⟨t, rfl⟩, rfl⟩ k
  exact PySem.P.len_str (by omega) (k (.int _) _ s.heap _ (StIn.refl _) ⟨_, rfl⟩ h)
end
set_option maxHeartbeats 4000000
set_option linter.unusedVariables false
section
variable {C : CX} {S : AS} {Φ : AV → Prop}
end
set_option linter.unusedVariables false
theorem codeAny_call_cellsB {prog : Program} {w : World} {A : Around} {s : Shared} {R : Result → Shared → Prop} {a : Addr} {o : Obj} {fd : FuncData} {body : List Stmt} {vals : List Value} {binds : List (Str × Value)}
    (hroom : A.depth < recursionLimit) (ho : s.heap.get? a = some o) (hdata : o.data = .func fd) (hlim : s.heap.NoLimit) (hcd : s.heap.CodeRec fd.code fd.qualname)
    (hbody : fd.body = .stmts body) (hbind : BindsTo s fd ⟨vals, []⟩ binds) (hclo : fd.closure = [])
    (hkind : ∀ x ∈ binds, fd.scope.names.lookup x.1 = some .local ∨ (fd.scope.names.lookup x.1 = some .cell ∧ ((cellsFrom (s.heap.objs.size + 1) fd.scope.names []).lookup x.1).isSome = true))
    (h : ∀ s₁, InCallC s (callEnvC fd s.heap.objs.size a).locals (bindL (callEnvC fd s.heap.objs.size a).kindOf binds fun _ => none) (callEnvC fd s.heap.objs.size a).cells
        (bindC (callEnvC fd s.heap.objs.size a).kindOf binds fun _ => none) s₁ →
      wpAny (model prog w) (A.deeper (callEnvC fd s.heap.objs.size a)) (execs body (callEnvC fd s.heap.objs.size a)) (fun f s' => R (.ok (.ret (match f with | .ret v => v | _ => .none))) s')
        (fun e s' => wpAny (model prog w) (A.deeper (callEnvC fd s.heap.objs.size a)) (leaving (callEnvC fd s.heap.objs.size a) e) (fun _ s'' => R (.error e) s'') (fun e' s'' => R (.error e') s'') s') s₁)
    (hco : fd.scope.isCoroutine = false) (hgen : fd.scope.isGenerator = false) (hk : fd.scope.kind = .function) :
    codeAny (model prog w) A (.call (.ref a) ⟨vals, []⟩) R s := by
  refine codeAny_call_function hroom ho hdata hco hgen hbody hcd (hbind _ _ _ _ ?_)
  rw [hclo]
  refine wpAny_newFunctionEnv_cells hk hkind fun env he s' x => ?_
  subst he
  exact ⟨hlim.keeps x.toInCall.keep, codeAny_func (h s' x)⟩
theorem CallsV_ofB {g : GX} {n : Nat} {a : Addr} {ns : List Str} {body : List Stmt} {scope : Scope} {args : List AV} {Φ : AV → Prop}
    (hfd : ∀ h, PG g h → ∃ o d, h.get? a = some o ∧ o.data = .func d ∧ h.CodeRec d.code d.qualname ∧ d.body = .stmts body ∧ d.scope = scope ∧ d.closure = [] ∧ d.globals = mainGlobals ∧ d.builtins = builtinsNs ∧
      ∀ (vs : List Value) (s : Shared), s.heap = h → vs.length = args.length → BindsTo s d ⟨vs, []⟩ (ns.zip vs))
    (hlen : ns.length = args.length) (hp : parsOk ns scope = true) (hnd : ns.Nodup) (hk : scope.kind = .function) (hgen : scope.isGenerator = false) (hco : scope.isCoroutine = false)
    (hbody : ∀ (A : Around) (L : Addr) (qual : Str) (code : Value), Ex ⟨g, A, newEnv scope L mainGlobals (cellsFrom (L + 1) scope.names []) qual (some a) code none builtinsNs, n⟩ ⟨ns.zip args, none⟩ body fun fl _ => match fl with
      | .ret v => Φ v
      | .next => Φ .none
      | _ => False) : CallsV g (n + 1) (.ref a) args Φ := by
  refine ⟨fun A X s vs Q E ro p xi rv k => ?_⟩
  obtain ⟨o, d, ho, hd, hcd, hdb, hds, hdc, hdg, hdbl, hbind⟩ := hfd _ p
  have hvl : vs.length = args.length := rv.length
  have hb := hbind vs s rfl hvl
  have hdep := ro.depth
  have hun := ro.units
  have hzip1 : ∀ x ∈ ns.zip vs, x.1 ∈ ns := fun x hx => (List.of_mem_zip (a := x.1) (b := x.2) hx).1
  have hmapz : (ns.zip vs).map (·.1) = ns := by
    rw [List.map_fst_zip]; omega
  refine wpAny_call (codeAny_call_cellsB (by omega) ho hd p.top.nolimit hcd hdb hb hdc (fun x hx => by rw [hds]; exact parsOk_spec hp _ (hzip1 x hx)) (fun s₁ ic => ?_) (by rw [hds]; exact hco) (by rw [hds]; exact hgen) (by rw [hds]; exact hk))
  generalize hL : s.heap.objs.size = L at ic
  have henv : callEnvC d L a = newEnv scope L mainGlobals (cellsFrom (L + 1) scope.names []) (d.qualname ++ ".<locals>.") (some a) d.code none builtinsNs := by
    unfold callEnvC; rw [hds, hdg, hdbl]
  rw [henv] at ic ⊢
  generalize d.qualname ++ ".<locals>." = qual at *
  obtain ⟨h₁, tk₁, hs₁⟩ := ic.toInCall.same
  subst hs₁
  have st₁ : StIn s.heap h₁ := ic.toInCall.keep
  obtain ⟨lfr, hlfr⟩ := ro.fr
  let C : CX := ⟨g, A.deeper (newEnv scope L mainGlobals (cellsFrom (L + 1) scope.names []) qual (some a) d.code none builtinsNs), newEnv scope L mainGlobals (cellsFrom (L + 1) scope.names []) qual (some a) d.code none builtinsNs, n⟩
  have ok : C.Ok := by
    refine ⟨⟨ro.hh, ?_, ?_, ⟨_, Around.frames_deeper hlfr⟩⟩, hk, rfl, rfl, ⟨_, lfr, Around.frames_deeper hlfr, hgen, hco, rfl, rfl⟩⟩
    · show A.depth + 1 + n + 110 < recursionLimit; omega
    · show A.units + 3 + 16 * n + 100 < cLine; omega
  have FS1 : FS C s X none ⟨ns.zip args, none⟩ { s with heap := h₁, toks := tk₁ } := by
    refine ⟨⟨_, _, ic⟩, ?_, trivial, xi⟩
    intro x av e
    obtain ⟨v, hv, rx⟩ := lookup_zip (rv.st st₁) e
    refine ⟨v, ?_, by simpa using rx⟩
    have hxn : x ∈ ns := hzip1 (x, v) (mem_of_lookup hv)
    rcases parsOk_spec hp (L + 1) hxn with h1 | ⟨h1, h2⟩
    · exact .inl ⟨h1, _, ic.toInCall.ns, bindL_spec _ _ x v (by rw [hmapz]; exact hnd) hv h1⟩
    · obtain ⟨c, hc⟩ := Option.isSome_iff_exists.mp h2
      refine .inr ⟨.inl h1, c, hc, ?_⟩
      have := ic.cell x c hc
      rw [bindC_spec _ _ x v (by rw [hmapz]; exact hnd) hv h1] at this
      exact this
  refine wpAny_mono ((hbody _ L qual d.code).go ok s X none _ _ p FS1 fun afl fl S' β' h' tk F' fk bv rf ψ => ?_) (fun _ _ x => x) fun _ _ x => x.elim
  have keep := F'.keep
  cases afl with
  | ret av => obtain ⟨v, rfl, rv'⟩ := rf; exact k av v h' tk keep rv' ψ
  | next => obtain rfl : fl = .next := rf; exact k .none .none h' tk keep rfl ψ
  | brk => exact ψ.elim
  | cont => exact ψ.elim
set_option linter.unusedVariables false
theorem exists_rt : ∀ n : Nat, ∃ r, Rt ((n : Int) + 1) r
  | 0 => ⟨1, by decide, by decide, by decide⟩
  | n + 1 => by
    obtain ⟨r, h1, h2, h3⟩ := exists_rt n
    by_cases h : ((n + 1 : Nat) : Int) + 1 ≤ r * (r + 1)
    · exact ⟨r, h1, by omega, h⟩
    · have e1 : (r + 1) * (r + 1 - 1) = r * (r + 1) := by grind
      have e2 : (r + 1) * (r + 1 + 1) = r * (r + 1) + 2 * r + 2 := by grind
      exact ⟨r + 1, by omega, by rw [e1]; omega, by rw [e2]; omega⟩
noncomputable def rt (n : Int) : Int := Classical.epsilon fun r => Rt n r
theorem rt_spec {n : Int} (h : 0 < n) : Rt n (rt n) := by
  obtain ⟨r, hr⟩ := exists_rt (n - 1).toNat
  rw [show (((n - 1).toNat : Nat) : Int) + 1 = n by omega] at hr
  exact Classical.epsilon_spec (p := fun r => Rt n r) ⟨r, hr⟩
theorem rt_eq {n r : Int} (h : Rt n r) : rt n = r := (Classical.epsilon_spec (p := fun r => Rt n r) ⟨r, h⟩).uniq h
/-- the y of _ilog's loop after R turns -/
noncomputable def ys (M x : Int) : Nat → Int
  | 0 => x - M
  | R + 1 => dn (M * ys M x R * 2) (M + rt (M * (M + dn (ys M x R) (2 ^ R))))
/-- the w of its second loop -/
def hw (M u : Int) (T : Int) : Nat → Int
  | 0 => dn M T
  | j + 1 => dn M (T - 1 - j) - dn (u * hw M u T j) M

theorem dn_abs {a b : Int} (hb : 0 < b) : (dn a b).natAbs ≤ a.natAbs := by
  obtain ⟨h1, h2, _, _⟩ := dn_spec (a := a) hb
  apply Nat.le_of_not_lt
  intro h
  rcases Int.le_total 0 (dn a b) with hd | hd
  · have : b * (a.natAbs + 1 : Int) ≤ b * dn a b := Int.mul_le_mul_of_nonneg_left (by omega) (by omega)
    have h3 : (1 : Int) * a.natAbs ≤ b * a.natAbs := Int.mul_le_mul_of_nonneg_right (by omega) (by omega)
    rw [Int.mul_add, Int.mul_one] at this
    generalize b * dn a b = u at *
    generalize b * (a.natAbs : Int) = w at *
    omega
  · have : b * dn a b ≤ b * (-(a.natAbs + 1 : Int)) := Int.mul_le_mul_of_nonneg_left (by omega) (by omega)
    have h3 : (1 : Int) * a.natAbs ≤ b * a.natAbs := Int.mul_le_mul_of_nonneg_right (by omega) (by omega)
    rw [Int.mul_neg, Int.mul_add, Int.mul_one] at this
    generalize b * dn a b = u at *
    generalize b * (a.natAbs : Int) = w at *
    omega
theorem dn_bits {a b : Int} {m : Nat} (hb : 0 < b) (h : intBits a ≤ m) : intBits (dn a b) ≤ m := lt_bits (Nat.lt_of_le_of_lt (dn_abs hb) (bits_lt h))
theorem two_pos (k : Nat) : (0 : Int) < 2 ^ k := Int.pow_pos (by decide)
theorem go_le {M y : Int} {R L : Nat} (h : R ≤ L) : M ≤ y * 2 ^ (L - R) ↔ M * 2 ^ R ≤ y * 2 ^ L := by
  have e : y * 2 ^ L = y * 2 ^ (L - R) * 2 ^ R := by rw [Int.mul_assoc, ← Int.pow_add]; congr 2; omega
  rw [e]
  exact ⟨fun q => Int.mul_le_mul_of_nonneg_right q (Int.le_of_lt (two_pos R)), fun q => Int.le_of_mul_le_mul_right q (two_pos R)⟩
theorem go_gt {M y : Int} {R L : Nat} (h : L < R) : M ≤ y / 2 ^ (R - L) ↔ M * 2 ^ R ≤ y * 2 ^ L := by
  rw [Int.le_ediv_iff_mul_le (two_pos _)]
  have e : M * 2 ^ R = M * 2 ^ (R - L) * 2 ^ L := by rw [Int.mul_assoc, ← Int.pow_add]; congr 2; omega
  rw [e]
  exact ⟨fun q => Int.mul_le_mul_of_nonneg_right q (Int.le_of_lt (two_pos L)), fun q => Int.le_of_mul_le_mul_right q (two_pos L)⟩
theorem log_bits {M : Int} (hM : 0 < M) (h : M.natAbs.log2 < 1920) : intBits M ≤ 1920 := lt_bits ((Nat.log2_lt (by omega)).mp h)
set_option linter.unusedVariables false
-- a logarithm without reals: harmonic sums
/-- 1 + 1/2 + .. + 1/n -/
def Hn : Nat → Rat
  | 0 => 0
  | n + 1 => Hn n + 1 / ((n : Rat) + 1)
/-- nearly log(a / b) -/
def lg (N a b : Nat) : Rat := Hn (N * a) - Hn (N * b)
/-- a + a^2/2 + .. + a^T/T -/
def Pw : Nat → Rat → Rat
  | 0, _ => 0
  | T + 1, a => Pw T a + a ^ (T + 1) / ((T : Rat) + 1)
/-- 1 + a + .. + a^(T-1) -/
def Ge : Nat → Rat → Rat
  | 0, _ => 0
  | T + 1, a => Ge T a + a ^ T
theorem q_mul_le {a b c : Rat} (h : a ≤ b) (hc : 0 ≤ c) : a * c ≤ b * c := Rat.mul_le_mul_of_nonneg_right h hc
theorem q_mul_le' {a b c : Rat} (h : a ≤ b) (hc : 0 ≤ c) : c * a ≤ c * b := by have := q_mul_le h hc; grind
theorem q_mul_nn {a b : Rat} (ha : 0 ≤ a) (hb : 0 ≤ b) : 0 ≤ a * b := Rat.mul_nonneg ha hb
theorem q_div_le {a b c : Rat} (hb : 0 < b) (h : a ≤ c * b) : a / b ≤ c := by
  have h1 : (0 : Rat) ≤ 1 / b := by
    have : 0 < b⁻¹ := Rat.inv_pos.mpr hb
    grind
  have := q_mul_le h h1
  have e : c * b * (1 / b) = c := by grind
  have e2 : a * (1 / b) = a / b := by grind
  rw [e, e2] at this; exact this
theorem q_le_div {a b c : Rat} (hb : 0 < b) (h : c * b ≤ a) : c ≤ a / b := by
  have h1 : (0 : Rat) ≤ 1 / b := by
    have : 0 < b⁻¹ := Rat.inv_pos.mpr hb
    grind
  have := q_mul_le h h1
  have e : c * b * (1 / b) = c := by grind
  have e2 : a * (1 / b) = a / b := by grind
  rw [e, e2] at this; exact this
theorem q_div_nn {a b : Rat} (ha : 0 ≤ a) (hb : 0 < b) : 0 ≤ a / b := q_le_div hb (by grind)
theorem q_div_pos {a b : Rat} (ha : 0 < a) (hb : 0 < b) : 0 < a / b := by
  have h1 : 0 < b⁻¹ := Rat.inv_pos.mpr hb
  have := Rat.mul_pos ha h1
  grind
theorem q_pow_nn {a : Rat} (ha : 0 ≤ a) : ∀ n : Nat, 0 ≤ a ^ n
  | 0 => by grind
  | n + 1 => by have := q_mul_nn (q_pow_nn ha n) ha; grind
theorem q_pow_le {a b : Rat} (ha : 0 ≤ a) (h : a ≤ b) : ∀ n : Nat, a ^ n ≤ b ^ n
  | 0 => by grind
  | n + 1 => by
    have h1 := q_mul_le (q_pow_le ha h n) ha
    have h2 := q_mul_le' h (q_pow_nn (show 0 ≤ b by grind) n)
    rw [Rat.pow_succ, Rat.pow_succ]
    exact Rat.le_trans h1 h2
theorem q_pow_one {a : Rat} (ha : 0 ≤ a) (h : a ≤ 1) (n : Nat) : a ^ n ≤ 1 := by
  have := q_pow_le ha h n
  have e : ∀ n : Nat, (1 : Rat) ^ n = 1 := fun n => by
    induction n with
    | zero => grind
    | succ n ih => rw [Rat.pow_succ, ih]; grind
  have := e n
  grind

theorem Ge_eq (a : Rat) : ∀ T, Ge T a * (1 - a) = 1 - a ^ T
  | 0 => by simp [Ge]; grind
  | T + 1 => by have := Ge_eq a T; simp only [Ge]; grind
theorem pow_diff {u h : Rat} (hu : 0 ≤ u) (hh : 0 ≤ h) : ∀ k : Nat, ((k : Rat) + 1) * h * u ^ k ≤ (u + h) ^ (k + 1) - u ^ (k + 1) ∧ (u + h) ^ (k + 1) - u ^ (k + 1) ≤ ((k : Rat) + 1) * h * (u + h) ^ k
  | 0 => by constructor <;> grind
  | k + 1 => by
    obtain ⟨h1, h2⟩ := pow_diff hu hh k
    have hk : (0 : Rat) ≤ (k : Rat) := by grind
    have p1 := q_pow_nn hu k
    have p2 := q_pow_nn (show 0 ≤ u + h by grind) k
    have p3 := q_pow_le hu (show u ≤ u + h by grind) (k + 1)
    have ec : ((k + 1 : Nat) : Rat) = (k : Rat) + 1 := by grind
    rw [ec, Rat.pow_succ (u + h) (k + 1), Rat.pow_succ u (k + 1)]
    rw [Rat.pow_succ, Rat.pow_succ] at h1 h2 p3 ⊢
    generalize u ^ k = A at *
    generalize (u + h) ^ k = B at *
    generalize (k : Rat) = c at *
    have m0 : 0 ≤ (c + 1) * h * A := q_mul_nn (q_mul_nn (by grind) hh) p1
    have m1 := q_mul_le h1 hu
    have m2 : 0 ≤ (B * (u + h) - A * u) * h := q_mul_nn (by grind) hh
    have m3 := q_mul_le h2 (show 0 ≤ u + h by grind)
    have m4 := q_mul_le' p3 hh
    constructor
    · have e : B * (u + h) * (u + h) - A * u * u - (c + 1 + 1) * h * (A * u) = ((B * (u + h) - A * u) * u - (c + 1) * h * A * u) + (B * (u + h) - A * u) * h := by grind
      grind
    · have e : (c + 1 + 1) * h * (B * (u + h)) - (B * (u + h) * (u + h) - A * u * u) = ((c + 1) * h * B * (u + h) - (B * (u + h) - A * u) * (u + h)) + (h * (B * (u + h)) - h * (A * u)) := by grind
      grind
theorem Pw_diff {u h : Rat} (hu : 0 ≤ u) (hh : 0 ≤ h) : ∀ T : Nat, h * Ge T u ≤ Pw T (u + h) - Pw T u ∧ Pw T (u + h) - Pw T u ≤ h * Ge T (u + h)
  | 0 => by simp [Pw, Ge]; grind
  | T + 1 => by
    obtain ⟨h1, h2⟩ := Pw_diff hu hh T
    obtain ⟨d1, d2⟩ := pow_diff hu hh T
    have hT : (0 : Rat) < (T : Rat) + 1 := by
      have : (0 : Rat) ≤ (T : Rat) := by grind
      grind
    have e1 : ((T : Rat) + 1) * h * u ^ T / ((T : Rat) + 1) = h * u ^ T := by grind
    have e2 : ((T : Rat) + 1) * h * (u + h) ^ T / ((T : Rat) + 1) = h * (u + h) ^ T := by grind
    have i1 : h * u ^ T ≤ ((u + h) ^ (T + 1) - u ^ (T + 1)) / ((T : Rat) + 1) := q_le_div hT (by grind)
    have i2 : ((u + h) ^ (T + 1) - u ^ (T + 1)) / ((T : Rat) + 1) ≤ h * (u + h) ^ T := q_div_le hT (by grind)
    have e3 : ((u + h) ^ (T + 1) - u ^ (T + 1)) / ((T : Rat) + 1) = (u + h) ^ (T + 1) / ((T : Rat) + 1) - u ^ (T + 1) / ((T : Rat) + 1) := by grind
    simp only [Pw, Ge]
    constructor <;> grind
theorem Pw_zero : ∀ T, Pw T 0 = 0
  | 0 => rfl
  | T + 1 => by simp only [Pw, Pw_zero T, Rat.pow_succ]; grind
theorem nat_pos {n : Nat} (h : 0 < n) : (0 : Rat) < (n : Rat) := by
  have : ((0 : Nat) : Rat) < (n : Rat) := by exact_mod_cast h
  grind
/-- one step on the way from 1 - i/D to 1 - (i+1)/D -/
theorem Pw_step {D i T : Nat} (hi : 0 < i) (hD : i + 1 ≤ D) :
    Pw T (1 - (i : Rat) / D) - Pw T (1 - ((i : Rat) + 1) / D) ≤ 1 / (i : Rat) ∧ (1 - (1 - ((i : Rat) + 1) / D) ^ T) / ((i : Rat) + 1) ≤ Pw T (1 - (i : Rat) / D) - Pw T (1 - ((i : Rat) + 1) / D) := by
  have hDp : (0 : Rat) < (D : Rat) := nat_pos (by omega)
  have hip : (0 : Rat) < (i : Rat) := nat_pos hi
  have hiD : (i : Rat) + 1 ≤ (D : Rat) := by
    have : ((i + 1 : Nat) : Rat) ≤ (D : Rat) := by exact_mod_cast hD
    grind
  have hu : 0 ≤ 1 - ((i : Rat) + 1) / D := by
    have := q_div_le (c := 1) hDp (show (i : Rat) + 1 ≤ 1 * D by grind)
    grind
  have hh : (0 : Rat) ≤ 1 / D := q_div_nn (by grind) hDp
  have e : 1 - (i : Rat) / D = (1 - ((i : Rat) + 1) / D) + 1 / D := by grind
  have hv : 0 ≤ 1 - (i : Rat) / D := by grind
  obtain ⟨h1, h2⟩ := Pw_diff (h := 1 / D) hu hh T
  rw [← e] at h1 h2
  have g1 := Ge_eq (1 - (i : Rat) / D) T
  have g2 := Ge_eq (1 - ((i : Rat) + 1) / D) T
  have pn := q_pow_nn hv T
  constructor
  · refine Rat.le_trans h2 ?_
    have e2 : 1 / (D : Rat) * Ge T (1 - (i : Rat) / D) = (1 - (1 - (i : Rat) / D) ^ T) / i := by
      rw [← g1]; grind
    rw [e2]
    exact q_div_le hip (by grind)
  · refine Rat.le_trans ?_ h1
    have e2 : 1 / (D : Rat) * Ge T (1 - ((i : Rat) + 1) / D) = (1 - (1 - ((i : Rat) + 1) / D) ^ T) / ((i : Rat) + 1) := by
      rw [← g2]; grind
    rw [e2]
    exact Rat.le_refl
theorem Pw_up {D p T : Nat} (hp : 0 < p) : ∀ j : Nat, p + j ≤ D → Pw T (1 - (p : Rat) / D) - Pw T (1 - ((p + j : Nat) : Rat) / D) ≤ Hn (p + j) - Hn p + 1 / (p : Rat) - 1 / ((p + j : Nat) : Rat)
  | 0, _ => by grind
  | j + 1, h => by
    have ih := Pw_up (D := D) (T := T) hp j (by omega)
    have st := (Pw_step (D := D) (i := p + j) (T := T) (by omega) (by omega)).1
    have e : ((p + (j + 1) : Nat) : Rat) = ((p + j : Nat) : Rat) + 1 := by grind
    have eH : Hn (p + (j + 1)) = Hn (p + j) + 1 / (((p + j : Nat) : Rat) + 1) := rfl
    rw [e, eH]
    grind
theorem Pw_dn {D p T : Nat} (hp : 0 < p) : ∀ j : Nat, p + j ≤ D → (1 - (1 - (p : Rat) / D) ^ T) * (Hn (p + j) - Hn p) ≤ Pw T (1 - (p : Rat) / D) - Pw T (1 - ((p + j : Nat) : Rat) / D)
  | 0, _ => by grind
  | j + 1, h => by
    have ih := Pw_dn (D := D) (T := T) hp j (by omega)
    have st := (Pw_step (D := D) (i := p + j) (T := T) (by omega) (by omega)).2
    have e : ((p + (j + 1) : Nat) : Rat) = ((p + j : Nat) : Rat) + 1 := by grind
    have eH : Hn (p + (j + 1)) = Hn (p + j) + 1 / (((p + j : Nat) : Rat) + 1) := rfl
    rw [e, eH]
    have hDp : (0 : Rat) < (D : Rat) := nat_pos (by omega)
    have hpp : (0 : Rat) < ((p + j : Nat) : Rat) := nat_pos (by omega)
    have hle : (p : Rat) ≤ ((p + j : Nat) : Rat) := by exact_mod_cast (show p ≤ p + j by omega)
    have hjD : ((p + j : Nat) : Rat) + 1 ≤ (D : Rat) := by
      have : ((p + j + 1 : Nat) : Rat) ≤ (D : Rat) := by exact_mod_cast h
      grind
    generalize ((p + j : Nat) : Rat) = q at *
    have hu : 0 ≤ 1 - (q + 1) / D := by
      have := q_div_le (c := 1) hDp (show q + 1 ≤ 1 * D by grind)
      grind
    have hle2 : 1 - (q + 1) / D ≤ 1 - (p : Rat) / D := by
      have : (p : Rat) / D ≤ (q + 1) / D := q_div_le hDp (by
        have : (q + 1) / D * D = q + 1 := by grind
        grind)
      grind
    have pw := q_pow_le hu hle2 T
    generalize (1 - (q + 1) / (D : Rat)) ^ T = A at *
    generalize (1 - (p : Rat) / D) ^ T = B at *
    have : (1 - B) * (1 / (q + 1)) ≤ (1 - A) / (q + 1) := by
      have h1 : (0 : Rat) ≤ 1 / (q + 1) := q_div_nn (by grind) (by grind)
      have := q_mul_le (show 1 - B ≤ 1 - A by grind) h1
      grind
    grind
set_option linter.unusedVariables false
theorem natCast_mul' (a b : Nat) : ((a * b : Nat) : Rat) = (a : Rat) * (b : Rat) := by exact_mod_cast rfl
theorem nat_le {a b : Nat} (h : a ≤ b) : (a : Rat) ≤ (b : Rat) := by exact_mod_cast h
theorem lg_add (N a b c : Nat) : lg N a b + lg N b c = lg N a c := by unfold lg; grind
theorem Hn_mono (a : Nat) : ∀ j : Nat, Hn a ≤ Hn (a + j)
  | 0 => by grind
  | j + 1 => by
    have ih := Hn_mono a j
    have eH : Hn (a + (j + 1)) = Hn (a + j) + 1 / (((a + j : Nat) : Rat) + 1) := rfl
    have h0 : (0 : Rat) ≤ ((a + j : Nat) : Rat) := by grind
    have : (0 : Rat) ≤ 1 / (((a + j : Nat) : Rat) + 1) := q_div_nn (by grind) (by grind)
    grind
theorem lg_nn {N a b : Nat} (h : b ≤ a) : 0 ≤ lg N a b := by
  unfold lg
  have := Hn_mono (N * b) (N * a - N * b)
  have e : N * b + (N * a - N * b) = N * a := by
    have := Nat.mul_le_mul_left N h
    omega
  rw [e] at this
  grind
/-- the series from below, and from above -/
theorem lg_lo {N m p T : Nat} (hN : 0 < N) (hp : 0 < p) (hm : p ≤ m) : Pw T (1 - (p : Rat) / m) ≤ lg N m p + 1 / (N : Rat) ∧ (1 - (1 - (p : Rat) / m) ^ T) * lg N m p ≤ Pw T (1 - (p : Rat) / m) := by
  have hNp := nat_pos hN
  have hpp := nat_pos hp
  have hmp : (0 : Rat) < (m : Rat) := nat_pos (by omega)
  have hle : N * p ≤ N * m := Nat.mul_le_mul_left N hm
  have hNP : 0 < N * p := Nat.mul_pos hN hp
  have u := Pw_up (D := N * m) (p := N * p) (T := T) hNP (N * m - N * p) (by omega)
  have d := Pw_dn (D := N * m) (p := N * p) (T := T) hNP (N * m - N * p) (by omega)
  have e : N * p + (N * m - N * p) = N * m := by omega
  rw [e] at u d
  have e1 : 1 - ((N * p : Nat) : Rat) / ((N * m : Nat) : Rat) = 1 - (p : Rat) / m := by
    rw [natCast_mul', natCast_mul']; grind
  have e2 : 1 - ((N * m : Nat) : Rat) / ((N * m : Nat) : Rat) = 0 := by
    rw [natCast_mul']
    have := Rat.mul_pos hNp hmp
    grind
  rw [e1, e2, Pw_zero] at u d
  unfold lg
  refine ⟨?_, by grind⟩
  have h1 : (1 : Rat) / ((N * p : Nat) : Rat) ≤ 1 / N := by
    refine q_div_le (nat_pos hNP) ?_
    rw [natCast_mul']
    have hp1 : (1 : Rat) ≤ p := by have := nat_le (show 1 ≤ p from hp); grind
    have e3 : 1 / (N : Rat) * (N * p) = p := by grind
    rw [e3]; exact hp1
  have h2 : (0 : Rat) ≤ 1 / ((N * m : Nat) : Rat) := q_div_nn (by grind) (nat_pos (Nat.mul_pos hN (by omega)))
  grind
/-- a common factor -/
theorem Hn_scale1 {c j : Nat} (hc : 0 < c) (hj : 0 < j) : ∀ i : Nat, i ≤ c → (i : Rat) / (c * ((j : Rat) + 1)) ≤ Hn (c * j + i) - Hn (c * j) ∧ Hn (c * j + i) - Hn (c * j) ≤ (i : Rat) / (c * j)
  | 0, _ => by
    have e : (((0 : Nat) : Rat)) = 0 := by grind
    rw [e]
    constructor <;> grind
  | i + 1, h => by
    obtain ⟨h1, h2⟩ := Hn_scale1 hc hj i (by omega)
    have eH : Hn (c * j + (i + 1)) = Hn (c * j + i) + 1 / (((c * j + i : Nat) : Rat) + 1) := rfl
    have e : ((i + 1 : Nat) : Rat) = (i : Rat) + 1 := by grind
    have hcp := nat_pos hc
    have hjp := nat_pos hj
    have hcj := Rat.mul_pos hcp hjp
    have hcj1 : (0 : Rat) < c * ((j : Rat) + 1) := Rat.mul_pos hcp (by grind)
    have hi0 : (0 : Rat) ≤ (i : Rat) := by grind
    have hic : (i : Rat) + 1 ≤ c := by have := nat_le h; grind
    have ec : ((c * j + i : Nat) : Rat) = c * j + i := by
      have : ((c * j + i : Nat) : Rat) = ((c * j : Nat) : Rat) + i := by exact_mod_cast rfl
      rw [this, natCast_mul']
    rw [eH, e, ec]
    have hden : (0 : Rat) < c * j + i + 1 := by grind
    have k1 : 1 / ((c : Rat) * ((j : Rat) + 1)) ≤ 1 / (c * j + i + 1) := by
      refine q_le_div hden ?_
      have : 1 / ((c : Rat) * ((j : Rat) + 1)) * (c * j + i + 1) = (c * j + i + 1) / (c * ((j : Rat) + 1)) := by grind
      rw [this]
      exact q_div_le hcj1 (by grind)
    have k2 : 1 / ((c : Rat) * j + i + 1) ≤ 1 / (c * j) := by
      refine q_div_le hden ?_
      have : 1 / ((c : Rat) * j) * (c * j + i + 1) = (c * j + i + 1) / (c * j) := by grind
      rw [this]
      exact q_le_div hcj (by grind)
    constructor
    · have : ((i : Rat) + 1) / (c * ((j : Rat) + 1)) = (i : Rat) / (c * ((j : Rat) + 1)) + 1 / (c * ((j : Rat) + 1)) := by grind
      grind
    · have : ((i : Rat) + 1) / (c * j) = (i : Rat) / (c * j) + 1 / (c * j) := by grind
      grind
theorem Hn_scale {c b : Nat} (hc : 0 < c) (hb : 0 < b) : ∀ j : Nat, Hn (b + j) - Hn b ≤ Hn (c * (b + j)) - Hn (c * b) ∧ Hn (c * (b + j)) - Hn (c * b) ≤ Hn (b + j) - Hn b + 1 / (b : Rat) - 1 / ((b + j : Nat) : Rat)
  | 0 => by constructor <;> grind
  | j + 1 => by
    obtain ⟨h1, h2⟩ := Hn_scale hc hb j
    obtain ⟨s1, s2⟩ := Hn_scale1 (j := b + j) hc (by omega) c (Nat.le_refl _)
    have e : c * (b + (j + 1)) = c * (b + j) + c := by rw [show b + (j + 1) = (b + j) + 1 by omega, Nat.mul_succ]
    have eH : Hn (b + (j + 1)) = Hn (b + j) + 1 / (((b + j : Nat) : Rat) + 1) := rfl
    have eb : ((b + (j + 1) : Nat) : Rat) = ((b + j : Nat) : Rat) + 1 := by grind
    have hcp := nat_pos hc
    have hbj : (0 : Rat) < ((b + j : Nat) : Rat) := nat_pos (by omega)
    rw [e, eH, eb]
    generalize ((b + j : Nat) : Rat) = q at *
    have e1 : (c : Rat) / (c * (q + 1)) = 1 / (q + 1) := by grind
    have e2 : (c : Rat) / (c * q) = 1 / q := by grind
    rw [e1] at s1
    rw [e2] at s2
    constructor <;> grind
theorem lg_scale {N a b c : Nat} (hN : 0 < N) (hb : 0 < b) (hab : b ≤ a) (hc : 0 < c) : lg N a b ≤ lg N (c * a) (c * b) ∧ lg N (c * a) (c * b) ≤ lg N a b + 1 / (N : Rat) := by
  have hle : N * b ≤ N * a := Nat.mul_le_mul_left N hab
  obtain ⟨h1, h2⟩ := Hn_scale (c := c) (b := N * b) hc (Nat.mul_pos hN hb) (N * a - N * b)
  have e : N * b + (N * a - N * b) = N * a := by omega
  rw [e] at h1 h2
  have ea : N * (c * a) = c * (N * a) := Nat.mul_left_comm ..
  have eb : N * (c * b) = c * (N * b) := Nat.mul_left_comm ..
  unfold lg
  rw [ea, eb]
  refine ⟨h1, ?_⟩
  have hNp := nat_pos hN
  have hbp := nat_pos hb
  have k1 : (1 : Rat) / ((N * b : Nat) : Rat) ≤ 1 / N := by
    refine q_div_le (nat_pos (Nat.mul_pos hN hb)) ?_
    rw [natCast_mul']
    have hp1 : (1 : Rat) ≤ b := by have := nat_le (show 1 ≤ b from hb); grind
    have e3 : 1 / (N : Rat) * (N * b) = b := by grind
    rw [e3]; exact hp1
  have k2 : (0 : Rat) ≤ 1 / ((N * a : Nat) : Rat) := q_div_nn (by grind) (nat_pos (Nat.mul_pos hN (by omega)))
  grind
-- tails
theorem q_pow_add (a : Rat) (m : Nat) : ∀ n : Nat, a ^ (m + n) = a ^ m * a ^ n
  | 0 => by grind
  | n + 1 => by rw [show m + (n + 1) = (m + n) + 1 from rfl, Rat.pow_succ, Rat.pow_succ, q_pow_add a m n]; grind
theorem Pw_tail {a : Rat} (ha : 0 ≤ a) (T : Nat) : ∀ j : Nat, Pw (T + j) a - Pw T a ≤ a ^ (T + 1) / ((T : Rat) + 1) * Ge j a ∧ Pw T a ≤ Pw (T + j) a
  | 0 => by simp [Ge]; grind
  | j + 1 => by
    obtain ⟨h1, h2⟩ := Pw_tail ha T j
    have e : Pw (T + (j + 1)) a = Pw (T + j) a + a ^ (T + j + 1) / (((T + j : Nat) : Rat) + 1) := rfl
    have hT : (0 : Rat) ≤ (T : Rat) := by grind
    have hj : (0 : Rat) ≤ (j : Rat) := by grind
    have ec : ((T + j : Nat) : Rat) = (T : Rat) + j := by exact_mod_cast rfl
    rw [e, ec]
    simp only [Ge]
    have ep : a ^ (T + j + 1) = a ^ (T + 1) * a ^ j := by rw [← q_pow_add]; congr 1; omega
    have p0 := q_pow_nn ha (T + j + 1)
    have k : a ^ (T + j + 1) / ((T : Rat) + j + 1) ≤ a ^ (T + 1) / ((T : Rat) + 1) * a ^ j := by
      have e2 : a ^ (T + 1) / ((T : Rat) + 1) * a ^ j = a ^ (T + j + 1) / ((T : Rat) + 1) := by rw [ep]; grind
      rw [e2]
      refine q_div_le (by grind) ?_
      have : a ^ (T + j + 1) / ((T : Rat) + 1) * ((T : Rat) + j + 1) = a ^ (T + j + 1) + a ^ (T + j + 1) / ((T : Rat) + 1) * j := by grind
      have := q_mul_nn (q_div_nn p0 (show (0 : Rat) < (T : Rat) + 1 by grind)) hj
      grind
    have k2 : 0 ≤ a ^ (T + j + 1) / ((T : Rat) + j + 1) := q_div_nn p0 (by grind)
    have e3 : a ^ (T + 1) / ((T : Rat) + 1) * (Ge j a + a ^ j) = a ^ (T + 1) / ((T : Rat) + 1) * Ge j a + a ^ (T + 1) / ((T : Rat) + 1) * a ^ j := by grind
    constructor <;> grind
/-- what the series leaves out -/
def tl (T : Nat) (a : Rat) : Rat := a ^ (T + 1) / (((T : Rat) + 1) * (1 - a))
theorem Ge_le {a : Rat} (ha : 0 ≤ a) (h1 : a < 1) (T : Nat) : Ge T a ≤ 1 / (1 - a) := by
  refine q_le_div (by grind) ?_
  have := Ge_eq a T
  have := q_pow_nn ha T
  grind
theorem Pw_tl {a : Rat} (ha : 0 ≤ a) (h1 : a < 1) (T j : Nat) : Pw (T + j) a ≤ Pw T a + tl T a := by
  have h := (Pw_tail ha T j).1
  have g := Ge_le ha h1 j
  have hT : (0 : Rat) ≤ (T : Rat) := by grind
  have p : 0 ≤ a ^ (T + 1) / ((T : Rat) + 1) := q_div_nn (q_pow_nn ha _) (by grind)
  have := q_mul_le' g p
  have e : a ^ (T + 1) / ((T : Rat) + 1) * (1 / (1 - a)) = tl T a := by unfold tl; grind
  grind
theorem q_half_pow : ∀ n : Nat, (1 / 2 : Rat) ^ n * ((n : Rat) + 1) ≤ 1
  | 0 => by grind
  | n + 1 => by
    have ih := q_half_pow n
    have e : ((n + 1 : Nat) : Rat) = (n : Rat) + 1 := by grind
    have p := q_pow_nn (show (0 : Rat) ≤ 1 / 2 by grind) n
    have hn : (0 : Rat) ≤ (n : Rat) := by grind
    rw [e, Rat.pow_succ]
    have := q_mul_nn p hn
    generalize (1 / 2 : Rat) ^ n = A at *
    grind
theorem q_half_pow_le {N n : Nat} (hN : 0 < N) (h : N ≤ n) {a : Rat} (ha : 0 ≤ a) (h2 : a ≤ 1 / 2) : a ^ n ≤ 1 / (N : Rat) := by
  have h1 := q_pow_le ha h2 n
  have h3 := q_half_pow n
  have hNp := nat_pos hN
  have hle := nat_le h
  refine Rat.le_trans h1 (q_le_div hNp ?_)
  have p := q_pow_nn (show (0 : Rat) ≤ 1 / 2 by grind) n
  have := q_mul_le' (show (N : Rat) ≤ (n : Rat) + 1 by grind) p
  grind
theorem tl_le {N T : Nat} (hN : 0 < N) (h : N ≤ T) {a : Rat} (ha : 0 ≤ a) (h2 : a ≤ 1 / 2) : tl T a ≤ 1 / (N : Rat) := by
  have h1 := q_half_pow_le hN (show N ≤ T + 1 by omega) ha h2
  have hT : (0 : Rat) ≤ (T : Rat) := by grind
  have hN1 := nat_le (show 1 ≤ N from hN)
  have hNT := nat_le h
  have hNp := nat_pos hN
  unfold tl
  refine q_div_le (Rat.mul_pos (by grind) (by grind)) ?_
  have k : (1 : Rat) ≤ ((T : Rat) + 1) * (1 - a) := by
    have := q_mul_le' (show (1 : Rat) / 2 ≤ 1 - a by grind) (show (0 : Rat) ≤ (T : Rat) + 1 by grind)
    grind
  have := q_mul_le' k (show (0 : Rat) ≤ 1 / N from q_div_nn (by grind) hNp)
  grind
/-- both sides -/
theorem lg_both {N m p : Nat} (T : Nat) (hN : 0 < N) (hp : 0 < p) (hm : p ≤ m) (h2 : m ≤ 2 * p) :
    Pw T (1 - (p : Rat) / m) - 1 / (N : Rat) ≤ lg N m p ∧ lg N m p ≤ Pw T (1 - (p : Rat) / m) + tl T (1 - (p : Rat) / m) + 1 / (N : Rat) := by
  have hpp := nat_pos hp
  have hmp : (0 : Rat) < (m : Rat) := nat_pos (by omega)
  have hle := nat_le hm
  have hle2 : (m : Rat) ≤ 2 * p := by
    have := nat_le h2
    rw [natCast_mul'] at this
    grind
  have ha : 0 ≤ 1 - (p : Rat) / m := by
    have := q_div_le (c := 1) hmp (show (p : Rat) ≤ 1 * m by grind)
    grind
  have ha2 : 1 - (p : Rat) / m ≤ 1 / 2 := by
    have := q_le_div (c := 1 / 2) hmp (show (1 / 2 : Rat) * m ≤ p by grind)
    grind
  refine ⟨by have := (lg_lo (T := T) hN hp hm).1; grind, ?_⟩
  have h1 := (lg_lo (T := T + N) hN hp hm).2
  have h3 := (lg_lo (T := 1) hN hp hm).2
  have h0 := lg_nn (N := N) hm
  generalize 1 - (p : Rat) / m = a at *
  have ht := Pw_tl ha (by grind) T N
  have hpw := q_half_pow_le hN (show N ≤ T + N by omega) ha ha2
  have e1 : Pw 1 a = a := by simp [Pw]; grind
  rw [e1] at h3
  have hl : lg N m p ≤ 1 := by
    have := q_mul_le (show (1 / 2 : Rat) ≤ 1 - a ^ 1 by grind) h0
    grind
  have := q_mul_le hpw h0
  have := q_mul_le' hl (show (0 : Rat) ≤ 1 / N from q_div_nn (by grind) (nat_pos hN))
  grind
set_option linter.unusedVariables false
/-- nearly log(a / b), for whole numbers above nought -/
def lgI (N : Nat) (a b : Int) : Rat := lg N a.toNat b.toNat
theorem int_pos {n : Int} (h : 0 < n) : (0 : Rat) < (n : Rat) := by exact_mod_cast h
theorem int_le {a b : Int} (h : a ≤ b) : (a : Rat) ≤ (b : Rat) := by exact_mod_cast h
theorem toNat_cast {n : Int} (h : 0 ≤ n) : ((n.toNat : Nat) : Rat) = (n : Rat) := by
  have : ((n.toNat : Nat) : Int) = n := Int.toNat_of_nonneg h
  have h2 : (((n.toNat : Nat) : Int) : Rat) = (n : Rat) := by rw [this]
  exact h2
theorem neg_pow {a : Rat} (ha : 0 ≤ a) : ∀ k : Nat, -(a ^ k) ≤ (-a) ^ k ∧ (-a) ^ k ≤ a ^ k
  | 0 => by constructor <;> grind
  | k + 1 => by
    obtain ⟨h1, h2⟩ := neg_pow ha k
    rw [Rat.pow_succ, Rat.pow_succ]
    have m1 := q_mul_le h1 ha
    have m2 := q_mul_le h2 ha
    constructor <;> grind
theorem Pw_neg {a : Rat} (ha : 0 ≤ a) (T : Nat) : ∀ j : Nat, Pw (T + j) (-a) - Pw T (-a) ≤ Pw (T + j) a - Pw T a ∧ -(Pw (T + j) a - Pw T a) ≤ Pw (T + j) (-a) - Pw T (-a)
  | 0 => by constructor <;> grind
  | j + 1 => by
    obtain ⟨h1, h2⟩ := Pw_neg ha T j
    obtain ⟨n1, n2⟩ := neg_pow ha (T + j + 1)
    have e : Pw (T + (j + 1)) a = Pw (T + j) a + a ^ (T + j + 1) / (((T + j : Nat) : Rat) + 1) := rfl
    have e' : Pw (T + (j + 1)) (-a) = Pw (T + j) (-a) + (-a) ^ (T + j + 1) / (((T + j : Nat) : Rat) + 1) := rfl
    have h0 : (0 : Rat) ≤ ((T + j : Nat) : Rat) := by grind
    rw [e, e']
    generalize (((T + j : Nat) : Rat)) = c at *
    have h3 : (0 : Rat) ≤ 1 / (c + 1) := q_div_nn (by grind) (by grind)
    have m1 := q_mul_le n1 h3
    have m2 := q_mul_le n2 h3
    have e1 : a ^ (T + j + 1) / (c + 1) = a ^ (T + j + 1) * (1 / (c + 1)) := by grind
    have e2 : (-a) ^ (T + j + 1) / (c + 1) = (-a) ^ (T + j + 1) * (1 / (c + 1)) := by grind
    rw [e1, e2]
    constructor <;> grind
theorem pow_even (t : Rat) : ∀ J : Nat, (t * t) ^ J = t ^ (2 * J) ∧ (-t) ^ (2 * J) = t ^ (2 * J)
  | 0 => by constructor <;> grind
  | J + 1 => by
    obtain ⟨h1, h2⟩ := pow_even t J
    rw [show 2 * (J + 1) = 2 * J + 1 + 1 by omega, Rat.pow_succ, Rat.pow_succ, Rat.pow_succ, Rat.pow_succ, Rat.pow_succ, h1, h2]
    constructor <;> grind
theorem Pw_even (t : Rat) : ∀ J : Nat, Pw (2 * J) t - Pw J (t * t) = -Pw (2 * J) (-t)
  | 0 => by simp [Pw]; grind
  | J + 1 => by
    have ih := Pw_even t J
    obtain ⟨h1, h2⟩ := pow_even t J
    rw [show 2 * (J + 1) = 2 * J + 1 + 1 by omega]
    simp only [Pw]
    have e : ((2 * J + 1 : Nat) : Rat) = 2 * (J : Rat) + 1 := by
      have : ((2 * J + 1 : Nat) : Rat) = ((2 * J : Nat) : Rat) + 1 := by exact_mod_cast rfl
      rw [this, natCast_mul']; grind
    have e2 : ((2 * J : Nat) : Rat) = 2 * (J : Rat) := by rw [natCast_mul']; grind
    have hJ : (0 : Rat) ≤ (J : Rat) := by grind
    rw [e, e2, Rat.pow_succ, Rat.pow_succ, Rat.pow_succ, Rat.pow_succ, Rat.pow_succ, h1, h2]
    generalize t ^ (2 * J) = A at *
    generalize (J : Rat) = c at *
    have k1 : A * (t * t) / (c + 1) = 2 * (A * t * t / (2 * c + 1 + 1)) := by
      have : 2 * c + 1 + 1 ≠ 0 := by grind
      have : c + 1 ≠ 0 := by grind
      grind
    grind
/-- log(1 + y/M) by its series -/
theorem taylor {N : Nat} (hN : 0 < N) {M y : Int} (hM : 0 < M) (hy : 2 * (y.natAbs : Int) ≤ M) (T : Nat) :
    lgI N (M + y) M + Pw T (-((y : Rat) / M)) ≤ tl T ((y.natAbs : Rat) / M) + 4 / (N : Rat) ∧ -(tl T ((y.natAbs : Rat) / M) + 4 / (N : Rat)) ≤ lgI N (M + y) M + Pw T (-((y : Rat) / M)) := by
  have hNp := nat_pos hN
  have hMp := int_pos hM
  have he : (0 : Rat) < 1 / N := q_div_pos (by grind) hNp
  have e4 : (4 : Rat) / N = 4 * (1 / N) := by grind
  rw [e4]
  have cM := toNat_cast (show 0 ≤ M by omega)
  rcases Int.le_total y 0 with hy0 | hy0
  · have b := lg_both (N := N) (m := M.toNat) (p := (M + y).toNat) T hN (by omega) (by omega) (by omega)
    have e1 : (((M + y).toNat : Nat) : Rat) = (M : Rat) + y := by
      rw [toNat_cast (show 0 ≤ M + y by omega)]; exact_mod_cast rfl
    have e2 : 1 - (((M + y).toNat : Nat) : Rat) / ((M.toNat : Nat) : Rat) = -((y : Rat) / M) := by
      rw [e1, cM]; grind
    have e3 : (y.natAbs : Rat) / M = -((y : Rat) / M) := by
      have : ((y.natAbs : Nat) : Rat) = -(y : Rat) := by
        have : ((y.natAbs : Nat) : Int) = -y := by omega
        have h2 : (((y.natAbs : Nat) : Int) : Rat) = ((-y : Int) : Rat) := by rw [this]
        have h3 : ((-y : Int) : Rat) = -(y : Rat) := by exact_mod_cast rfl
        rw [← h3]; exact h2
      rw [this]; grind
    rw [e2] at b
    rw [e3]
    have en : lgI N (M + y) M = -lg N M.toNat (M + y).toNat := by unfold lgI lg; grind
    rw [en]
    constructor <;> grind
  · have hyM : 2 * y ≤ M := by omega
    have q1 : y * y ≤ y * M := Int.mul_le_mul_of_nonneg_left (by omega) hy0
    have q2 : 2 * y * M ≤ M * M := Int.mul_le_mul_of_nonneg_right hyM (by omega)
    have q3 : 2 * (y * M) = 2 * y * M := by grind
    have hMM : 0 < M * M := Int.mul_pos hM hM
    have q4 : 2 * y * (2 * y) ≤ M * M := Int.mul_le_mul hyM hyM (by omega) (by omega)
    have q5 : 2 * y * (2 * y) = 4 * (y * y) := by grind
    have q6 : 0 ≤ y * y := Int.mul_nonneg hy0 hy0
    have b1 := lg_both (N := N) (m := M.toNat) (p := (M - y).toNat) (2 * (T + N)) hN (by omega) (by omega) (by omega)
    have b2 := lg_both (N := N) (m := (M * M).toNat) (p := (M * M - y * y).toNat) (T + N) hN (by omega) (by omega) (by omega)
    have s1 := lg_scale (N := N) (a := (M + y).toNat) (b := M.toNat) (c := (M - y).toNat) hN (by omega) (by omega) (by omega)
    have s2 := lg_scale (N := N) (a := M.toNat) (b := (M - y).toNat) (c := M.toNat) hN (by omega) (by omega) (by omega)
    have n1 : (M - y).toNat * (M + y).toNat = (M * M - y * y).toNat := by
      rw [← Int.toNat_mul (by omega) (by omega)]; congr 1; grind
    have n2 : (M - y).toNat * M.toNat = M.toNat * (M - y).toNat := Nat.mul_comm ..
    have n3 : M.toNat * M.toNat = (M * M).toNat := by rw [← Int.toNat_mul (by omega) (by omega)]
    rw [n1, n2] at s1
    rw [n3] at s2
    have c1 : (((M - y).toNat : Nat) : Rat) = (M : Rat) - y := by
      rw [toNat_cast (show 0 ≤ M - y by omega)]; exact_mod_cast rfl
    have c2 : (((M * M).toNat : Nat) : Rat) = (M : Rat) * M := by
      rw [toNat_cast (show 0 ≤ M * M by omega)]; exact_mod_cast rfl
    have c3 : (((M * M - y * y).toNat : Nat) : Rat) = (M : Rat) * M - y * y := by
      rw [toNat_cast (show 0 ≤ M * M - y * y by omega)]; exact_mod_cast rfl
    have e1 : 1 - (((M - y).toNat : Nat) : Rat) / ((M.toNat : Nat) : Rat) = (y : Rat) / M := by rw [c1, cM]; grind
    have e2 : 1 - (((M * M - y * y).toNat : Nat) : Rat) / (((M * M).toNat : Nat) : Rat) = ((y : Rat) / M) * ((y : Rat) / M) := by
      rw [c2, c3]
      have : (M : Rat) ≠ 0 := by grind
      grind
    have e3 : (y.natAbs : Rat) / M = (y : Rat) / M := by
      have : ((y.natAbs : Nat) : Rat) = (y : Rat) := by
        have : ((y.natAbs : Nat) : Int) = y := by omega
        have h2 : (((y.natAbs : Nat) : Int) : Rat) = ((y : Int) : Rat) := by rw [this]
        exact h2
      rw [this]
    rw [e1] at b1
    rw [e2] at b2
    rw [e3]
    have hyr : (2 : Rat) * y ≤ M := by
      have := int_le hyM
      have h3 : ((2 * y : Int) : Rat) = 2 * (y : Rat) := by exact_mod_cast rfl
      rw [h3] at this; exact this
    have hyr0 : (0 : Rat) ≤ y := by have := int_le hy0; exact_mod_cast this
    have t0 : 0 ≤ (y : Rat) / M := q_div_nn hyr0 hMp
    have t1 : (y : Rat) / M ≤ 1 / 2 := q_div_le hMp (by grind)
    have add1 := lg_add N (M * M - y * y).toNat (M * M).toNat (M.toNat * (M - y).toNat)
    have en : lg N (M * M - y * y).toNat (M * M).toNat = -lg N (M * M).toNat (M * M - y * y).toNat := by unfold lg; grind
    have ev := Pw_even ((y : Rat) / M) (T + N)
    generalize (y : Rat) / M = t at *
    have tt0 : 0 ≤ t * t := q_mul_nn t0 t0
    have tt1 : t * t ≤ 1 / 2 := by have := q_mul_le t1 t0; grind
    have l1 := tl_le hN (show N ≤ 2 * (T + N) by omega) t0 t1
    have l2 := tl_le hN (show N ≤ T + N by omega) tt0 tt1
    have pn := Pw_neg t0 T (2 * (T + N) - T)
    have pt := Pw_tl t0 (by grind) T (2 * (T + N) - T)
    rw [show T + (2 * (T + N) - T) = 2 * (T + N) by omega] at pn pt
    unfold lgI
    constructor <;> grind
set_option linter.unusedVariables false
/-- 2 (z + z^3/3 + ..), K rows -/
def At : Nat → Rat → Rat
  | 0, _ => 0
  | K + 1, z => At K z + 2 * z ^ (2 * K + 1) / (2 * (K : Rat) + 1)
theorem At_eq (z : Rat) : ∀ K : Nat, Pw (2 * K) z - Pw (2 * K) (-z) = At K z
  | 0 => by simp [Pw, At]; grind
  | K + 1 => by
    have ih := At_eq z K
    obtain ⟨h1, h2⟩ := pow_even z K
    rw [show 2 * (K + 1) = 2 * K + 1 + 1 by omega]
    simp only [Pw, At]
    have e : ((2 * K + 1 : Nat) : Rat) = 2 * (K : Rat) + 1 := by
      have : ((2 * K + 1 : Nat) : Rat) = ((2 * K : Nat) : Rat) + 1 := by exact_mod_cast rfl
      rw [this, natCast_mul']; grind
    have e2 : ((2 * K : Nat) : Rat) = 2 * (K : Rat) := by rw [natCast_mul']; grind
    have hK : (0 : Rat) ≤ (K : Rat) := by grind
    rw [e, e2, Rat.pow_succ, Rat.pow_succ, Rat.pow_succ, Rat.pow_succ, h2]
    generalize z ^ (2 * K) = A at *
    generalize (K : Rat) = c at *
    have : 2 * c + 1 ≠ 0 := by grind
    have : 2 * c + 1 + 1 ≠ 0 := by grind
    grind
/-- what the rows left out come to -/
def tA (K : Nat) (z : Rat) : Rat := 2 * z ^ (2 * K + 1) / ((2 * (K : Rat) + 1) * (1 - z * z))
theorem At_mono {z : Rat} (hz : 0 ≤ z) (K : Nat) : ∀ j : Nat, At K z ≤ At (K + j) z ∧ At (K + j) z - At K z ≤ 2 * z ^ (2 * K + 1) / (2 * (K : Rat) + 1) * Ge j (z * z)
  | 0 => by simp [Ge]; grind
  | j + 1 => by
    obtain ⟨h1, h2⟩ := At_mono hz K j
    have e : At (K + (j + 1)) z = At (K + j) z + 2 * z ^ (2 * (K + j) + 1) / (2 * ((K + j : Nat) : Rat) + 1) := rfl
    have ec : ((K + j : Nat) : Rat) = (K : Rat) + j := by exact_mod_cast rfl
    have hK : (0 : Rat) ≤ (K : Rat) := by grind
    have hj : (0 : Rat) ≤ (j : Rat) := by grind
    have p0 := q_pow_nn hz (2 * (K + j) + 1)
    have ep : z ^ (2 * (K + j) + 1) = z ^ (2 * K + 1) * (z * z) ^ j := by
      rw [(pow_even z j).1, ← q_pow_add]; congr 1; omega
    rw [e, ec]
    simp only [Ge]
    have k0 : 0 ≤ 2 * z ^ (2 * (K + j) + 1) / (2 * ((K : Rat) + j) + 1) := q_div_nn (by grind) (by grind)
    have k1 : 2 * z ^ (2 * (K + j) + 1) / (2 * ((K : Rat) + j) + 1) ≤ 2 * z ^ (2 * K + 1) / (2 * (K : Rat) + 1) * (z * z) ^ j := by
      have e2 : 2 * z ^ (2 * K + 1) / (2 * (K : Rat) + 1) * (z * z) ^ j = 2 * z ^ (2 * (K + j) + 1) / (2 * (K : Rat) + 1) := by rw [ep]; grind
      rw [e2]
      refine q_div_le (by grind) ?_
      generalize z ^ (2 * (K + j) + 1) = X at *
      have : 2 * X / (2 * (K : Rat) + 1) * (2 * ((K : Rat) + j) + 1) = 2 * X + 2 * X / (2 * (K : Rat) + 1) * (2 * j) := by
        have : 2 * (K : Rat) + 1 ≠ 0 := by grind
        grind
      have := q_mul_nn (q_div_nn (show 0 ≤ 2 * X by grind) (show (0 : Rat) < 2 * (K : Rat) + 1 by grind)) (show (0 : Rat) ≤ 2 * j by grind)
      grind
    have e3 : 2 * z ^ (2 * K + 1) / (2 * (K : Rat) + 1) * (Ge j (z * z) + (z * z) ^ j) = 2 * z ^ (2 * K + 1) / (2 * (K : Rat) + 1) * Ge j (z * z) + 2 * z ^ (2 * K + 1) / (2 * (K : Rat) + 1) * (z * z) ^ j := by grind
    constructor <;> grind
theorem At_tA {z : Rat} (hz : 0 ≤ z) (h1 : z ≤ 1 / 2) (K j : Nat) : At (K + j) z ≤ At K z + tA K z := by
  have h := (At_mono hz K j).2
  have zz : z * z ≤ 1 / 4 := by
    have := q_mul_le h1 hz
    grind
  have g := Ge_le (q_mul_nn hz hz) (show z * z < 1 by grind) j
  have hK : (0 : Rat) ≤ (K : Rat) := by grind
  have p : 0 ≤ 2 * z ^ (2 * K + 1) / (2 * (K : Rat) + 1) := q_div_nn (by have := q_pow_nn hz (2 * K + 1); grind) (by grind)
  have := q_mul_le' g p
  have e : 2 * z ^ (2 * K + 1) / (2 * (K : Rat) + 1) * (1 / (1 - z * z)) = tA K z := by unfold tA; grind
  grind
/-- log(A / B) by its series -/
theorem artanh {N : Nat} (hN : 0 < N) {A B : Int} (hB : 0 < B) (hBA : B ≤ A) (h2 : A ≤ 2 * B) (K : Nat) :
    At K (((A - B : Int) : Rat) / ((A + B : Int) : Rat)) ≤ lgI N A B + 12 / (N : Rat) ∧ lgI N A B ≤ At K (((A - B : Int) : Rat) / ((A + B : Int) : Rat)) + tA K (((A - B : Int) : Rat) / ((A + B : Int) : Rat)) + 12 / (N : Rat) := by
  have hNp := nat_pos hN
  have he : (0 : Rat) < 1 / N := q_div_pos (by grind) hNp
  have hmp := int_pos (show 0 < A + B by omega)
  have hn0 : (0 : Rat) ≤ ((A - B : Int) : Rat) := by have := int_le (show 0 ≤ A - B by omega); exact_mod_cast this
  have hn2 : 2 * ((A - B : Int) : Rat) ≤ ((A + B : Int) : Rat) := by
    have := int_le (show 2 * (A - B) ≤ A + B by omega)
    have h3 : ((2 * (A - B) : Int) : Rat) = 2 * ((A - B : Int) : Rat) := by exact_mod_cast rfl
    rw [h3] at this; exact this
  have t1 := taylor (N := N) hN (M := A + B) (y := A - B) (by omega) (by omega) (2 * (K + N))
  have t2 := taylor (N := N) hN (M := A + B) (y := -(A - B)) (by omega) (by omega) (2 * (K + N))
  rw [show A + B + (A - B) = 2 * A by omega] at t1
  rw [show A + B + -(A - B) = 2 * B by omega] at t2
  have ca : (((-(A - B) : Int)) : Rat) = -((A - B : Int) : Rat) := by exact_mod_cast rfl
  have na : (((A - B).natAbs : Nat) : Rat) = ((A - B : Int) : Rat) := by
    have : (((A - B).natAbs : Nat) : Int) = A - B := by omega
    have h2 : ((((A - B).natAbs : Nat) : Int) : Rat) = ((A - B : Int) : Rat) := by rw [this]
    exact h2
  have nb : (-(A - B)).natAbs = (A - B).natAbs := Int.natAbs_neg _
  rw [ca, nb, na] at t2
  rw [na] at t1
  have s := lg_scale (N := N) (a := A.toNat) (b := B.toNat) (c := 2) hN (by omega) (by omega) (by decide)
  have e1 : 2 * A.toNat = (2 * A).toNat := by omega
  have e2 : 2 * B.toNat = (2 * B).toNat := by omega
  rw [e1, e2] at s
  have ad := lg_add N (2 * A).toNat (A + B).toNat (2 * B).toNat
  have en : lg N (A + B).toNat (2 * B).toNat = -lg N (2 * B).toNat (A + B).toNat := by unfold lg; grind
  have ae := At_eq (((A - B : Int) : Rat) / ((A + B : Int) : Rat)) (K + N)
  have z0 : 0 ≤ ((A - B : Int) : Rat) / ((A + B : Int) : Rat) := q_div_nn hn0 hmp
  have z1 : ((A - B : Int) : Rat) / ((A + B : Int) : Rat) ≤ 1 / 2 := q_div_le hmp (by grind)
  have ez : -(-((A - B : Int) : Rat) / ((A + B : Int) : Rat)) = ((A - B : Int) : Rat) / ((A + B : Int) : Rat) := by grind
  rw [ez] at t2
  generalize ((A - B : Int) : Rat) / ((A + B : Int) : Rat) = z at *
  have l1 := tl_le hN (show N ≤ 2 * (K + N) by omega) z0 z1
  have m1 := (At_mono z0 K N).1
  have m2 := At_tA z0 z1 K N
  have e4 : (4 : Rat) / N = 4 * (1 / N) := by grind
  have e12 : (12 : Rat) / N = 12 * (1 / N) := by grind
  rw [e4] at t1 t2
  rw [e12]
  unfold lgI at t1 t2 ⊢
  constructor <;> grind
-- the sums of _law_log
/-- its power after i turns -/
def lp (n m scale : Int) : Nat → Int
  | 0 => scale * n / m
  | i + 1 => lp n m scale i * n * n / (m * m)
/-- its sum after K turns -/
def ls (n m scale : Int) : Nat → Int
  | 0 => 0
  | K + 1 => ls n m scale K + 2 * (lp n m scale K / (2 * (K : Int) + 1))
theorem ediv_q {a b : Int} (hb : 0 < b) : ((a / b : Int) : Rat) ≤ (a : Rat) / b ∧ (a : Rat) / b - 1 ≤ ((a / b : Int) : Rat) := by
  have h1 := Int.mul_ediv_add_emod a b
  have h2 := Int.emod_nonneg a (show b ≠ 0 by omega)
  have h3 := Int.emod_lt_of_pos a hb
  have hbp := int_pos hb
  have c : (b : Rat) * ((a / b : Int) : Rat) + ((a % b : Int) : Rat) = (a : Rat) := by exact_mod_cast congrArg (fun x : Int => (x : Rat)) h1
  have r0 : (0 : Rat) ≤ ((a % b : Int) : Rat) := by have := int_le h2; exact_mod_cast this
  have r1 : ((a % b : Int) : Rat) ≤ (b : Rat) := int_le (by omega)
  generalize ((a / b : Int) : Rat) = q at *
  generalize ((a % b : Int) : Rat) = r at *
  rw [← c]
  constructor
  · exact q_le_div hbp (by grind)
  · have := q_div_le (a := b * q + r) (c := q + 1) hbp (by grind)
    grind
theorem lp_both {n m scale : Int} (hm : 0 < m) (hn : 0 ≤ n) (h3 : 3 * n ≤ m) (hs : 0 ≤ scale) : ∀ i : Nat,
    0 ≤ lp n m scale i ∧ ((lp n m scale i : Int) : Rat) ≤ scale * ((n : Rat) / m) ^ (2 * i + 1) ∧ (scale : Rat) * ((n : Rat) / m) ^ (2 * i + 1) - 9 / 8 ≤ ((lp n m scale i : Int) : Rat)
  | 0 => by
    refine ⟨Int.ediv_nonneg (Int.mul_nonneg hs hn) (by omega), ?_⟩
    obtain ⟨h1, h2⟩ := ediv_q (a := scale * n) hm
    have c : ((scale * n : Int) : Rat) = (scale : Rat) * n := by exact_mod_cast rfl
    rw [c] at h1 h2
    have hmp := int_pos hm
    have e : (scale : Rat) * n / m = scale * ((n : Rat) / m) ^ (2 * 0 + 1) := by
      rw [show 2 * 0 + 1 = 0 + 1 from rfl, Rat.pow_succ]; grind
    rw [e] at h1 h2
    show ((scale * n / m : Int) : Rat) ≤ _ ∧ _ ≤ ((scale * n / m : Int) : Rat)
    constructor <;> grind
  | i + 1 => by
    obtain ⟨h0, h1, h2⟩ := lp_both hm hn h3 hs i
    have hmm : 0 < m * m := Int.mul_pos hm hm
    have hmp := int_pos hm
    obtain ⟨g1, g2⟩ := ediv_q (a := lp n m scale i * n * n) hmm
    have c1 : ((lp n m scale i * n * n : Int) : Rat) = ((lp n m scale i : Int) : Rat) * n * n := by exact_mod_cast rfl
    have c2 : ((m * m : Int) : Rat) = (m : Rat) * m := by exact_mod_cast rfl
    rw [c1, c2] at g1 g2
    refine ⟨Int.ediv_nonneg (Int.mul_nonneg (Int.mul_nonneg h0 hn) hn) (by omega), ?_⟩
    show ((lp n m scale i * n * n / (m * m) : Int) : Rat) ≤ _ ∧ _ ≤ ((lp n m scale i * n * n / (m * m) : Int) : Rat)
    have hn0 : (0 : Rat) ≤ n := by have := int_le hn; exact_mod_cast this
    have hn3 : 3 * (n : Rat) ≤ m := by
      have := int_le h3
      have h3 : ((3 * n : Int) : Rat) = 3 * (n : Rat) := by exact_mod_cast rfl
      rw [h3] at this; exact this
    have z0 : 0 ≤ (n : Rat) / m := q_div_nn hn0 hmp
    have z1 : (n : Rat) / m ≤ 1 / 3 := q_div_le hmp (by grind)
    have e : ((lp n m scale i : Int) : Rat) * n * n / (m * m) = ((lp n m scale i : Int) : Rat) * (((n : Rat) / m) * ((n : Rat) / m)) := by
      have : (m : Rat) ≠ 0 := by grind
      grind
    rw [e] at g1 g2
    rw [show 2 * (i + 1) + 1 = 2 * i + 1 + 1 + 1 by omega, Rat.pow_succ, Rat.pow_succ]
    generalize ((lp n m scale i * n * n / (m * m) : Int) : Rat) = Z at *
    generalize ((lp n m scale i : Int) : Rat) = Y at *
    generalize (n : Rat) / m = z at *
    generalize z ^ (2 * i + 1) = X at *
    generalize (scale : Rat) = s at *
    have zz0 : 0 ≤ z * z := q_mul_nn z0 z0
    have zz1 : z * z ≤ 1 / 9 := by
      have := q_mul_le z1 z0
      grind
    have m1 := q_mul_le h1 zz0
    have m2 := q_mul_le h2 zz0
    have e5 : s * (X * z * z) = s * X * (z * z) := by grind
    rw [e5]
    constructor <;> grind
theorem ls_both {n m scale : Int} (hm : 0 < m) (hn : 0 ≤ n) (h3 : 3 * n ≤ m) (hs : 0 ≤ scale) : ∀ K : Nat,
    ((ls n m scale K : Int) : Rat) ≤ scale * At K ((n : Rat) / m) ∧ (scale : Rat) * At K ((n : Rat) / m) ≤ ((ls n m scale K : Int) : Rat) + 3 * K
  | 0 => by
    show ((0 : Int) : Rat) ≤ (scale : Rat) * 0 ∧ (scale : Rat) * 0 ≤ ((0 : Int) : Rat) + 3 * ((0 : Nat) : Rat)
    constructor <;> grind
  | K + 1 => by
    obtain ⟨i1, i2⟩ := ls_both hm hn h3 hs K
    obtain ⟨h0, h1, h2⟩ := lp_both hm hn h3 hs K
    have hk : 0 < 2 * (K : Int) + 1 := by omega
    have d1 := Int.mul_ediv_add_emod (lp n m scale K) (2 * (K : Int) + 1)
    have d2 := Int.emod_nonneg (lp n m scale K) (show 2 * (K : Int) + 1 ≠ 0 by omega)
    have d3 := Int.emod_lt_of_pos (lp n m scale K) hk
    have ck : ((2 * (K : Int) + 1 : Int) : Rat) = 2 * (K : Rat) + 1 := by exact_mod_cast rfl
    have cc : (2 * (K : Rat) + 1) * ((lp n m scale K / (2 * (K : Int) + 1) : Int) : Rat) + ((lp n m scale K % (2 * (K : Int) + 1) : Int) : Rat) = ((lp n m scale K : Int) : Rat) := by
      rw [← ck]; exact_mod_cast congrArg (fun x : Int => (x : Rat)) d1
    have r0 : (0 : Rat) ≤ ((lp n m scale K % (2 * (K : Int) + 1) : Int) : Rat) := by have := int_le d2; exact_mod_cast this
    have r1 : ((lp n m scale K % (2 * (K : Int) + 1) : Int) : Rat) ≤ 2 * (K : Rat) := by
      have := int_le (show lp n m scale K % (2 * (K : Int) + 1) ≤ 2 * (K : Int) by omega)
      have e : ((2 * (K : Int) : Int) : Rat) = 2 * (K : Rat) := by exact_mod_cast rfl
      rw [e] at this; exact this
    have eL : ((ls n m scale (K + 1) : Int) : Rat) = ((ls n m scale K : Int) : Rat) + 2 * ((lp n m scale K / (2 * (K : Int) + 1) : Int) : Rat) := by
      show ((ls n m scale K + 2 * (lp n m scale K / (2 * (K : Int) + 1)) : Int) : Rat) = _
      exact_mod_cast rfl
    have eK : ((K + 1 : Nat) : Rat) = (K : Rat) + 1 := by grind
    rw [eL, eK]
    simp only [At]
    have hK : (0 : Rat) ≤ (K : Rat) := by grind
    generalize ((lp n m scale K / (2 * (K : Int) + 1) : Int) : Rat) = q at *
    generalize ((lp n m scale K % (2 * (K : Int) + 1) : Int) : Rat) = r at *
    generalize ((lp n m scale K : Int) : Rat) = Y at *
    generalize ((n : Rat) / m) ^ (2 * K + 1) = X at *
    generalize At K ((n : Rat) / m) = AA at *
    generalize (scale : Rat) = s at *
    generalize (K : Rat) = c at *
    have e6 : s * (AA + 2 * X / (2 * c + 1)) = s * AA + 2 * (s * X) / (2 * c + 1) := by
      have : 2 * c + 1 ≠ 0 := by grind
      grind
    rw [e6]
    constructor
    · have : 2 * q ≤ 2 * (s * X) / (2 * c + 1) := q_le_div (by grind) (by grind)
      grind
    · have : 2 * (s * X) / (2 * c + 1) ≤ 2 * q + 3 := q_div_le (by grind) (by grind)
      grind
/-- the sum and the logarithm -/
theorem ls_log {N : Nat} (hN : 0 < N) {A B scale : Int} (hB : 0 < B) (hBA : B ≤ A) (h2 : A ≤ 2 * B) (hs : 0 ≤ scale) {K : Nat} (hK : lp (A - B) (A + B) scale K ≤ 0) :
    ((ls (A - B) (A + B) scale K : Int) : Rat) ≤ scale * (lgI N A B + 12 / (N : Rat)) ∧ (scale : Rat) * (lgI N A B - 12 / (N : Rat)) ≤ ((ls (A - B) (A + B) scale K : Int) : Rat) + 3 * ((K : Rat) + 1) := by
  obtain ⟨a1, a2⟩ := artanh hN hB hBA h2 K
  obtain ⟨l1, l2⟩ := ls_both (n := A - B) (m := A + B) (by omega) (by omega) (by omega) hs K
  obtain ⟨p0, p1, p2⟩ := lp_both (n := A - B) (m := A + B) (by omega) (by omega) (by omega) hs K
  have hp0 : lp (A - B) (A + B) scale K = 0 := by omega
  rw [hp0] at p1 p2
  have z : ((0 : Int) : Rat) = 0 := by exact_mod_cast rfl
  rw [z] at p1 p2
  have hsr : (0 : Rat) ≤ scale := by have := int_le hs; exact_mod_cast this
  have hmp := int_pos (show 0 < A + B by omega)
  have hn0 : (0 : Rat) ≤ ((A - B : Int) : Rat) := by have := int_le (show 0 ≤ A - B by omega); exact_mod_cast this
  have hn3 : 3 * ((A - B : Int) : Rat) ≤ ((A + B : Int) : Rat) := by
    have := int_le (show 3 * (A - B) ≤ A + B by omega)
    have h3 : ((3 * (A - B) : Int) : Rat) = 3 * ((A - B : Int) : Rat) := by exact_mod_cast rfl
    rw [h3] at this; exact this
  have z0 : 0 ≤ ((A - B : Int) : Rat) / ((A + B : Int) : Rat) := q_div_nn hn0 hmp
  have z1 : ((A - B : Int) : Rat) / ((A + B : Int) : Rat) ≤ 1 / 3 := q_div_le hmp (by grind)
  generalize ((A - B : Int) : Rat) / ((A + B : Int) : Rat) = zz at *
  generalize ((ls (A - B) (A + B) scale K : Int) : Rat) = SS at *
  generalize lgI N A B = lam at *
  generalize (12 : Rat) / N = e at *
  generalize (scale : Rat) = s at *
  have zq : zz * zz ≤ 1 / 9 := by have := q_mul_le z1 z0; grind
  have hc : (0 : Rat) ≤ (K : Rat) := by grind
  have hp := q_pow_nn z0 (2 * K + 1)
  have tb : s * tA K zz ≤ 3 := by
    have e7 : s * tA K zz = 2 * (s * zz ^ (2 * K + 1)) / ((2 * (K : Rat) + 1) * (1 - zz * zz)) := by unfold tA; grind
    rw [e7]
    have hd : (8 : Rat) / 9 ≤ (2 * (K : Rat) + 1) * (1 - zz * zz) := by
      have := q_mul_le (show (1 : Rat) ≤ 2 * (K : Rat) + 1 by grind) (show 0 ≤ 1 - zz * zz by grind)
      grind
    exact q_div_le (by grind) (by grind)
  have m1 := q_mul_le' a1 hsr
  have m2 := q_mul_le' a2 hsr
  constructor
  · exact Rat.le_trans l1 m1
  · have e8 : s * (At K zz + tA K zz + e) = s * At K zz + s * tA K zz + s * e := by grind
    have e9 : s * (lam - e) = s * lam - s * e := by grind
    rw [e8] at m2
    rw [e9]
    grind
set_option linter.unusedVariables false
/-- 1/k - t/(k+1) + t^2/(k+2) - .., n terms -/
def Qs (t : Rat) : Nat → Nat → Rat
  | _, 0 => 0
  | k, n + 1 => 1 / (k : Rat) - t * Qs t (k + 1) n
theorem Qs_back (t : Rat) : ∀ (n k : Nat), Qs t k (n + 1) = Qs t k n + (-t) ^ n / ((k + n : Nat) : Rat)
  | 0, k => by
    show 1 / (k : Rat) - t * 0 = 0 + (-t) ^ 0 / ((k : Nat) : Rat)
    grind
  | n + 1, k => by
    have ih := Qs_back t n (k + 1)
    have e : Qs t k (n + 1 + 1) = 1 / (k : Rat) - t * Qs t (k + 1) (n + 1) := rfl
    have e2 : Qs t k (n + 1) = 1 / (k : Rat) - t * Qs t (k + 1) n := rfl
    rw [e, e2, ih, show k + (n + 1) = k + 1 + n by omega, Rat.pow_succ]
    grind
theorem Qs_one (t : Rat) : ∀ T : Nat, t * Qs t 1 T = -Pw T (-t)
  | 0 => by simp [Qs, Pw]
  | T + 1 => by
    have ih := Qs_one t T
    rw [Qs_back]
    simp only [Pw]
    have e : ((1 + T : Nat) : Rat) = (T : Rat) + 1 := by rw [Nat.add_comm]; grind
    rw [e, Rat.pow_succ]
    grind
theorem Qs_abs {t τ : Rat} (h0 : 0 ≤ τ) (h1 : τ < 1) (ht : t ≤ τ) (ht' : -τ ≤ t) : ∀ (n k : Nat), 0 < k → Qs t k n ≤ 1 / (1 - τ) ∧ -(1 / (1 - τ)) ≤ Qs t k n
  | 0, k, hk => by
    have : (0 : Rat) ≤ 1 / (1 - τ) := q_div_nn (by grind) (by grind)
    show (0 : Rat) ≤ _ ∧ _ ≤ (0 : Rat)
    constructor <;> grind
  | n + 1, k, hk => by
    obtain ⟨i1, i2⟩ := Qs_abs h0 h1 ht ht' n (k + 1) (by omega)
    show 1 / (k : Rat) - t * Qs t (k + 1) n ≤ _ ∧ _ ≤ 1 / (k : Rat) - t * Qs t (k + 1) n
    have hE : (0 : Rat) < 1 / (1 - τ) := q_div_pos (by grind) (by grind)
    have eE : 1 + τ * (1 / (1 - τ)) = 1 / (1 - τ) := by
      have : 1 - τ ≠ 0 := by grind
      grind
    have hk1 : 1 / (k : Rat) ≤ 1 := q_div_le (nat_pos hk) (by have := nat_le (show 1 ≤ k from hk); grind)
    have hk0 : 0 ≤ 1 / (k : Rat) := q_div_nn (by grind) (nat_pos hk)
    generalize Qs t (k + 1) n = Q at *
    generalize 1 / (1 - τ) = E at *
    have b : t * Q ≤ τ * E ∧ -(τ * E) ≤ t * Q := by
      have a1 := q_mul_nn (show 0 ≤ τ - t by grind) (show 0 ≤ E + Q by grind)
      have a2 := q_mul_nn (show 0 ≤ τ + t by grind) (show 0 ≤ E - Q by grind)
      have a3 := q_mul_nn (show 0 ≤ τ - t by grind) (show 0 ≤ E - Q by grind)
      have a4 := q_mul_nn (show 0 ≤ τ + t by grind) (show 0 ≤ E + Q by grind)
      constructor <;> grind
    constructor <;> grind
theorem dn_q {a b : Int} (hb : 0 < b) : (a : Rat) / b - ((dn a b : Int) : Rat) ≤ 1 / 2 ∧ -(1 / 2) ≤ (a : Rat) / b - ((dn a b : Int) : Rat) := by
  obtain ⟨h1, h2, _, _⟩ := dn_spec (a := a) hb
  have hbp := int_pos hb
  have g1 := int_le h1
  have g2 := int_le h2
  have c1 : ((-b : Int) : Rat) = -(b : Rat) := by exact_mod_cast rfl
  have c2 : ((2 * (a - b * dn a b) : Int) : Rat) = 2 * ((a : Rat) - b * ((dn a b : Int) : Rat)) := by exact_mod_cast rfl
  rw [c1, c2] at g1
  rw [c2] at g2
  generalize ((dn a b : Int) : Rat) = q at *
  constructor
  · have := q_div_le (a := (a : Rat)) (b := (b : Rat)) (c := q + 1 / 2) hbp (by grind)
    grind
  · have := q_le_div (a := (a : Rat)) (b := (b : Rat)) (c := q - 1 / 2) hbp (by grind)
    grind
/-- Horner's scheme -/
theorem hw_q {M u : Int} {T : Nat} {τ : Rat} (hM : 0 < M) (h0 : 0 ≤ τ) (h1 : τ < 1) (ht : (u : Rat) / M ≤ τ) (ht' : -τ ≤ (u : Rat) / M) : ∀ j : Nat, j < T →
    ((hw M u T j : Int) : Rat) - M * Qs ((u : Rat) / M) (T - j) (j + 1) ≤ 1 / (1 - τ) ∧ -(1 / (1 - τ)) ≤ ((hw M u T j : Int) : Rat) - M * Qs ((u : Rat) / M) (T - j) (j + 1)
  | 0, hj => by
    obtain ⟨d1, d2⟩ := dn_q (a := M) (b := T) (by omega)
    have e : Qs ((u : Rat) / M) (T - 0) (0 + 1) = 1 / ((T : Nat) : Rat) := by
      show 1 / ((T : Nat) : Rat) - (u : Rat) / M * 0 = _
      grind
    have c : (((T : Nat) : Int) : Rat) = ((T : Nat) : Rat) := by exact_mod_cast rfl
    rw [c] at d1 d2
    have hE : (1 : Rat) ≤ 1 / (1 - τ) := q_le_div (by grind) (by grind)
    rw [e]
    show ((dn M T : Int) : Rat) - _ ≤ _ ∧ _ ≤ ((dn M T : Int) : Rat) - _
    have e2 : (M : Rat) * (1 / ((T : Nat) : Rat)) = (M : Rat) / ((T : Nat) : Rat) := by grind
    rw [e2]
    constructor <;> grind
  | j + 1, hj => by
    obtain ⟨i1, i2⟩ := hw_q (T := T) hM h0 h1 ht ht' j (by omega)
    have hk : 0 < T - (j + 1) := by omega
    obtain ⟨d1, d2⟩ := dn_q (a := M) (b := (T : Int) - 1 - j) (by omega)
    obtain ⟨f1, f2⟩ := dn_q (a := u * hw M u T j) hM
    have ck : (((T : Int) - 1 - j : Int) : Rat) = ((T - (j + 1) : Nat) : Rat) := by
      have : (T : Int) - 1 - j = ((T - (j + 1) : Nat) : Int) := by omega
      rw [this]; exact_mod_cast rfl
    have cu : ((u * hw M u T j : Int) : Rat) = (u : Rat) * ((hw M u T j : Int) : Rat) := by exact_mod_cast rfl
    rw [ck] at d1 d2
    rw [cu] at f1 f2
    have e : Qs ((u : Rat) / M) (T - (j + 1)) (j + 1 + 1) = 1 / ((T - (j + 1) : Nat) : Rat) - (u : Rat) / M * Qs ((u : Rat) / M) (T - j) (j + 1) := by
      have : T - j = T - (j + 1) + 1 := by omega
      rw [this]; rfl
    have ew : ((hw M u T (j + 1) : Int) : Rat) = ((dn M ((T : Int) - 1 - j) : Int) : Rat) - ((dn (u * hw M u T j) M : Int) : Rat) := by
      show ((dn M ((T : Int) - 1 - j) - dn (u * hw M u T j) M : Int) : Rat) = _
      exact_mod_cast rfl
    rw [ew, e]
    have hMp := int_pos hM
    have eE : 1 + τ * (1 / (1 - τ)) = 1 / (1 - τ) := by
      have : 1 - τ ≠ 0 := by grind
      grind
    have em : (u : Rat) * ((hw M u T j : Int) : Rat) / M = (u : Rat) / M * ((hw M u T j : Int) : Rat) := by grind
    rw [em] at f1 f2
    have ed : (M : Rat) / ((T - (j + 1) : Nat) : Rat) = M * (1 / ((T - (j + 1) : Nat) : Rat)) := by grind
    rw [ed] at d1 d2
    have eX : (M : Rat) * (1 / ((T - (j + 1) : Nat) : Rat) - (u : Rat) / M * Qs ((u : Rat) / M) (T - j) (j + 1)) = M * (1 / ((T - (j + 1) : Nat) : Rat)) - (u : Rat) / M * (M * Qs ((u : Rat) / M) (T - j) (j + 1)) := by grind
    rw [eX]
    generalize (M : Rat) * Qs ((u : Rat) / M) (T - j) (j + 1) = Y at *
    generalize ((hw M u T j : Int) : Rat) = W at *
    generalize ((dn M ((T : Int) - 1 - j) : Int) : Rat) = D1 at *
    generalize ((dn (u * hw M u T j) M : Int) : Rat) = D2 at *
    generalize (M : Rat) * (1 / ((T - (j + 1) : Nat) : Rat)) = M1 at *
    generalize (u : Rat) / M = t at *
    generalize 1 / (1 - τ) = E at *
    have b : t * (W - Y) ≤ τ * E ∧ -(τ * E) ≤ t * (W - Y) := by
      have a1 := q_mul_nn (show 0 ≤ τ - t by grind) (show 0 ≤ E + (W - Y) by grind)
      have a2 := q_mul_nn (show 0 ≤ τ + t by grind) (show 0 ≤ E - (W - Y) by grind)
      have a3 := q_mul_nn (show 0 ≤ τ - t by grind) (show 0 ≤ E - (W - Y) by grind)
      have a4 := q_mul_nn (show 0 ≤ τ + t by grind) (show 0 ≤ E + (W - Y) by grind)
      constructor <;> grind
    constructor <;> grind
/-- its last value -/
theorem hw_last {M u : Int} {T : Nat} {τ : Rat} (hM : 0 < M) (hT : 0 < T) (h0 : 0 ≤ τ) (h1 : τ < 1) (ht : (u : Rat) / M ≤ τ) (ht' : -τ ≤ (u : Rat) / M) :
    ((hw M u T (T - 1) : Int) : Rat) - M * Qs ((u : Rat) / M) 1 T ≤ 1 / 2 + τ / (1 - τ) ∧ -(1 / 2 + τ / (1 - τ)) ≤ ((hw M u T (T - 1) : Int) : Rat) - M * Qs ((u : Rat) / M) 1 T := by
  have hMp := int_pos hM
  have hq : (0 : Rat) ≤ τ / (1 - τ) := q_div_nn h0 (by grind)
  have d1M : dn M 1 = M := by have := dn_mul (a := M) (b := 1) (by decide); rwa [Int.one_mul] at this
  by_cases hT1 : T = 1
  · subst hT1
    have ew : hw M u ((1 : Nat) : Int) (1 - 1) = M := d1M
    rw [ew]
    have e : Qs ((u : Rat) / M) 1 1 = 1 := by
      show 1 / ((1 : Nat) : Rat) - (u : Rat) / M * 0 = 1
      grind
    rw [e]
    constructor <;> grind
  · obtain ⟨k, rfl⟩ : ∃ k, T = k + 2 := ⟨T - 2, by omega⟩
    obtain ⟨i1, i2⟩ := hw_q (T := k + 2) hM h0 h1 ht ht' k (by omega)
    obtain ⟨f1, f2⟩ := dn_q (a := u * hw M u ((k + 2 : Nat) : Int) k) hM
    have cu : ((u * hw M u ((k + 2 : Nat) : Int) k : Int) : Rat) = (u : Rat) * ((hw M u ((k + 2 : Nat) : Int) k : Int) : Rat) := by exact_mod_cast rfl
    rw [cu] at f1 f2
    have ew : ((hw M u ((k + 2 : Nat) : Int) (k + 2 - 1) : Int) : Rat) = (M : Rat) - ((dn (u * hw M u ((k + 2 : Nat) : Int) k) M : Int) : Rat) := by
      show ((dn M (((k + 2 : Nat) : Int) - 1 - k) - dn (u * hw M u ((k + 2 : Nat) : Int) k) M : Int) : Rat) = _
      rw [show ((k + 2 : Nat) : Int) - 1 - k = 1 by omega, d1M]
      exact_mod_cast rfl
    have e : Qs ((u : Rat) / M) 1 (k + 2) = 1 - (u : Rat) / M * Qs ((u : Rat) / M) 2 (k + 1) := by
      show 1 / ((1 : Nat) : Rat) - (u : Rat) / M * Qs ((u : Rat) / M) 2 (k + 1) = _
      grind
    rw [show k + 2 - k = 2 by omega] at i1 i2
    rw [ew, e]
    have em : (u : Rat) * ((hw M u ((k + 2 : Nat) : Int) k : Int) : Rat) / M = (u : Rat) / M * ((hw M u ((k + 2 : Nat) : Int) k : Int) : Rat) := by grind
    rw [em] at f1 f2
    have eX : (M : Rat) * (1 - (u : Rat) / M * Qs ((u : Rat) / M) 2 (k + 1)) = M - (u : Rat) / M * (M * Qs ((u : Rat) / M) 2 (k + 1)) := by grind
    rw [eX]
    have eT : τ / (1 - τ) = τ * (1 / (1 - τ)) := by grind
    rw [eT]
    generalize (M : Rat) * Qs ((u : Rat) / M) 2 (k + 1) = Y at *
    generalize ((hw M u ((k + 2 : Nat) : Int) k : Int) : Rat) = W at *
    generalize ((dn (u * hw M u ((k + 2 : Nat) : Int) k) M : Int) : Rat) = D2 at *
    generalize (u : Rat) / M = t at *
    generalize 1 / (1 - τ) = E at *
    have b : t * (W - Y) ≤ τ * E ∧ -(τ * E) ≤ t * (W - Y) := by
      have a1 := q_mul_nn (show 0 ≤ τ - t by grind) (show 0 ≤ E + (W - Y) by grind)
      have a2 := q_mul_nn (show 0 ≤ τ + t by grind) (show 0 ≤ E - (W - Y) by grind)
      have a3 := q_mul_nn (show 0 ≤ τ - t by grind) (show 0 ≤ E - (W - Y) by grind)
      have a4 := q_mul_nn (show 0 ≤ τ + t by grind) (show 0 ≤ E + (W - Y) by grind)
      constructor <;> grind
    constructor <;> grind
set_option maxHeartbeats 4000000
set_option linter.unusedVariables false
open_top hd for PySem.Challenge.rw_dm0263_08
structure GOk (g : GX) : Prop where
  p : g.p = hd.view_39
  ex : g.ex = (hd.heap_39 g.w.params).In
example : (recsOf hd.view_39).map (fun d => d.name.toString) = ["_sqrt_nearest", "_rshift_nearest", "_div_nearest", "_law_at", "_law_log", "law"] := by decide +kernel

abbrev stN (n a b : Int) : AS := ⟨[("a", .int a), ("b", .int b), ("n", .int n)], none⟩
theorem c_sqrt {g : GX} (hg : GOk g) {n a₀ : Int} (hn : 0 < n) (ha : 0 < a₀) : Calls g 1 "_sqrt_nearest" [.int n, .int a₀] fun v => v = .int (rt n) := by
  refine Calls_of (n := 0) (ns := [Str.ofString "n", Str.ofString "a"]) (hd := by rw [hg.p]; exact List.Mem.head _) ?_ rfl rfl (by decide) rfl rfl rfl ?_
  · intro vs pm cd doc hv
    match vs, hv with
    | [x, y], _ => rfl
  · intro A L a qual code
    repeat walk_at "mw"
    refine ifD (fun h => absurd h (by omega)) (fun _ => ?_)
    repeat walk_at "mw"
    refine ifD (fun h => absurd h (by omega)) (fun _ => ?_)
    repeat walk_at "mw"
    refine ExS_while (fun k S => ∃ a b : Int, 0 < a ∧ S = stN n a b ∧ ((b = 0 ∧ k = 2 * (ns1 n a).toNat + 2) ∨ (0 < b ∧ a = ns1 n b ∧ n ≤ a * (a + 1) ∧ k = 2 * a.toNat + if a = b then 0 else 1))) (n₀ := 2 * (ns1 n a₀).toNat + 2) (S₀ := stN n a₀ 0) (by walk_at "le") ⟨a₀, 0, ha, rfl, .inl ⟨rfl, rfl⟩⟩ ?_
    rintro k S ⟨a, b, ha, rfl, hk⟩
    have ha' : a ≠ 0 := by omega
    repeat walk_at "mw"
    refine ifN (fun hab => ?_) (fun hab => ?_)
    · repeat walk_at "mw"
      have e : (a - (-n).fdiv a).fdiv (2 ^ (1 : Int).toNat) = ns1 n a := by
        rw [Int.fdiv_eq_ediv_of_nonneg _ (by decide), Int.fdiv_eq_ediv_of_nonneg _ (by omega)]; rfl
      rw [e]
      have hp := ns1_pos ha hn
      have hh := ns1_hi ha hn
      refine ⟨stN n (ns1 n a) a, 2 * (ns1 n a).toNat + (if ns1 n a = a then 0 else 1), by walk_at "le", ?_, ns1 n a, a, hp, rfl, .inr ⟨ha, rfl, hh, rfl⟩⟩
      rcases hk with ⟨rfl, rfl⟩ | ⟨hb, _, hle, rfl⟩
      · split <;> omega
      · have := ns1_le ha hn hle
        rw [if_neg hab]
        split <;> omega
    · repeat walk_at "mw"
      rcases hk with ⟨rfl, _⟩ | ⟨hb, he, _, _⟩
      · omega
      · rw [← hab] at he
        rw [rt_eq (ns1_fix ha hn he.symm)]
theorem f_sqrt {g : GX} (hg : GOk g) : ∃ a, FnIs g "_sqrt_nearest" a := FnIs_of (by rw [hg.p]; exact List.Mem.head _)
theorem c_rsh {g : GX} (hg : GOk g) {x : Int} {k : Nat} (hk : k ≤ 100000000) : Calls g 1 "_rshift_nearest" [.int x, .int k] fun v => v = .int (dn x (2 ^ k)) := by
  refine Calls_of (n := 0) (ns := [Str.ofString "x", Str.ofString "shift"]) (hd := by rw [hg.p]; exact List.Mem.tail _ (List.Mem.head _)) ?_ rfl rfl (by decide) rfl rfl rfl ?_
  · intro vs pm cd doc hv
    match vs, hv with
    | [x, y], _ => rfl
  · intro A L a qual code
    repeat walk_at "mw"
    refine Bin_shl (by omega) (by rw [show intBits 1 = 1 from rfl]; omega) ?_
    repeat walk_at "mw"
    rw [Int.one_mul, Int.toNat_natCast]
    exact congrArg AV.int dn_walkS
theorem f_rsh {g : GX} (hg : GOk g) : ∃ a, FnIs g "_rshift_nearest" a := FnIs_of (by rw [hg.p]; exact List.Mem.tail _ (List.Mem.head _))
theorem c_div {g : GX} (hg : GOk g) {a b : Int} (hb : 0 < b) : Calls g 1 "_div_nearest" [.int a, .int b] fun v => v = .int (dn a b) := by
  refine Calls_of (n := 0) (ns := [Str.ofString "a", Str.ofString "b"]) (hd := by rw [hg.p]; exact List.Mem.tail _ (List.Mem.tail _ (List.Mem.head _))) ?_ rfl rfl (by decide) rfl rfl rfl ?_
  · intro vs pm cd doc hv
    match vs, hv with
    | [x, y], _ => rfl
  · intro A L a qual code
    have hb' : b ≠ 0 := by omega
    repeat walk_at "mw"
    exact congrArg AV.int (dn_walk hb)
theorem f_div {g : GX} (hg : GOk g) : ∃ a, FnIs g "_div_nearest" a := FnIs_of (by rw [hg.p]; exact List.Mem.tail _ (List.Mem.tail _ (List.Mem.head _)))
set_option maxHeartbeats 4000000
set_option linter.unusedVariables false
theorem f_ilog {g : GX} (hg : GOk g) : FnIs g "_ilog" 43 := by
  have at_ : ∀ h, PG g h → (hd.heap_39 g.w.params).In h := fun h p => by have := p.ex; rw [hg.ex] at this; exact this
  constructor
  · obtain ⟨h, T, hx⟩ := g.inh
    exact mg_of (at_ h ⟨T, hx⟩) T.g rfl
  · intro h p
    exact ⟨_, _, at_ h p _ _ rfl, rfl⟩
abbrev stI (y R x M L : Int) : AS := ⟨[("y", .int y), ("R", .int R), ("x", .int x), ("M", .int M), ("L", .int L)], none⟩
abbrev stW (w u y M : Int) : AS := ⟨[("w", .int w), ("yshift", .int u), ("y", .int y), ("M", .int M)], none⟩
theorem c_ilog {g : GX} (hg : GOk g) {x M : Int} {L N T : Nat} (hM : 0 < M) (hMb : M.natAbs.log2 < 1920) (hL : 0 < L) (hL2 : L ≤ 100000) (hN : N ≤ 90000000)
    (hgo : ∀ R, R < N → M * 2 ^ R ≤ ((ys M x R).natAbs : Int) * 2 ^ L) (hstop : ((ys M x N).natAbs : Int) * 2 ^ L < M * 2 ^ N)
    (hz : ∀ R, R < N → 0 < M + dn (ys M x R) (2 ^ R)) (hb : ∀ R, R ≤ N → intBits (ys M x R) ≤ 65000000)
    (hT0 : 0 < T) (hT : (T : Int) = -((-10 * ((Str.ofString (toString M)).length : Int)) / (3 * L)))
    (hw' : ∀ j, j < T → intBits (hw M (dn (ys M x N) (2 ^ N)) T j) ≤ 65000000) :
    Calls g 2 "_ilog" [.int x, .int M, .int L] fun v => v = .int (dn (hw M (dn (ys M x N) (2 ^ N)) T (T - 1) * ys M x N) M) := by
  refine ⟨43, f_ilog hg, ?_⟩
  apply CallsV_ofB (n := 1) (ns := [Str.ofString "x", Str.ofString "M", Str.ofString "L"])
  case hfd =>
    intro h p
    have X : (hd.heap_39 g.w.params).In h := by have := p.ex; rw [hg.ex] at this; exact this
    refine ⟨_, _, X 43 _ rfl, rfl, ⟨42, _, _, _, rfl, X 42 _ rfl, rfl, rfl⟩, rfl, rfl, rfl, rfl, rfl, ?_⟩
    intro vs s hs hv
    match vs, hv with
    | [x, y, z], _ => exact BindsTo.of_defaults rfl (hs ▸ X 36 _ rfl) rfl rfl rfl
  case hlen => rfl
  case hp => rfl
  case hnd => decide
  case hk => rfl
  case hgen => rfl
  case hco => rfl
  case hbody =>
    intro A Lo qual code
    refine Ex_cons (ExS_assign ?_ ⟨.inl rfl, trivial⟩)
    repeat walk_at "mw"
    refine ExS_while (fun k S => ∃ R : Nat, R ≤ N ∧ k = N - R ∧ S = stI (ys M x R) R x M L) (n₀ := N) (S₀ := stI (x - M) (0 : Nat) x M L) (by walk_at "le") ⟨0, Nat.zero_le _, rfl, rfl⟩ ?_
    rintro k S ⟨R, hR, rfl, rfl⟩
    have hyb := hb R hR
    have hab : intBits ((ys M x R).natAbs : Int) ≤ 65000000 := intBits_natAbs_le hyb
    have turn : M * 2 ^ R ≤ ((ys M x R).natAbs : Int) * 2 ^ L → R < N := by
      intro h
      apply Nat.lt_of_le_of_ne hR
      rintro rfl
      omega
    have stay : ¬ M * 2 ^ R ≤ ((ys M x R).natAbs : Int) * 2 ^ L → R = N := by
      intro h
      apply Classical.byContradiction
      intro hne
      exact h (hgo R (by omega))
    refine Tst.mono (Φ := fun b => b = decide (M * 2 ^ R ≤ ((ys M x R).natAbs : Int) * 2 ^ L)) ?_ ?_
    · generalize ys M x R = y at *
      repeat walk_at "mw"
      refine ifD (fun hRL => ?_) (fun hRL => ?_)
      · have hRL' : R ≤ L := by omega
        repeat walk_at "mw"
        rw [abs_if]
        refine Bin_shl (by omega) (by omega) ?_
        repeat walk_at "mw"
        rw [show ((L : Int) - R).toNat = L - R by omega]
        refine ifD (fun h => ?_) (fun h => ?_)
        · repeat walk_at "mw"
          exact (decide_eq_true ((go_le hRL').mp h)).symm
        · repeat walk_at "mw"
          refine ifD (fun h => by omega) (fun _ => ?_)
          repeat walk_at "mw"
          exact (decide_eq_false (fun q => h ((go_le hRL').mpr q))).symm
      · have hRL' : L < R := by omega
        repeat walk_at "mw"
        refine ifD (fun _ => ?_) (fun h => by omega)
        repeat walk_at "mw"
        rw [abs_if, show ((R : Int) - L).toNat = R - L by omega, Int.fdiv_eq_ediv_of_nonneg _ (Int.le_of_lt (two_pos _))]
        refine ifD (fun h => ?_) (fun h => ?_)
        · repeat walk_at "mw"
          exact (decide_eq_true ((go_gt hRL').mp h)).symm
        · repeat walk_at "mw"
          exact (decide_eq_false (fun q => h ((go_gt hRL').mpr q))).symm
    · rintro _ rfl
      refine ifD (fun h => ?_) (fun h => ?_)
      · have hRN := turn h
        have hMbb := log_bits hM hMb
        have hz' := hz R hRN
        have hdb := dn_bits (two_pos R) hyb
        have hsum : intBits (M + dn (ys M x R) (2 ^ R)) ≤ 65000001 := Nat.le_trans (intBits_add_le hMbb hdb) (by omega)
        have hpos : 0 < M * (M + dn (ys M x R) (2 ^ R)) := Int.mul_pos hM hz'
        have hr := rt_spec hpos
        have hrp := hr.pos
        refine Ex_cons (ExS_assign (Ev_call (n := 1) rfl (Evs_cons ?_) (Nat.le_refl _) (hg := f_div hg)) ⟨.inl rfl, trivial⟩)
        repeat walk_at "mw"
        refine Bin_mul (IntMulOk.of_le hMbb hyb (by omega)) ?_
        repeat walk_at "mw"
        refine Bin_shl (by decide) (by have := intBits_mul_le hMbb hyb; omega) ?_
        rw [show (2 : Int) ^ (1 : Int).toNat = 2 from rfl]
        refine Evs_cons (Ev_bin (Ev_name rfl (Ev_call (n := 1) rfl (Evs_cons (Ev_bin (Ev_name rfl (Ev_bin (Ev_name rfl (Ev_call (n := 1) rfl ?_ (Nat.le_refl _) (hg := f_rsh hg))))))) (Nat.le_refl _) (hg := f_sqrt hg))))
        repeat walk_at "mw"
        refine (c_rsh hg (by omega)).mono ?_
        rintro _ rfl
        repeat walk_at "mw"
        refine Bin_mul (IntMulOk.of_le hMbb hsum (by omega)) ?_
        repeat walk_at "mw"
        refine (c_sqrt hg hpos hM).mono ?_
        rintro _ rfl
        repeat walk_at "mw"
        refine (c_div hg (by omega)).mono ?_
        rintro _ rfl
        repeat walk_at "mw"
        exact ⟨stI (ys M x (R + 1)) ((R + 1 : Nat) : Int) x M L, N - (R + 1), by walk_at "le", by omega, R + 1, hRN, rfl, rfl⟩
      · obtain rfl := stay h
        have hMbb := log_bits hM hMb
        have hdig : (Str.ofString (toString M)).length ≤ 1921 := int_text_len_1921 hMb
        have hL3 : (3 : Int) * L ≠ 0 := by omega
        refine Ex_cons (ExS_assign (Ev_una (Ev_int rfl (Evs_cons (Ev_bin (Ev_bin ?_))))) ⟨.inl rfl, trivial⟩)
        repeat walk_at "mw"
        refine CallB_strI hMb ?_
        repeat walk_at "mw"
        refine CallB_lenS (show (Str.ofString (toString M)).length < 2 ^ 62 by omega) ?_
        generalize (Str.ofString (toString M)).length = dg at *
        repeat walk_at "mw"
        rw [Int.fdiv_eq_ediv_of_nonneg _ (by omega), ← hT]
        have hu := dn_bits (two_pos R) hyb
        generalize hu' : dn (ys M x R) (2 ^ R) = u at *
        refine Ev_call (n := 1) rfl ?_ (Nat.le_refl _) (hg := f_rsh hg)
        repeat walk_at "mw"
        refine (c_rsh hg (by omega)).mono ?_
        rintro _ rfl
        rw [hu']
        refine Ex_cons (ExS_assign (Ev_call (n := 1) rfl ?_ (Nat.le_refl _) (hg := f_div hg)) ⟨.inl rfl, trivial⟩)
        repeat walk_at "mw"
        refine (c_div hg (by omega)).mono ?_
        rintro _ rfl
        refine Ex_cons (ExS_for ?_)
        repeat walk_at "mw"
        have hrs : Builtin.Range.rangeSize ((T : Int) - 1) 0 (-1) = ((T - 1 : Nat) : Int) := by
          unfold Builtin.Range.rangeSize; simp; omega
        refine ⟨_, .rng _ _ _ _ hrs, fun i S' => S' = stW (hw M u T i) u (ys M x R) M, ⟨stW (dn M T) u (ys M x R) M, by walk_at "le", rfl⟩, ?_, ?_⟩
        · rintro i S' av hi rfl
          obtain ⟨hin, rfl⟩ := rngL_get hi
          refine ⟨⟨.inl rfl, trivial⟩, ?_⟩
          have hk : (0 : Int) < (T : Int) - 1 + i * -1 := by omega
          have hk' : (T : Int) - 1 + i * -1 = T - 1 - i := by omega
          rw [hk'] at hk ⊢
          refine Ex_cons (ExS_assign (Ev_bin (Ev_call (n := 1) rfl ?_ (Nat.le_refl _) (hg := f_div hg))) ⟨.inl rfl, trivial⟩)
          repeat walk_at "mw"
          refine (c_div hg hk).mono ?_
          rintro _ rfl
          refine Ev_call (n := 1) rfl ?_ (Nat.le_refl _) (hg := f_div hg)
          repeat walk_at "mw"
          refine Bin_mul (IntMulOk.of_le hu (hw' i (by omega)) (by omega)) ?_
          repeat walk_at "mw"
          refine (c_div hg hM).mono ?_
          rintro _ rfl
          repeat walk_at "mw"
          exact ⟨stW (hw M u T (i + 1)) u (ys M x R) M, by walk_at "le", rfl⟩
        · rintro S' rfl
          rw [rngL_len]
          refine Ex_cons (ExS_return (Ev_call (n := 1) rfl ?_ (Nat.le_refl _) (hg := f_div hg)))
          repeat walk_at "mw"
          refine Bin_mul (IntMulOk.of_le (hw' (T - 1) (by omega)) hyb (by omega)) ?_
          repeat walk_at "mw"
          exact c_div hg hM
set_option linter.unusedVariables false
/-- the powers of _law_log fall -/
theorem lp_fall {n m scale : Int} (hm : 0 < m) (hn : 0 ≤ n) (h3 : 3 * n ≤ m) (hs : 0 ≤ scale) : ∀ i : Nat, lp n m scale i * 2 ^ i ≤ scale
  | 0 => by
    show scale * n / m * 2 ^ 0 ≤ scale
    have : scale * n / m ≤ scale := by
      apply Int.ediv_le_of_le_mul hm
      exact Int.mul_le_mul_of_nonneg_left (by omega) hs
    rw [show (2 : Int) ^ 0 = 1 from rfl]; omega
  | i + 1 => by
    have ih := lp_fall hm hn h3 hs i
    obtain ⟨h0, _, _⟩ := lp_both hm hn h3 hs i
    have hmm : 0 < m * m := Int.mul_pos hm hm
    have k : lp n m scale (i + 1) * 2 ≤ lp n m scale i := by
      show lp n m scale i * n * n / (m * m) * 2 ≤ _
      have h1 : lp n m scale i * n * n / (m * m) * (m * m) ≤ lp n m scale i * n * n := Int.ediv_mul_le _ (by omega)
      have h2 : 2 * (n * n) ≤ m * m := by
        have : 3 * n * (3 * n) ≤ m * m := Int.mul_le_mul h3 h3 (by omega) (by omega)
        have e : 3 * n * (3 * n) = 9 * (n * n) := by grind
        have : 0 ≤ n * n := Int.mul_nonneg hn hn
        omega
      have h3 : lp n m scale i * (2 * (n * n)) ≤ lp n m scale i * (m * m) := Int.mul_le_mul_of_nonneg_left h2 h0
      refine Int.le_of_mul_le_mul_right (a := m * m) ?_ hmm
      generalize lp n m scale i * n * n / (m * m) = q at *
      grind
    have hp : (0 : Int) ≤ 2 ^ i := Int.le_of_lt (two_pos i)
    have := Int.mul_le_mul_of_nonneg_right k hp
    rw [Int.pow_succ]
    have e : lp n m scale (i + 1) * (2 ^ i * 2) = lp n m scale (i + 1) * 2 * 2 ^ i := by grind
    rw [e]; omega
/-- where the loop of _law_log ends -/
theorem lp_ends {n m scale : Int} {B : Nat} (hm : 0 < m) (hn : 0 ≤ n) (h3 : 3 * n ≤ m) (hs : 0 ≤ scale) (hB : scale < 2 ^ B) : ∃ K : Nat, K ≤ B ∧ lp n m scale K ≤ 0 ∧ ∀ i, i < K → 0 < lp n m scale i := by
  have hend : lp n m scale B ≤ 0 := by
    have h := lp_fall hm hn h3 hs B
    apply Int.not_lt.mp
    intro hpos
    have : 1 * 2 ^ B ≤ lp n m scale B * 2 ^ B := Int.mul_le_mul_of_nonneg_right (by omega) (Int.le_of_lt (two_pos B))
    omega
  have : ∀ j, j ≤ B → lp n m scale j ≤ 0 → ∃ K : Nat, K ≤ B ∧ lp n m scale K ≤ 0 ∧ ∀ i, i < K → 0 < lp n m scale i := by
    intro j
    induction j with
    | zero => intro _ h; exact ⟨0, by omega, h, fun i hi => by omega⟩
    | succ j ih =>
      intro hj h
      by_cases hp : lp n m scale j ≤ 0
      · exact ih (by omega) hp
      · refine ⟨j + 1, hj, h, fun i hi => ?_⟩
        apply Int.not_le.mp
        intro hle
        -- once nought, always nought
        have stay : ∀ k, lp n m scale (i + k) ≤ 0 := by
          intro k
          induction k with
          | zero => exact hle
          | succ k ihk =>
            show lp n m scale (i + k) * n * n / (m * m) ≤ 0
            have h0 := (lp_both hm hn h3 hs (i + k)).1
            have : lp n m scale (i + k) = 0 := by omega
            rw [this]; simp
        have := stay (j - i)
        rw [show i + (j - i) = j by omega] at this
        exact hp this
  exact this B (Nat.le_refl _) hend
/-- the last value, against the logarithm -/
theorem ser_log {N T : Nat} (hN : 0 < N) (hT : 0 < T) {M y : Int} (hM : 0 < M) (hy : 2 * (y.natAbs : Int) ≤ M) :
    ((hw M y T (T - 1) : Int) : Rat) * ((y : Rat) / M) - M * lgI N (M + y) M ≤ (y.natAbs : Rat) / M * (1 / 2 + (y.natAbs : Rat) / M / (1 - (y.natAbs : Rat) / M)) + M * (tl T ((y.natAbs : Rat) / M) + 4 / (N : Rat)) ∧
    -((y.natAbs : Rat) / M * (1 / 2 + (y.natAbs : Rat) / M / (1 - (y.natAbs : Rat) / M)) + M * (tl T ((y.natAbs : Rat) / M) + 4 / (N : Rat))) ≤ ((hw M y T (T - 1) : Int) : Rat) * ((y : Rat) / M) - M * lgI N (M + y) M := by
  have hMp := int_pos hM
  obtain ⟨t1, t2⟩ := taylor hN hM hy T
  have hya : (y : Rat) ≤ (y.natAbs : Rat) ∧ -(y.natAbs : Rat) ≤ (y : Rat) := by
    have h1 := int_le (show y ≤ (y.natAbs : Int) by omega)
    have h2 := int_le (show -(y.natAbs : Int) ≤ y by omega)
    have c : ((-(y.natAbs : Int) : Int) : Rat) = -(y.natAbs : Rat) := by exact_mod_cast rfl
    rw [c] at h2
    exact ⟨h1, h2⟩
  have hn2 : 2 * (y.natAbs : Rat) ≤ M := by
    have := int_le hy
    have c : ((2 * (y.natAbs : Int) : Int) : Rat) = 2 * (y.natAbs : Rat) := by exact_mod_cast rfl
    rw [c] at this; exact this
  have hn0 : (0 : Rat) ≤ (y.natAbs : Rat) := by grind
  have τ0 : (0 : Rat) ≤ (y.natAbs : Rat) / M := q_div_nn hn0 hMp
  have τ1 : (y.natAbs : Rat) / M ≤ 1 / 2 := q_div_le hMp (by grind)
  have k1 : (y : Rat) / M ≤ (y.natAbs : Rat) / M := q_div_le hMp (by
    have : (y.natAbs : Rat) / M * M = (y.natAbs : Rat) := by grind
    grind)
  have k2 : -((y.natAbs : Rat) / M) ≤ (y : Rat) / M := q_le_div hMp (by
    have : -((y.natAbs : Rat) / M) * M = -(y.natAbs : Rat) := by grind
    grind)
  obtain ⟨w1, w2⟩ := hw_last (T := T) hM hT τ0 (by grind) k1 k2
  have q := Qs_one ((y : Rat) / M) T
  generalize ((hw M y T (T - 1) : Int) : Rat) = W at *
  generalize Qs ((y : Rat) / M) 1 T = Q at *
  generalize Pw T (-((y : Rat) / M)) = PP at *
  generalize lgI N (M + y) M = lam at *
  generalize tl T ((y.natAbs : Rat) / M) = tt at *
  generalize (4 : Rat) / N = e at *
  have eD : (0 : Rat) ≤ (y.natAbs : Rat) / M / (1 - (y.natAbs : Rat) / M) := q_div_nn τ0 (by grind)
  generalize (y.natAbs : Rat) / M / (1 - (y.natAbs : Rat) / M) = D at *
  generalize (y.natAbs : Rat) / M = τ at *
  generalize (y : Rat) / M = t at *
  generalize (M : Rat) = m at *
  have b : t * (W - m * Q) ≤ τ * (1 / 2 + D) ∧ -(τ * (1 / 2 + D)) ≤ t * (W - m * Q) := by
    have a1 := q_mul_nn (show 0 ≤ τ - t by grind) (show 0 ≤ (1 / 2 + D) + (W - m * Q) by grind)
    have a2 := q_mul_nn (show 0 ≤ τ + t by grind) (show 0 ≤ (1 / 2 + D) - (W - m * Q) by grind)
    have a3 := q_mul_nn (show 0 ≤ τ - t by grind) (show 0 ≤ (1 / 2 + D) - (W - m * Q) by grind)
    have a4 := q_mul_nn (show 0 ≤ τ + t by grind) (show 0 ≤ (1 / 2 + D) + (W - m * Q) by grind)
    constructor <;> grind
  have m1 := q_mul_le' t1 (show 0 ≤ m by grind)
  have m2 := q_mul_le' t2 (show 0 ≤ m by grind)
  have e1 : W * t - m * lam = t * (W - m * Q) + (m * (t * Q) - m * lam) := by grind
  have e2 : m * (t * Q) = -(m * PP) := by rw [q]; grind
  have e3 : m * (lam + PP) = m * lam + m * PP := by grind
  have e4 : m * -(tt + e) = -(m * (tt + e)) := by grind
  rw [e3] at m1 m2
  rw [e4] at m2
  rw [e1, e2]
  constructor <;> grind
/-- no number is above another by every 1/N's multiple -/
theorem q_arch {a b : Rat} {C : Int} (h : ∀ N : Nat, 0 < N → a ≤ b + (C : Rat) / (N : Rat)) : a ≤ b := by
  apply Classical.byContradiction
  intro hab
  have hd : 0 < a - b := by grind
  -- 1 / (a - b) is below some N
  obtain ⟨n, hn⟩ : ∃ n : Nat, ((C.natAbs : Nat) : Rat) / (a - b) < (n : Rat) := by
    refine ⟨(((C.natAbs : Nat) : Rat) / (a - b)).floor.toNat + 1, ?_⟩
    have h1 : ((C.natAbs : Nat) : Rat) / (a - b) < ((((C.natAbs : Nat) : Rat) / (a - b)).floor : Rat) + 1 := by
      have := Rat.lt_floor (x := ((C.natAbs : Nat) : Rat) / (a - b))
      grind
    have h2 := int_le (show (((C.natAbs : Nat) : Rat) / (a - b)).floor ≤ (((((C.natAbs : Nat) : Rat) / (a - b)).floor.toNat : Nat) : Int) by omega)
    have h3 : ((((((C.natAbs : Nat) : Rat) / (a - b)).floor.toNat + 1 : Nat)) : Rat) = ((((((C.natAbs : Nat) : Rat) / (a - b)).floor.toNat : Nat) : Int) : Rat) + 1 := by exact_mod_cast rfl
    rw [h3]
    grind
  have hc0 : (0 : Rat) ≤ ((C.natAbs : Nat) : Rat) := by grind
  have hq0 : (0 : Rat) ≤ ((C.natAbs : Nat) : Rat) / (a - b) := q_div_nn hc0 hd
  have hnp : 0 < n := by
    apply Nat.pos_of_ne_zero
    rintro rfl
    have : ((0 : Nat) : Rat) = 0 := by grind
    grind
  have hN := h n hnp
  have hnr := nat_pos hnp
  have hC : (C : Rat) ≤ ((C.natAbs : Nat) : Rat) := int_le (show C ≤ (C.natAbs : Int) by omega)
  have k : (C : Rat) / n < a - b := by
    have h1 : ((C.natAbs : Nat) : Rat) < n * (a - b) := by
      have h4 := Rat.mul_pos (show 0 < (n : Rat) - ((C.natAbs : Nat) : Rat) / (a - b) by grind) hd
      have e : ((n : Rat) - ((C.natAbs : Nat) : Rat) / (a - b)) * (a - b) = n * (a - b) - ((C.natAbs : Nat) : Rat) := by grind
      rw [e] at h4
      grind
    have h2 : 0 < (n * (a - b) - C) / (n : Rat) := q_div_pos (by grind) hnr
    have e : (n * (a - b) - C) / (n : Rat) = (a - b) - (C : Rat) / n := by grind
    rw [e] at h2
    grind
  grind
variable {C : CX} {S : AS} {Ψ : AFl → AS → Prop}
theorem letGo_any {prog : Program} {w : World} {A : Around} {E : Value → Shared → Prop} {s : Shared} {elts : List Expr} {x1} {pos : Pos} {I T : Addr} {o : Obj} {n : String} {Q : Unit → Shared → Prop} (ho : s.heap.get? I = some o) (hc : o.cls = .type n) (hn : ownIters.contains n = false) (hQ : Q () s) :
    wpAny (model prog w) A (letOwnedTupleGo (.Tuple elts x1 pos) (.ref I) (.ref T)) Q E s := by
  unfold letOwnedTupleGo
  refine wpAny_bind (wpAny_load ho ?_)
  rw [hc]
  cases hd : o.data <;> try exact wpAny_pure hQ
  rename_i vs
  show wpAny _ A (if (ownIters.contains n && vs[0]? == some (rawInt T)) = true then _ else _) Q E s
  rw [if_neg (by rw [hn, Bool.false_and]; exact Bool.false_ne_true)]
  exact wpAny_pure hQ
/-- for, over names unpacked from a tuple -/
theorem ExS_forT {nps : List (Str × Pos)} {elts : List Expr} {k₀ : Nat} {tp pos : Pos} {iter : Expr} {body : List Stmt} (he : elts = nps.map fun p => Expr.Name p.1 p.2)
    (h : Ev C S iter fun av => ∃ xs, Items av xs ∧ ∃ I : Nat → AS → Prop, (∃ S₀, S.le S₀ ∧ I 0 S₀) ∧
      (∀ i S av, xs[i]? = some av → I i S → ∃ l, av = .tup l ∧ l.length = nps.length ∧ (∀ x ∈ nps, Stb C S x.1) ∧ Ex C (S.sets (nps.map (·.1)) l) body fun fl S' => match fl with
        | .next => ∃ S'', S'.le S'' ∧ I (i + 1) S''
        | .cont => ∃ S'', S'.le S'' ∧ I (i + 1) S''
        | .brk => Ψ .next S'
        | .ret v => Ψ (.ret v) S') ∧ (∀ S, I xs.length S → Ψ .next S))
    (hs : ∀ x, foldedSetIterable iter C.env x = pure x := by intro _; rfl) : ExS C S (.For (.Tuple elts k₀ tp) iter body [] pos) Ψ := by
  refine ⟨fun ok s₀ X₀ β s Q p F k => ?_⟩
  refine wpAny_For (h.go ok _ s _ _ (p.st F.keep) F.xinh F.relS fun av v h₁ t₁ st₁ rv hyp => ?_) hs
  obtain ⟨xs, hit, I, ⟨S₀, hle0, hI0⟩, hturn, hend⟩ := hyp
  refine iter_go ok hit rv fun fp P St o itr hfree => ?_
  have F₁ : FS C s₀ X₀ β S { s with heap := h₁.push o, toks := t₁ } := F.st (st₁.trans (StIn.push _ _))
  generalize hIaddr : h₁.objs.size = J at itr
  -- what is kept: relative to the heap with the iterator
  have hJ : (h₁.push o).get? J = some o := by rw [← hIaddr]; exact Heap.get?_push_size _ hfree
  have hJnone : h₁.get? J = none := by
    cases e : h₁.get? J with
    | none => rfl
    | some o' => have := Heap.lt_size e; rw [hIaddr] at this; exact absurd this (Nat.lt_irrefl _)
  have hJs : s.heap.get? J = none := by
    cases e : s.heap.get? J with
    | none => rfl
    | some o' => rw [st₁ _ _ e] at hJnone; cases hJnone
  refine codeAny_forLoop_any (fun n s' => ∃ h' tk S' β' i, s' = { s with heap := h', toks := tk } ∧ FS C s₀ X₀ β' S' s' ∧ FKeep C β s.heap h' ∧ BEv β s.heap β' ∧ (∀ b, β' = some b → β = some b ∨ (h₁.push o).get? b = none) ∧
      VKeep (β.toList ++ X₀) (h₁.push o) h' ∧ (∀ a oa, a ≠ C.env.locals → (∀ x, C.env.cells.lookup x ≠ some a) → β ≠ some a → a ≠ J → (h₁.push o).get? a = some oa → h'.get? a = some oa) ∧ St i h' ∧ i ≤ xs.length ∧ n = xs.length + 1 - i ∧ I i S') ?_ (xs.length + 1)
    ⟨h₁.push o, t₁, S₀, β, 0, rfl, F₁.weak hle0, .of (st₁.trans (StIn.push _ _)), .refl _ _, (fun b e => .inl e), .refl _ _, (fun _ _ _ _ _ _ e => e), itr.start, Nat.zero_le _, rfl, hI0⟩
  rintro n s' ⟨h', tk, S', β', i, rfl, F', fk, bv, bo, vk, lk, hst, hle, rfl, hI⟩
  -- the iterator is none of the frame's
  have hJL : J ≠ C.env.locals := by
    rintro rfl
    obtain ⟨m, hn⟩ := F.ffr.loc
    obtain ⟨o', _, _, ho', _⟩ := hn
    rw [ho'] at hJs; cases hJs
  have hJc : ∀ y, C.env.cells.lookup y ≠ some J := by
    intro y e
    obtain ⟨w, o', ho', _⟩ := F.ffr.cel y J e
    rw [ho'] at hJs; cases hJs
  have hJb : β' ≠ some J := by
    intro e
    rcases bo J e with e | e
    · obtain ⟨vs, n, ho'⟩ := F.ffr.own J e
      rw [ho'] at hJs; cases hJs
    · rw [hJ] at e; cases e
  have kp : ∀ {h'' : Heap}, (∀ b o, b ∉ [J] → h'.get? b = some o → h''.get? b = some o) → ∀ tk, FS C s₀ X₀ β' S' { s with heap := h'', toks := tk } ∧ FKeep C β s.heap h'' ∧ VKeep (β.toList ++ X₀) (h₁.push o) h'' := by
    intro h'' hk tk
    have hkJ : ∀ b o, b ≠ J → h'.get? b = some o → h''.get? b = some o := fun b o hb e => hk b o (by simpa using hb) e
    obtain ⟨oi, hoi, hnv⟩ := itr.itr i h' hst
    have vk2 : ∀ X, VKeep X h' h'' := fun X => ⟨fun a o _ hv e => hkJ a o (by rintro rfl; rw [e] at hoi; cases hoi; exact hnv hv) e, fun a o hv _ e => hkJ a o (by rintro rfl; rw [e] at hoi; cases hoi; exact hnv hv) e⟩
    refine ⟨?_, ?_, vk.trans (vk2 _)⟩
    · obtain ⟨m, cm, c⟩ := F'.call
      have hrd : ∀ y w, Rd C.env h' y w → Rd C.env h'' y w := by
        rintro y w (⟨hk', m', hn, hw⟩ | ⟨hk', c', hc', hw⟩)
        · exact .inl ⟨hk', m', hn.at' fun o e => hkJ _ o (Ne.symm hJL) e, hw⟩
        · obtain ⟨o', ho', hd'⟩ := hw
          exact .inr ⟨hk', c', hc', o', hkJ _ _ (fun q => hJc y (q ▸ hc')) ho', hd'⟩
      refine ⟨⟨m, cm, ⟨⟨?_, c.toInCall.ns.at' fun o e => hkJ _ o (Ne.symm hJL) e, fun b o e => ?_, c.toInCall.fresh⟩, fun y a e => ?_, c.apart, c.above⟩⟩, ?_, ?_, F'.xin⟩
      · obtain ⟨h₁, tk₁, e⟩ := F.same
        exact ⟨h'', tk, by rw [e]⟩
      · refine hkJ b o ?_ (c.toInCall.keep b o e)
        rintro rfl
        rw [F.keep _ _ e] at hJs; cases hJs
      · obtain ⟨o', ho', hd'⟩ := c.cell y a e
        exact ⟨o', hkJ _ _ (fun q => hJc y (q ▸ e)) ho', hd'⟩
      · exact fun y aw e => let ⟨w, h1, h2⟩ := F'.vars y aw e; ⟨w, hrd y w h1, h2.keep (vk2 _)⟩
      · have h := F'.own
        show OwnOk C s₀ X₀ h'' S'.own β'
        cases ho : S'.own with
        | none => rw [ho] at h; cases β' with | none => trivial | some _ => exact h
        | some q =>
          rw [ho] at h
          cases β' with
          | none => exact h
          | some b =>
            obtain ⟨⟨vs, ow⟩, h1⟩ := h
            exact ⟨⟨vs, hrd _ _ ow.rd, ow.inX, ow.lst.at fun o e => hkJ b o (by rintro rfl; exact hJb rfl) e, ow.rel.keep (vk2 _)⟩, h1⟩
    · intro a oa h1 h2 h3 e
      refine hkJ a oa ?_ (fk a oa h1 h2 h3 e)
      rintro rfl; rw [hJs] at e; cases e
  by_cases hlt : i < xs.length
  · refine itr.walk.item i _ _ _ hlt hst fun w h₂ t₂ hP hst₂ hk₂ => ?_
    obtain ⟨F₂, fk₂, vk₂⟩ := kp hk₂ t₂
    obtain ⟨aw, haw, raw⟩ := itr.item i w hP
    obtain ⟨lt, hlt1, hlt2, hstb, hbody⟩ := hturn i S' aw haw hI
    have rw₂ : RelV (β'.toList ++ X₀) h₂ aw w := by
      cases hb : β' with
      | none => exact (raw.keep vk₂).less fun q hq => List.mem_append_right _ (by simpa using hq)
      | some b =>
        rcases bo b hb with e | e
        · rw [← e]; exact raw.keep vk₂
        · have r1 : RelV (b :: (β.toList ++ X₀)) (h₁.push o) aw w := RelV.more e aw w raw
          have r2 := r1.keep (vk₂.sub fun q hq => List.mem_cons_of_mem _ hq)
          exact r2.less fun q hq => by
            rcases List.mem_append.mp hq with hq | hq
            · obtain rfl : q = b := by simpa using hq
              exact List.mem_cons_self
            · exact List.mem_cons_of_mem _ (List.mem_append_right _ hq)
    rw [hlt1] at rw₂
    obtain ⟨ta, tvs, rfl, htup, hrel⟩ := rw₂
    obtain ⟨oJ, nJ, hoJ, hcJ, hnJ⟩ := itr.cls _ _ hst₂
    refine letGo_any hoJ hcJ hnJ ?_
    refine unpack_go (nps := nps) ok F₂ htup hrel hlt2 hstb he fun h₃ t₃ F₃ fk₃ => ?_
    refine wpAny_mono (hbody.go ok s₀ X₀ β' _ _ p F₃ fun afl fl S₄ β₄ h₄ t₄ F₄ fk₄ bv₄ rf ψ => ?_) (fun _ _ q => q) fun _ _ q => q.elim
    have fk23 : FKeep C β' h₂ h₄ := fk₃.trans (.refl _ _) fk₄
    have fk' : FKeep C β s.heap h₄ := fk₂.trans bv fk23
    have bv24 : BEv β' h₂ β₄ := BEv.trans (.refl _ _) bv₄ fk₃ F₃.ffr
    have bv' : BEv β s.heap β₄ := bv.trans bv24 fk₂ F₂.ffr
    have hst₄ : St (i + 1) h₄ := itr.walk.frame _ _ _ hst₂ fun b hb ob e => by
      rcases itr.fps b hb with rfl | ⟨hx, oo, ho, hv⟩ | ⟨oo, ho, hv, hcl⟩
      · exact fk23 _ _ hJL hJc hJb e
      · have e2 := vk₂.off b oo hx hv ho
        rw [e] at e2; cases e2
        refine (fk23.vkeep (X₀ := X₀) F₂.ffr).off b _ (fun q => ?_) hv e
        rcases List.mem_append.mp q with q | q
        · cases hbb : β' with
          | none => rw [hbb] at q; cases q
          | some b' =>
            rw [hbb] at q
            obtain rfl : b = b' := by simpa using q
            rcases bo _ hbb with h1 | h1
            · exact hx (by rw [h1]; simp)
            · rw [ho] at h1; cases h1
        · exact hx (List.mem_append_right _ q)
      · have e2 := vk₂.imm b oo hv hcl ho
        rw [e] at e2; cases e2
        exact (fk23.vkeep (X₀ := X₀) F₂.ffr).imm b _ hv hcl e
    have vk' : VKeep (β.toList ++ X₀) (h₁.push o) h₄ := by
      have v4 := fk23.vkeep (X₀ := X₀) F₂.ffr
      refine ⟨fun a oa ha hv e => v4.off a oa (fun q => ?_) hv (vk₂.off a oa ha hv e), fun a oa hv hc e => v4.imm a oa hv hc (vk₂.imm a oa hv hc e)⟩
      rcases List.mem_append.mp q with q | q
      · cases hbb : β' with
        | none => rw [hbb] at q; cases q
        | some b' =>
          rw [hbb] at q
          obtain rfl : a = b' := by simpa using q
          rcases bo _ hbb with h1 | h1
          · exact ha (by rw [h1]; simp)
          · rw [e] at h1; cases h1
      · exact ha (List.mem_append_right _ q)
    have bo' : ∀ b, β₄ = some b → β = some b ∨ (h₁.push o).get? b = none := by
      intro b hb
      by_cases h3 : β = some b
      · exact .inl h3
      rcases bv24 b hb with e | e
      · exact bo b e
      · cases hq : (h₁.push o).get? b with
        | none => exact .inr rfl
        | some oq =>
          exfalso
          by_cases hbJ : b = J
          · subst hbJ
            obtain ⟨oi, hoi, _⟩ := itr.itr (i + 1) h₂ hst₂
            rw [hoi] at e; cases e
          · by_cases h1 : b = C.env.locals
            · obtain ⟨m, o', _, _, ho', _⟩ := F₂.ffr.loc
              rw [h1, ho'] at e; cases e
            · by_cases h2 : ∃ y, C.env.cells.lookup y = some b
              · obtain ⟨y, h2⟩ := h2
                obtain ⟨v, o', ho', _⟩ := F₂.ffr.cel y b h2
                rw [ho'] at e; cases e
              · have hkJ := hk₂ b oq (by simpa using hbJ) (lk b oq h1 (fun y hy => h2 ⟨y, hy⟩) h3 hbJ hq)
                rw [hkJ] at e; cases e
    have lk' : ∀ a oa, a ≠ C.env.locals → (∀ x, C.env.cells.lookup x ≠ some a) → β ≠ some a → a ≠ J → (h₁.push o).get? a = some oa → h₄.get? a = some oa := by
      intro a oa h1 h2 h3 h4 e
      refine fk23 a oa h1 h2 (fun hb => ?_) (hk₂ a oa (by simpa using h4) (lk a oa h1 h2 h3 h4 e))
      rcases bo a hb with q | q
      · exact h3 q
      · rw [e] at q; cases q
    have hn' : xs.length + 1 - (i + 1) < xs.length + 1 - i := by omega
    cases afl with
    | next => obtain rfl : fl = .next := rf; obtain ⟨S'', hle', hI'⟩ := ψ; exact ⟨_, hn', h₄, t₄, S'', β₄, i + 1, rfl, F₄.weak hle', fk', bv', bo', vk', lk', hst₄, hlt, rfl, hI'⟩
    | cont => obtain rfl : fl = .cont := rf; obtain ⟨S'', hle', hI'⟩ := ψ; exact ⟨_, hn', h₄, t₄, S'', β₄, i + 1, rfl, F₄.weak hle', fk', bv', bo', vk', lk', hst₄, hlt, rfl, hI'⟩
    | brk => obtain rfl : fl = .brk := rf; exact k .next .next S₄ β₄ h₄ t₄ F₄ fk' bv' rfl ψ
    | ret av => obtain ⟨v, rfl, rv⟩ := rf; exact k (.ret av) (.ret v) S₄ β₄ h₄ t₄ F₄ fk' bv' ⟨v, rfl, rv⟩ ψ
  · have hin : i = xs.length := by omega
    subst hin
    refine itr.walk.done _ _ _ hst fun h₂ t₂ hk₂ => wpAny_execs_nil ?_
    obtain ⟨F₂, fk₂, _⟩ := kp hk₂ t₂
    exact k .next .next S' β' h₂ t₂ F₂ fk₂ bv rfl (hend S' hI)
set_option maxHeartbeats 4000000
set_option linter.unusedVariables false
theorem c_at {g : GX} (hg : GOk g) {ns : List Int} {k : Nat} (hk : k < 100) (hns : ns.length ≤ 63) : Calls g 1 "_law_at" [.lst (IL ns), .int (k : Int)] fun v => ∃ a : Int, v = .int a ∧ 0 ≤ a := by
  refine Calls_of (n := 0) (ns := [Str.ofString "script", Str.ofString "place"]) (hd := by rw [hg.p]; exact List.Mem.tail _ (List.Mem.tail _ (List.Mem.tail _ (List.Mem.head _)))) ?_ rfl rfl (by decide) rfl rfl rfl ?_
  · intro vs pm cd doc hv
    match vs, hv with
    | [x, y], _ => rfl
  · intro A L ad qual code
    have hlen : (IL ns).length = ns.length := List.length_map _
    repeat walk_at "mw"
    rw [hlen]
    refine ifD (fun h => ?_) (fun h => ?_)
    · have hk' : k < ns.length := by omega
      repeat walk_at "mw"
      refine Ev_item (Ev_name rfl (Ev_name rfl (Itm_list (by omega) (by omega) (by rw [List.getElem?_map, Int.toNat_natCast, List.getElem?_eq_getElem hk']; rfl) ?_)))
      repeat walk_at "mw"
      exact ⟨_, rfl, by rw [abs_if]; omega⟩
    · repeat walk_at "mw"
      exact ⟨0, rfl, by decide⟩
theorem f_at {g : GX} (hg : GOk g) : ∃ a, FnIs g "_law_at" a := FnIs_of (by rw [hg.p]; exact List.Mem.tail _ (List.Mem.tail _ (List.Mem.tail _ (List.Mem.head _))))


abbrev stLg (p low k n m a b s : Int) : AS := ⟨[("power", .int p), ("low", .int low), ("k", .int k), ("n", .int n), ("m", .int m), ("a", .int a), ("b", .int b), ("scale", .int s)], none⟩
theorem c_log {g : GX} (hg : GOk g) {a b s : Int} {B : Nat} (hb : 0 < b) (hba : b ≤ a) (h2 : a ≤ 2 * b) (hs : 0 ≤ s) (hsB : s < 2 ^ B) (hB : B ≤ 2000) (hab : intBits a ≤ 2000) :
    Calls g 1 "_law_log" [.int a, .int b, .int s] fun v => ∃ K : Nat, K ≤ B ∧ lp (a - b) (a + b) s K ≤ 0 ∧ v = .tup [.int (ls (a - b) (a + b) s K), .int (ls (a - b) (a + b) s K + 3 * (K + 1))] := by
  refine Calls_of (n := 0) (ns := [Str.ofString "a", Str.ofString "b", Str.ofString "scale"]) (hd := by rw [hg.p]; exact List.Mem.tail _ (List.Mem.tail _ (List.Mem.tail _ (List.Mem.tail _ (List.Mem.head _))))) ?_ rfl rfl (by decide) rfl rfl rfl ?_
  · intro vs pm cd doc hv
    match vs, hv with
    | [x, y, z], _ => rfl
  · intro A L ad qual code
    obtain ⟨K, hK, hKe, hKp⟩ := lp_ends (n := a - b) (m := a + b) (by omega) (by omega) (by omega) hs hsB
    have hbb : intBits b ≤ 2000 := lt_bits (Nat.lt_of_le_of_lt (show b.natAbs ≤ a.natAbs by omega) (bits_lt hab))
    have hnb : intBits (a - b) ≤ 2001 := Nat.le_trans (intBits_sub_le hab hbb) (by decide)
    have hmb : intBits (a + b) ≤ 2001 := Nat.le_trans (intBits_add_le hab hbb) (by decide)
    have hsb : intBits s ≤ 2000 := by
      refine lt_bits (Nat.lt_of_lt_of_le (m := 2 ^ B) ?_ (Nat.pow_le_pow_right (by decide) hB))
      have e : (2 : Int) ^ B = ((2 ^ B : Nat) : Int) := by simp
      omega
    have hlpb : ∀ i, intBits (lp (a - b) (a + b) s i) ≤ 2000 := by
      intro i
      have h0 := (lp_both (n := a - b) (m := a + b) (by omega) (by omega) (by omega) hs i).1
      have h1 := lp_fall (n := a - b) (m := a + b) (by omega) (by omega) (by omega) hs i
      have h3 : lp (a - b) (a + b) s i * 1 ≤ lp (a - b) (a + b) s i * 2 ^ i := Int.mul_le_mul_of_nonneg_left (by have := two_pos i; omega) h0
      exact lt_bits (Nat.lt_of_le_of_lt (show (lp (a - b) (a + b) s i).natAbs ≤ s.natAbs by omega) (bits_lt hsb))
    have hm0 : a + b ≠ 0 := by omega
    repeat walk_at "mw"
    refine Bin_mul (IntMulOk.of_le hsb hnb (by decide)) ?_
    repeat walk_at "mw"
    rw [Int.fdiv_eq_ediv_of_nonneg _ (by omega)]
    refine ExS_while (fun k S => ∃ i : Nat, i ≤ K ∧ k = K - i ∧ S = stLg (lp (a - b) (a + b) s i) (ls (a - b) (a + b) s i) (2 * (i : Int) + 1) (a - b) (a + b) a b s) (n₀ := K) (S₀ := stLg (lp (a - b) (a + b) s 0) 0 (2 * ((0 : Nat) : Int) + 1) (a - b) (a + b) a b s) (by walk_at "le") ⟨0, Nat.zero_le _, rfl, rfl⟩ ?_
    rintro k S ⟨i, hi, rfl, rfl⟩
    repeat walk_at "mw"
    refine ifD (fun h => ?_) (fun h => ?_)
    · have hiK : i < K := by
        apply Nat.lt_of_le_of_ne hi
        rintro rfl
        omega
      have hlp := hlpb i
      have hk : 2 * (i : Int) + 1 ≠ 0 := by omega
      have hmm : (a + b) * (a + b) ≠ 0 := by
        have := Int.mul_pos (show 0 < a + b by omega) (show 0 < a + b by omega)
        omega
      generalize hX : lp (a - b) (a + b) s i = X at *
      repeat walk_at "mw"
      refine Bin_mul (IntMulOk.of_le hlp hnb (by decide)) ?_
      repeat walk_at "mw"
      refine Bin_mul (IntMulOk.of_le (Nat.le_trans (intBits_mul_le hlp hnb) (show 2000 + 2001 ≤ 5000 by decide)) hnb (by decide)) ?_
      repeat walk_at "mw"
      refine Bin_mul (IntMulOk.of_le hmb hmb (by decide)) ?_
      refine Bin_fdiv hmm ?_
      repeat walk_at "mw"
      rw [Int.fdiv_eq_ediv_of_nonneg _ (show 0 ≤ 2 * (i : Int) + 1 by omega), Int.fdiv_eq_ediv_of_nonneg _ (show 0 ≤ (a + b) * (a + b) from Int.mul_nonneg (by omega) (by omega))]
      refine ⟨stLg (lp (a - b) (a + b) s (i + 1)) (ls (a - b) (a + b) s (i + 1)) (2 * ((i + 1 : Nat) : Int) + 1) (a - b) (a + b) a b s, K - (i + 1), ?_, by omega, i + 1, hiK, rfl, rfl⟩
      have e1 : lp (a - b) (a + b) s (i + 1) = X * (a - b) * (a - b) / ((a + b) * (a + b)) := by rw [← hX]; rfl
      have e2 : ls (a - b) (a + b) s (i + 1) = ls (a - b) (a + b) s i + 2 * (X / (2 * (i : Int) + 1)) := by rw [← hX]; rfl
      have e3 : 2 * ((i + 1 : Nat) : Int) + 1 = 2 * (i : Int) + 1 + 2 := by omega
      rw [e1, e2, e3]
      walk_at "le"
    · have hiK : i = K := by
        apply Classical.byContradiction
        intro hne
        exact h (hKp i (by omega))
      subst hiK
      repeat walk_at "mw"
      rw [Int.fdiv_eq_ediv_of_nonneg _ (by decide), show (2 * (i : Int) + 1) / 2 = i by omega]
      exact ⟨i, hK, hKe, rfl⟩
theorem f_log {g : GX} (hg : GOk g) : ∃ a, FnIs g "_law_log" a := FnIs_of (by rw [hg.p]; exact List.Mem.tail _ (List.Mem.tail _ (List.Mem.tail _ (List.Mem.tail _ (List.Mem.head _)))))
set_option linter.unusedVariables false
set_option linter.unusedSimpArgs false
theorem pow10_2 (f L : Nat) (h : 10 * f ≤ 3 * L) : (10 : Int) ^ f ≤ 2 ^ L := by
  have h1 : (10 ^ f) ^ 3 ≤ (2 ^ L) ^ 3 := by
    calc (10 ^ f) ^ 3 = 1000 ^ f := by rw [← Nat.pow_mul, Nat.mul_comm, Nat.pow_mul]
      _ ≤ 1024 ^ f := Nat.pow_le_pow_left (by decide) f
      _ = 2 ^ (10 * f) := by rw [Nat.pow_mul]
      _ ≤ 2 ^ (3 * L) := Nat.pow_le_pow_right (by decide) h
      _ = (2 ^ L) ^ 3 := by rw [← Nat.pow_mul, Nat.mul_comm]
  have h2 : 10 ^ f ≤ 2 ^ L := by
    apply Nat.le_of_not_lt
    intro hl
    exact absurd h1 (Nat.not_le.mpr (Nat.pow_lt_pow_left hl (by decide)))
  have e1 : (10 : Int) ^ f = ((10 ^ f : Nat) : Int) := by simp
  have e2 : (2 : Int) ^ L = ((2 ^ L : Nat) : Int) := by simp
  omega
theorem ipow_cast (a : Int) : ∀ n : Nat, ((a ^ n : Int) : Rat) = (a : Rat) ^ n
  | 0 => by exact_mod_cast rfl
  | n + 1 => by
    rw [Int.pow_succ, Rat.pow_succ, ← ipow_cast a n]
    exact_mod_cast rfl
/-- the powers of the distance are below 1 / M -/
theorem pow_small {M X : Int} {T : Nat} {τ : Rat} (h0 : 0 ≤ τ) (hX : 0 < X) (hτ : (X : Rat) * τ ≤ 1) (hMX : M ≤ X ^ T) : (M : Rat) * τ ^ T ≤ 1 := by
  have h1 := int_le hMX
  rw [ipow_cast] at h1
  have h2 := q_mul_le h1 (q_pow_nn h0 T)
  have e : (X : Rat) ^ T * τ ^ T = ((X : Rat) * τ) ^ T := by
    clear h1 h2 hMX
    induction T with
    | zero => grind
    | succ T ih => rw [Rat.pow_succ, Rat.pow_succ, Rat.pow_succ, ← ih]; grind
  rw [e] at h2
  have hXp := int_pos hX
  have h3 := q_pow_one (q_mul_nn (by grind) h0) hτ T
  exact Rat.le_trans h2 h3
theorem hw_bits {M u : Int} {T j B : Nat} (hM : 0 < M) (hu : 2 * (u.natAbs : Int) ≤ M) (hB : intBits M ≤ B) (hj : j < T) : intBits (hw M u T j) ≤ B + 3 := by
  have hMp := int_pos hM
  have hya : (u : Rat) ≤ (u.natAbs : Rat) ∧ -(u.natAbs : Rat) ≤ (u : Rat) := by
    have h1 := int_le (show u ≤ (u.natAbs : Int) by omega)
    have h2 := int_le (show -(u.natAbs : Int) ≤ u by omega)
    have c : ((-(u.natAbs : Int) : Int) : Rat) = -(u.natAbs : Rat) := by exact_mod_cast rfl
    rw [c] at h2
    exact ⟨h1, h2⟩
  have hn2 : 2 * (u.natAbs : Rat) ≤ M := by
    have := int_le hu
    have c : ((2 * (u.natAbs : Int) : Int) : Rat) = 2 * (u.natAbs : Rat) := by exact_mod_cast rfl
    rw [c] at this; exact this
  have k1 : (u : Rat) / M ≤ 1 / 2 := q_div_le hMp (by grind)
  have k2 : -(1 / 2) ≤ (u : Rat) / M := q_le_div hMp (by grind)
  obtain ⟨w1, w2⟩ := hw_q (T := T) hM (show (0 : Rat) ≤ 1 / 2 by grind) (by grind) k1 k2 j hj
  obtain ⟨q1, q2⟩ := Qs_abs (show (0 : Rat) ≤ 1 / 2 by grind) (by grind) k1 k2 (j + 1) (T - j) (by omega)
  have e2 : (1 : Rat) / (1 - 1 / 2) = 2 := by grind
  rw [e2] at w1 w2 q1 q2
  have m1 := q_mul_le' q1 (show (0 : Rat) ≤ M by grind)
  have m2 := q_mul_le' q2 (show (0 : Rat) ≤ M by grind)
  have f1 : ((hw M u T j : Int) : Rat) ≤ ((2 * M + 2 : Int) : Rat) := by
    have c : ((2 * M + 2 : Int) : Rat) = 2 * (M : Rat) + 2 := by exact_mod_cast rfl
    rw [c]; grind
  have f2 : ((-(2 * M + 2) : Int) : Rat) ≤ ((hw M u T j : Int) : Rat) := by
    have c : ((-(2 * M + 2) : Int) : Rat) = -(2 * (M : Rat) + 2) := by exact_mod_cast rfl
    rw [c]; grind
  have g1 := Rat.intCast_le_intCast.mp f1
  have g2 := Rat.intCast_le_intCast.mp f2
  have hMb := bits_lt hB
  refine lt_bits ?_
  rw [Nat.pow_add]
  omega
/-- the number of figures -/
theorem figures {M : Int} (hM : 0 < M) : ∃ f : Nat, 0 < f ∧ (10 : Int) ^ (f - 1) ≤ M ∧ M < 10 ^ f := by
  have big : ∀ n : Nat, (n : Int) < 10 ^ n := by
    intro n
    induction n with
    | zero => decide
    | succ n ih => rw [Int.pow_succ]; omega
  have key : ∀ f : Nat, M < 10 ^ f → ∃ f : Nat, 0 < f ∧ (10 : Int) ^ (f - 1) ≤ M ∧ M < 10 ^ f := by
    intro f
    induction f with
    | zero => intro h; rw [show (10 : Int) ^ 0 = 1 from rfl] at h; omega
    | succ f ih =>
      intro h
      by_cases hf : M < 10 ^ f
      · exact ih hf
      · exact ⟨f + 1, by omega, by simpa using hf, h⟩
  have := big M.toNat
  exact key M.toNat (by omega)
set_option linter.unusedVariables false
set_option linter.unusedSimpArgs false
/-- the yshift is at most half the scale -/
theorem dn_half {M y : Int} {N L : Nat} (hM : 0 < M) (hL : 0 < L) (h : (y.natAbs : Int) * 2 ^ L < M * 2 ^ N) : 2 * ((dn y (2 ^ N)).natAbs : Int) ≤ M := by
  have hP := two_pos N
  obtain ⟨h1, h2, _, _⟩ := dn_spec (a := y) hP
  have hL2 : (2 : Int) ≤ 2 ^ L := by
    have e : (2 : Int) ^ L = ((2 ^ L : Nat) : Int) := by simp
    have := Nat.pow_le_pow_right (n := 2) (by decide) (show 1 ≤ L from hL)
    rw [e]; omega
  have h3 : (y.natAbs : Int) * 2 ≤ (y.natAbs : Int) * 2 ^ L := Int.mul_le_mul_of_nonneg_left hL2 (by omega)
  generalize dn y (2 ^ N) = u at *
  generalize (2 : Int) ^ N = P at *
  apply Int.not_lt.mp
  intro hlt
  rcases Int.le_total 0 u with hu | hu
  · have : P * (M + 1) ≤ P * (2 * u) := Int.mul_le_mul_of_nonneg_left (by omega) (by omega)
    have e : P * (M + 1) = M * P + P := by grind
    have e2 : P * (2 * u) = 2 * (P * u) := by grind
    omega
  · have : P * (2 * u) ≤ P * (-(M + 1)) := Int.mul_le_mul_of_nonneg_left (by omega) (by omega)
    have e : P * (-(M + 1)) = -(M * P) - P := by grind
    have e2 : P * (2 * u) = 2 * (P * u) := by grind
    omega
/-- the count of rows -/
theorem rows_T {f L : Nat} (hf : 0 < f) (hL : 0 < L) : ∃ T : Nat, 0 < T ∧ (T : Int) = -((-10 * (f : Int)) / (3 * L)) ∧ 10 * f ≤ 3 * (L * T) := by
  have hL3 : (0 : Int) < 3 * L := by omega
  have hdm := Int.mul_ediv_add_emod (-10 * (f : Int)) (3 * L)
  have hm0 := Int.emod_nonneg (-10 * (f : Int)) (show (3 * (L : Int)) ≠ 0 by omega)
  have hm1 := Int.emod_lt_of_pos (-10 * (f : Int)) hL3
  have hneg : (-10 * (f : Int)) / (3 * L) < 0 := Int.ediv_neg_of_neg_of_pos (by omega) hL3
  obtain ⟨T, hT⟩ : ∃ T : Nat, (T : Int) = -((-10 * (f : Int)) / (3 * L)) := ⟨(-((-10 * (f : Int)) / (3 * L))).toNat, by omega⟩
  refine ⟨T, by omega, hT, ?_⟩
  have e : (3 * (L : Int)) * ((-10 * (f : Int)) / (3 * L)) = -(3 * ((L : Int) * T)) := by
    rw [show (-10 * (f : Int)) / (3 * L) = -(T : Int) by omega]; grind
  rw [e] at hdm
  have e2 : ((3 * (L * T) : Nat) : Int) = 3 * ((L : Int) * T) := by simp
  omega
-- the numbers of law 11
/-- M (p/r)^(2^i) -/
def qi (c p r : Int) (L i : Nat) : Int := c * p ^ 2 ^ i * r ^ (2 ^ (L + 1) - 2 ^ i)
set_option linter.unusedVariables false
theorem dg_len {M : Int} {f : Nat} (hf : 0 < f) (h1 : (10 : Int) ^ (f - 1) ≤ M) (h2 : M < 10 ^ f) : (Str.ofString (toString M)).length = f := by
  have h0 : 0 ≤ M := Int.le_trans (Int.le_of_lt (Int.pow_pos (by decide))) h1
  have hu := toString_length_le h0 hf h2
  apply Nat.le_antisymm hu
  rw [PyProof.Rows.ofString_len] at hu ⊢
  obtain ⟨n, rfl⟩ : ∃ n : Nat, M = (n : Int) := ⟨M.toNat, by omega⟩
  have e : (toString (n : Int)).length = (Nat.toDigits 10 n).length := by
    show (Nat.repr n).length = _
    simp [Nat.repr]
  rw [e] at hu ⊢
  apply Nat.le_of_not_lt
  intro hlt
  have hle : (Nat.toDigits 10 n).length ≤ f - 1 := by omega
  by_cases hf1 : f - 1 = 0
  · rw [hf1] at hle
    have := PySem.toDigits_len_ge 10 n
    omega
  · have := (Nat.length_toDigits_le_iff (b := 10) (n := n) (k := f - 1) (by decide) (by omega)).mp hle
    have e1 : (10 : Int) ^ (f - 1) = ((10 ^ (f - 1) : Nat) : Int) := by simp
    omega
set_option maxHeartbeats 4000000
set_option linter.unusedVariables false
set_option exponentiation.threshold 3000
/-- _ilog with its halvings counted -/
theorem c_ilogN {g : GX} (hg : GOk g) {x M : Int} {L N f T : Nat} (hM : 0 < M) (hMb : intBits M ≤ 1500) (hL : 0 < L) (hL2 : L ≤ 1000) (hN : N ≤ 1000000)
    (hgo : ∀ R, R < N → M * 2 ^ R ≤ ((ys M x R).natAbs : Int) * 2 ^ L) (hstop : ((ys M x N).natAbs : Int) * 2 ^ L < M * 2 ^ N) (hz : ∀ R, R < N → 0 < M + dn (ys M x R) (2 ^ R)) (hb : ∀ R, R ≤ N → intBits (ys M x R) ≤ 60000)
    (hf : 0 < f) (hf1 : (10 : Int) ^ (f - 1) ≤ M) (hf2 : M < 10 ^ f) (hT0 : 0 < T) (hT : (T : Int) = -((-10 * (f : Int)) / (3 * L))) :
    Calls g 2 "_ilog" [.int x, .int M, .int (L : Int)] fun v => v = .int (dn (hw M (dn (ys M x N) (2 ^ N)) T (T - 1) * ys M x N) M) := by
  have hlog : M.natAbs.log2 < 1920 := (Nat.log2_lt (by omega)).mpr (Nat.lt_of_lt_of_le (bits_lt hMb) (Nat.pow_le_pow_right (by decide) (by decide)))
  refine c_ilog hg (x := x) (N := N) (T := T) hM hlog hL (by omega) (by omega) hgo hstop hz (fun R h => Nat.le_trans (hb R h) (by decide)) hT0 (by rw [dg_len hf hf1 hf2]; exact hT) (fun j hj => ?_)
  exact Nat.le_trans (hw_bits hM (dn_half hM hL hstop) hMb hj) (by decide)
set_option maxHeartbeats 1000000
set_option linter.unusedVariables false
set_option linter.unusedSimpArgs false
-- one halving, against the logarithm
theorem Hn_lin (b : Nat) : ∀ j : Nat, 0 < b → (j : Rat) / ((b + j : Nat) : Rat) ≤ Hn (b + j) - Hn b ∧ Hn (b + j) - Hn b ≤ (j : Rat) / (b : Rat)
  | 0, hb => by
    have e : ((0 : Nat) : Rat) = 0 := by grind
    rw [e]
    constructor <;> grind
  | j + 1, hb => by
    obtain ⟨h1, h2⟩ := Hn_lin b j hb
    have eH : Hn (b + (j + 1)) = Hn (b + j) + 1 / (((b + j : Nat) : Rat) + 1) := rfl
    have e : ((j + 1 : Nat) : Rat) = (j : Rat) + 1 := by grind
    have ec : ((b + j : Nat) : Rat) = (b : Rat) + j := by exact_mod_cast rfl
    have ec2 : ((b + (j + 1) : Nat) : Rat) = (b : Rat) + j + 1 := by
      have : ((b + (j + 1) : Nat) : Rat) = ((b + j : Nat) : Rat) + 1 := by exact_mod_cast rfl
      rw [this, ec]
    have hbp := nat_pos hb
    have hj : (0 : Rat) ≤ (j : Rat) := by grind
    rw [ec] at h1
    rw [eH, e, ec, ec2]
    constructor
    · have k : ((j : Rat) + 1) / ((b : Rat) + j + 1) ≤ (j : Rat) / ((b : Rat) + j) + 1 / ((b : Rat) + j + 1) := by
        have e1 : ((j : Rat) + 1) / ((b : Rat) + j + 1) = (j : Rat) / ((b : Rat) + j + 1) + 1 / ((b : Rat) + j + 1) := by grind
        have e2 : (j : Rat) / ((b : Rat) + j + 1) ≤ (j : Rat) / ((b : Rat) + j) := by
          refine q_div_le (by grind) ?_
          have : (j : Rat) / ((b : Rat) + j) * ((b : Rat) + j + 1) = j + (j : Rat) / ((b : Rat) + j) := by
            have : (b : Rat) + j ≠ 0 := by grind
            grind
          have := q_div_nn hj (show (0 : Rat) < (b : Rat) + j by grind)
          grind
        grind
      grind
    · have k : 1 / ((b : Rat) + j + 1) ≤ 1 / (b : Rat) := by
        refine q_div_le (by grind) ?_
        have : 1 / (b : Rat) * ((b : Rat) + j + 1) = 1 + (j + 1) / (b : Rat) := by grind
        have := q_div_nn (show (0 : Rat) ≤ (j : Rat) + 1 by grind) hbp
        grind
      have e1 : ((j : Rat) + 1) / (b : Rat) = (j : Rat) / b + 1 / (b : Rat) := by grind
      grind
/-- log(a/b) between (a-b)/a and (a-b)/b -/
theorem lgI_lin {N : Nat} (hN : 0 < N) {a b : Int} (ha : 0 < a) (hb : 0 < b) : ((a : Rat) - b) / a ≤ lgI N a b ∧ lgI N a b ≤ ((a : Rat) - b) / b := by
  have key : ∀ {a b : Int}, 0 < b → b ≤ a → ((a : Rat) - b) / a ≤ lgI N a b ∧ lgI N a b ≤ ((a : Rat) - b) / b := by
    intro a b hb hab
    have hNp := nat_pos hN
    have hbp := int_pos hb
    have hap := int_pos (show 0 < a by omega)
    have hle : N * b.toNat ≤ N * a.toNat := Nat.mul_le_mul_left N (by omega)
    obtain ⟨h1, h2⟩ := Hn_lin (N * b.toNat) (N * a.toNat - N * b.toNat) (Nat.mul_pos hN (by omega))
    rw [show N * b.toNat + (N * a.toNat - N * b.toNat) = N * a.toNat by omega] at h1 h2
    have c1 : ((N * a.toNat - N * b.toNat : Nat) : Rat) = (N : Rat) * ((a : Rat) - b) := by
      have e : ((N * a.toNat - N * b.toNat : Nat) : Rat) + ((N * b.toNat : Nat) : Rat) = ((N * a.toNat : Nat) : Rat) := by
        have : N * a.toNat - N * b.toNat + N * b.toNat = N * a.toNat := by omega
        exact_mod_cast this
      rw [natCast_mul', natCast_mul', toNat_cast (show 0 ≤ a by omega), toNat_cast (show 0 ≤ b by omega)] at e
      grind
    rw [c1] at h1 h2
    rw [natCast_mul', toNat_cast (show 0 ≤ a by omega)] at h1
    rw [natCast_mul', toNat_cast (show 0 ≤ b by omega)] at h2
    have e1 : (N : Rat) * ((a : Rat) - b) / (N * a) = ((a : Rat) - b) / a := by grind
    have e2 : (N : Rat) * ((a : Rat) - b) / (N * b) = ((a : Rat) - b) / b := by grind
    rw [e1] at h1
    rw [e2] at h2
    exact ⟨h1, h2⟩
  rcases Int.le_total b a with h | h
  · exact key hb h
  · obtain ⟨h1, h2⟩ := key ha h
    have en : lgI N a b = -lgI N b a := by unfold lgI lg; grind
    have hbp := int_pos hb
    have hap := int_pos ha
    rw [en]
    constructor
    · have : ((a : Rat) - b) / a = -(((b : Rat) - a) / a) := by grind
      grind
    · have : ((a : Rat) - b) / b = -(((b : Rat) - a) / b) := by grind
      grind
theorem lgI_add (N : Nat) (a b c : Int) : lgI N a b + lgI N b c = lgI N a c := lg_add ..
theorem lgI_neg (N : Nat) (a b : Int) : lgI N a b = -lgI N b a := by unfold lgI lg; grind
/-- a common factor, whatever the order -/
theorem lgI_scale {N : Nat} (hN : 0 < N) {a b c : Int} (ha : 0 < a) (hb : 0 < b) (hc : 0 < c) : lgI N (c * a) (c * b) - lgI N a b ≤ 1 / (N : Rat) ∧ -(1 / (N : Rat)) ≤ lgI N (c * a) (c * b) - lgI N a b := by
  have hN0 : (0 : Rat) ≤ 1 / (N : Rat) := q_div_nn (by grind) (nat_pos hN)
  have key : ∀ {a b : Int}, 0 < b → b ≤ a → lgI N a b ≤ lgI N (c * a) (c * b) ∧ lgI N (c * a) (c * b) ≤ lgI N a b + 1 / (N : Rat) := by
    intro a b hb hab
    have s := lg_scale (N := N) (a := a.toNat) (b := b.toNat) (c := c.toNat) hN (by omega) (by omega) (by omega)
    rw [← Int.toNat_mul (by omega) (by omega), ← Int.toNat_mul (by omega) (by omega)] at s
    exact s
  rcases Int.le_total b a with h | h
  · obtain ⟨h1, h2⟩ := key hb h
    constructor <;> grind
  · obtain ⟨h1, h2⟩ := key ha h
    rw [lgI_neg N (c * a), lgI_neg N a]
    constructor <;> grind
/-- two halves and a whole -/
theorem lg_halve {N : Nat} (hN : 0 < N) {A D A' : Int} (hA : 0 < A) (hD : 0 < D) (hA' : 0 < A') :
    (2 * lgI N A' (2 * D) - lgI N A D) - lgI N (A' * A') (4 * D * A) ≤ 3 / (N : Rat) ∧ -(3 / (N : Rat)) ≤ (2 * lgI N A' (2 * D) - lgI N A D) - lgI N (A' * A') (4 * D * A) := by
  obtain ⟨a1, a2⟩ := lgI_scale hN hA' (show 0 < 2 * D by omega) hA'
  obtain ⟨b1, b2⟩ := lgI_scale hN hA' (show 0 < 2 * D by omega) (show 0 < 2 * D by omega)
  obtain ⟨c1, c2⟩ := lgI_scale hN hA hD (show 0 < 4 * D by omega)
  have e1 : A' * (2 * D) = 2 * D * A' := by grind
  have e2 : 2 * D * (2 * D) = 4 * D * D := by grind
  rw [e1] at a1 a2
  rw [e2] at b1 b2
  have s1 := lgI_add N (A' * A') (2 * D * A') (4 * D * D)
  have s2 := lgI_add N (A' * A') (4 * D * A) (4 * D * D)
  have e3 : (3 : Rat) / N = 3 * (1 / N) := by grind
  rw [e3]
  constructor <;> grind
theorem theta_b {θ X : Rat} (h1 : θ ≤ 1 / 2) (h2 : -(1 / 2) ≤ θ) (hX : 0 ≤ X) : θ * (X + θ) ≤ 1 / 2 * (X + 1 / 2) ∧ -(1 / 2 * (X + 1 / 2)) ≤ θ * (X + θ) := by
  have p1 := q_mul_nn (show 0 ≤ 1 / 2 - θ by grind) hX
  have p2 := q_mul_nn (show 0 ≤ 1 / 2 + θ by grind) hX
  have p3 := q_mul_nn (show 0 ≤ 1 / 2 - θ by grind) (show 0 ≤ 1 / 2 + θ by grind)
  have p4 : 0 ≤ θ * θ := by
    rcases (Rat.le_total : (0 : Rat) ≤ θ ∨ θ ≤ 0) with h | h
    · exact q_mul_nn h h
    · have := q_mul_nn (show 0 ≤ -θ by grind) (show 0 ≤ -θ by grind)
      grind
  constructor <;> grind
/-- the square that a halving misses -/
theorem step_G {M y : Int} {R : Nat} {h : Rat} (hM : 0 < M) (hA : 0 < 2 ^ R * M + y) (hz : 0 < M + dn y (2 ^ R)) (hh0 : 0 ≤ h) (hh : (1 / 2 : Rat) ≤ h ∨ R = 0) :
    let r : Rat := ((rt (M * (M + dn y (2 ^ R))) : Int) : Rat)
    let D : Rat := ((2 ^ R * M : Int) : Rat)
    let y' : Rat := ((dn (M * y * 2) (M + rt (M * (M + dn y (2 ^ R)))) : Int) : Rat)
    0 < r ∧ 0 < 2 * D + y' ∧ (2 * D + y') * (2 * D + y') - 4 * D * (D + y) ≤ 4 * (y.natAbs : Rat) * D * (r + h * M) / ((M + r) * (M + r)) + (1 / 2) * (4 * D + 2 * (2 * M * y / (M + r)) + 1 / 2) ∧
      -(4 * (y.natAbs : Rat) * D * (r + h * M) / ((M + r) * (M + r)) + (1 / 2) * (4 * D + 2 * (2 * M * y / (M + r)) + 1 / 2)) ≤ (2 * D + y') * (2 * D + y') - 4 * D * (D + y) := by
  have hn : 0 < M * (M + dn y (2 ^ R)) := Int.mul_pos hM hz
  have hrt := rt_spec hn
  have hrp := hrt.pos
  have hr1 := hrt.lo
  have hr2 := hrt.hi
  have hP := two_pos R
  have hDp : 0 < 2 ^ R * M := Int.mul_pos hP hM
  obtain ⟨v1, v2⟩ := dn_q (a := y) hP
  obtain ⟨t1, t2⟩ := dn_q (a := M * y * 2) (b := M + rt (M * (M + dn y (2 ^ R)))) (by omega)
  have hMr := int_pos hM
  have hPr := int_pos hP
  have hrr := int_pos hrp
  have hDr := int_pos hDp
  have cD : ((2 ^ R * M : Int) : Rat) = (((2 : Int) ^ R : Int) : Rat) * M := by exact_mod_cast rfl
  have cT : ((M * y * 2 : Int) : Rat) = (M : Rat) * y * 2 := by exact_mod_cast rfl
  have cS : ((M + rt (M * (M + dn y (2 ^ R))) : Int) : Rat) = (M : Rat) + ((rt (M * (M + dn y (2 ^ R))) : Int) : Rat) := by exact_mod_cast rfl
  rw [cT, cS] at t1 t2
  -- the root's error
  have k1 := int_le (show M * (M + dn y (2 ^ R)) ≤ rt (M * (M + dn y (2 ^ R))) * (rt (M * (M + dn y (2 ^ R))) + 1) from hr2)
  have k2 := int_le (show rt (M * (M + dn y (2 ^ R))) * (rt (M * (M + dn y (2 ^ R))) - 1) ≤ M * (M + dn y (2 ^ R)) by omega)
  have c1 : ((M * (M + dn y (2 ^ R)) : Int) : Rat) = (M : Rat) * (M + ((dn y (2 ^ R) : Int) : Rat)) := by exact_mod_cast rfl
  have c2 : ((rt (M * (M + dn y (2 ^ R))) * (rt (M * (M + dn y (2 ^ R))) + 1) : Int) : Rat) = ((rt (M * (M + dn y (2 ^ R))) : Int) : Rat) * (((rt (M * (M + dn y (2 ^ R))) : Int) : Rat) + 1) := by exact_mod_cast rfl
  have c3 : ((rt (M * (M + dn y (2 ^ R))) * (rt (M * (M + dn y (2 ^ R))) - 1) : Int) : Rat) = ((rt (M * (M + dn y (2 ^ R))) : Int) : Rat) * (((rt (M * (M + dn y (2 ^ R))) : Int) : Rat) - 1) := by exact_mod_cast rfl
  rw [c1, c2] at k1
  rw [c3, c1] at k2
  have hv : (M : Rat) * ((y : Rat) / (((2 : Int) ^ R : Int) : Rat) - ((dn y (2 ^ R) : Int) : Rat)) ≤ h * M ∧ -(h * M) ≤ (M : Rat) * ((y : Rat) / (((2 : Int) ^ R : Int) : Rat) - ((dn y (2 ^ R) : Int) : Rat)) := by
    rcases hh with hh | hh
    · have m1 := q_mul_le' v1 (show (0 : Rat) ≤ M by grind)
      have m2 := q_mul_le' v2 (show (0 : Rat) ≤ M by grind)
      have m3 := q_mul_le hh (show (0 : Rat) ≤ M by grind)
      constructor <;> grind
    · subst hh
      have e : dn y (2 ^ 0) = y := by have := dn_mul (a := y) (b := 1) (by decide); rwa [Int.one_mul] at this
      rw [e]
      have e1 : (((2 : Int) ^ 0 : Int) : Rat) = 1 := by exact_mod_cast rfl
      rw [e1]
      have := q_mul_nn hh0 (show (0 : Rat) ≤ M by grind)
      constructor <;> grind
  obtain ⟨hv1, hv2⟩ := hv
  have hyn : (y : Rat) ≤ (y.natAbs : Rat) ∧ -(y.natAbs : Rat) ≤ (y : Rat) := by
    have h1 := int_le (show y ≤ (y.natAbs : Int) by omega)
    have h2 := int_le (show -(y.natAbs : Int) ≤ y by omega)
    have c : ((-(y.natAbs : Int) : Int) : Rat) = -(y.natAbs : Rat) := by exact_mod_cast rfl
    rw [c] at h2
    exact ⟨h1, h2⟩
  obtain ⟨yn1, yn2⟩ := hyn
  -- A >= 1
  have hA1 := int_le (show 1 ≤ 2 ^ R * M + y by omega)
  have cA : ((2 ^ R * M + y : Int) : Rat) = ((2 ^ R * M : Int) : Rat) + y := by exact_mod_cast rfl
  have c1' : ((1 : Int) : Rat) = 1 := by exact_mod_cast rfl
  rw [c1', cA] at hA1
  intro r D y'
  refine ⟨hrr, ?_⟩
  have hD' : D = (((2 : Int) ^ R : Int) : Rat) * M := cD
  generalize hrg : ((rt (M * (M + dn y (2 ^ R))) : Int) : Rat) = r₀ at *
  generalize hyg : ((dn (M * y * 2) (M + rt (M * (M + dn y (2 ^ R)))) : Int) : Rat) = y₀ at *
  generalize hDg : ((2 ^ R * M : Int) : Rat) = D₀ at *
  have er : r = r₀ := hrg
  have ey : y' = y₀ := hyg
  have eD : D = D₀ := hDg
  rw [er, ey, eD]
  rw [eD] at hD'
  clear er ey eD
  clear_value r D y'
  generalize ((dn y (2 ^ R) : Int) : Rat) = v at *
  generalize (((2 : Int) ^ R : Int) : Rat) = P at *
  generalize (y.natAbs : Rat) = yn at *
  generalize (M : Rat) = m at *
  generalize (y : Rat) = Y at *
  have hS : 0 < m + r₀ := by grind
  have hSS := Rat.mul_pos hS hS
  -- kappa
  have hk : m * (m + Y / P) - r₀ * r₀ ≤ r₀ + h * m ∧ -(r₀ + h * m) ≤ m * (m + Y / P) - r₀ * r₀ := by constructor <;> grind
  obtain ⟨hk1, hk2⟩ := hk
  have hq : m * Y * 2 / (m + r₀) = 2 * m * Y / (m + r₀) := by grind
  rw [hq] at t1 t2
  -- G(q)
  have hG : 4 * D₀ * (2 * m * Y / (m + r₀) - Y) + (2 * m * Y / (m + r₀)) * (2 * m * Y / (m + r₀)) = 4 * Y * D₀ * (m * (m + Y / P) - r₀ * r₀) / ((m + r₀) * (m + r₀)) := by
    have hS0 : m + r₀ ≠ 0 := by grind
    have hP0 : P ≠ 0 := by grind
    rw [hD']
    clear hk1 hk2 t1 t2 hSS hv1 hv2 k1 k2 v1 v2 hA1 yn1 yn2
    grind
  have hyn0 : 0 ≤ yn := by grind
  have hGb : 4 * Y * D₀ * (m * (m + Y / P) - r₀ * r₀) / ((m + r₀) * (m + r₀)) ≤ 4 * yn * D₀ * (r₀ + h * m) / ((m + r₀) * (m + r₀)) ∧ -(4 * yn * D₀ * (r₀ + h * m) / ((m + r₀) * (m + r₀))) ≤ 4 * Y * D₀ * (m * (m + Y / P) - r₀ * r₀) / ((m + r₀) * (m + r₀)) := by
    generalize m * (m + Y / P) - r₀ * r₀ = κ at *
    have hK : 0 ≤ r₀ + h * m := by have := q_mul_nn hh0 (show 0 ≤ m by grind); grind
    have b : Y * κ ≤ yn * (r₀ + h * m) ∧ -(yn * (r₀ + h * m)) ≤ Y * κ := by
      have a1 := q_mul_nn (show 0 ≤ yn - Y by grind) (show 0 ≤ (r₀ + h * m) + κ by grind)
      have a2 := q_mul_nn (show 0 ≤ yn + Y by grind) (show 0 ≤ (r₀ + h * m) - κ by grind)
      have a3 := q_mul_nn (show 0 ≤ yn - Y by grind) (show 0 ≤ (r₀ + h * m) - κ by grind)
      have a4 := q_mul_nn (show 0 ≤ yn + Y by grind) (show 0 ≤ (r₀ + h * m) + κ by grind)
      constructor <;> grind
    obtain ⟨b1, b2⟩ := b
    have hi : 0 ≤ 1 / ((m + r₀) * (m + r₀)) := q_div_nn (by grind) hSS
    have e1 : 4 * Y * D₀ * κ / ((m + r₀) * (m + r₀)) = 4 * D₀ * (1 / ((m + r₀) * (m + r₀))) * (Y * κ) := by grind
    have e2 : 4 * yn * D₀ * (r₀ + h * m) / ((m + r₀) * (m + r₀)) = 4 * D₀ * (1 / ((m + r₀) * (m + r₀))) * (yn * (r₀ + h * m)) := by grind
    rw [e1, e2]
    have hc : 0 ≤ 4 * D₀ * (1 / ((m + r₀) * (m + r₀))) := q_mul_nn (by grind) hi
    have m1 := q_mul_le' b1 hc
    have m2 := q_mul_le' b2 hc
    constructor <;> grind
  obtain ⟨hGb1, hGb2⟩ := hGb
  rw [← hG] at hGb1 hGb2
  -- q >= 2 Y or q >= 0
  have hq4 : 2 ≤ 4 * D₀ + 2 * (2 * m * Y / (m + r₀)) := by
    have h1 : -(2 * D₀ - 1) ≤ 2 * m * Y / (m + r₀) := by
      refine q_le_div hS ?_
      have h5 := q_mul_le' (show -(D₀ - 1) ≤ Y by grind) (show 0 ≤ 2 * m by grind)
      have hD1 : 1 ≤ 2 * D₀ := by
        have h7 : (1 : Rat) ≤ D₀ := by
          have := int_le (show 1 ≤ 2 ^ R * M by omega)
          rw [c1', hDg] at this; exact this
        grind
      have h6 := q_mul_nn (show 0 ≤ 2 * D₀ - 1 by grind) (show 0 ≤ r₀ by grind)
      grind
    grind
  generalize hqg : 2 * m * Y / (m + r₀) = q at *
  generalize 4 * yn * D₀ * (r₀ + h * m) / ((m + r₀) * (m + r₀)) = GB at *
  have hth : (2 * D₀ + y₀) * (2 * D₀ + y₀) - 4 * D₀ * (D₀ + Y) = (4 * D₀ * (q - Y) + q * q) + (y₀ - q) * (4 * D₀ + 2 * q + (y₀ - q)) := by grind
  rw [hth]
  generalize hθ : y₀ - q = θ at *
  have hθ1 : θ ≤ 1 / 2 := by grind
  have hθ2 : -(1 / 2) ≤ θ := by grind
  have bθ := theta_b (X := 4 * D₀ + 2 * q) hθ1 hθ2 (by grind)
  obtain ⟨bθ1, bθ2⟩ := bθ
  refine ⟨by grind, ?_, ?_⟩ <;> grind
set_option linter.unusedVariables false
-- the plain law of 07
/-- y stays above - M 2^R -/
theorem ys_low {M x : Int} (hM : 0 < M) (hx : 0 < x) : ∀ R : Nat, (2 : Int) ^ R * (1 - 2 * M) < 2 * ys M x R
  | 0 => by show (1 : Int) * (1 - 2 * M) < 2 * (x - M); omega
  | R + 1 => by
    have ih := ys_low hM hx R
    have hP := two_pos R
    have hd := (dn_spec (a := ys M x R) hP).2.1
    have hz : 0 < M + dn (ys M x R) (2 ^ R) := by
      apply Int.not_le.mp; intro h
      have : (2 : Int) ^ R * dn (ys M x R) (2 ^ R) ≤ 2 ^ R * (-M) := Int.mul_le_mul_of_nonneg_left (by omega) (by omega)
      have e : (2 : Int) ^ R * (1 - 2 * M) = 2 ^ R + 2 * (2 ^ R * (-M)) := by grind
      rw [e] at ih
      generalize (2 : Int) ^ R * (-M) = u at *
      generalize (2 : Int) ^ R * dn (ys M x R) (2 ^ R) = v at *
      omega
    have hs := (rt_spec (Int.mul_pos hM hz)).pos
    show (2 : Int) ^ (R + 1) * (1 - 2 * M) < 2 * dn (M * ys M x R * 2) (M + rt (M * (M + dn (ys M x R) (2 ^ R))))
    generalize rt (M * (M + dn (ys M x R) (2 ^ R))) = s at *
    generalize ys M x R = y at *
    have hsp := (dn_spec (a := M * y * 2) (b := M + s) (by omega)).2.1
    generalize dn (M * y * 2) (M + s) = d at *
    rw [Int.pow_succ]
    generalize (2 : Int) ^ R = P at *
    apply Int.not_le.mp; intro hc
    -- d <= P (1 - 2M)
    have hc' : d ≤ P * (1 - 2 * M) := by
      have : P * 2 * (1 - 2 * M) = 2 * (P * (1 - 2 * M)) := by grind
      omega
    have k1 : (M + s) * d ≤ (M + s) * (P * (1 - 2 * M)) := Int.mul_le_mul_of_nonneg_left hc' (by omega)
    have k2 : M * (P * (1 - 2 * M) + 1) ≤ M * (2 * y) := Int.mul_le_mul_of_nonneg_left (by omega) (by omega)
    have k3 : s * (P * (1 - 2 * M)) ≤ s * (-1) := Int.mul_le_mul_of_nonneg_left (by
      have : P * (1 - 2 * M) ≤ P * (-1) := Int.mul_le_mul_of_nonneg_left (by omega) (by omega)
      omega) (by omega)
    have e1 : (M + s) * (P * (1 - 2 * M)) = M * (P * (1 - 2 * M)) + s * (P * (1 - 2 * M)) := by grind
    have e2 : M * (P * (1 - 2 * M) + 1) = M * (P * (1 - 2 * M)) + M := by grind
    have e3 : M * (2 * y) = M * y * 2 := by grind
    rw [e1] at k1
    rw [e2, e3] at k2
    generalize M * y * 2 = v at *
    generalize M * (P * (1 - 2 * M)) = u at *
    generalize s * (P * (1 - 2 * M)) = t at *
    generalize (M + s) * d = q at *
    omega
theorem ys_pos {M x : Int} (hM : 0 < M) (hx : 0 < x) (R : Nat) : 0 < M + dn (ys M x R) (2 ^ R) := by
  have ih := ys_low hM hx R
  have hP := two_pos R
  have hd := (dn_spec (a := ys M x R) hP).2.1
  apply Int.not_le.mp; intro h
  have : (2 : Int) ^ R * dn (ys M x R) (2 ^ R) ≤ 2 ^ R * (-M) := Int.mul_le_mul_of_nonneg_left (by omega) (by omega)
  have e : (2 : Int) ^ R * (1 - 2 * M) = 2 ^ R + 2 * (2 ^ R * (-M)) := by grind
  rw [e] at ih
  generalize (2 : Int) ^ R * (-M) = u at *
  generalize (2 : Int) ^ R * dn (ys M x R) (2 ^ R) = v at *
  omega

set_option linter.unusedVariables false
theorem rt_ge {n m : Int} (hm : 0 < m) (h : m * m ≤ n) : m ≤ rt n := by
  have hn : 0 < n := Int.lt_of_lt_of_le (Int.mul_pos hm hm) h
  have r := rt_spec hn
  apply Int.not_lt.mp; intro hl
  have : rt n * (rt n + 1) ≤ (m - 1) * m := Int.mul_le_mul (by omega) (by omega) (by have := r.pos; omega) (by omega)
  have h2 := r.hi
  have e : (m - 1) * m = m * m - m := by rw [Int.sub_mul, Int.one_mul]
  omega
/-- above the scale y does not grow -/
theorem ys_up {M x : Int} (hM : 0 < M) (hx : M ≤ x) : ∀ R : Nat, 0 ≤ ys M x R ∧ ys M x R ≤ x - M
  | 0 => ⟨by show 0 ≤ x - M; omega, Int.le_refl _⟩
  | R + 1 => by
    obtain ⟨i1, i2⟩ := ys_up hM hx R
    have hP := two_pos R
    have hd0 : 0 ≤ dn (ys M x R) (2 ^ R) := by
      have h1 := (dn_spec (a := ys M x R) hP).2.1
      apply Int.not_lt.mp; intro h
      have : (2 : Int) ^ R * dn (ys M x R) (2 ^ R) ≤ 2 ^ R * (-1) := Int.mul_le_mul_of_nonneg_left (by omega) (by omega)
      omega
    have hs : M ≤ rt (M * (M + dn (ys M x R) (2 ^ R))) := rt_ge hM (Int.mul_le_mul_of_nonneg_left (by omega) (by omega))
    show 0 ≤ dn (M * ys M x R * 2) (M + rt (M * (M + dn (ys M x R) (2 ^ R)))) ∧ dn (M * ys M x R * 2) (M + rt (M * (M + dn (ys M x R) (2 ^ R)))) ≤ x - M
    generalize rt (M * (M + dn (ys M x R) (2 ^ R))) = s at *
    generalize ys M x R = y at *
    obtain ⟨h1, h2, h3, h4⟩ := dn_spec (a := M * y * 2) (b := M + s) (by omega)
    have hMy : 0 ≤ M * y * 2 := Int.mul_nonneg (Int.mul_nonneg (by omega) i1) (by decide)
    have hle : M * y * 2 ≤ (M + s) * y := by
      have : (M + M) * y ≤ (M + s) * y := Int.mul_le_mul_of_nonneg_right (by omega) i1
      have e : M * y * 2 = (M + M) * y := by grind
      omega
    generalize dn (M * y * 2) (M + s) = d at *
    constructor
    · apply Int.not_lt.mp; intro h
      have : (M + s) * d ≤ (M + s) * (-1) := Int.mul_le_mul_of_nonneg_left (by omega) (by omega)
      omega
    · refine Int.le_trans ?_ i2
      apply Int.not_lt.mp; intro h
      have : (M + s) * (y + 1) ≤ (M + s) * d := Int.mul_le_mul_of_nonneg_left (by omega) (by omega)
      rw [Int.mul_add, Int.mul_one] at this
      generalize (M + s) * y = u at *
      generalize (M + s) * d = v at *
      omega

theorem dn_nonpos {a b : Int} (hb : 0 < b) (h : a ≤ 0) : dn a b ≤ 0 := by
  obtain ⟨h1, h2, _, _⟩ := dn_spec (a := a) hb
  apply Int.not_lt.mp; intro hd
  have : b * 1 ≤ b * dn a b := Int.mul_le_mul_of_nonneg_left (by omega) (by omega)
  omega
/-- below the scale -/
theorem ys_down {M x : Int} (hM : 0 < M) (hx0 : 0 < x) (hx : x ≤ M) : ∀ R : Nat, ys M x R ≤ 0
  | 0 => by show x - M ≤ 0; omega
  | R + 1 => by
    have i := ys_down hM hx0 hx R
    have hs := (rt_spec (Int.mul_pos hM (ys_pos hM hx0 R))).pos
    show dn (M * ys M x R * 2) (M + rt (M * (M + dn (ys M x R) (2 ^ R)))) ≤ 0
    refine dn_nonpos (by omega) ?_
    have := Int.mul_nonpos_of_nonneg_of_nonpos (Int.le_of_lt hM) i
    omega
set_option maxHeartbeats 1000000
set_option linter.unusedVariables false
set_option linter.unusedSimpArgs false
/-- 2^R M log(1 + y / (2^R M)) -/
def Lam (N : Nat) (M y : Int) (R : Nat) : Rat := ((2 ^ R * M : Int) : Rat) * lgI N (2 ^ R * M + y) (2 ^ R * M)
theorem ys_A {M x : Int} (hM : 0 < M) (hx : 0 < x) (R : Nat) : 0 < 2 ^ R * M + ys M x R := by
  have h := ys_low hM hx R
  have hP := two_pos R
  have e : (2 : Int) ^ R * (1 - 2 * M) = 2 ^ R - 2 * (2 ^ R * M) := by grind
  omega
/-- what one halving costs -/
theorem step_Lam {N : Nat} {M x : Int} {R : Nat} {h c : Rat} (hN : 0 < N) (hM : 0 < M) (hx : 0 < x) (hh0 : 0 ≤ h) (hh : (1 / 2 : Rat) ≤ h ∨ R = 0) (hc0 : 0 ≤ c)
    (hc : 4 * ((ys M x R).natAbs : Rat) * ((2 ^ R * M : Int) : Rat) * (((rt (M * (M + dn (ys M x R) (2 ^ R))) : Int) : Rat) + h * M) / (((M : Rat) + ((rt (M * (M + dn (ys M x R) (2 ^ R))) : Int) : Rat)) * ((M : Rat) + ((rt (M * (M + dn (ys M x R) (2 ^ R))) : Int) : Rat))) + (1 / 2) * (4 * ((2 ^ R * M : Int) : Rat) + 2 * (2 * M * ((ys M x R : Int) : Rat) / ((M : Rat) + ((rt (M * (M + dn (ys M x R) (2 ^ R))) : Int) : Rat))) + 1 / 2) ≤ 4 * (((2 ^ R * M : Int) : Rat) + ((ys M x R : Int) : Rat)) * c)
    (hcD : 2 * c ≤ ((2 ^ R * M : Int) : Rat)) :
    Lam N M (ys M x (R + 1)) (R + 1) - Lam N M (ys M x R) R ≤ c + 3 * ((2 ^ R * M : Int) : Rat) / (N : Rat) ∧ -(c + 2 * c * c / ((2 ^ R * M : Int) : Rat) + 3 * ((2 ^ R * M : Int) : Rat) / (N : Rat)) ≤ Lam N M (ys M x (R + 1)) (R + 1) - Lam N M (ys M x R) R := by
  have hA := ys_A hM hx R
  have hP := two_pos R
  have hD : 0 < 2 ^ R * M := Int.mul_pos hP hM
  obtain ⟨g0, g1, g2, g3⟩ := step_G (R := R) (h := h) hM hA (ys_pos hM hx R) hh0 hh
  have ey : ys M x (R + 1) = dn (M * ys M x R * 2) (M + rt (M * (M + dn (ys M x R) (2 ^ R)))) := rfl
  rw [← ey] at g1 g2 g3
  have e2 : (2 : Int) ^ (R + 1) * M = 2 * (2 ^ R * M) := by rw [Int.pow_succ]; grind
  have hA' : 0 < 2 * (2 ^ R * M) + ys M x (R + 1) := by
    have c1 : ((2 * (2 ^ R * M) + ys M x (R + 1) : Int) : Rat) = 2 * ((2 ^ R * M : Int) : Rat) + ((ys M x (R + 1) : Int) : Rat) := by exact_mod_cast rfl
    have : ((0 : Int) : Rat) < ((2 * (2 ^ R * M) + ys M x (R + 1) : Int) : Rat) := by
      rw [c1]
      have z : ((0 : Int) : Rat) = 0 := by exact_mod_cast rfl
      rw [z]; exact g1
    exact Rat.intCast_lt_intCast.mp this
  obtain ⟨l1, l2⟩ := lg_halve hN hA hD hA'
  have hAA := Int.mul_pos hA' hA'
  have h4 : 0 < 4 * (2 ^ R * M) * (2 ^ R * M + ys M x R) := Int.mul_pos (by omega) hA
  obtain ⟨m1, m2⟩ := lgI_lin hN hAA h4
  unfold Lam
  rw [e2]
  have c2 : ((2 * (2 ^ R * M) : Int) : Rat) = 2 * ((2 ^ R * M : Int) : Rat) := by exact_mod_cast rfl
  have c3 : (((2 * (2 ^ R * M) + ys M x (R + 1)) * (2 * (2 ^ R * M) + ys M x (R + 1)) : Int) : Rat) = (2 * ((2 ^ R * M : Int) : Rat) + ((ys M x (R + 1) : Int) : Rat)) * (2 * ((2 ^ R * M : Int) : Rat) + ((ys M x (R + 1) : Int) : Rat)) := by exact_mod_cast rfl
  have c4 : ((4 * (2 ^ R * M) * (2 ^ R * M + ys M x R) : Int) : Rat) = 4 * ((2 ^ R * M : Int) : Rat) * (((2 ^ R * M : Int) : Rat) + ((ys M x R : Int) : Rat)) := by exact_mod_cast rfl
  have c5 := int_pos hA
  have c6 : ((2 ^ R * M + ys M x R : Int) : Rat) = ((2 ^ R * M : Int) : Rat) + ((ys M x R : Int) : Rat) := by exact_mod_cast rfl
  rw [c6] at c5
  have hDr := int_pos hD
  rw [c2]
  rw [c3, c4] at m1 m2
  generalize lgI N (2 * (2 ^ R * M) + ys M x (R + 1)) (2 * (2 ^ R * M)) = la' at *
  generalize lgI N (2 ^ R * M + ys M x R) (2 ^ R * M) = la at *
  generalize lgI N ((2 * (2 ^ R * M) + ys M x (R + 1)) * (2 * (2 ^ R * M) + ys M x (R + 1))) (4 * (2 ^ R * M) * (2 ^ R * M + ys M x R)) = lq at *
  have hU := Rat.le_trans g2 hc
  have hU' : -(4 * (((2 ^ R * M : Int) : Rat) + ((ys M x R : Int) : Rat)) * c) ≤ (2 * ((2 ^ R * M : Int) : Rat) + ((ys M x (R + 1) : Int) : Rat)) * (2 * ((2 ^ R * M : Int) : Rat) + ((ys M x (R + 1) : Int) : Rat)) - 4 * ((2 ^ R * M : Int) : Rat) * (((2 ^ R * M : Int) : Rat) + ((ys M x R : Int) : Rat)) := by grind
  clear g2 g3 hc
  have hSq := Rat.mul_pos g1 g1
  generalize (2 * ((2 ^ R * M : Int) : Rat) + ((ys M x (R + 1) : Int) : Rat)) * (2 * ((2 ^ R * M : Int) : Rat) + ((ys M x (R + 1) : Int) : Rat)) = Q at *
  generalize ((2 ^ R * M : Int) : Rat) + ((ys M x R : Int) : Rat) = A at *
  generalize ((2 ^ R * M : Int) : Rat) = D at *
  have hN0 : (0 : Rat) < 1 / N := q_div_pos (by grind) (nat_pos hN)
  have e3 : (3 : Rat) / N = 3 * (1 / N) := by grind
  have e3D : 3 * D / (N : Rat) = 3 * (D * (1 / N)) := by grind
  rw [e3] at l1 l2
  rw [e3D]
  generalize (1 : Rat) / N = e at *
  have hDA := Rat.mul_pos hDr c5
  -- from above
  have u1 : D * lq ≤ c := by
    have k : (Q - 4 * D * A) / (4 * D * A) ≤ c / D := by
      refine q_div_le (by grind) ?_
      have : c / D * (4 * D * A) = 4 * A * c := by grind
      grind
    have := q_mul_le' (Rat.le_trans m2 k) (show 0 ≤ D by grind)
    have e5 : D * (c / D) = c := by grind
    grind
  -- from below
  have u2 : -(c + 2 * c * c / D) ≤ D * lq := by
    have hq1 : 4 * A * (D - c) ≤ Q := by grind
    have hDc : 0 < D - c := by grind
    have k : -(c / (D - c)) ≤ (Q - 4 * D * A) / Q := by
      refine q_le_div hSq ?_
      have hcc : 0 ≤ c / (D - c) := q_div_nn hc0 hDc
      have h7 := q_mul_le' hq1 hcc
      have e6 : c / (D - c) * (4 * A * (D - c)) = 4 * A * c := by
        have : D - c ≠ 0 := by grind
        grind
      grind
    have h8 := q_mul_le' (Rat.le_trans k m1) (show 0 ≤ D by grind)
    have h9 : D * (c / (D - c)) ≤ c + 2 * c * c / D := by
      have e7 : D * (c / (D - c)) = D * c / (D - c) := by grind
      rw [e7]
      refine q_div_le hDc ?_
      have e8 : (c + 2 * c * c / D) * (D - c) = c * D + c * c - 2 * c * c * (c / D) := by grind
      rw [e8]
      have h10 : c / D ≤ 1 / 2 := q_div_le hDr (by grind)
      have h11 := q_mul_le' h10 (show 0 ≤ 2 * c * c by have := q_mul_nn hc0 hc0; grind)
      grind
    grind
  have w1 := q_mul_le' l1 (show 0 ≤ D by grind)
  have w2 := q_mul_le' l2 (show 0 ≤ D by grind)
  constructor <;> grind
theorem Qs_abs' {t τ : Rat} (h0 : 0 ≤ τ) (h1 : τ < 1) (ht : t ≤ τ) (ht' : -τ ≤ t) : ∀ (n k : Nat), 0 < k → Qs t k n ≤ 1 / (k : Rat) * (1 / (1 - τ)) ∧ -(1 / (k : Rat) * (1 / (1 - τ))) ≤ Qs t k n
  | 0, k, hk => by
    have h2 : (0 : Rat) ≤ 1 / (k : Rat) * (1 / (1 - τ)) := q_mul_nn (q_div_nn (by grind) (nat_pos hk)) (q_div_nn (by grind) (by grind))
    show (0 : Rat) ≤ _ ∧ _ ≤ (0 : Rat)
    constructor <;> grind
  | n + 1, k, hk => by
    obtain ⟨i1, i2⟩ := Qs_abs' h0 h1 ht ht' n (k + 1) (by omega)
    show 1 / (k : Rat) - t * Qs t (k + 1) n ≤ _ ∧ _ ≤ 1 / (k : Rat) - t * Qs t (k + 1) n
    have hkp := nat_pos hk
    have ek : ((k + 1 : Nat) : Rat) = (k : Rat) + 1 := by grind
    have hk1 : 1 / ((k + 1 : Nat) : Rat) ≤ 1 / (k : Rat) := by
      rw [ek]
      refine q_div_le (by grind) ?_
      have : 1 / (k : Rat) * ((k : Rat) + 1) = 1 + 1 / (k : Rat) := by grind
      have := q_div_nn (show (0 : Rat) ≤ 1 by grind) hkp
      grind
    have hk0 : 0 ≤ 1 / (k : Rat) := q_div_nn (by grind) hkp
    have hE : (0 : Rat) < 1 / (1 - τ) := q_div_pos (by grind) (by grind)
    have m := q_mul_le hk1 (show 0 ≤ 1 / (1 - τ) by grind)
    have eE : 1 + τ * (1 / (1 - τ)) = 1 / (1 - τ) := by
      have : 1 - τ ≠ 0 := by grind
      grind
    generalize Qs t (k + 1) n = Q at *
    generalize 1 / (1 - τ) = E at *
    generalize 1 / ((k + 1 : Nat) : Rat) = K1 at *
    generalize 1 / (k : Rat) = K0 at *
    have q1 : Q ≤ K0 * E := by grind
    have q2 : -(K0 * E) ≤ Q := by grind
    have hKE := q_mul_nn hk0 (show 0 ≤ E by grind)
    generalize hz : K0 * E = Z at *
    have b : t * Q ≤ τ * Z ∧ -(τ * Z) ≤ t * Q := by
      have a1 := q_mul_nn (show 0 ≤ τ - t by grind) (show 0 ≤ Z + Q by grind)
      have a2 := q_mul_nn (show 0 ≤ τ + t by grind) (show 0 ≤ Z - Q by grind)
      have a3 := q_mul_nn (show 0 ≤ τ - t by grind) (show 0 ≤ Z - Q by grind)
      have a4 := q_mul_nn (show 0 ≤ τ + t by grind) (show 0 ≤ Z + Q by grind)
      constructor <;> grind
    have eZ : K0 + τ * Z = Z := by
      rw [← hz]
      have : K0 + τ * (K0 * E) = K0 * (1 + τ * E) := by grind
      rw [this, eE]
    constructor <;> grind
/-- the series, at two places -/
theorem Qs_lip {t t' τ δ : Rat} (h0 : 0 ≤ τ) (h1 : τ < 1) (ht : t ≤ τ) (ht' : -τ ≤ t) (hu : t' ≤ τ) (hu' : -τ ≤ t') (hδ0 : 0 ≤ δ) (hδ : t - t' ≤ δ) (hδ' : -δ ≤ t - t') : ∀ (n k : Nat), 0 < k →
    Qs t k n - Qs t' k n ≤ δ * (1 / ((k : Rat) + 1) * (1 / ((1 - τ) * (1 - τ)))) ∧ -(δ * (1 / ((k : Rat) + 1) * (1 / ((1 - τ) * (1 - τ))))) ≤ Qs t k n - Qs t' k n
  | 0, k, hk => by
    have hkp := nat_pos hk
    have h2 : (0 : Rat) ≤ δ * (1 / ((k : Rat) + 1) * (1 / ((1 - τ) * (1 - τ)))) := q_mul_nn hδ0 (q_mul_nn (q_div_nn (by grind) (by grind)) (q_div_nn (by grind) (Rat.mul_pos (by grind) (by grind))))
    show (0 : Rat) - 0 ≤ _ ∧ _ ≤ (0 : Rat) - 0
    constructor <;> grind
  | n + 1, k, hk => by
    obtain ⟨i1, i2⟩ := Qs_lip h0 h1 ht ht' hu hu' hδ0 hδ hδ' n (k + 1) (by omega)
    obtain ⟨a1, a2⟩ := Qs_abs' h0 h1 ht ht' n (k + 1) (by omega)
    show 1 / (k : Rat) - t * Qs t (k + 1) n - (1 / (k : Rat) - t' * Qs t' (k + 1) n) ≤ _ ∧ _ ≤ 1 / (k : Rat) - t * Qs t (k + 1) n - (1 / (k : Rat) - t' * Qs t' (k + 1) n)
    have hkp := nat_pos hk
    have ek : ((k + 1 : Nat) : Rat) = (k : Rat) + 1 := by grind
    rw [ek] at i1 i2 a1 a2
    have hk2 : 1 / ((k : Rat) + 1 + 1) ≤ 1 / ((k : Rat) + 1) := by
      refine q_div_le (by grind) ?_
      have : 1 / ((k : Rat) + 1) * ((k : Rat) + 1 + 1) = 1 + 1 / ((k : Rat) + 1) := by
        have : (k : Rat) + 1 ≠ 0 := by grind
        grind
      have := q_div_nn (show (0 : Rat) ≤ 1 by grind) (show (0 : Rat) < (k : Rat) + 1 by grind)
      grind
    have hk0 : 0 ≤ 1 / ((k : Rat) + 1) := q_div_nn (by grind) (by grind)
    have hF0 : (0 : Rat) < 1 / ((1 - τ) * (1 - τ)) := q_div_pos (by grind) (Rat.mul_pos (by grind) (by grind))
    have eF : 1 / (1 - τ) + τ * (1 / ((1 - τ) * (1 - τ))) = 1 / ((1 - τ) * (1 - τ)) := by
      have : 1 - τ ≠ 0 := by grind
      grind
    generalize 1 / ((1 - τ) * (1 - τ)) = F at *
    generalize 1 / (1 - τ) = E at *
    generalize 1 / ((k : Rat) + 1 + 1) = K2 at *
    generalize 1 / ((k : Rat) + 1) = K1 at *
    generalize Qs t (k + 1) n = Q at *
    generalize Qs t' (k + 1) n = Q' at *
    have hm := q_mul_le' (q_mul_le hk2 (show 0 ≤ F by grind)) hδ0
    have d1 : Q - Q' ≤ δ * (K1 * F) := by grind
    have d2 : -(δ * (K1 * F)) ≤ Q - Q' := by grind
    have hZ := q_mul_nn hδ0 (q_mul_nn hk0 (show 0 ≤ F by grind))
    have b1 : (t - t') * Q ≤ δ * (K1 * E) ∧ -(δ * (K1 * E)) ≤ (t - t') * Q := by
      have c1 := q_mul_nn (show 0 ≤ δ - (t - t') by grind) (show 0 ≤ K1 * E + Q by grind)
      have c2 := q_mul_nn (show 0 ≤ δ + (t - t') by grind) (show 0 ≤ K1 * E - Q by grind)
      have c3 := q_mul_nn (show 0 ≤ δ - (t - t') by grind) (show 0 ≤ K1 * E - Q by grind)
      have c4 := q_mul_nn (show 0 ≤ δ + (t - t') by grind) (show 0 ≤ K1 * E + Q by grind)
      constructor <;> grind
    have b2 : t' * (Q - Q') ≤ τ * (δ * (K1 * F)) ∧ -(τ * (δ * (K1 * F))) ≤ t' * (Q - Q') := by
      generalize δ * (K1 * F) = Z at *
      have c1 := q_mul_nn (show 0 ≤ τ - t' by grind) (show 0 ≤ Z + (Q - Q') by grind)
      have c2 := q_mul_nn (show 0 ≤ τ + t' by grind) (show 0 ≤ Z - (Q - Q') by grind)
      have c3 := q_mul_nn (show 0 ≤ τ - t' by grind) (show 0 ≤ Z - (Q - Q') by grind)
      have c4 := q_mul_nn (show 0 ≤ τ + t' by grind) (show 0 ≤ Z + (Q - Q') by grind)
      constructor <;> grind
    have eS : δ * (K1 * E) + τ * (δ * (K1 * F)) = δ * (K1 * F) := by
      have : δ * (K1 * E) + τ * (δ * (K1 * F)) = δ * (K1 * (E + τ * F)) := by grind
      rw [this, eF]
    have ex : 1 / (k : Rat) - t * Q - (1 / (k : Rat) - t' * Q') = -((t - t') * Q) - t' * (Q - Q') := by grind
    rw [ex]
    constructor <;> grind
/-- what the series tells, against the logarithm -/
theorem ser_Lam {N T R : Nat} {M y : Int} {τ : Rat} (hN : 0 < N) (hT : 0 < T) (hM : 0 < M) (h0 : 0 ≤ τ) (h1 : τ < 1) (hy2 : 2 * (y.natAbs : Int) ≤ 2 ^ R * M)
    (hu : ((dn y (2 ^ R) : Int) : Rat) / M ≤ τ) (hu' : -τ ≤ ((dn y (2 ^ R) : Int) : Rat) / M) (ht : (y.natAbs : Rat) / ((2 ^ R * M : Int) : Rat) ≤ τ) (hp : (M : Rat) * ((y.natAbs : Rat) / ((2 ^ R * M : Int) : Rat)) ^ T ≤ 1) :
    ((hw M (dn y (2 ^ R)) T (T - 1) : Int) : Rat) * (y : Rat) / M - Lam N M y R ≤ (y.natAbs : Rat) / M * (1 / 2 + τ / (1 - τ) + 1 / 4 * (1 / ((1 - τ) * (1 - τ))) + 1 / (((T : Rat) + 1) * (1 - τ))) + 4 * ((2 ^ R * M : Int) : Rat) / (N : Rat) ∧
    -((y.natAbs : Rat) / M * (1 / 2 + τ / (1 - τ) + 1 / 4 * (1 / ((1 - τ) * (1 - τ))) + 1 / (((T : Rat) + 1) * (1 - τ))) + 4 * ((2 ^ R * M : Int) : Rat) / (N : Rat)) ≤ ((hw M (dn y (2 ^ R)) T (T - 1) : Int) : Rat) * (y : Rat) / M - Lam N M y R := by
  have hP := two_pos R
  have hD : 0 < 2 ^ R * M := Int.mul_pos hP hM
  have hMp := int_pos hM
  have hDp := int_pos hD
  have hPp := int_pos hP
  obtain ⟨t1, t2⟩ := taylor hN hD hy2 T
  obtain ⟨w1, w2⟩ := hw_last (T := T) hM hT h0 h1 hu hu'
  obtain ⟨v1, v2⟩ := dn_q (a := y) hP
  have cD : ((2 ^ R * M : Int) : Rat) = (((2 : Int) ^ R : Int) : Rat) * M := by exact_mod_cast rfl
  have hya : (y : Rat) ≤ (y.natAbs : Rat) ∧ -(y.natAbs : Rat) ≤ (y : Rat) := by
    have h1 := int_le (show y ≤ (y.natAbs : Int) by omega)
    have h2 := int_le (show -(y.natAbs : Int) ≤ y by omega)
    have c : ((-(y.natAbs : Int) : Int) : Rat) = -(y.natAbs : Rat) := by exact_mod_cast rfl
    rw [c] at h2
    exact ⟨h1, h2⟩
  have hn0 : (0 : Rat) ≤ (y.natAbs : Rat) := by grind
  have yt1 : (y : Rat) / ((2 ^ R * M : Int) : Rat) ≤ τ := by
    refine Rat.le_trans (q_div_le hDp ?_) ht
    have : (y.natAbs : Rat) / ((2 ^ R * M : Int) : Rat) * ((2 ^ R * M : Int) : Rat) = (y.natAbs : Rat) := by grind
    grind
  have yt2 : -τ ≤ (y : Rat) / ((2 ^ R * M : Int) : Rat) := by
    refine Rat.le_trans (show -τ ≤ -((y.natAbs : Rat) / ((2 ^ R * M : Int) : Rat)) by grind) (q_le_div hDp ?_)
    have : -((y.natAbs : Rat) / ((2 ^ R * M : Int) : Rat)) * ((2 ^ R * M : Int) : Rat) = -(y.natAbs : Rat) := by grind
    grind
  have τn : (0 : Rat) ≤ (y.natAbs : Rat) / ((2 ^ R * M : Int) : Rat) := q_div_nn hn0 hDp
  -- the two places
  have ed : ((dn y (2 ^ R) : Int) : Rat) / M - (y : Rat) / ((2 ^ R * M : Int) : Rat) = -(((y : Rat) / (((2 : Int) ^ R : Int) : Rat) - ((dn y (2 ^ R) : Int) : Rat)) / M) := by
    rw [cD]
    have : (((2 : Int) ^ R : Int) : Rat) ≠ 0 := by grind
    grind
  have hδ : ((dn y (2 ^ R) : Int) : Rat) / M - (y : Rat) / ((2 ^ R * M : Int) : Rat) ≤ 1 / 2 / M ∧ -(1 / 2 / M) ≤ ((dn y (2 ^ R) : Int) : Rat) / M - (y : Rat) / ((2 ^ R * M : Int) : Rat) := by
    rw [ed]
    have ea : 1 / 2 / (M : Rat) * M = 1 / 2 := by grind
    have eb : -(1 / 2 / (M : Rat)) * M = -(1 / 2) := by grind
    have k1 := q_div_le (a := (y : Rat) / (((2 : Int) ^ R : Int) : Rat) - ((dn y (2 ^ R) : Int) : Rat)) (c := 1 / 2 / M) hMp (by rw [ea]; exact v1)
    have k2 := q_le_div (a := (y : Rat) / (((2 : Int) ^ R : Int) : Rat) - ((dn y (2 ^ R) : Int) : Rat)) (c := -(1 / 2 / M)) hMp (by rw [eb]; exact v2)
    constructor <;> grind
  obtain ⟨q1, q2⟩ := Qs_lip h0 h1 hu hu' yt1 yt2 (q_div_nn (by grind) hMp) hδ.1 hδ.2 T 1 (by decide)
  have e11 : ((1 : Nat) : Rat) + 1 = 2 := by grind
  rw [e11] at q1 q2
  have qo := Qs_one ((y : Rat) / ((2 ^ R * M : Int) : Rat)) T
  have hTr : (0 : Rat) ≤ (T : Rat) := by grind
  -- the tail
  have tb : ((2 ^ R * M : Int) : Rat) * tl T ((y.natAbs : Rat) / ((2 ^ R * M : Int) : Rat)) ≤ (y.natAbs : Rat) / M * (1 / (((T : Rat) + 1) * (1 - τ))) := by
    have e1 : ((2 ^ R * M : Int) : Rat) * tl T ((y.natAbs : Rat) / ((2 ^ R * M : Int) : Rat)) = (y.natAbs : Rat) / M * ((M : Rat) * ((y.natAbs : Rat) / ((2 ^ R * M : Int) : Rat)) ^ T * (1 / (((T : Rat) + 1) * (1 - (y.natAbs : Rat) / ((2 ^ R * M : Int) : Rat))))) := by
      unfold tl
      rw [Rat.pow_succ]
      generalize hX : ((y.natAbs : Rat) / ((2 ^ R * M : Int) : Rat)) ^ T = X at *
      have hden : ((T : Rat) + 1) * (1 - (y.natAbs : Rat) / ((2 ^ R * M : Int) : Rat)) ≠ 0 := by
        have := Rat.mul_pos (show (0 : Rat) < (T : Rat) + 1 by grind) (show 0 < 1 - (y.natAbs : Rat) / ((2 ^ R * M : Int) : Rat) by grind)
        grind
      generalize ((T : Rat) + 1) * (1 - (y.natAbs : Rat) / ((2 ^ R * M : Int) : Rat)) = W at *
      have hDn : ((2 ^ R * M : Int) : Rat) ≠ 0 := by grind
      have hMn : (M : Rat) ≠ 0 := by grind
      generalize ((2 ^ R * M : Int) : Rat) = D at *
      clear t1 t2 w1 w2 v1 v2 q1 q2 qo hδ ed yt1 yt2 hp cD
      grind
    rw [e1]
    have hW : (0 : Rat) < ((T : Rat) + 1) * (1 - τ) := Rat.mul_pos (by grind) (by grind)
    have k : 1 / (((T : Rat) + 1) * (1 - (y.natAbs : Rat) / ((2 ^ R * M : Int) : Rat))) ≤ 1 / (((T : Rat) + 1) * (1 - τ)) := by
      have hle : ((T : Rat) + 1) * (1 - τ) ≤ ((T : Rat) + 1) * (1 - (y.natAbs : Rat) / ((2 ^ R * M : Int) : Rat)) := q_mul_le' (by grind) (by grind)
      refine q_div_le (by grind) ?_
      have : 1 / (((T : Rat) + 1) * (1 - τ)) * (((T : Rat) + 1) * (1 - (y.natAbs : Rat) / ((2 ^ R * M : Int) : Rat))) = (((T : Rat) + 1) * (1 - (y.natAbs : Rat) / ((2 ^ R * M : Int) : Rat))) / (((T : Rat) + 1) * (1 - τ)) := by grind
      rw [this]
      exact q_le_div hW (by grind)
    have hk0 : 0 ≤ 1 / (((T : Rat) + 1) * (1 - (y.natAbs : Rat) / ((2 ^ R * M : Int) : Rat))) := q_div_nn (by grind) (Rat.mul_pos (by grind) (by grind))
    have hpn : 0 ≤ (M : Rat) * ((y.natAbs : Rat) / ((2 ^ R * M : Int) : Rat)) ^ T := q_mul_nn (by grind) (q_pow_nn τn T)
    have s1 := q_mul_le hp hk0
    have s2 := q_mul_le' (Rat.le_trans s1 (show 1 * (1 / (((T : Rat) + 1) * (1 - (y.natAbs : Rat) / ((2 ^ R * M : Int) : Rat)))) ≤ 1 / (((T : Rat) + 1) * (1 - τ)) by grind)) (show 0 ≤ (y.natAbs : Rat) / M from q_div_nn hn0 hMp)
    exact s2
  have e4 : 4 * ((2 ^ R * M : Int) : Rat) / (N : Rat) = ((2 ^ R * M : Int) : Rat) * (4 / N) := by grind
  rw [e4]
  have hm1 := q_mul_le' t1 (show 0 ≤ ((2 ^ R * M : Int) : Rat) by grind)
  have hm2 := q_mul_le' t2 (show 0 ≤ ((2 ^ R * M : Int) : Rat) by grind)
  unfold Lam
  -- y Q(t) = D t Q(t)
  have eyQ : (y : Rat) * Qs ((y : Rat) / ((2 ^ R * M : Int) : Rat)) 1 T = -(((2 ^ R * M : Int) : Rat) * Pw T (-((y : Rat) / ((2 ^ R * M : Int) : Rat)))) := by
    have : (y : Rat) = ((2 ^ R * M : Int) : Rat) * ((y : Rat) / ((2 ^ R * M : Int) : Rat)) := by grind
    calc (y : Rat) * Qs ((y : Rat) / ((2 ^ R * M : Int) : Rat)) 1 T = ((2 ^ R * M : Int) : Rat) * (((y : Rat) / ((2 ^ R * M : Int) : Rat)) * Qs ((y : Rat) / ((2 ^ R * M : Int) : Rat)) 1 T) := by grind
      _ = _ := by rw [qo]; grind
  have hB : (0 : Rat) ≤ 1 / ((1 - τ) * (1 - τ)) := q_div_nn (by grind) (Rat.mul_pos (by grind) (by grind))
  have hV : (0 : Rat) ≤ τ / (1 - τ) := q_div_nn h0 (by grind)
  have hTT : (0 : Rat) ≤ 1 / (((T : Rat) + 1) * (1 - τ)) := q_div_nn (by grind) (Rat.mul_pos (by grind) (by grind))
  have eM1 : (M : Rat) * (1 / 2 / M * (1 / 2 * (1 / ((1 - τ) * (1 - τ))))) = 1 / 4 * (1 / ((1 - τ) * (1 - τ))) := by
    have : (M : Rat) ≠ 0 := by grind
    generalize 1 / ((1 - τ) * (1 - τ)) = F at *
    grind
  have hq1 := q_mul_le' q1 (show 0 ≤ (M : Rat) by grind)
  have hq2 := q_mul_le' q2 (show 0 ≤ (M : Rat) by grind)
  have eneg : (M : Rat) * -(1 / 2 / M * (1 / 2 * (1 / ((1 - τ) * (1 - τ))))) = -(1 / 4 * (1 / ((1 - τ) * (1 - τ)))) := by rw [← eM1]; grind
  rw [eM1] at hq1
  rw [eneg] at hq2
  generalize 1 / ((1 - τ) * (1 - τ)) = F at *
  generalize τ / (1 - τ) = V at *
  generalize 1 / (((T : Rat) + 1) * (1 - τ)) = TT at *
  generalize ((hw M (dn y (2 ^ R)) T (T - 1) : Int) : Rat) = W at *
  generalize Qs (((dn y (2 ^ R) : Int) : Rat) / M) 1 T = Qu at *
  generalize hQt : Qs ((y : Rat) / ((2 ^ R * M : Int) : Rat)) 1 T = Qt at *
  generalize hPw : Pw T (-((y : Rat) / ((2 ^ R * M : Int) : Rat))) = PP at *
  generalize lgI N (2 ^ R * M + y) (2 ^ R * M) = lam at *
  generalize tl T ((y.natAbs : Rat) / ((2 ^ R * M : Int) : Rat)) = tt at *
  generalize ((2 ^ R * M : Int) : Rat) = D at *
  generalize (4 : Rat) / N = eN at *
  clear qo ed hδ yt1 yt2 τn v1 v2 cD hp ht hu hu' q1 q2 eM1 eneg
  -- the bracket
  have br1 : W - M * Qt ≤ 1 / 2 + V + 1 / 4 * F := by grind
  have br2 : -(1 / 2 + V + 1 / 4 * F) ≤ W - M * Qt := by grind
  have ym : (y : Rat) / M ≤ (y.natAbs : Rat) / M ∧ -((y.natAbs : Rat) / M) ≤ (y : Rat) / M := by
    constructor
    · refine q_div_le hMp ?_
      have : (y.natAbs : Rat) / M * M = (y.natAbs : Rat) := by grind
      grind
    · refine q_le_div hMp ?_
      have : -((y.natAbs : Rat) / M) * M = -(y.natAbs : Rat) := by grind
      grind
  have eW : W * (y : Rat) / M - D * lam = (y : Rat) / M * (W - M * Qt) + ((y : Rat) * Qt - D * lam) := by
    have : (M : Rat) ≠ 0 := by grind
    grind
  rw [eW, eyQ]
  obtain ⟨ym1, ym2⟩ := ym
  generalize (y : Rat) / M = p at *
  generalize (y.natAbs : Rat) / M = pn at *
  have hpn : 0 ≤ pn := by grind
  generalize W - M * Qt = B at *
  generalize hX : 1 / 2 + V + 1 / 4 * F = X at *
  have b : p * B ≤ pn * X ∧ -(pn * X) ≤ p * B := by
    have c1 := q_mul_nn (show 0 ≤ pn - p by grind) (show 0 ≤ X + B by grind)
    have c2 := q_mul_nn (show 0 ≤ pn + p by grind) (show 0 ≤ X - B by grind)
    have c3 := q_mul_nn (show 0 ≤ pn - p by grind) (show 0 ≤ X - B by grind)
    have c4 := q_mul_nn (show 0 ≤ pn + p by grind) (show 0 ≤ X + B by grind)
    constructor <;> grind
  obtain ⟨b1, b2⟩ := b
  have eX : pn * (X + TT) = pn * X + pn * TT := by grind
  have ed1 : D * (lam + PP) = D * lam + D * PP := by grind
  have ed2 : D * (tt + eN) = D * tt + D * eN := by grind
  have ed3 : D * -(tt + eN) = -(D * tt + D * eN) := by grind
  rw [ed1, ed2] at hm1
  rw [ed1, ed3] at hm2
  rw [eX]
  constructor <;> grind
set_option linter.unusedVariables false
theorem least {p : Nat → Prop} {B : Nat} (h : p B) : ∃ N, N ≤ B ∧ p N ∧ ∀ R, R < N → ¬ p R := by
  induction B using Nat.strongRecOn with
  | ind B ih =>
    by_cases h' : ∃ R, R < B ∧ p R
    · obtain ⟨R, hR, hp⟩ := h'
      obtain ⟨N, h1, h2, h3⟩ := ih R hR hp
      exact ⟨N, by omega, h2, h3⟩
    · exact ⟨B, Nat.le_refl _, h, fun R hR hp => h' ⟨R, hR, hp⟩⟩
set_option maxHeartbeats 1000000
set_option linter.unusedVariables false
set_option linter.unusedSimpArgs false
theorem dn_mono {a b a' b' : Int} (hb : 0 < b) (hb' : 0 < b') (h : a * b' ≤ a' * b) : dn a b ≤ dn a' b' := by
  obtain ⟨h1, h2, h3, h4⟩ := dn_spec (a := a) hb
  obtain ⟨g1, g2, g3, g4⟩ := dn_spec (a := a') hb'
  generalize dn a b = p at *
  generalize dn a' b' = q at *
  apply Int.not_lt.mp
  intro hlt
  have hbb := Int.mul_pos hb hb'
  -- 2 a >= (2 p - 1) b ; 2 a' <= (2 q + 1) b'
  have k1 : (2 * p - 1) * b * b' ≤ 2 * a * b' := Int.mul_le_mul_of_nonneg_right (by grind) (by omega)
  have k2 : 2 * a' * b ≤ (2 * q + 1) * b' * b := Int.mul_le_mul_of_nonneg_right (by grind) (by omega)
  have k3 : (2 * q + 1) * (b * b') ≤ (2 * p - 1) * (b * b') := Int.mul_le_mul_of_nonneg_right (by omega) (by omega)
  have e1 : (2 * p - 1) * b * b' = (2 * p - 1) * (b * b') := by grind
  have e2 : (2 * q + 1) * b' * b = (2 * q + 1) * (b * b') := by grind
  have e3 : 2 * a * b' = 2 * (a * b') := by grind
  have e4 : 2 * a' * b = 2 * (a' * b) := by grind
  rw [e1, e3] at k1
  rw [e4, e2] at k2
  have eqs : (2 * q + 1) * (b * b') = (2 * p - 1) * (b * b') := by omega
  have hpq : 2 * q + 1 = 2 * p - 1 := Int.eq_of_mul_eq_mul_right (by omega) eqs
  have x1 : 2 * (a * b') = (2 * p - 1) * (b * b') := by omega
  have x2 : 2 * (a' * b) = (2 * q + 1) * (b * b') := by omega
  have y1 : 2 * a = (2 * p - 1) * b := by
    have : 2 * a * b' = (2 * p - 1) * b * b' := by rw [e3, e1]; exact x1
    exact Int.eq_of_mul_eq_mul_right (by omega) this
  have y2 : 2 * a' = (2 * q + 1) * b' := by
    have : 2 * a' * b = (2 * q + 1) * b' * b := by rw [e4, e2]; exact x2
    exact Int.eq_of_mul_eq_mul_right (by omega) this
  have z1 := h4 (by grind)
  have z2 := g3 (by grind)
  omega
theorem rt_mono {n n' : Int} (hn : 0 < n) (h : n ≤ n') : rt n ≤ rt n' := by
  have r := rt_spec hn
  have r' := rt_spec (show 0 < n' by omega)
  apply Int.not_lt.mp
  intro hlt
  have h1 := r.lo
  have h2 := r'.hi
  have h3 := r'.pos
  have : rt n' * (rt n' + 1) ≤ (rt n - 1) * rt n := Int.mul_le_mul (by omega) (by omega) (by omega) (by omega)
  have e : (rt n - 1) * rt n = rt n * (rt n - 1) := Int.mul_comm ..
  omega
/-- the root near the scale -/
theorem rt_near {M v : Int} (hM : 1000000000 ≤ M) (hv : 30 * (v.natAbs : Int) ≤ M + 30) : 0 < M + v ∧ 98 * M ≤ 100 * rt (M * (M + v)) ∧ 100 * rt (M * (M + v)) ≤ 102 * M := by
  have hp : 0 < M + v := by omega
  have r := rt_spec (Int.mul_pos (show 0 < M by omega) hp)
  have r0 := r.pos
  have r1 := r.lo
  have r2 := r.hi
  refine ⟨hp, ?_, ?_⟩
  · apply Int.not_lt.mp
    intro hlt
    generalize rt (M * (M + v)) = s at *
    have h1 : 100 * s * (100 * s + 100) ≤ (98 * M) * (98 * M + 100) := Int.mul_le_mul (by omega) (by omega) (by omega) (by omega)
    have e1 : 100 * s * (100 * s + 100) = 10000 * (s * (s + 1)) := by grind
    have h2 : M * (29 * M - 30) ≤ M * (30 * (M + v)) := Int.mul_le_mul_of_nonneg_left (by omega) (by omega)
    have e2 : M * (30 * (M + v)) = 30 * (M * (M + v)) := by grind
    have e3 : M * (29 * M - 30) = 29 * (M * M) - 30 * M := by grind
    have e4 : (98 * M) * (98 * M + 100) = 9604 * (M * M) + 9800 * M := by grind
    have hMM : 1000000000 * M ≤ M * M := Int.mul_le_mul_of_nonneg_right hM (by omega)
    omega
  · apply Int.not_lt.mp
    intro hlt
    generalize rt (M * (M + v)) = s at *
    have h1 : (102 * M) * (102 * M - 100) ≤ 100 * s * (100 * s - 100) := Int.mul_le_mul (by omega) (by omega) (by omega) (by omega)
    have e1 : 100 * s * (100 * s - 100) = 10000 * (s * (s - 1)) := by grind
    have h2 : M * (30 * (M + v)) ≤ M * (31 * M + 30) := Int.mul_le_mul_of_nonneg_left (by omega) (by omega)
    have e2 : M * (30 * (M + v)) = 30 * (M * (M + v)) := by grind
    have e3 : M * (31 * M + 30) = 31 * (M * M) + 30 * M := by grind
    have e4 : (102 * M) * (102 * M - 100) = 10404 * (M * M) - 10200 * M := by grind
    have hMM : 1000000000 * M ≤ M * M := Int.mul_le_mul_of_nonneg_right hM (by omega)
    omega
theorem dn_small {M y : Int} {R : Nat} (h : 30 * (y.natAbs : Int) ≤ M) : 30 * ((dn y (2 ^ R)).natAbs : Int) ≤ M := by
  have := dn_abs (a := y) (two_pos R)
  omega
/-- a halving keeps the order -/
theorem step_mono {M y y' : Int} {R : Nat} (hM : 1000000000 ≤ M) (hy : 30 * (y.natAbs : Int) ≤ M) (hy' : 30 * (y'.natAbs : Int) ≤ M) (h : y ≤ y') :
    dn (M * y * 2) (M + rt (M * (M + dn y (2 ^ R)))) ≤ dn (M * y' * 2) (M + rt (M * (M + dn y' (2 ^ R)))) := by
  by_cases hyy : y = y'
  · subst hyy; exact Int.le_refl _
  have hP := two_pos R
  have hv : dn y (2 ^ R) ≤ dn y' (2 ^ R) := dn_mono hP hP (Int.mul_le_mul_of_nonneg_right h (by omega))
  have hd := dn_small (R := R) hy
  have hd' := dn_small (R := R) hy'
  obtain ⟨p1, l1, u1⟩ := rt_near (v := dn y (2 ^ R)) hM (by omega)
  obtain ⟨p2, l2, u2⟩ := rt_near (v := dn y' (2 ^ R)) hM (by omega)
  have hn : 0 < M * (M + dn y (2 ^ R)) := Int.mul_pos (by omega) p1
  have hn' : 0 < M * (M + dn y' (2 ^ R)) := Int.mul_pos (by omega) p2
  have hnn : M * (M + dn y (2 ^ R)) ≤ M * (M + dn y' (2 ^ R)) := Int.mul_le_mul_of_nonneg_left (by omega) (by omega)
  have hrr := rt_mono hn hnn
  have r := rt_spec hn
  have r' := rt_spec hn'
  have b1 := r.hi
  have b2 := r'.lo
  -- how far the quotients part
  have hvd : dn y' (2 ^ R) - dn y (2 ^ R) ≤ (y' - y) + 1 := by
    obtain ⟨a1, a2, _, _⟩ := dn_spec (a := y) hP
    obtain ⟨c1, c2, _, _⟩ := dn_spec (a := y') hP
    generalize dn y (2 ^ R) = v at *
    generalize dn y' (2 ^ R) = v' at *
    generalize (2 : Int) ^ R = P at *
    apply Int.not_lt.mp
    intro hlt
    have h1 : P * (y' - y + 2) ≤ P * (v' - v) := Int.mul_le_mul_of_nonneg_left (by omega) (by omega)
    have e1 : P * (v' - v) = P * v' - P * v := by grind
    have h2 : 1 * (y' - y) ≤ P * (y' - y) := Int.mul_le_mul_of_nonneg_right (by omega) (by omega)
    have e2 : P * (y' - y + 2) = P * (y' - y) + 2 * P := by grind
    omega
  generalize hr1 : rt (M * (M + dn y (2 ^ R))) = s at *
  generalize hr2 : rt (M * (M + dn y' (2 ^ R))) = s' at *
  generalize dn y (2 ^ R) = v at *
  generalize dn y' (2 ^ R) = v' at *
  refine dn_mono (by omega) (by omega) ?_
  have key : y * (M + s') ≤ y' * (M + s) := by
    rcases Int.le_total 0 y with hy0 | hy0
    · have hΔ : 1 ≤ y' - y := by omega
      -- s' - s <= 3 (y' - y)
      have hs3 : s' - s ≤ 3 * (y' - y) := by
        apply Int.not_lt.mp
        intro hlt
        have h1 : (s + (3 * (y' - y) + 1)) * (s + 3 * (y' - y)) ≤ s' * (s' - 1) := Int.mul_le_mul (by omega) (by omega) (by omega) (by omega)
        have h2 : M * (v' - v) ≤ M * (2 * (y' - y)) := Int.mul_le_mul_of_nonneg_left (by omega) (by omega)
        have e1 : M * (M + v') = M * (M + v) + M * (v' - v) := by grind
        have e2 : (s + (3 * (y' - y) + 1)) * (s + 3 * (y' - y)) = s * (s + 1) + 6 * ((y' - y) * s) + (3 * (y' - y) + 1) * (3 * (y' - y)) := by grind
        have h3 : 0 ≤ (3 * (y' - y) + 1) * (3 * (y' - y)) := Int.mul_nonneg (by omega) (by omega)
        have h4 : (y' - y) * M ≤ (y' - y) * (2 * s) := Int.mul_le_mul_of_nonneg_left (by omega) (by omega)
        have e4 : (y' - y) * (2 * s) = 2 * ((y' - y) * s) := by grind
        have e5 : M * (2 * (y' - y)) = 2 * ((y' - y) * M) := by grind
        have h6 : 0 < (y' - y) * s := Int.mul_pos (by omega) (by omega)
        omega
      have h5 : y * (s' - s) ≤ y * (3 * (y' - y)) := Int.mul_le_mul_of_nonneg_left hs3 hy0
      have h6 : 3 * y * (y' - y) ≤ (M + s) * (y' - y) := Int.mul_le_mul_of_nonneg_right (by omega) (by omega)
      have e1 : y * (M + s') = y * (M + s) + y * (s' - s) := by grind
      have e2 : y' * (M + s) = y * (M + s) + (M + s) * (y' - y) := by grind
      have e3 : y * (3 * (y' - y)) = 3 * y * (y' - y) := by grind
      omega
    · have h1 : y * (M + s') ≤ y * (M + s) := by
        have h7 : -y * (M + s) ≤ -y * (M + s') := Int.mul_le_mul_of_nonneg_left (by omega) (by omega)
        have e7 : -y * (M + s) = -(y * (M + s)) := by grind
        have e8 : -y * (M + s') = -(y * (M + s')) := by grind
        omega
      have h2 : y * (M + s) ≤ y' * (M + s) := Int.mul_le_mul_of_nonneg_right h (by omega)
      omega
  have e1 : M * y * 2 * (M + s') = 2 * M * (y * (M + s')) := by grind
  have e2 : M * y' * 2 * (M + s) = 2 * M * (y' * (M + s)) := by grind
  rw [e1, e2]
  exact Int.mul_le_mul_of_nonneg_left key (by omega)
/-- what one halving near the scale costs -/
theorem cost08 {D M r y yn h : Rat} (hM : 1000000000 ≤ M) (hr1 : 98 * M ≤ 100 * r) (hr2 : 100 * r ≤ 102 * M) (hyn : 30 * yn ≤ M) (hyn0 : 0 ≤ yn) (hy1 : y ≤ yn) (hy2 : -yn ≤ y) (hcase : (h = 0 ∧ D = M) ∨ (h = 1 / 2 ∧ 2 * M ≤ D)) :
    4 * yn * D * (r + h * M) / ((M + r) * (M + r)) + (1 / 2) * (4 * D + 2 * (2 * M * y / (M + r)) + 1 / 2) ≤ 4 * (D + y) * (52 / 100) := by
  have hS : 198 * M ≤ 100 * (M + r) := by grind
  have hS2 : 100 * (M + r) ≤ 202 * M := by grind
  have hSp : 0 < M + r := by grind
  have hSS := Rat.mul_pos hSp hSp
  have hDM : M ≤ D := by rcases hcase with ⟨_, h⟩ | ⟨_, h⟩ <;> grind
  have hSq : (198 * M) * (198 * M) ≤ (100 * (M + r)) * (100 * (M + r)) := by
    have a := q_mul_le hS (show 0 ≤ 198 * M by grind)
    have b := q_mul_le' hS (show 0 ≤ 100 * (M + r) by grind)
    grind
  -- the first part
  have first : ∀ κ : Rat, 0 ≤ κ → (r + h * M) * M ≤ κ * ((M + r) * (M + r)) → 4 * yn * D * (r + h * M) / ((M + r) * (M + r)) ≤ 4 * κ * (yn * D / M) := by
    intro κ hκ hk
    refine q_div_le hSS ?_
    have hM0 : M ≠ 0 := by grind
    have e1 : 4 * κ * (yn * D / M) * ((M + r) * (M + r)) = 4 * (yn * D) * (κ * ((M + r) * (M + r)) / M) := by grind
    rw [e1]
    have h2 : r + h * M ≤ κ * ((M + r) * (M + r)) / M := q_le_div (by grind) hk
    have h3 := q_mul_le' h2 (show 0 ≤ 4 * (yn * D) by have := q_mul_nn hyn0 (show 0 ≤ D by grind); grind)
    grind
  have hyD : yn * D / M ≤ D / 30 := by
    refine q_div_le (by grind) ?_
    have := q_mul_le hyn (show 0 ≤ D by grind)
    grind
  have hyD0 : 0 ≤ yn * D / M := q_div_nn (q_mul_nn hyn0 (by grind)) (by grind)
  -- the second
  have second : y ≥ 0 → 2 * M * y / (M + r) ≤ y * (100 / 99) := by
    intro hy
    refine q_div_le hSp ?_
    have := q_mul_le' hS hy
    grind
  have second' : y ≤ 0 → 2 * M * y / (M + r) ≤ y * (100 / 101) := by
    intro hy
    refine q_div_le hSp ?_
    have := q_mul_le' hS2 (show 0 ≤ -y by grind)
    grind
  rcases hcase with ⟨h0, hD⟩ | ⟨h0, hD⟩
  · have f := first (2603 / 10000) (by grind) (by
      rw [h0]
      have := q_mul_le hr2 (show 0 ≤ M by grind)
      grind)
    rcases (Rat.le_total : (0 : Rat) ≤ y ∨ y ≤ 0) with hy | hy
    · have := second hy
      grind
    · have := second' hy
      grind
  · have f := first (3878 / 10000) (by grind) (by
      rw [h0]
      have := q_mul_le hr2 (show 0 ≤ M by grind)
      grind)
    rcases (Rat.le_total : (0 : Rat) ≤ y ∨ y ≤ 0) with hy | hy
    · have := second hy
      grind
    · have := second' hy
      grind
set_option maxHeartbeats 1000000
set_option linter.unusedVariables false
set_option linter.unusedSimpArgs false
/-- x lies near the scale -/
structure Near (M x : Int) : Prop where
  M9 : 1000000000 ≤ M
  up : 31 * (x - M) ≤ M + 150
  dn : 32 * (M - x) ≤ M + 150
theorem Near.pos {M x : Int} (h : Near M x) : 0 < x := by have := h.M9; have := h.dn; omega
theorem natAbs_q (y : Int) : (y : Rat) ≤ (y.natAbs : Rat) ∧ -(y.natAbs : Rat) ≤ (y : Rat) ∧ (0 : Rat) ≤ (y.natAbs : Rat) := by
  have h1 := int_le (show y ≤ (y.natAbs : Int) by omega)
  have h2 := int_le (show -(y.natAbs : Int) ≤ y by omega)
  have c : ((-(y.natAbs : Int) : Int) : Rat) = -(y.natAbs : Rat) := by exact_mod_cast rfl
  rw [c] at h2
  exact ⟨h1, h2, by grind⟩
theorem Lam_lin {N : Nat} (hN : 0 < N) {M y : Int} {R : Nat} (hM : 0 < M) (hA : 0 < 2 ^ R * M + y) : Lam N M y R ≤ (y : Rat) ∧ ((2 ^ R * M : Int) : Rat) * (y : Rat) / ((2 ^ R * M + y : Int) : Rat) ≤ Lam N M y R := by
  have hD : 0 < 2 ^ R * M := Int.mul_pos (two_pos R) hM
  obtain ⟨l1, l2⟩ := lgI_lin hN hA hD
  have hDp := int_pos hD
  have hAp := int_pos hA
  have c : ((2 ^ R * M + y : Int) : Rat) = ((2 ^ R * M : Int) : Rat) + y := by exact_mod_cast rfl
  have m1 := q_mul_le' l1 (show 0 ≤ ((2 ^ R * M : Int) : Rat) by grind)
  have m2 := q_mul_le' l2 (show 0 ≤ ((2 ^ R * M : Int) : Rat) by grind)
  unfold Lam
  rw [c] at m1 m2 hAp ⊢
  generalize lgI N (2 ^ R * M + y) (2 ^ R * M) = la at *
  generalize ((2 ^ R * M : Int) : Rat) = D at *
  constructor
  · have e : D * ((D + (y : Rat) - D) / D) = y := by grind
    rw [e] at m2; exact m2
  · have e : D * ((D + (y : Rat) - D) / (D + y)) = D * (y : Rat) / (D + y) := by grind
    rw [e] at m1; exact m1
theorem step08 {M x : Int} {R : Nat} (hM9 : 1000000000 ≤ M) (hx0 : 0 < x) (hy : 30 * ((ys M x R).natAbs : Int) ≤ M) {N : Nat} (hN : 0 < N) :
    Lam N M (ys M x (R + 1)) (R + 1) - Lam N M (ys M x R) R ≤ 521 / 1000 + 3 * ((2 ^ R * M : Int) : Rat) / (N : Rat) ∧ -(521 / 1000 + 3 * ((2 ^ R * M : Int) : Rat) / (N : Rat)) ≤ Lam N M (ys M x (R + 1)) (R + 1) - Lam N M (ys M x R) R := by
  have hM : 0 < M := by omega
  have hP := two_pos R
  have hd := dn_small (R := R) hy
  obtain ⟨p1, l1, u1⟩ := rt_near (v := dn (ys M x R) (2 ^ R)) hM9 (by omega)
  have hD : 0 < 2 ^ R * M := Int.mul_pos hP hM
  have hDr := int_pos hD
  have M9r : (1000000000 : Rat) ≤ M := by
    have := int_le hM9
    have c : ((1000000000 : Int) : Rat) = 1000000000 := rfl
    rw [c] at this; exact this
  obtain ⟨yn1, yn2, yn0⟩ := natAbs_q (ys M x R)
  have q1 : 98 * (M : Rat) ≤ 100 * ((rt (M * (M + dn (ys M x R) (2 ^ R))) : Int) : Rat) := by
    have := int_le l1
    have c1 : ((98 * M : Int) : Rat) = 98 * (M : Rat) := by exact_mod_cast rfl
    have c2 : ((100 * rt (M * (M + dn (ys M x R) (2 ^ R))) : Int) : Rat) = 100 * ((rt (M * (M + dn (ys M x R) (2 ^ R))) : Int) : Rat) := by exact_mod_cast rfl
    rw [c1, c2] at this; exact this
  have q2 : 100 * ((rt (M * (M + dn (ys M x R) (2 ^ R))) : Int) : Rat) ≤ 102 * (M : Rat) := by
    have := int_le u1
    have c1 : ((102 * M : Int) : Rat) = 102 * (M : Rat) := by exact_mod_cast rfl
    have c2 : ((100 * rt (M * (M + dn (ys M x R) (2 ^ R))) : Int) : Rat) = 100 * ((rt (M * (M + dn (ys M x R) (2 ^ R))) : Int) : Rat) := by exact_mod_cast rfl
    rw [c1, c2] at this; exact this
  have q3 : 30 * ((ys M x R).natAbs : Rat) ≤ M := by
    have := int_le hy
    have c1 : ((30 * ((ys M x R).natAbs : Int) : Int) : Rat) = 30 * ((ys M x R).natAbs : Rat) := by exact_mod_cast rfl
    rw [c1] at this; exact this
  obtain ⟨h, hh0, hhh, hcase⟩ : ∃ h : Rat, 0 ≤ h ∧ ((1 / 2 : Rat) ≤ h ∨ R = 0) ∧ ((h = 0 ∧ ((2 ^ R * M : Int) : Rat) = M) ∨ (h = 1 / 2 ∧ 2 * (M : Rat) ≤ ((2 ^ R * M : Int) : Rat))) := by
    by_cases h0 : R = 0
    · subst h0
      exact ⟨0, by grind, .inr rfl, .inl ⟨rfl, by rw [Int.pow_zero, Int.one_mul]⟩⟩
    · refine ⟨1 / 2, by grind, .inl (by grind), .inr ⟨rfl, ?_⟩⟩
      have h2 : (2 : Int) ≤ 2 ^ R := by
        have e : (2 : Int) ^ R = ((2 ^ R : Nat) : Int) := by simp
        have := Nat.pow_le_pow_right (n := 2) (by decide) (show 1 ≤ R by omega)
        rw [e]; omega
      have := int_le (show 2 * M ≤ 2 ^ R * M from Int.mul_le_mul_of_nonneg_right h2 (by omega))
      have c1 : ((2 * M : Int) : Rat) = 2 * (M : Rat) := by exact_mod_cast rfl
      rw [c1] at this; exact this
  have hDM : (M : Rat) ≤ ((2 ^ R * M : Int) : Rat) := by rcases hcase with ⟨_, h⟩ | ⟨_, h⟩ <;> grind
  have hcost := cost08 M9r q1 q2 q3 yn0 yn1 yn2 hcase
  obtain ⟨s1, s2⟩ := step_Lam (c := 52 / 100) hN hM hx0 hh0 hhh (by grind) hcost (by grind)
  have small : 2 * (52 / 100) * (52 / 100) / ((2 ^ R * M : Int) : Rat) ≤ 1 / 1000 := q_div_le hDr (by grind)
  constructor <;> grind
theorem near08 {M x : Int} (hx : Near M x) : ∀ R : Nat, R ≤ 8 → 30 * ((ys M x R).natAbs : Int) ≤ M ∧
    ∀ N : Nat, 0 < N → Lam N M (ys M x R) R - Lam N M (ys M x 0) 0 ≤ (R : Rat) * (521 / 1000) + 3 * ((2 ^ R * M : Int) : Rat) / (N : Rat) ∧ -((R : Rat) * (521 / 1000) + 3 * ((2 ^ R * M : Int) : Rat) / (N : Rat)) ≤ Lam N M (ys M x R) R - Lam N M (ys M x 0) 0
  | 0, _ => by
    have h1 := hx.M9
    have h2 := hx.up
    have h3 := hx.dn
    refine ⟨by show 30 * ((x - M).natAbs : Int) ≤ M; omega, fun N hN => ?_⟩
    have e : ((0 : Nat) : Rat) = 0 := by grind
    have hD := int_pos (show 0 < 2 ^ 0 * M by rw [Int.pow_zero]; omega)
    have := q_div_nn (show (0 : Rat) ≤ 3 * ((2 ^ 0 * M : Int) : Rat) by grind) (nat_pos hN)
    rw [e]
    constructor <;> grind
  | R + 1, hR => by
    obtain ⟨ih1, ih2⟩ := near08 hx R (by omega)
    have hM9 := hx.M9
    have hM : 0 < M := by omega
    have hx0 := hx.pos
    have hP := two_pos R
    have M9r : (1000000000 : Rat) ≤ M := by
      have := int_le hM9
      have c : ((1000000000 : Int) : Rat) = 1000000000 := rfl
      rw [c] at this; exact this
    have st : ∀ N : Nat, 0 < N → Lam N M (ys M x (R + 1)) (R + 1) - Lam N M (ys M x 0) 0 ≤ ((R + 1 : Nat) : Rat) * (521 / 1000) + 3 * ((2 ^ (R + 1) * M : Int) : Rat) / (N : Rat) ∧ -(((R + 1 : Nat) : Rat) * (521 / 1000) + 3 * ((2 ^ (R + 1) * M : Int) : Rat) / (N : Rat)) ≤ Lam N M (ys M x (R + 1)) (R + 1) - Lam N M (ys M x 0) 0 := by
      intro N hN
      obtain ⟨s1, s2⟩ := step08 hM9 hx0 ih1 hN
      obtain ⟨i1, i2⟩ := ih2 N hN
      have e2 : ((2 ^ (R + 1) * M : Int) : Rat) = 2 * ((2 ^ R * M : Int) : Rat) := by
        have : (2 : Int) ^ (R + 1) * M = 2 * (2 ^ R * M) := by rw [Int.pow_succ]; grind
        rw [this]; exact_mod_cast rfl
      have eR : ((R + 1 : Nat) : Rat) = (R : Rat) + 1 := by grind
      rw [e2, eR]
      have e3 : 3 * (2 * ((2 ^ R * M : Int) : Rat)) / (N : Rat) = 3 * ((2 ^ R * M : Int) : Rat) / (N : Rat) + 3 * ((2 ^ R * M : Int) : Rat) / (N : Rat) := by grind
      rw [e3]
      constructor <;> grind
    refine ⟨?_, st⟩
    rcases Int.le_total M x with hMx | hMx
    · have := ys_up hM hMx (R + 1)
      have := hx.up
      omega
    · have hneg := ys_down hM hx0 hMx (R + 1)
      have hD1 : 0 < 2 ^ (R + 1) * M := Int.mul_pos (two_pos _) hM
      have hA := ys_A hM hx0 (R + 1)
      obtain ⟨N, hNe, hN⟩ : ∃ N : Nat, (N : Int) = 3 * (2 ^ (R + 1) * M) ∧ 0 < N := ⟨(3 * (2 ^ (R + 1) * M)).toNat, by omega, by omega⟩
      obtain ⟨_, s2⟩ := st N hN
      obtain ⟨a1, _⟩ := Lam_lin hN hM hA
      have hA0 : 0 < 2 ^ 0 * M + ys M x 0 := ys_A hM hx0 0
      obtain ⟨_, a2⟩ := Lam_lin hN hM hA0
      have y0 : ys M x 0 = x - M := rfl
      have hNr : (N : Rat) = 3 * ((2 ^ (R + 1) * M : Int) : Rat) := by
        have h1 : (((N : Nat) : Int) : Rat) = ((3 * (2 ^ (R + 1) * M) : Int) : Rat) := by rw [hNe]
        have c : ((3 * (2 ^ (R + 1) * M) : Int) : Rat) = 3 * ((2 ^ (R + 1) * M : Int) : Rat) := by exact_mod_cast rfl
        rw [c] at h1
        exact h1
      have hD1r := int_pos hD1
      have e1 : 3 * ((2 ^ (R + 1) * M : Int) : Rat) / (N : Rat) = 1 := by rw [hNr]; grind
      rw [e1] at s2
      have c0 : ((2 ^ 0 * M : Int) : Rat) = (M : Rat) := by rw [Int.pow_zero, Int.one_mul]
      have c1 : ((2 ^ 0 * M + ys M x 0 : Int) : Rat) = (x : Rat) := by rw [y0, Int.pow_zero, Int.one_mul]; congr 1; omega
      have c2 : ((ys M x 0 : Int) : Rat) = (x : Rat) - M := by rw [y0]; exact_mod_cast rfl
      rw [c0, c1, c2] at a2
      have hxr := int_pos hx0
      have hdn : 32 * ((M : Rat) - x) ≤ M + 150 := by
        have := int_le hx.dn
        have k1 : ((32 * (M - x) : Int) : Rat) = 32 * ((M : Rat) - x) := by exact_mod_cast rfl
        have k2 : ((M + 150 : Int) : Rat) = (M : Rat) + 150 := by exact_mod_cast rfl
        rw [k1, k2] at this; exact this
      have hMx' : (x : Rat) ≤ M := int_le hMx
      -- M (M - x) / x <= M / 31 + 10
      have hb : -((M : Rat) / 31 + 10) ≤ (M : Rat) * (x - M) / x := by
        refine q_le_div hxr ?_
        have k3 := q_mul_nn (show 0 ≤ (M : Rat) + 150 - 32 * (M - x) by grind) (show (0 : Rat) ≤ M by grind)
        grind
      have eR : ((R + 1 : Nat) : Rat) ≤ 8 := by
        have := nat_le hR
        have e8 : ((8 : Nat) : Rat) = 8 := by exact_mod_cast rfl
        rw [e8] at this; exact this
      have fin : -((M : Rat) / 31 + 16) ≤ ((ys M x (R + 1) : Int) : Rat) := by grind
      have fin2 : ((-M : Int) : Rat) ≤ ((30 * ys M x (R + 1) : Int) : Rat) := by
        have k1 : ((30 * ys M x (R + 1) : Int) : Rat) = 30 * ((ys M x (R + 1) : Int) : Rat) := by exact_mod_cast rfl
        have k2 : ((-M : Int) : Rat) = -(M : Rat) := by exact_mod_cast rfl
        rw [k1, k2]; grind
      have := Rat.intCast_le_intCast.mp fin2
      omega
/-- the series near the scale -/
theorem ser08 {M y : Int} {L R T len N : Nat} (hN : 0 < N) (hM : 1000000000 ≤ M) (hL5 : 5 ≤ L) (hL10 : L ≤ 10) (hy : 30 * (y.natAbs : Int) ≤ M) (hstop : (y.natAbs : Int) * 2 ^ L < M * 2 ^ R) (hT0 : 0 < T) (hlen : M < 10 ^ len) (hT : 10 * len ≤ 3 * (L * T)) :
    ((hw M (dn y (2 ^ R)) T (T - 1) : Int) : Rat) * (y : Rat) / M - Lam N M y R ≤ 34 / 1000 + 4 * ((2 ^ R * M : Int) : Rat) / (N : Rat) ∧ -(34 / 1000 + 4 * ((2 ^ R * M : Int) : Rat) / (N : Rat)) ≤ ((hw M (dn y (2 ^ R)) T (T - 1) : Int) : Rat) * (y : Rat) / M - Lam N M y R := by
  have hM0 : 0 < M := by omega
  have hP := two_pos R
  have hX := two_pos L
  have hD : 0 < 2 ^ R * M := Int.mul_pos hP hM0
  have hMr := int_pos hM0
  have hDr := int_pos hD
  have hP1 : (1 : Int) ≤ 2 ^ R := by omega
  have hX32 : (32 : Int) ≤ 2 ^ L := by
    have e : (2 : Int) ^ L = ((2 ^ L : Nat) : Int) := by simp
    have := Nat.pow_le_pow_right (n := 2) (by decide) hL5
    rw [e]; omega
  have hMD : M ≤ 2 ^ R * M := by
    have : 1 * M ≤ 2 ^ R * M := Int.mul_le_mul_of_nonneg_right hP1 (by omega)
    omega
  have hMPc : M * 2 ^ R = 2 ^ R * M := Int.mul_comm ..
  -- T >= 4
  have h10 := pow10_2 len (L * T) hT
  have hlen10 : 10 ≤ len := by
    apply Nat.le_of_not_lt
    intro hlt
    have h1 : (10 : Int) ^ len ≤ 10 ^ 9 := by
      have e : ∀ n : Nat, (10 : Int) ^ n = ((10 ^ n : Nat) : Int) := fun n => by simp
      rw [e, e]; exact Int.ofNat_le.mpr (Nat.pow_le_pow_right (by decide) (by omega))
    have h2 : (10 : Int) ^ 9 = 1000000000 := by decide
    omega
  have hT4 : 4 ≤ T := by
    apply Nat.le_of_not_lt
    intro hlt
    have : L * T ≤ 10 * 3 := Nat.mul_le_mul hL10 (by omega)
    omega
  -- the distance
  have hyn := natAbs_q y
  have h32 : (y.natAbs : Int) * 32 < 2 ^ R * M := by
    have : (y.natAbs : Int) * 32 ≤ (y.natAbs : Int) * 2 ^ L := Int.mul_le_mul_of_nonneg_left hX32 (by omega)
    omega
  have ht : (y.natAbs : Rat) / ((2 ^ R * M : Int) : Rat) ≤ 1 / 31 := by
    refine q_div_le hDr ?_
    have := int_le (show (y.natAbs : Int) * 32 ≤ 2 ^ R * M by omega)
    have c1 : (((y.natAbs : Int) * 32 : Int) : Rat) = (y.natAbs : Rat) * 32 := by exact_mod_cast rfl
    rw [c1] at this
    grind
  -- the yshift
  have hu31 : 31 * ((dn y (2 ^ R)).natAbs : Int) ≤ M := by
    obtain ⟨d1, d2, _, _⟩ := dn_spec (a := y) hP
    generalize dn y (2 ^ R) = u at *
    generalize (2 : Int) ^ R = P at *
    apply Int.not_lt.mp
    intro hlt
    have hPM : P * M = M * P := Int.mul_comm ..
    have hMP9 : 1000000000 * P ≤ M * P := Int.mul_le_mul_of_nonneg_right hM (by omega)
    have hk : P * (M + 1) ≤ P * (31 * (u.natAbs : Int)) := Int.mul_le_mul_of_nonneg_left (by omega) (by omega)
    have e1 : P * (M + 1) = P * M + P := by grind
    rcases Int.le_total 0 u with h0 | h0
    · have e2 : P * (31 * (u.natAbs : Int)) = 31 * (P * u) := by rw [show (u.natAbs : Int) = u by omega]; grind
      omega
    · have e2 : P * (31 * (u.natAbs : Int)) = -(31 * (P * u)) := by rw [show (u.natAbs : Int) = -u by omega]; grind
      omega
  obtain ⟨un1, un2, un0⟩ := natAbs_q (dn y (2 ^ R))
  have hu31r : 31 * ((dn y (2 ^ R)).natAbs : Rat) ≤ M := by
    have := int_le hu31
    have c1 : ((31 * ((dn y (2 ^ R)).natAbs : Int) : Int) : Rat) = 31 * ((dn y (2 ^ R)).natAbs : Rat) := by exact_mod_cast rfl
    rw [c1] at this; exact this
  have hu : ((dn y (2 ^ R) : Int) : Rat) / M ≤ 1 / 31 := q_div_le hMr (by grind)
  have hu' : -(1 / 31) ≤ ((dn y (2 ^ R) : Int) : Rat) / M := q_le_div hMr (by grind)
  -- the power
  have τ0 : (0 : Rat) ≤ (y.natAbs : Rat) / ((2 ^ R * M : Int) : Rat) := q_div_nn hyn.2.2 hDr
  have τX : (((2 : Int) ^ L : Int) : Rat) * ((y.natAbs : Rat) / ((2 ^ R * M : Int) : Rat)) ≤ 1 := by
    have h1 := int_le (show (y.natAbs : Int) * 2 ^ L ≤ 2 ^ R * M by omega)
    have c : (((y.natAbs : Int) * 2 ^ L : Int) : Rat) = (y.natAbs : Rat) * (((2 : Int) ^ L : Int) : Rat) := by exact_mod_cast rfl
    rw [c] at h1
    have e : (((2 : Int) ^ L : Int) : Rat) * ((y.natAbs : Rat) / ((2 ^ R * M : Int) : Rat)) = (y.natAbs : Rat) * (((2 : Int) ^ L : Int) : Rat) / ((2 ^ R * M : Int) : Rat) := by grind
    rw [e]
    exact q_div_le hDr (by grind)
  have hMX : M ≤ (2 ^ L) ^ T := by rw [← Int.pow_mul]; omega
  have hp := pow_small τ0 hX τX hMX
  obtain ⟨s1, s2⟩ := ser_Lam (τ := 1 / 31) hN hT0 hM0 (by grind) (by grind) (by omega) hu hu' ht hp
  have hTr : (4 : Rat) ≤ (T : Rat) := by
    have := nat_le hT4
    have e : ((4 : Nat) : Rat) = 4 := by exact_mod_cast rfl
    rw [e] at this; exact this
  have k1 : 1 / (((T : Rat) + 1) * (1 - 1 / 31)) ≤ 31 / 150 := by
    refine q_div_le (Rat.mul_pos (by grind) (by grind)) ?_
    grind
  have hyM : (y.natAbs : Rat) / M ≤ 1 / 30 := by
    refine q_div_le hMr ?_
    have := int_le hy
    have c1 : ((30 * (y.natAbs : Int) : Int) : Rat) = 30 * (y.natAbs : Rat) := by exact_mod_cast rfl
    rw [c1] at this
    grind
  have hyM0 : 0 ≤ (y.natAbs : Rat) / M := q_div_nn hyn.2.2 hMr
  have hEb : 1 / 2 + 1 / 31 / (1 - 1 / 31) + 1 / 4 * (1 / ((1 - 1 / 31) * (1 - 1 / 31))) + 1 / (((T : Rat) + 1) * (1 - 1 / 31)) ≤ 102 / 100 := by
    have e1 : (1 : Rat) / 31 / (1 - 1 / 31) = 1 / 30 := by grind
    have e2 : (1 : Rat) / 4 * (1 / ((1 - 1 / 31) * (1 - 1 / 31))) = 961 / 3600 := by grind
    rw [e1, e2]
    grind
  have hE0 : 0 ≤ 1 / (((T : Rat) + 1) * (1 - 1 / 31)) := q_div_nn (by grind) (Rat.mul_pos (by grind) (by grind))
  have hW : (y.natAbs : Rat) / M * (1 / 2 + 1 / 31 / (1 - 1 / 31) + 1 / 4 * (1 / ((1 - 1 / 31) * (1 - 1 / 31))) + 1 / (((T : Rat) + 1) * (1 - 1 / 31))) ≤ 34 / 1000 := by
    have m1 := q_mul_le' hEb hyM0
    have m2 := q_mul_le hyM (show (0 : Rat) ≤ 102 / 100 by grind)
    grind
  constructor <;> grind
set_option maxHeartbeats 1000000
set_option linter.unusedVariables false
set_option linter.unusedSimpArgs false
/-- the halvings of _ilog are R -/
structure Stops (M x : Int) (L R : Nat) : Prop where
  go : ∀ r, r < R → M * 2 ^ r ≤ ((ys M x r).natAbs : Int) * 2 ^ L
  stop : ((ys M x R).natAbs : Int) * 2 ^ L < M * 2 ^ R
theorem Stops.uniq {M x : Int} {L R R' : Nat} (h : Stops M x L R) (h' : Stops M x L R') : R = R' := by
  rcases Nat.lt_trichotomy R R' with hl | hl | hl
  · have := h'.go R hl; have := h.stop; omega
  · exact hl
  · have := h.go R' hl; have := h'.stop; omega
theorem stops_by {M x : Int} {L B : Nat} (h : ((ys M x B).natAbs : Int) * 2 ^ L < M * 2 ^ B) : ∃ R, R ≤ B ∧ Stops M x L R := by
  obtain ⟨N, h1, h2, h3⟩ := least (p := fun R => ((ys M x R).natAbs : Int) * 2 ^ L < M * 2 ^ R) h
  exact ⟨N, h1, ⟨fun r hr => by have := h3 r hr; omega, h2⟩⟩
theorem stops08 {M x : Int} {L : Nat} (hx : Near M x) (hL5 : 5 ≤ L) (hL10 : L ≤ 10) : ∃ R, R ≤ L - 4 ∧ Stops M x L R := by
  apply stops_by
  have h := (near08 hx (L - 4) (by omega)).1
  have hM := hx.M9
  have e : (2 : Int) ^ L = 16 * 2 ^ (L - 4) := by
    rw [show (16 : Int) = 2 ^ 4 from rfl, ← Int.pow_add]; congr 1; omega
  rw [e]
  have hP := two_pos (L - 4)
  have h2 : 16 * ((ys M x (L - 4)).natAbs : Int) < M := by omega
  have := Int.mul_lt_mul_of_pos_right h2 hP
  have e2 : ((ys M x (L - 4)).natAbs : Int) * (16 * 2 ^ (L - 4)) = 16 * ((ys M x (L - 4)).natAbs : Int) * 2 ^ (L - 4) := by grind
  rw [e2]; exact this
/-- what _ilog tells -/
noncomputable def told (M x : Int) (T R : Nat) : Int := dn (hw M (dn (ys M x R) (2 ^ R)) T (T - 1) * ys M x R) M
/-- two numbers at the same halving -/
theorem Lam_gap {N : Nat} (hN : 0 < N) {M ya yb : Int} {R : Nat} (hM : 0 < M) (hA : 0 < 2 ^ R * M + ya) (hab : ya ≤ yb) (hyb : 30 * (yb.natAbs : Int) ≤ M) : 30 / 31 * ((yb : Rat) - ya) ≤ Lam N M yb R - Lam N M ya R := by
  have hD : 0 < 2 ^ R * M := Int.mul_pos (two_pos R) hM
  have hB : 0 < 2 ^ R * M + yb := by omega
  obtain ⟨l1, _⟩ := lgI_lin hN hB hA
  have ad := lgI_add N (2 ^ R * M + yb) (2 ^ R * M + ya) (2 ^ R * M)
  have hDr := int_pos hD
  have hBr := int_pos hB
  have c1 : ((2 ^ R * M + yb : Int) : Rat) = ((2 ^ R * M : Int) : Rat) + yb := by exact_mod_cast rfl
  have c2 : ((2 ^ R * M + ya : Int) : Rat) = ((2 ^ R * M : Int) : Rat) + ya := by exact_mod_cast rfl
  have hP1 : (1 : Int) ≤ 2 ^ R := two_pos R
  have hMD : M ≤ 2 ^ R * M := by
    have : 1 * M ≤ 2 ^ R * M := Int.mul_le_mul_of_nonneg_right hP1 (by omega)
    omega
  have hyD : 30 * (yb : Rat) ≤ ((2 ^ R * M : Int) : Rat) := by
    have := int_le (show 30 * yb ≤ 2 ^ R * M by omega)
    have c : ((30 * yb : Int) : Rat) = 30 * (yb : Rat) := by exact_mod_cast rfl
    rw [c] at this; exact this
  have habr := int_le hab
  unfold Lam
  rw [c1] at hBr
  rw [c1, c2] at l1
  generalize lgI N (2 ^ R * M + yb) (2 ^ R * M) = lb at *
  generalize lgI N (2 ^ R * M + ya) (2 ^ R * M) = la at *
  generalize lgI N (2 ^ R * M + yb) (2 ^ R * M + ya) = lab at *
  generalize ((2 ^ R * M : Int) : Rat) = D at *
  have m := q_mul_le' l1 (show 0 ≤ D by grind)
  have k : 30 / 31 * ((yb : Rat) - ya) ≤ D * ((D + (yb : Rat) - (D + ya)) / (D + yb)) := by
    have e : D * ((D + (yb : Rat) - (D + ya)) / (D + yb)) = D * ((yb : Rat) - ya) / (D + yb) := by grind
    rw [e]
    refine q_le_div hBr ?_
    have := q_mul_nn (show (0 : Rat) ≤ D - 30 * yb by grind) (show (0 : Rat) ≤ (yb : Rat) - ya by grind)
    grind
  have e2 : D * lb - D * la = D * lab := by rw [← ad]; grind
  rw [e2]
  exact Rat.le_trans k m
/-- the order is kept, as long as the halvings run -/
theorem ys_mono {M x : Int} (hx : Near M x) (hx' : Near M (x + 1)) : ∀ R : Nat, R ≤ 8 → ys M x R ≤ ys M (x + 1) R
  | 0, _ => by show x - M ≤ x + 1 - M; omega
  | R + 1, h => step_mono hx.M9 (near08 hx R (by omega)).1 (near08 hx' R (by omega)).1 (ys_mono hx hx' R (by omega))
/-- a large N, and what it leaves of the errors -/
theorem bigN {M : Int} (hM : 0 < M) : ∃ N : Nat, 0 < N ∧ ∀ R : Nat, R ≤ 8 → 4 * ((2 ^ R * M : Int) : Rat) / (N : Rat) ≤ 1 / 900 ∧ 3 * ((2 ^ R * M : Int) : Rat) / (N : Rat) ≤ 1 / 900 := by
  obtain ⟨N, hNe, hN⟩ : ∃ N : Nat, (N : Int) = 1000000 * M ∧ 0 < N := ⟨(1000000 * M).toNat, by omega, by omega⟩
  refine ⟨N, hN, fun R hR => ?_⟩
  have hNr : (N : Rat) = 1000000 * (M : Rat) := by
    have h1 : (((N : Nat) : Int) : Rat) = ((1000000 * M : Int) : Rat) := by rw [hNe]
    have c : ((1000000 * M : Int) : Rat) = 1000000 * (M : Rat) := Rat.intCast_mul ..
    rw [c] at h1
    exact h1
  have hp : (2 : Int) ^ R ≤ 256 := by
    have e : (2 : Int) ^ R = ((2 ^ R : Nat) : Int) := by simp
    have := Nat.pow_le_pow_right (n := 2) (by decide) hR
    rw [e]; omega
  have hMr := int_pos hM
  have hle : ((2 ^ R * M : Int) : Rat) ≤ 256 * (M : Rat) := by
    have := int_le (show 2 ^ R * M ≤ 256 * M from Int.mul_le_mul_of_nonneg_right hp (by omega))
    have c : ((256 * M : Int) : Rat) = 256 * (M : Rat) := Rat.intCast_mul ..
    rw [c] at this; exact this
  rw [hNr]
  constructor
  · exact q_div_le (by grind) (by grind)
  · exact q_div_le (by grind) (by grind)
/-- numbers side by side are told in their order -/
theorem mono08 {M x : Int} {L T len Ra Rb : Nat} (hx : Near M x) (hx' : Near M (x + 1)) (hL5 : 5 ≤ L) (hL10 : L ≤ 10) (hT0 : 0 < T) (hlen : M < 10 ^ len) (hT : 10 * len ≤ 3 * (L * T))
    (ha : Stops M x L Ra) (hb : Stops M (x + 1) L Rb) : told M x T Ra ≤ told M (x + 1) T Rb := by
  have hM9 := hx.M9
  have hM : 0 < M := by omega
  have hx0 := hx.pos
  have hx0' := hx'.pos
  have hRa : Ra ≤ 6 := by
    obtain ⟨R, h1, h2⟩ := stops08 hx hL5 hL10
    have := ha.uniq h2; omega
  have hRb : Rb ≤ 6 := by
    obtain ⟨R, h1, h2⟩ := stops08 hx' hL5 hL10
    have := hb.uniq h2; omega
  obtain ⟨N, hN, hNe⟩ := bigN hM
  have hMr := int_pos hM
  -- from the values to the answers
  have fin : ((hw M (dn (ys M x Ra) (2 ^ Ra)) T (T - 1) : Int) : Rat) * ((ys M x Ra : Int) : Rat) / M ≤ ((hw M (dn (ys M (x + 1) Rb) (2 ^ Rb)) T (T - 1) : Int) : Rat) * ((ys M (x + 1) Rb : Int) : Rat) / M → told M x T Ra ≤ told M (x + 1) T Rb := by
    intro h
    refine dn_mono hM hM (Int.mul_le_mul_of_nonneg_right ?_ (by omega))
    apply Rat.intCast_le_intCast.mp
    have c1 : ((hw M (dn (ys M x Ra) (2 ^ Ra)) T (T - 1) * ys M x Ra : Int) : Rat) = ((hw M (dn (ys M x Ra) (2 ^ Ra)) T (T - 1) : Int) : Rat) * ((ys M x Ra : Int) : Rat) := by exact_mod_cast rfl
    have c2 : ((hw M (dn (ys M (x + 1) Rb) (2 ^ Rb)) T (T - 1) * ys M (x + 1) Rb : Int) : Rat) = ((hw M (dn (ys M (x + 1) Rb) (2 ^ Rb)) T (T - 1) : Int) : Rat) * ((ys M (x + 1) Rb : Int) : Rat) := by exact_mod_cast rfl
    rw [c1, c2]
    have h2 := q_mul_le h (show (0 : Rat) ≤ M by grind)
    have e1 : ((hw M (dn (ys M x Ra) (2 ^ Ra)) T (T - 1) : Int) : Rat) * ((ys M x Ra : Int) : Rat) / M * M = ((hw M (dn (ys M x Ra) (2 ^ Ra)) T (T - 1) : Int) : Rat) * ((ys M x Ra : Int) : Rat) := by grind
    have e2 : ((hw M (dn (ys M (x + 1) Rb) (2 ^ Rb)) T (T - 1) : Int) : Rat) * ((ys M (x + 1) Rb : Int) : Rat) / M * M = ((hw M (dn (ys M (x + 1) Rb) (2 ^ Rb)) T (T - 1) : Int) : Rat) * ((ys M (x + 1) Rb : Int) : Rat) := by grind
    rw [e1, e2] at h2; exact h2
  obtain ⟨va1, va2⟩ := ser08 (N := N) hN hM9 hL5 hL10 (near08 hx Ra (by omega)).1 ha.stop hT0 hlen hT
  obtain ⟨vb1, vb2⟩ := ser08 (N := N) hN hM9 hL5 hL10 (near08 hx' Rb (by omega)).1 hb.stop hT0 hlen hT
  have ea := (hNe Ra (by omega)).1
  have eb := (hNe Rb (by omega)).1
  -- how far the numbers part at one halving
  have part : ∀ R, R ≤ 6 → ys M (x + 1) R ≤ ys M x R + 10 := by
    intro R hR
    obtain ⟨n1, n2⟩ := (near08 hx R (by omega)).2 N hN
    obtain ⟨n3, n4⟩ := (near08 hx' R (by omega)).2 N hN
    have e := (hNe R (by omega)).2
    have g := Lam_gap (R := R) hN hM (ys_A hM hx0 R) (ys_mono hx hx' R (by omega)) (near08 hx' R (by omega)).1
    -- at the start
    have s0 : Lam N M (ys M (x + 1) 0) 0 - Lam N M (ys M x 0) 0 ≤ 11 / 10 := by
      have e1 : Lam N M (ys M (x + 1) 0) 0 = (M : Rat) * lgI N (x + 1) M := by
        unfold Lam
        rw [Int.pow_zero, Int.one_mul, show ys M (x + 1) 0 = x + 1 - M from rfl, show M + (x + 1 - M) = x + 1 by omega]
      have e2 : Lam N M (ys M x 0) 0 = (M : Rat) * lgI N x M := by
        unfold Lam
        rw [Int.pow_zero, Int.one_mul, show ys M x 0 = x - M from rfl, show M + (x - M) = x by omega]
      have ad := lgI_add N (x + 1) x M
      obtain ⟨_, l2⟩ := lgI_lin hN hx0' hx0
      rw [e1, e2]
      have hxr := int_pos hx0
      have c : ((x + 1 : Int) : Rat) = (x : Rat) + 1 := by exact_mod_cast rfl
      rw [c] at l2
      have m := q_mul_le' l2 (show (0 : Rat) ≤ M by grind)
      have e3 : (M : Rat) * (((x : Rat) + 1 - x) / x) = (M : Rat) / x := by grind
      rw [e3] at m
      have hb2 : (M : Rat) / x ≤ 11 / 10 := by
        refine q_div_le hxr ?_
        have := int_le (show 10 * M ≤ 11 * x by have := hx.dn; omega)
        have k1 : ((10 * M : Int) : Rat) = 10 * (M : Rat) := by exact_mod_cast rfl
        have k2 : ((11 * x : Int) : Rat) = 11 * (x : Rat) := by exact_mod_cast rfl
        rw [k1, k2] at this; grind
      have e4 : (M : Rat) * lgI N (x + 1) M - M * lgI N x M = M * lgI N (x + 1) x := by rw [← ad]; grind
      rw [e4]
      exact Rat.le_trans m hb2
    have hRr : (R : Rat) ≤ 6 := by
      have := nat_le hR
      have e8 : ((6 : Nat) : Rat) = 6 := by exact_mod_cast rfl
      rw [e8] at this; exact this
    have hq : ((ys M (x + 1) R : Int) : Rat) - ((ys M x R : Int) : Rat) ≤ 10 := by grind
    have : ((ys M (x + 1) R : Int) : Rat) ≤ ((ys M x R + 10 : Int) : Rat) := by
      have c : ((ys M x R + 10 : Int) : Rat) = ((ys M x R : Int) : Rat) + 10 := by exact_mod_cast rfl
      rw [c]; grind
    exact Rat.intCast_le_intCast.mp this
  have gap1 : ∀ R, R ≤ 6 → ys M x R < ys M (x + 1) R → 30 / 31 ≤ Lam N M (ys M (x + 1) R) R - Lam N M (ys M x R) R := by
    intro R hR hlt
    have g := Lam_gap (R := R) hN hM (ys_A hM hx0 R) (ys_mono hx hx' R (by omega)) (near08 hx' R (by omega)).1
    have := int_le (show ys M x R + 1 ≤ ys M (x + 1) R by omega)
    have c : ((ys M x R + 1 : Int) : Rat) = ((ys M x R : Int) : Rat) + 1 := by exact_mod_cast rfl
    rw [c] at this
    grind
  have hX1024 : (2 : Int) ^ L ≤ 1024 := by
    have e : (2 : Int) ^ L = ((2 ^ L : Nat) : Int) := by simp
    have := Nat.pow_le_pow_right (n := 2) (by decide) hL10
    rw [e]; omega
  have hX := two_pos L
  rcases Nat.lt_trichotomy Ra Rb with hl | hl | hl
  · -- one more halving above
    have hmo := ys_mono hx hx' Ra (by omega)
    have h1 := ha.stop
    have h2 := hb.go Ra hl
    have hlt : ((ys M x Ra).natAbs : Int) < ((ys M (x + 1) Ra).natAbs : Int) := Int.lt_of_mul_lt_mul_right (by omega : ((ys M x Ra).natAbs : Int) * 2 ^ L < ((ys M (x + 1) Ra).natAbs : Int) * 2 ^ L) (by omega)
    have hpos : 0 < ys M (x + 1) Ra := by omega
    have hMx : M ≤ x + 1 := by
      apply Int.not_lt.mp
      intro h
      have := ys_down hM hx0' (show x + 1 ≤ M by omega) Ra
      omega
    have hle : ys M (x + 1) (Ra + 1) ≤ ys M (x + 1) Ra ∧ 0 ≤ ys M (x + 1) (Ra + 1) := by
      refine ⟨?_, (ys_up hM hMx (Ra + 1)).1⟩
      show dn (M * ys M (x + 1) Ra * 2) (M + rt (M * (M + dn (ys M (x + 1) Ra) (2 ^ Ra)))) ≤ _
      have hd0 : 0 ≤ dn (ys M (x + 1) Ra) (2 ^ Ra) := by
        have := dn_mono (a := 0) (b := 1) (a' := ys M (x + 1) Ra) (b' := 2 ^ Ra) (by decide) (two_pos Ra) (by omega)
        have z : dn 0 1 = 0 := dn_zero (by decide)
        omega
      have hs : M ≤ rt (M * (M + dn (ys M (x + 1) Ra) (2 ^ Ra))) := rt_ge hM (Int.mul_le_mul_of_nonneg_left (by omega) (by omega))
      have e : dn (ys M (x + 1) Ra) 1 = ys M (x + 1) Ra := by have := dn_mul (a := ys M (x + 1) Ra) (b := 1) (by decide); rwa [Int.one_mul] at this
      generalize rt (M * (M + dn (ys M (x + 1) Ra) (2 ^ Ra))) = s at *
      have h8 := dn_mono (a := M * ys M (x + 1) Ra * 2) (b := M + s) (a' := ys M (x + 1) Ra) (b' := 1) (by omega) (by decide) (by
        have : ys M (x + 1) Ra * (2 * M) ≤ ys M (x + 1) Ra * (M + s) := Int.mul_le_mul_of_nonneg_left (by omega) (by omega)
        grind)
      rw [e] at h8; exact h8
    have hRb1 : Rb = Ra + 1 := by
      apply Nat.le_antisymm _ hl
      apply Nat.le_of_not_lt
      intro hgt
      have h3 := hb.go (Ra + 1) (by omega)
      have h4 := part Ra hRa
      have e2 : (2 : Int) ^ (Ra + 1) = 2 ^ Ra * 2 := Int.pow_succ ..
      rw [e2] at h3
      have h5 : ((ys M (x + 1) (Ra + 1)).natAbs : Int) * 2 ^ L ≤ (((ys M x Ra).natAbs : Int) + 10) * 2 ^ L := Int.mul_le_mul_of_nonneg_right (by omega) (by omega)
      have e3 : (((ys M x Ra).natAbs : Int) + 10) * 2 ^ L = ((ys M x Ra).natAbs : Int) * 2 ^ L + 10 * 2 ^ L := by grind
      have hP := two_pos Ra
      have h6 : M * 1 ≤ M * 2 ^ Ra := Int.mul_le_mul_of_nonneg_left (by omega) (by omega)
      have e4 : M * (2 ^ Ra * 2) = 2 * (M * 2 ^ Ra) := by grind
      omega
    subst hRb1
    obtain ⟨_, s2⟩ := step08 hM9 hx0' (near08 hx' Ra (by omega)).1 hN
    have e3 := (hNe Ra (by omega)).2
    have g := gap1 Ra hRa (by omega)
    exact fin (by grind)
  · subst hl
    by_cases heq : ys M x Ra = ys M (x + 1) Ra
    · unfold told; rw [heq]; exact Int.le_refl _
    · have hmo := ys_mono hx hx' Ra (by omega)
      have g := gap1 Ra hRa (by omega)
      exact fin (by grind)
  · -- one more halving below
    have hmo := ys_mono hx hx' Rb (by omega)
    have h1 := hb.stop
    have h2 := ha.go Rb hl
    have hlt : ((ys M (x + 1) Rb).natAbs : Int) < ((ys M x Rb).natAbs : Int) := Int.lt_of_mul_lt_mul_right (by omega : ((ys M (x + 1) Rb).natAbs : Int) * 2 ^ L < ((ys M x Rb).natAbs : Int) * 2 ^ L) (by omega)
    have hneg : ys M x Rb < 0 := by omega
    have hxM : x ≤ M := by
      apply Int.not_lt.mp
      intro h
      have := (ys_up hM (show M ≤ x by omega) Rb).1
      omega
    obtain ⟨s1, s2⟩ := step08 hM9 hx0 (near08 hx Rb (by omega)).1 hN
    have e3 := (hNe Rb (by omega)).2
    have hRa1 : Ra = Rb + 1 := by
      apply Nat.le_antisymm _ hl
      apply Nat.le_of_not_lt
      intro hgt
      have h3 := ha.go (Rb + 1) (by omega)
      have h4 := part Rb hRb
      have hn1 := ys_down hM hx0 hxM (Rb + 1)
      -- |y'| <= 11/10 |y| + 1
      have hq : 10 * ((ys M x (Rb + 1)).natAbs : Int) ≤ 11 * ((ys M x Rb).natAbs : Int) + 10 := by
        obtain ⟨a1, _⟩ := Lam_lin (R := Rb + 1) hN hM (ys_A hM hx0 (Rb + 1))
        obtain ⟨_, a2⟩ := Lam_lin (R := Rb) hN hM (ys_A hM hx0 Rb)
        have hD : 0 < 2 ^ Rb * M := Int.mul_pos (two_pos Rb) hM
        have hAr := int_pos (ys_A hM hx0 Rb)
        have hDr := int_pos hD
        have c1 : ((2 ^ Rb * M + ys M x Rb : Int) : Rat) = ((2 ^ Rb * M : Int) : Rat) + ((ys M x Rb : Int) : Rat) := by exact_mod_cast rfl
        have hy30 := (near08 hx Rb (by omega)).1
        have hP1 : (1 : Int) ≤ 2 ^ Rb := two_pos Rb
        have hMD : M ≤ 2 ^ Rb * M := by
          have : 1 * M ≤ 2 ^ Rb * M := Int.mul_le_mul_of_nonneg_right hP1 (by omega)
          omega
        have hyD : -((2 ^ Rb * M : Int) : Rat) ≤ 30 * ((ys M x Rb : Int) : Rat) := by
          have := int_le (show -(2 ^ Rb * M) ≤ 30 * ys M x Rb by omega)
          have k1 : ((-(2 ^ Rb * M) : Int) : Rat) = -((2 ^ Rb * M : Int) : Rat) := Rat.intCast_neg _
          have k2 : ((30 * ys M x Rb : Int) : Rat) = 30 * ((ys M x Rb : Int) : Rat) := by exact_mod_cast rfl
          rw [k1, k2] at this; exact this
        have hyn : ((ys M x Rb : Int) : Rat) ≤ 0 := by
          have := int_le (show ys M x Rb ≤ 0 by omega)
          exact_mod_cast this
        rw [c1] at a2 hAr
        have k : 11 / 10 * ((ys M x Rb : Int) : Rat) ≤ ((2 ^ Rb * M : Int) : Rat) * ((ys M x Rb : Int) : Rat) / (((2 ^ Rb * M : Int) : Rat) + ((ys M x Rb : Int) : Rat)) := by
          refine q_le_div hAr ?_
          have := q_mul_nn (show (0 : Rat) ≤ ((2 ^ Rb * M : Int) : Rat) + 30 * ((ys M x Rb : Int) : Rat) by grind) (show (0 : Rat) ≤ -((ys M x Rb : Int) : Rat) by grind)
          have := q_mul_nn (show (0 : Rat) ≤ ((2 ^ Rb * M : Int) : Rat) by grind) (show (0 : Rat) ≤ -((ys M x Rb : Int) : Rat) by grind)
          grind
        have k2 : ((11 * ys M x Rb - 10 : Int) : Rat) ≤ ((10 * ys M x (Rb + 1) : Int) : Rat) := by
          have j1 : ((11 * ys M x Rb - 10 : Int) : Rat) = 11 * ((ys M x Rb : Int) : Rat) - 10 := by exact_mod_cast rfl
          have j2 : ((10 * ys M x (Rb + 1) : Int) : Rat) = 10 * ((ys M x (Rb + 1) : Int) : Rat) := by exact_mod_cast rfl
          rw [j1, j2]; grind
        have := Rat.intCast_le_intCast.mp k2
        omega
      have e2 : (2 : Int) ^ (Rb + 1) = 2 ^ Rb * 2 := Int.pow_succ ..
      rw [e2] at h3
      have h5 : 10 * ((ys M x (Rb + 1)).natAbs : Int) * 2 ^ L ≤ (11 * ((ys M (x + 1) Rb).natAbs : Int) + 120) * 2 ^ L := Int.mul_le_mul_of_nonneg_right (by omega) (by omega)
      have e3 : (11 * ((ys M (x + 1) Rb).natAbs : Int) + 120) * 2 ^ L = 11 * (((ys M (x + 1) Rb).natAbs : Int) * 2 ^ L) + 120 * 2 ^ L := by grind
      have e5 : 10 * ((ys M x (Rb + 1)).natAbs : Int) * 2 ^ L = 10 * (((ys M x (Rb + 1)).natAbs : Int) * 2 ^ L) := by grind
      have hP := two_pos Rb
      have h6 : M * 1 ≤ M * 2 ^ Rb := Int.mul_le_mul_of_nonneg_left (by omega) (by omega)
      have e4 : M * (2 ^ Rb * 2) = 2 * (M * 2 ^ Rb) := by grind
      omega
    subst hRa1
    have g := gap1 Rb hRb (by omega)
    exact fin (by grind)
/-- how far the answer lies from the logarithm -/
theorem acc08 {M x : Int} {L T len R most K : Nat} (hx : Near M x) (hL5 : 5 ≤ L) (hL10 : L ≤ 10) (hT0 : 0 < T) (hlen : M < 10 ^ len) (hT : 10 * len ≤ 3 * (L * T)) (ha : Stops M x L R) (hR : R ≤ most) (hK : K ≤ 2000)
    (hKe : lp (max x M - min x M) (max x M + min x M) (M * 1048576) K ≤ 0) :
    100 * (1048576 * (if M < x then told M x T R else -told M x T R) - ls (max x M - min x M) (max x M + min x M) (M * 1048576) K) ≤ 1048576 * (54 + 53 * (most : Int)) ∧
    100 * (ls (max x M - min x M) (max x M + min x M) (M * 1048576) K + 3 * (K + 1) - 1048576 * (if M < x then told M x T R else -told M x T R)) ≤ 1048576 * (54 + 53 * (most : Int)) := by
  have hM9 := hx.M9
  have hM : 0 < M := by omega
  have hx0 := hx.pos
  have hup := hx.up
  have hdn := hx.dn
  have hR6 : R ≤ 6 := by
    obtain ⟨R', h1, h2⟩ := stops08 hx hL5 hL10
    have := ha.uniq h2; omega
  have hMr := int_pos hM
  obtain ⟨d1, d2⟩ := dn_q (a := hw M (dn (ys M x R) (2 ^ R)) T (T - 1) * ys M x R) hM
  have cw : ((hw M (dn (ys M x R) (2 ^ R)) T (T - 1) * ys M x R : Int) : Rat) = ((hw M (dn (ys M x R) (2 ^ R)) T (T - 1) : Int) : Rat) * ((ys M x R : Int) : Rat) := by exact_mod_cast rfl
  rw [cw] at d1 d2
  have et : dn (hw M (dn (ys M x R) (2 ^ R)) T (T - 1) * ys M x R) M = told M x T R := rfl
  rw [et] at d1 d2
  generalize told M x T R = tt at *
  have hsc : (0 : Int) ≤ M * 1048576 := by omega
  have hD : 0 < 2 ^ R * M := Int.mul_pos (two_pos R) hM
  have hDr := int_pos hD
  have hP : (2 : Int) ^ R ≤ 64 := by
    have e : (2 : Int) ^ R = ((2 ^ R : Nat) : Int) := by simp
    have := Nat.pow_le_pow_right (n := 2) (by decide) hR6
    rw [e]; omega
  have hD64 : ((2 ^ R * M : Int) : Rat) ≤ 64 * (M : Rat) := by
    have := int_le (show 2 ^ R * M ≤ 64 * M from Int.mul_le_mul_of_nonneg_right hP (by omega))
    have c : ((64 * M : Int) : Rat) = 64 * (M : Rat) := Rat.intCast_mul ..
    rw [c] at this; exact this
  have csize : ((1048576 * (if M < x then tt else -tt) : Int) : Rat) = 1048576 * (if M < x then (tt : Rat) else -(tt : Rat)) := by
    split <;> simp only [Rat.intCast_mul, Rat.intCast_neg, Rat.intCast_ofNat]
  have main : ∀ N : Nat, 0 < N →
      (((1048576 * (if M < x then tt else -tt) : Int) : Rat) - ((ls (max x M - min x M) (max x M + min x M) (M * 1048576) K : Int) : Rat) ≤ 1048576 * (534 / 1000 + (R : Rat) * (521 / 1000)) + 3 * ((K : Rat) + 1) + ((500 * (M * 1048576) : Int) : Rat) / (N : Rat)) ∧
      (((ls (max x M - min x M) (max x M + min x M) (M * 1048576) K : Int) : Rat) - ((1048576 * (if M < x then tt else -tt) : Int) : Rat) ≤ 1048576 * (534 / 1000 + (R : Rat) * (521 / 1000)) + ((500 * (M * 1048576) : Int) : Rat) / (N : Rat)) := by
    intro N hN
    have hNr := nat_pos hN
    obtain ⟨v1, v2⟩ := ser08 (N := N) hN hM9 hL5 hL10 (near08 hx R (by omega)).1 ha.stop hT0 hlen hT
    obtain ⟨n1, n2⟩ := (near08 hx R (by omega)).2 N hN
    have e0 : Lam N M (ys M x 0) 0 = (M : Rat) * lgI N x M := by
      unfold Lam
      rw [Int.pow_zero, Int.one_mul, show ys M x 0 = x - M from rfl, show M + (x - M) = x by omega]
    rw [e0] at n1 n2
    obtain ⟨l1, l2⟩ := ls_log (N := N) hN (show 0 < min x M by omega) (show min x M ≤ max x M by omega) (show max x M ≤ 2 * min x M by omega) hsc hKe
    have cl : lgI N (max x M) (min x M) = if M < x then lgI N x M else -lgI N x M := by
      split
      · rename_i h
        rw [Int.max_eq_left (by omega), Int.min_eq_right (by omega)]
      · rename_i h
        rw [Int.max_eq_right (by omega), Int.min_eq_left (by omega)]
        exact lgI_neg ..
    rw [cl] at l1 l2
    have csc : ((M * 1048576 : Int) : Rat) = (M : Rat) * 1048576 := by simp only [Rat.intCast_mul, Rat.intCast_ofNat]
    have c500 : ((500 * (M * 1048576) : Int) : Rat) = 500 * ((M : Rat) * 1048576) := by simp only [Rat.intCast_mul, Rat.intCast_ofNat]
    rw [csc] at l1 l2
    rw [c500, csize]
    have hn0 : (0 : Rat) < 1 / N := q_div_pos (by grind) hNr
    have f1 : 4 * ((2 ^ R * M : Int) : Rat) / (N : Rat) ≤ 256 * ((M : Rat) * (1 / N)) := by
      have e : 4 * ((2 ^ R * M : Int) : Rat) / (N : Rat) = 4 * ((2 ^ R * M : Int) : Rat) * (1 / N) := by grind
      rw [e]
      have := q_mul_le hD64 (show 0 ≤ 1 / (N : Rat) by grind)
      grind
    have f2 : 3 * ((2 ^ R * M : Int) : Rat) / (N : Rat) ≤ 192 * ((M : Rat) * (1 / N)) := by
      have e : 3 * ((2 ^ R * M : Int) : Rat) / (N : Rat) = 3 * ((2 ^ R * M : Int) : Rat) * (1 / N) := by grind
      rw [e]
      have := q_mul_le hD64 (show 0 ≤ 1 / (N : Rat) by grind)
      grind
    have e12 : (12 : Rat) / N = 12 * (1 / N) := by grind
    have e500 : 500 * ((M : Rat) * 1048576) / (N : Rat) = 1048576 * (500 * ((M : Rat) * (1 / N))) := by grind
    rw [e12] at l1 l2
    rw [e500]
    generalize ((hw M (dn (ys M x R) (2 ^ R)) T (T - 1) : Int) : Rat) * ((ys M x R : Int) : Rat) / M = V at *
    generalize Lam N M (ys M x R) R = La at *
    generalize 4 * ((2 ^ R * M : Int) : Rat) / (N : Rat) = F1 at *
    generalize 3 * ((2 ^ R * M : Int) : Rat) / (N : Rat) = F2 at *
    generalize ((ls (max x M - min x M) (max x M + min x M) (M * 1048576) K : Int) : Rat) = SS at *
    generalize lgI N x M = lam at *
    generalize hE : (M : Rat) * (1 / N) = E at *
    have hE0 : 0 < E := by rw [← hE]; exact Rat.mul_pos hMr hn0
    have y1 : ∀ z : Rat, (M : Rat) * 1048576 * (z + 12 * (1 / N)) = 1048576 * (M * z) + 1048576 * (12 * E) := by intro z; rw [← hE]; grind
    have y2 : ∀ z : Rat, (M : Rat) * 1048576 * (z - 12 * (1 / N)) = 1048576 * (M * z) - 1048576 * (12 * E) := by intro z; rw [← hE]; grind
    rw [y1] at l1
    rw [y2] at l2
    have yneg : (M : Rat) * -lam = -(M * lam) := by grind
    split at l1
    · rename_i h
      rw [if_pos h] at l2 ⊢
      generalize (M : Rat) * lam = Z at *
      constructor <;> grind
    · rename_i h
      rw [if_neg h] at l2 ⊢
      rw [yneg] at l1 l2
      generalize (M : Rat) * lam = Z at *
      constructor <;> grind
  have A1 := q_arch (fun N hN => (main N hN).1)
  have A2 := q_arch (fun N hN => (main N hN).2)
  clear main
  have hKr : (K : Rat) ≤ 2000 := by
    have := nat_le hK
    have e : ((2000 : Nat) : Rat) = 2000 := by exact_mod_cast rfl
    rw [e] at this; exact this
  have hRr := nat_le hR
  have hR0 : (0 : Rat) ≤ (R : Rat) := by grind
  generalize (1048576 * (if M < x then tt else -tt) : Int) = size at *
  generalize ls (max x M - min x M) (max x M + min x M) (M * 1048576) K = low at *
  have c3 : ((1048576 * (54 + 53 * (most : Int)) : Int) : Rat) = 1048576 * (54 + 53 * (most : Rat)) := by
    simp only [Rat.intCast_mul, Rat.intCast_add, Rat.intCast_ofNat, Rat.intCast_natCast]
  constructor
  · apply Rat.intCast_le_intCast.mp
    have c1 : ((100 * (size - low) : Int) : Rat) = 100 * ((size : Rat) - low) := by simp only [Rat.intCast_mul, Rat.intCast_sub, Rat.intCast_ofNat]
    rw [c1, c3]; grind
  · apply Rat.intCast_le_intCast.mp
    have c1 : ((100 * (low + 3 * (K + 1) - size) : Int) : Rat) = 100 * ((low : Rat) + 3 * ((K : Rat) + 1) - size) := by simp only [Rat.intCast_mul, Rat.intCast_sub, Rat.intCast_add, Rat.intCast_ofNat, Rat.intCast_natCast]
    rw [c1, c3]; grind
set_option maxHeartbeats 1000000
set_option linter.unusedVariables false
set_option linter.unusedSimpArgs false
theorem ys_bd {M x : Int} (hx : Near M x) {R : Nat} (hR : R ≤ 8) : 31 * ((ys M x R).natAbs : Int) ≤ 33 * ((x - M).natAbs : Int) + 186 := by
  have hM9 := hx.M9
  have hM : 0 < M := by omega
  have hx0 := hx.pos
  rcases Int.le_total M x with hMx | hMx
  · have := ys_up hM hMx R
    omega
  · have hneg := ys_down hM hx0 hMx R
    obtain ⟨N, hN, hNe⟩ := bigN hM
    obtain ⟨_, s2⟩ := (near08 hx R hR).2 N hN
    have e := (hNe R hR).2
    obtain ⟨a1, _⟩ := Lam_lin hN hM (ys_A hM hx0 R)
    obtain ⟨_, a2⟩ := Lam_lin hN hM (ys_A hM hx0 0)
    have y0 : ys M x 0 = x - M := rfl
    have c0 : ((2 ^ 0 * M : Int) : Rat) = (M : Rat) := by rw [Int.pow_zero, Int.one_mul]
    have c1 : ((2 ^ 0 * M + ys M x 0 : Int) : Rat) = (x : Rat) := by rw [y0, Int.pow_zero, Int.one_mul]; congr 1; omega
    have c2 : ((ys M x 0 : Int) : Rat) = (x : Rat) - M := by rw [y0]; exact_mod_cast rfl
    rw [c0, c1, c2] at a2
    have hxr := int_pos hx0
    have h33 : 31 * (M : Rat) ≤ 33 * x := by
      have := int_le (show 31 * M ≤ 33 * x by have := hx.dn; omega)
      have k1 : ((31 * M : Int) : Rat) = 31 * (M : Rat) := by exact_mod_cast rfl
      have k2 : ((33 * x : Int) : Rat) = 33 * (x : Rat) := by exact_mod_cast rfl
      rw [k1, k2] at this; exact this
    have hMx' : (x : Rat) ≤ M := int_le hMx
    have hb : 33 / 31 * ((x : Rat) - M) ≤ (M : Rat) * (x - M) / x := by
      refine q_le_div hxr ?_
      have := q_mul_nn (show 0 ≤ 33 * (x : Rat) - 31 * M by grind) (show (0 : Rat) ≤ M - x by grind)
      grind
    have eR : (R : Rat) ≤ 8 := by
      have := nat_le hR
      have e8 : ((8 : Nat) : Rat) = 8 := by exact_mod_cast rfl
      rw [e8] at this; exact this
    have fin2 : ((33 * (x - M) - 186 : Int) : Rat) ≤ ((31 * ys M x R : Int) : Rat) := by
      have k1 : ((31 * ys M x R : Int) : Rat) = 31 * ((ys M x R : Int) : Rat) := by exact_mod_cast rfl
      have k2 : ((33 * (x - M) - 186 : Int) : Rat) = 33 * ((x : Rat) - M) - 186 := by simp only [Rat.intCast_mul, Rat.intCast_sub, Rat.intCast_ofNat]
      rw [k1, k2]; grind
    have := Rat.intCast_le_intCast.mp fin2
    omega
/-- at an edge -/
theorem edge08 {M x : Int} {L r : Nat} (hx : Near M x) (hL10 : L ≤ 10) (hr : r + 5 ≤ L) (hd : 31 * ((x - M).natAbs : Int) * 2 ^ L ≤ 32 * (M * 2 ^ r) + 200 * 2 ^ L) : ∃ R, R ≤ r + 1 ∧ Stops M x L R := by
  apply stops_by
  have hM9 := hx.M9
  have h := ys_bd hx (R := r + 1) (by omega)
  have hX := two_pos L
  have hP := two_pos r
  have hX1024 : (2 : Int) ^ L ≤ 1024 := by
    have e : (2 : Int) ^ L = ((2 ^ L : Nat) : Int) := by simp
    have := Nat.pow_le_pow_right (n := 2) (by decide) hL10
    rw [e]; omega
  have h2 := Int.mul_le_mul_of_nonneg_right h (Int.le_of_lt hX)
  have e1 : (33 * ((x - M).natAbs : Int) + 186) * 2 ^ L = 33 * (((x - M).natAbs : Int) * 2 ^ L) + 186 * 2 ^ L := by grind
  have e2 : 31 * ((ys M x (r + 1)).natAbs : Int) * 2 ^ L = 31 * (((ys M x (r + 1)).natAbs : Int) * 2 ^ L) := by grind
  have e3 : 31 * ((x - M).natAbs : Int) * 2 ^ L = 31 * (((x - M).natAbs : Int) * 2 ^ L) := by grind
  have e4 : M * 2 ^ (r + 1) = 2 * (M * 2 ^ r) := by rw [Int.pow_succ]; grind
  rw [e1, e2] at h2
  rw [e3] at hd
  rw [e4]
  have h6 : M * 1 ≤ M * 2 ^ r := Int.mul_le_mul_of_nonneg_left (by omega) (by omega)
  omega
theorem pow_up (X : Int) (hX : 0 ≤ X) : ∀ k : Nat, (k : Int) ≤ X → (X + 1) ^ k * (X - k) ≤ X ^ k * X
  | 0, _ => by simp
  | k + 1, h => by
    have ih := pow_up X hX k (by omega)
    have hp : 0 ≤ (X + 1) ^ k := Int.le_of_lt (Int.pow_pos (by omega))
    rw [Int.pow_succ, Int.pow_succ]
    have h1 : (X + 1) * (X - ((k + 1 : Nat) : Int)) ≤ X * (X - k) := by
      have : ((k + 1 : Nat) : Int) = (k : Int) + 1 := by omega
      rw [this]; grind
    have h2 := Int.mul_le_mul_of_nonneg_left h1 hp
    have h3 := Int.mul_le_mul_of_nonneg_left ih hX
    have e1 : (X + 1) ^ k * (X + 1) * (X - ((k + 1 : Nat) : Int)) = (X + 1) ^ k * ((X + 1) * (X - ((k + 1 : Nat) : Int))) := by grind
    have e2 : (X + 1) ^ k * (X * (X - k)) = X * ((X + 1) ^ k * (X - k)) := by grind
    have e3 : X ^ k * X * X = X * (X ^ k * X) := by grind
    rw [e1, e3]
    omega
theorem pow_dn (X : Int) (hX : 1 ≤ X) : ∀ k : Nat, X ^ k * (X - k) ≤ (X - 1) ^ k * X
  | 0 => by simp
  | k + 1 => by
    have ih := pow_dn X hX k
    rw [Int.pow_succ, Int.pow_succ]
    have h3 := Int.mul_le_mul_of_nonneg_right ih (show 0 ≤ X - 1 by omega)
    have hp : 0 ≤ X ^ k := Int.le_of_lt (Int.pow_pos (by omega))
    have h1 : X * (X - ((k + 1 : Nat) : Int)) ≤ (X - k) * (X - 1) := by
      have : ((k + 1 : Nat) : Int) = (k : Int) + 1 := by omega
      rw [this]
      have : 0 ≤ (k : Int) := by omega
      grind
    have h2 := Int.mul_le_mul_of_nonneg_left h1 hp
    have e1 : X ^ k * X * (X - ((k + 1 : Nat) : Int)) = X ^ k * (X * (X - ((k + 1 : Nat) : Int))) := by grind
    have e2 : X ^ k * (X - k) * (X - 1) = X ^ k * ((X - k) * (X - 1)) := by grind
    have e3 : (X - 1) ^ k * (X - 1) * X = (X - 1) ^ k * X * (X - 1) := by grind
    rw [e1, e3]
    omega
theorem k_le {L r : Nat} (hr : r + 5 ≤ L) : 32 * (2 : Int) ^ r ≤ 2 ^ L := by
  have e : (2 : Int) ^ L = 2 ^ (L - r - 5) * (32 * 2 ^ r) := by
    rw [show (32 : Int) = 2 ^ 5 from rfl, ← Int.pow_add, ← Int.pow_add]; congr 1; omega
  have h1 : (1 : Int) ≤ 2 ^ (L - r - 5) := two_pos _
  have hp := two_pos r
  have : 1 * (32 * (2 : Int) ^ r) ≤ 2 ^ (L - r - 5) * (32 * 2 ^ r) := Int.mul_le_mul_of_nonneg_right h1 (by omega)
  omega
/-- the window above -/
theorem win_above {M x : Int} {L r : Nat} (hM : 1000000000 ≤ M) (hr : r + 5 ≤ L)
    (hx1 : M * (2 ^ L + 1) ^ 2 ^ r / 2 ^ (L * 2 ^ r) - 3 ≤ x) (hx2 : x ≤ M * (2 ^ L + 1) ^ 2 ^ r / 2 ^ (L * 2 ^ r) + 3) :
    Near M x ∧ 31 * ((x - M).natAbs : Int) * 2 ^ L ≤ 32 * (M * 2 ^ r) + 200 * 2 ^ L := by
  have hX := two_pos L
  have hk := two_pos r
  have hkX := k_le hr
  have eX : (2 : Int) ^ (L * 2 ^ r) = (2 ^ L) ^ 2 ^ r := by rw [Int.pow_mul]
  rw [eX] at hx1 hx2
  have ek : ((2 ^ r : Nat) : Int) = (2 : Int) ^ r := by simp
  have hup := pow_up (2 ^ L) (by omega) (2 ^ r) (by omega)
  rw [ek] at hup
  have hQ : 0 < ((2 : Int) ^ L) ^ 2 ^ r := Int.pow_pos hX
  have hmono : ((2 : Int) ^ L) ^ 2 ^ r ≤ (2 ^ L + 1) ^ 2 ^ r := by
    have : ∀ n : Nat, ((2 : Int) ^ L) ^ n ≤ (2 ^ L + 1) ^ n := by
      intro n
      induction n with
      | zero => rw [Int.pow_zero, Int.pow_zero]; exact Int.le_refl _
      | succ n ih =>
        rw [Int.pow_succ, Int.pow_succ]
        exact Int.mul_le_mul ih (by omega) (by omega) (Int.le_of_lt (Int.pow_pos (by omega)))
    exact this _
  generalize hkg : (2 : Int) ^ r = k at *
  generalize hXg : (2 : Int) ^ L = X at *
  generalize X ^ 2 ^ r = Q at *
  generalize (X + 1) ^ 2 ^ r = Q' at *
  have lo : M ≤ M * Q' / Q := by
    rw [Int.le_ediv_iff_mul_le hQ]
    exact Int.mul_le_mul_of_nonneg_left hmono (by omega)
  have hi : M * Q' / Q * (X - k) ≤ M * X := by
    have h1 : M * Q' / Q * Q ≤ M * Q' := Int.ediv_mul_le _ (by omega)
    have h2 := Int.mul_le_mul_of_nonneg_right h1 (show 0 ≤ X - k by omega)
    have h3 := Int.mul_le_mul_of_nonneg_left hup (show 0 ≤ M by omega)
    refine Int.le_of_mul_le_mul_right (a := Q) ?_ hQ
    have e1 : M * Q' / Q * (X - k) * Q = M * Q' / Q * Q * (X - k) := by grind
    have e2 : M * Q' * (X - k) = M * (Q' * (X - k)) := by grind
    have e3 : M * X * Q = M * (Q * X) := by grind
    rw [e1, e3]
    omega
  generalize hA : M * Q' / Q = A at *
  -- (A - M)(X - k) <= M k
  have hAM : (A - M) * (X - k) ≤ M * k := by
    have e : (A - M) * (X - k) = A * (X - k) - M * X + M * k := by grind
    omega
  have h31 : 31 * ((A - M) * X) ≤ 32 * (M * k) := by
    have h4 : 31 * X ≤ 32 * (X - k) := by omega
    have h5 := Int.mul_le_mul_of_nonneg_left h4 (show 0 ≤ A - M by omega)
    have e1 : (A - M) * (31 * X) = 31 * ((A - M) * X) := by grind
    have e2 : (A - M) * (32 * (X - k)) = 32 * ((A - M) * (X - k)) := by grind
    omega
  have hA31 : 31 * (A - M) ≤ M := by
    have h6 : 32 * (M * k) ≤ M * X := by
      have := Int.mul_le_mul_of_nonneg_left hkX (show 0 ≤ M by omega)
      have e : M * (32 * k) = 32 * (M * k) := by grind
      omega
    refine Int.le_of_mul_le_mul_right (a := X) ?_ hX
    have e1 : 31 * (A - M) * X = 31 * ((A - M) * X) := by grind
    omega
  refine ⟨⟨hM, by omega, by omega⟩, ?_⟩
  have h7 : ((x - M).natAbs : Int) ≤ (A - M) + 3 := by omega
  have h8 := Int.mul_le_mul_of_nonneg_right h7 (show 0 ≤ X by omega)
  have e1 : 31 * ((x - M).natAbs : Int) * X = 31 * (((x - M).natAbs : Int) * X) := by grind
  have e2 : (A - M + 3) * X = (A - M) * X + 3 * X := by grind
  omega
/-- the window below -/
theorem win_below {M x : Int} {L r : Nat} (hM : 1000000000 ≤ M) (hr : r + 5 ≤ L)
    (hx1 : M * (2 ^ L - 1) ^ 2 ^ r / 2 ^ (L * 2 ^ r) - 3 ≤ x) (hx2 : x ≤ M * (2 ^ L - 1) ^ 2 ^ r / 2 ^ (L * 2 ^ r) + 3) :
    Near M x ∧ 31 * ((x - M).natAbs : Int) * 2 ^ L ≤ 32 * (M * 2 ^ r) + 200 * 2 ^ L := by
  have hX := two_pos L
  have hk := two_pos r
  have hkX := k_le hr
  have eX : (2 : Int) ^ (L * 2 ^ r) = (2 ^ L) ^ 2 ^ r := by rw [Int.pow_mul]
  rw [eX] at hx1 hx2
  have ek : ((2 ^ r : Nat) : Int) = (2 : Int) ^ r := by simp
  have hdn := pow_dn (2 ^ L) (by omega) (2 ^ r)
  rw [ek] at hdn
  have hQ : 0 < ((2 : Int) ^ L) ^ 2 ^ r := Int.pow_pos hX
  have hmono : ((2 : Int) ^ L - 1) ^ 2 ^ r ≤ (2 ^ L) ^ 2 ^ r := by
    have : ∀ n : Nat, ((2 : Int) ^ L - 1) ^ n ≤ (2 ^ L) ^ n := by
      intro n
      induction n with
      | zero => rw [Int.pow_zero, Int.pow_zero]; exact Int.le_refl _
      | succ n ih =>
        rw [Int.pow_succ, Int.pow_succ]
        exact Int.mul_le_mul ih (by omega) (by omega) (Int.le_of_lt (Int.pow_pos hX))
    exact this _
  have hQ0 : 0 ≤ ((2 : Int) ^ L - 1) ^ 2 ^ r := Int.pow_nonneg (by omega)
  generalize hkg : (2 : Int) ^ r = k at *
  generalize hXg : (2 : Int) ^ L = X at *
  generalize X ^ 2 ^ r = Q at *
  generalize (X - 1) ^ 2 ^ r = Q' at *
  have hi : M * Q' / Q ≤ M := by
    apply Int.ediv_le_of_le_mul hQ
    exact Int.mul_le_mul_of_nonneg_left hmono (by omega)
  have lo : M * (X - k) ≤ (M * Q' / Q + 1) * X := by
    have h1 : M * Q' ≤ (M * Q' / Q + 1) * Q := by
      have := Int.lt_ediv_add_one_mul_self (M * Q') hQ
      omega
    have h2 := Int.mul_le_mul_of_nonneg_right h1 (show 0 ≤ X by omega)
    have h3 := Int.mul_le_mul_of_nonneg_left hdn (show 0 ≤ M by omega)
    refine Int.le_of_mul_le_mul_right (a := Q) ?_ hQ
    have e1 : M * (X - k) * Q = M * (Q * (X - k)) := by grind
    have e2 : (M * Q' / Q + 1) * X * Q = (M * Q' / Q + 1) * Q * X := by grind
    have e3 : M * Q' * X = M * (Q' * X) := by grind
    rw [e1, e2]
    omega
  generalize hA : M * Q' / Q = A at *
  have hAM : (M - A) * X ≤ M * k + X := by
    have e1 : M * (X - k) = M * X - M * k := by grind
    have e2 : (A + 1) * X = A * X + X := by grind
    have e3 : (M - A) * X = M * X - A * X := by grind
    omega
  have hA32 : 32 * (M - A) ≤ M + 32 := by
    have h6 : 32 * (M * k) ≤ M * X := by
      have := Int.mul_le_mul_of_nonneg_left hkX (show 0 ≤ M by omega)
      have e : M * (32 * k) = 32 * (M * k) := by grind
      omega
    refine Int.le_of_mul_le_mul_right (a := X) ?_ hX
    have e1 : 32 * (M - A) * X = 32 * ((M - A) * X) := by grind
    have e2 : (M + 32) * X = M * X + 32 * X := by grind
    omega
  refine ⟨⟨hM, by omega, by omega⟩, ?_⟩
  have h7 : ((x - M).natAbs : Int) ≤ (M - A) + 3 := by omega
  have h8 := Int.mul_le_mul_of_nonneg_right h7 (show 0 ≤ X by omega)
  have e1 : 31 * ((x - M).natAbs : Int) * X = 31 * (((x - M).natAbs : Int) * X) := by grind
  have e2 : (M - A + 3) * X = (M - A) * X + 3 * X := by grind
  have hMk : 0 ≤ M * k := Int.mul_nonneg (by omega) (by omega)
  omega
set_option linter.unusedVariables false
theorem perm_sorted : ∀ {l l' : List Int}, l.Perm l' → l.Pairwise (· ≤ ·) → l'.Pairwise (· ≤ ·) → l = l'
  | [], l', p, _, _ => (List.Perm.nil_eq p)
  | a :: l, [], p, _, _ => by have := p.length_eq; simp at this
  | a :: l, b :: l', p, h, h' => by
    have hab : a = b := by
      have h1 : a ∈ b :: l' := p.mem_iff.mp List.mem_cons_self
      have h2 : b ∈ a :: l := p.mem_iff.mpr List.mem_cons_self
      have k1 : b ≤ a := by
        rcases List.mem_cons.mp h1 with e | e
        · omega
        · exact (List.pairwise_cons.mp h').1 a e
      have k2 : a ≤ b := by
        rcases List.mem_cons.mp h2 with e | e
        · omega
        · exact (List.pairwise_cons.mp h).1 b e
      omega
    subst hab
    rw [perm_sorted ((List.perm_cons a).mp p) (List.pairwise_cons.mp h).2 (List.pairwise_cons.mp h').2]
section
variable {C : CX} {S : AS} {Φ : AV → Prop}
theorem CallB_sorted {l : List Int} (h64 : l.length < 64) (hs : l.Pairwise (· ≤ ·)) (h : Φ (.lst (IL l))) : CallB C (.builtin "sorted") [.lst (IL l)] Φ := by
  refine ⟨?_⟩
  rintro ok X s vs Q E _ xi ⟨v, r, rfl, ⟨a, vs', rfl, hx, hl', hr⟩, rfl⟩ k
  have hi := hr.ints
  refine sorted_ints hl' hi (by have := hr.length; simp at this; omega) fun out ns' a1 a2 a3 => ?_
  have e : ns' = l := perm_sorted a2 a3 hs
  subst e
  obtain ⟨n, hn⟩ := sortedAll_at s.heap vs' out
  have st : StIn s.heap (sortedAll s.heap vs' out) := fun b o e => sortedAll_old e
  refine k (.lst (IL ns')) _ _ s.toks st ⟨_, out.toList, rfl, ?_, ⟨_, hn, rfl, n, by simp [seqObj]⟩, RelVs.of_ints a1⟩ h
  intro hm
  obtain ⟨o, ho⟩ := Option.isSome_iff_exists.mp (xi _ hm)
  have := Heap.lt_size ho
  exact absurd this (Nat.not_lt.mpr (Nat.le_succ _))
end
set_option maxHeartbeats 4000000
set_option linter.unusedVariables false
set_option exponentiation.threshold 3000
/-- what _ilog tells at x -/
noncomputable def tolds (M : Int) (L T : Nat) (x : Int) : Int := told M x T (Classical.epsilon fun R => Stops M x L R)
theorem tolds_eq {M x : Int} {L T R : Nat} (h : Stops M x L R) : tolds M L T x = told M x T R := by
  unfold tolds
  rw [(Classical.epsilon_spec (p := fun R => Stops M x L R) ⟨R, h⟩).uniq h]
theorem pw_range {g : Nat → Int} {n : Nat} (h : ∀ i, i + 1 < n → g i ≤ g (i + 1)) : ((List.range n).map g).Pairwise (· ≤ ·) := by
  have key : ∀ j i, i + j < n → g i ≤ g (i + j) := by
    intro j
    induction j with
    | zero => intro i _; exact Int.le_refl _
    | succ j ih => intro i hi; exact Int.le_trans (ih i (by omega)) (h (i + j) (by omega))
  rw [List.pairwise_iff_getElem]
  intro i j hi hj hij
  have hi' : i < n := by simpa using hi
  have hj' : j < n := by simpa using hj
  simp only [List.getElem_map, List.getElem_range]
  have := key (j - i) i (by omega)
  rwa [show i + (j - i) = j by omega] at this
theorem toNat_two (k : Nat) : ((2 : Int) ^ k).toNat = 2 ^ k := by
  have e : (2 : Int) ^ k = ((2 ^ k : Nat) : Int) := by simp
  rw [e]; rfl
/-- _ilog near the scale -/
theorem c_ilog8 {g : GX} (hg : GOk g) {M x : Int} {L f T : Nat} (hx : Near M x) (hMb : intBits M ≤ 100) (hL5 : 5 ≤ L) (hL10 : L ≤ 10) (hf : 0 < f) (hf1 : (10 : Int) ^ (f - 1) ≤ M) (hf2 : M < 10 ^ f) (hT0 : 0 < T) (hT : (T : Int) = -((-10 * (f : Int)) / (3 * L))) :
    Calls g 2 "_ilog" [.int x, .int M, .int (L : Int)] fun v => v = .int (tolds M L T x) := by
  obtain ⟨R, hR, hS⟩ := stops08 hx hL5 hL10
  rw [tolds_eq hS]
  have hM : 0 < M := by have := hx.M9; omega
  refine c_ilogN hg hM (by omega) (by omega) (by omega) (by omega) hS.go hS.stop (fun r _ => ys_pos hM hx.pos r) (fun r hr => ?_) hf hf1 hf2 hT0 hT
  have := (near08 hx r (by omega)).1
  exact Nat.le_trans (lt_bits (Nat.lt_of_le_of_lt (show (ys M x r).natAbs ≤ M.natAbs by omega) (bits_lt hMb))) (by decide)
abbrev s8A (M r L : Int) (ns : List Int) : AS := ⟨[("M", .int M), ("r", .int r), ("L", .int L), ("script", .lst (IL ns))], none⟩
abbrev s8B (tl : List Int) (mid mo M r L : Int) (ns : List Int) : AS := ⟨[("told", .lst (IL tl)), ("middle", .int mid), ("most", .int mo), ("M", .int M), ("r", .int r), ("L", .int L), ("script", .lst (IL ns))], none⟩
theorem c_law {g : GX} (hg : GOk g) {ns : List Int} (hns : ns.length ≤ 63) : Calls g 3 "law" [.lst (IL ns)] fun v => v = .bool true := by
  refine Calls_of (n := 2) (ns := [Str.ofString "script"]) (hd := by rw [hg.p]; exact List.Mem.tail _ (List.Mem.tail _ (List.Mem.tail _ (List.Mem.tail _ (List.Mem.tail _ (List.Mem.head _)))))) ?_ rfl rfl (by decide) rfl rfl rfl ?_
  · intro vs pm cd doc hv
    match vs, hv with
    | [x], _ => rfl
  · intro A Lo ad qual code
    refine Ex_cons (ExS_assign (Ev_cut (fun v => ∃ L : Nat, v = .int (L : Int) ∧ 5 ≤ L ∧ L ≤ 10) ?_ ?_) ⟨.inr ⟨rfl, rfl⟩, trivial⟩)
    · refine Ev_bin (Ev_bin (Ev_bin (Ev_call (n := 1) rfl ?_ (show 1 ≤ 2 by decide) (hg := f_at hg))))
      repeat walk_at "mw"
      refine (c_at hg (k := 0) (by decide) hns).mono ?_
      rintro _ ⟨a, rfl, ha⟩
      repeat walk_at "mw"
      rw [Int.fmod_eq_emod_of_nonneg _ (by decide)]
      obtain ⟨L, hL⟩ : ∃ L : Nat, (a + 3) % 6 + 5 = (L : Int) := ⟨((a + 3) % 6 + 5).toNat, by omega⟩
      rw [hL]
      exact ⟨L, rfl, by omega, by omega⟩
    rintro _ ⟨L, rfl, hL5, hL10⟩
    have hX := two_pos L
    have hX1024 : (2 : Int) ^ L ≤ 1024 := by
      have e : (2 : Int) ^ L = ((2 ^ L : Nat) : Int) := by simp
      have := Nat.pow_le_pow_right (n := 2) (by decide) hL10
      rw [e]; omega
    have hX32 : 32 ≤ (2 : Int) ^ L := by
      have e : (2 : Int) ^ L = ((2 ^ L : Nat) : Int) := by simp
      have := Nat.pow_le_pow_right (n := 2) (by decide) hL5
      rw [e]; omega
    refine Ex_cons (ExS_assign (Ev_cut (fun v => ∃ M : Int, v = .int M ∧ 1000000000 ≤ M ∧ M ≤ 2 ^ 80) ?_ ?_) ⟨.inr ⟨rfl, rfl⟩, trivial⟩)
    · refine Ev_bin (Ev_bin (Ev_call (n := 1) rfl ?_ (show 1 ≤ 2 by decide) (hg := f_at hg)))
      repeat walk_at "mw"
      refine (c_at hg (k := 1) (by decide) hns).mono ?_
      rintro _ ⟨a, rfl, ha⟩
      repeat walk_at "mw"
      refine Bin_pow (by decide) (by decide) ?_
      refine Bin_mod (by decide) ?_
      repeat walk_at "mw"
      refine Bin_pow (by decide) (by decide) ?_
      repeat walk_at "mw"
      rw [Int.fmod_eq_emod_of_nonneg _ (by decide)]
      have e1 : (10 : Int) ^ (24 : Int).toNat = 1000000000000000000000000 := by decide
      have e2 : (10 : Int) ^ (9 : Int).toNat = 1000000000 := by decide
      have e3 : (2 : Int) ^ 80 = 1208925819614629174706176 := by decide
      rw [e1, e2, e3]
      have h1 := Int.emod_nonneg a (show (1000000000000000000000000 : Int) ≠ 0 by decide)
      have h2 := Int.emod_lt_of_pos a (show (0 : Int) < 1000000000000000000000000 by decide)
      exact ⟨_, rfl, by omega, by omega⟩
    rintro _ ⟨M, rfl, hM9, hM80⟩
    have hM : 0 < M := by omega
    have hMb : intBits M ≤ 81 := lt_bits (by
      have e : ((2 : Nat) ^ 80 : Nat) < 2 ^ 81 := by decide
      have e3 : (2 : Int) ^ 80 = ((2 ^ 80 : Nat) : Int) := by decide
      omega)
    refine Ex_cons (ExS_assign (Ev_cut (fun v => ∃ r : Nat, v = .int (r : Int) ∧ r + 5 ≤ L) ?_ ?_) ⟨.inl rfl, trivial⟩)
    · refine Ev_bin (Ev_call (n := 1) rfl ?_ (show 1 ≤ 2 by decide) (hg := f_at hg))
      repeat walk_at "mw"
      refine (c_at hg (k := 2) (by decide) hns).mono ?_
      rintro _ ⟨a, rfl, ha⟩
      have hne : (L : Int) - 4 ≠ 0 := by omega
      repeat walk_at "mw"
      rw [Int.fmod_eq_emod_of_nonneg _ (by omega)]
      have h1 := Int.emod_nonneg a hne
      have h2 := Int.emod_lt_of_pos a (show 0 < (L : Int) - 4 by omega)
      obtain ⟨r, hr⟩ : ∃ r : Nat, a % ((L : Int) - 4) = (r : Int) := ⟨(a % ((L : Int) - 4)).toNat, by omega⟩
      rw [hr] at h2 ⊢
      exact ⟨r, rfl, by omega⟩
    rintro _ ⟨r, rfl, hr⟩
    have hb2 : intBits 2 = 2 := rfl
    have hr5 : 2 ^ r ≤ 32 := by
      have := Nat.pow_le_pow_right (n := 2) (by decide) (show r ≤ 5 by omega)
      exact this
    have hr5I : (2 : Int) ^ r ≤ 32 := by
      have e : (2 : Int) ^ r = ((2 ^ r : Nat) : Int) := by simp
      rw [e]; omega
    have hr0 := two_pos r
    have hpL : (intBits 2 : Int) * (L : Int) ≤ 2 ^ 27 := by rw [hb2]; omega
    have hpr : (intBits 2 : Int) * (r : Int) ≤ 2 ^ 27 := by rw [hb2]; omega
    have ePX : ((L : Int) * 2 ^ r).toNat = L * 2 ^ r := by
      have e : ((L * 2 ^ r : Nat) : Int) = (L : Int) * 2 ^ r := by simp
      rw [← e]; rfl
    have hLr : (L : Int) * 2 ^ r ≤ 10 * 32 := Int.mul_le_mul (by omega) hr5I (by omega) (by decide)
    have hLr0 : 0 ≤ (L : Int) * 2 ^ r := Int.mul_nonneg (by omega) (by omega)
    have hden : (2 : Int) ^ (L * 2 ^ r) ≠ 0 := by have := two_pos (L * 2 ^ r); omega
    have hdenp := two_pos (L * 2 ^ r)
    have hbase : ∀ b : Int, 0 ≤ b → b ≤ 1025 → intBits b ≤ 11 := fun b h0 h1 => lt_bits (by omega)
    refine Ex_cons (ExS_assign (Ev_cut (fun v => v = .int (M * (2 ^ L + 1) ^ 2 ^ r / 2 ^ (L * 2 ^ r))) ?_ ?_) ⟨.inl rfl, trivial⟩)
    · refine Ev_bin (Ev_bin (Ev_name rfl (Ev_bin (Ev_bin (Ev_bin (Ev_const_int (Ev_name rfl (Bin_pow (by omega) hpL ?_))))))))
      rw [Int.toNat_natCast]
      refine Ev_const_int (Bin_add (Ev_bin (Ev_const_int (Ev_name rfl (Bin_pow (by omega) hpr ?_)))))
      rw [Int.toNat_natCast]
      have hbb := hbase (2 ^ L + 1) (by omega) (by omega)
      refine Bin_pow (by omega) (by have : (intBits (2 ^ L + 1) : Int) * 2 ^ r ≤ 11 * 32 := Int.mul_le_mul (by omega) hr5I (by omega) (by decide); omega) ?_
      rw [toNat_two]
      have hpb : intBits ((2 ^ L + 1 : Int) ^ 2 ^ r) ≤ 400 := Nat.le_trans (intBits_pow_le hbb (2 ^ r)) (by omega)
      refine Bin_mul (IntMulOk.of_le hMb hpb (by decide)) ?_
      refine Ev_bin (Ev_const_int (Ev_bin (Ev_name rfl (Ev_bin (Ev_const_int (Ev_name rfl (Bin_pow (by omega) hpr ?_)))))))
      rw [Int.toNat_natCast]
      refine Bin_mul (IntMulOk.small_l (by omega)) ?_
      refine Bin_pow hLr0 (by rw [hb2]; omega) ?_
      rw [ePX]
      refine Bin_fdiv hden ?_
      rw [Int.fdiv_eq_ediv_of_nonneg _ (by omega)]
    rintro _ rfl
    refine Ex_cons (ExS_assign (Ev_cut (fun v => v = .int (M * (2 ^ L - 1) ^ 2 ^ r / 2 ^ (L * 2 ^ r))) ?_ ?_) ⟨.inl rfl, trivial⟩)
    · refine Ev_bin (Ev_bin (Ev_name rfl (Ev_bin (Ev_bin (Ev_bin (Ev_const_int (Ev_name rfl (Bin_pow (by omega) hpL ?_))))))))
      rw [Int.toNat_natCast]
      refine Ev_const_int (Bin_sub (Ev_bin (Ev_const_int (Ev_name rfl (Bin_pow (by omega) hpr ?_)))))
      rw [Int.toNat_natCast]
      have hbb := hbase (2 ^ L - 1) (by omega) (by omega)
      refine Bin_pow (by omega) (by have : (intBits (2 ^ L - 1) : Int) * 2 ^ r ≤ 11 * 32 := Int.mul_le_mul (by omega) hr5I (by omega) (by decide); omega) ?_
      rw [toNat_two]
      have hpb : intBits ((2 ^ L - 1 : Int) ^ 2 ^ r) ≤ 400 := Nat.le_trans (intBits_pow_le hbb (2 ^ r)) (by omega)
      refine Bin_mul (IntMulOk.of_le hMb hpb (by decide)) ?_
      refine Ev_bin (Ev_const_int (Ev_bin (Ev_name rfl (Ev_bin (Ev_const_int (Ev_name rfl (Bin_pow (by omega) hpr ?_)))))))
      rw [Int.toNat_natCast]
      refine Bin_mul (IntMulOk.small_l (by omega)) ?_
      refine Bin_pow hLr0 (by rw [hb2]; omega) ?_
      rw [ePX]
      refine Bin_fdiv hden ?_
      rw [Int.fdiv_eq_ediv_of_nonneg _ (by omega)]
    rintro _ rfl
    have hwa := fun x => win_above (M := M) (x := x) (L := L) (r := r) hM9 hr
    have hwb := fun x => win_below (M := M) (x := x) (L := L) (r := r) hM9 hr
    generalize M * (2 ^ L + 1) ^ 2 ^ r / 2 ^ (L * 2 ^ r) = above at *
    generalize M * (2 ^ L - 1) ^ 2 ^ r / 2 ^ (L * 2 ^ r) = below at *
    refine Ex_cons (ExS_assign (Ev_cut (fun v => ∃ p : Int, v = .int p ∧ p + 3 ≤ M + M / 32 ∧ M - M / 32 ≤ p - 3) ?_ ?_) ⟨.inl rfl, trivial⟩)
    · repeat walk_at "mw"
      refine Ev_call (n := 1) rfl ?_ (show 1 ≤ 2 by decide) (hg := f_at hg)
      repeat walk_at "mw"
      refine (c_at hg (k := 3) (by decide) hns).mono ?_
      rintro _ ⟨a, rfl, ha⟩
      have hfd : M.fdiv 16 = M / 16 := Int.fdiv_eq_ediv_of_nonneg _ (by decide)
      refine Ev_bin (Ev_bin (Ev_name rfl (Ev_const_int (Bin_fdiv (by decide) ?_))))
      rw [hfd]
      refine Ev_const_int (Bin_sub (Bin_mod (by omega) (Bin_sub ?_)))
      rw [Int.fdiv_eq_ediv_of_nonneg _ (by decide), Int.fmod_eq_emod_of_nonneg _ (by omega)]
      have h1 := Int.emod_nonneg a (show M / 16 - 6 ≠ 0 by omega)
      have h2 := Int.emod_lt_of_pos a (show 0 < M / 16 - 6 by omega)
      exact ⟨_, rfl, by omega, by omega⟩
    rintro _ ⟨p, rfl, hp1, hp2⟩
    obtain ⟨f, hf, hf1, hf2⟩ := figures hM
    obtain ⟨T, hT0, hT, hTl⟩ := rows_T (L := L) hf (by omega)
    refine Ex_cons (ExS_forT (nps := [(Str.ofString "middle", _), (Str.ofString "most", _)]) rfl ?_)
    repeat walk_at "mw"
    refine ⟨_, .tup _, fun _ S' => S' = s8A M r L ns, ⟨s8A M r L ns, by walk_at "le", rfl⟩, ?_, ?_⟩
    · rintro i S' av hi rfl
      obtain ⟨mid, most, rfl, hmost, hmid⟩ : ∃ (mid : Int) (most : Nat), av = .tup [.int mid, .int (most : Int)] ∧ most ≤ 100 ∧ ∀ x, mid - 3 ≤ x → x ≤ mid + 3 → Near M x ∧ ∃ R, R ≤ most ∧ Stops M x L R := by
        match i, hi with
        | 0, hi => cases hi; exact ⟨above, r + 1, by simp, by omega, fun x h1 h2 => ⟨(hwa x h1 h2).1, edge08 (hwa x h1 h2).1 hL10 hr (hwa x h1 h2).2⟩⟩
        | 1, hi => cases hi; exact ⟨below, r + 1, by simp, by omega, fun x h1 h2 => ⟨(hwb x h1 h2).1, edge08 (hwb x h1 h2).1 hL10 hr (hwb x h1 h2).2⟩⟩
        | 2, hi =>
          cases hi
          refine ⟨p, L - 4, by rw [show ((L - 4 : Nat) : Int) = (L : Int) - 4 by omega], by omega, fun x h1 h2 => ?_⟩
          have hnear : Near M x := ⟨hM9, by omega, by omega⟩
          exact ⟨hnear, stops08 hnear hL5 hL10⟩
        | n + 3, hi => cases hi
      clear hi
      refine ⟨_, rfl, rfl, ?_, ?_⟩
      · intro x hx
        simp only [List.mem_cons, List.not_mem_nil, or_false] at hx
        rcases hx with rfl | rfl <;> exact ⟨.inl rfl, trivial⟩
      have hup := Items_up (mid - 3) (mid + 4)
      rw [show (mid + 4 - (mid - 3)).toNat = 7 by omega] at hup
      have hin : ∀ n ∈ (List.range 7).map (fun i : Nat => mid - 3 + (i : Int)), Near M n := by
        intro n hn
        obtain ⟨j, hj, rfl⟩ := List.mem_map.mp hn
        have := List.mem_range.mp hj
        exact (hmid _ (by omega) (by omega)).1
      generalize hlist : ((List.range 7).map fun i : Nat => tolds M L T (mid - 3 + (i : Int))) = tls at *
      have hfm : ((((List.range 7).map fun i : Nat => mid - 3 + (i : Int)).filter fun _ => true).map (tolds M L T)) = tls := by
        rw [← hlist, List.filter_eq_self.mpr (fun _ _ => rfl), List.map_map]; rfl
      refine Ex_cons (ExS_compAssign [("M", .int M), ("L", .int (L : Int))] (fun _ => true) (tolds M L T) rfl ?_ rfl trivial)
      repeat walk_at "mw"
      refine ⟨_, hup, by simp, ⟨by walk_at "cap", fun n hn a => rfl, ?_⟩, ?_⟩
      · intro n hn _ a
        refine Ev_call (n := 2) rfl ?_ (Nat.le_refl _) (hg := ⟨_, f_ilog hg⟩)
        repeat walk_at "mw"
        exact c_ilog8 hg (hin n hn) (by omega) hL5 hL10 hf hf1 hf2 hT0 hT
      rw [hfm]
      have hlen7 : tls.length = 7 := by rw [← hlist]; simp
      have hsorted : tls.Pairwise (· ≤ ·) := by
        rw [← hlist]
        refine pw_range fun i hi => ?_
        obtain ⟨n1, R1, _, s1⟩ := hmid (mid - 3 + (i : Int)) (by omega) (by omega)
        obtain ⟨n2, R2, _, s2⟩ := hmid (mid - 3 + (i : Int) + 1) (by omega) (by omega)
        have e : mid - 3 + ((i + 1 : Nat) : Int) = mid - 3 + (i : Int) + 1 := by omega
        rw [e, tolds_eq s1, tolds_eq s2]
        exact mono08 n1 n2 hL5 hL10 hT0 hf2 hTl s1 s2
      have hget0 : tls[0]? = some (tolds M L T (mid - 3)) := by rw [← hlist]; simp
      have hget6 : tls[6]? = some (tolds M L T (mid + 3)) := by
        rw [← hlist]
        have : mid - 3 + ((6 : Nat) : Int) = mid + 3 := by omega
        simp [← this]
      refine Ex_cons (ExS_if ?_)
      repeat walk_at "mw"
      refine CallB_sorted (by omega) hsorted ?_
      repeat walk_at "mw"
      refine Cmp_neL ?_
      repeat walk_at "mw"
      refine ifD (fun h => absurd rfl h) (fun _ => ?_)
      refine Tsts_or_cons (Tst_cmp (Ev_comp [] (fun _ => false) (fun n => n) rfl ?_))
      repeat walk_at "mw"
      refine ⟨_, .lst _, by omega, ⟨by walk_at "cap", fun n hn a => ?_, fun n hn h a => by cases h⟩, ?_⟩
      · show Tst _ _ _ fun c => c = false
        repeat walk_at "mw"
        refine CallB_typeI ?_
        repeat walk_at "mw"
        refine Cmp_isnotT ?_
        repeat walk_at "mw"
        rfl
      rw [show (tls.filter fun _ => false).map (fun n => n) = [] by simp]
      repeat walk_at "mw"
      refine Cmp_neL (la := []) (lb := []) ?_
      repeat walk_at "mw"
      refine ExS_forT (nps := [(Str.ofString "x", _), (Str.ofString "one", _)]) rfl ?_
      repeat walk_at "mw"
      refine Ev_item (Ev_name rfl (Ev_const_int (Itm_list (by decide) (by decide) (av := .int (tolds M L T (mid - 3))) (by rw [List.getElem?_map]; show Option.map _ (tls[0]?) = _; rw [hget0]; rfl) ?_)))
      repeat walk_at "mw"
      refine Ev_item (Ev_name rfl (Ev_const_int (Itm_list (by decide) (by decide) (av := .int (tolds M L T (mid + 3))) (by rw [List.getElem?_map]; show Option.map _ (tls[6]?) = _; rw [hget6]; rfl) ?_)))
      repeat walk_at "mw"
      refine ⟨_, .tup _, fun _ S' => S' = s8B tls mid most M r L ns, ⟨s8B tls mid most M r L ns, by walk_at "le", rfl⟩, ?_, ?_⟩
      · rintro i S' av hi rfl
        obtain ⟨x, rfl, hx1, hx2⟩ : ∃ x : Int, av = .tup [.int x, .int (tolds M L T x)] ∧ mid - 3 ≤ x ∧ x ≤ mid + 3 := by
          match i, hi with
          | 0, hi => cases hi; exact ⟨_, rfl, by omega, by omega⟩
          | 1, hi => cases hi; exact ⟨_, rfl, by omega, by omega⟩
          | n + 2, hi => cases hi
        clear hi
        obtain ⟨hnear, R, hR, hS⟩ := hmid x hx1 hx2
        have hxup := hnear.up
        have hxdn := hnear.dn
        rw [tolds_eq hS]
        have hacc := fun K => acc08 (K := K) (most := most) hnear hL5 hL10 hT0 hf2 hTl hS hR
        have htb : intBits (told M x T R) ≤ 200 := by
          unfold told
          have hy30 := (near08 hnear R (by
            obtain ⟨R', h1, h2⟩ := stops08 hnear hL5 hL10
            have := hS.uniq h2; omega)).1
          have hd30 := dn_small (R := R) hy30
          refine dn_bits hM (Nat.le_trans (intBits_mul_le (hw_bits (j := T - 1) hM (by omega) hMb (by omega)) (lt_bits (Nat.lt_of_le_of_lt (show (ys M x R).natAbs ≤ M.natAbs by omega) (bits_lt hMb)))) (by decide))
        generalize told M x T R = one at *
        refine ⟨_, rfl, rfl, ?_, ?_⟩
        · intro y hy
          simp only [List.mem_cons, List.not_mem_nil, or_false] at hy
          rcases hy with rfl | rfl <;> exact ⟨.inl rfl, trivial⟩
        repeat walk_at "mw"
        refine Ev_call (n := 1) rfl ?_ (show 1 ≤ 2 by decide) (hg := f_log hg)
        repeat walk_at "mw"
        refine Bin_pow (by decide) (by decide) ?_
        rw [show (2 : Int) ^ (20 : Int).toNat = 1048576 from rfl]
        refine Bin_mul (IntMulOk.of_right (by decide)) ?_
        repeat walk_at "mw"
        have hscl : M * 1048576 < 2 ^ 110 := by
          have e3 : (2 : Int) ^ 110 = 2 ^ 80 * 1073741824 := by decide
          rw [e3]
          have := two_pos 80
          generalize (2 : Int) ^ 80 = U at *
          omega
        have hmaxb : intBits (max x M) ≤ 2000 := by
          refine Nat.le_trans (lt_bits (m := 100) ?_) (by decide)
          have h := bits_lt hMb
          have : (2 : Nat) ^ 81 * 2 ≤ 2 ^ 100 := by decide
          omega
        refine (c_log hg (B := 110) (by omega) (by omega) (by omega) (by omega) hscl (by decide) hmaxb).mono ?_
        rintro _ ⟨K, hK, hKe, rfl⟩
        have hp := hacc K (by omega) hKe
        refine ⟨_, _, rfl, ?_⟩
        generalize ls (max x M - min x M) (max x M + min x M) (M * 1048576) K = low at *
        refine Ex_cons (ExS_assign (Ev_cut (fun v => v = .int (1048576 * (if M < x then one else -one))) ?_ ?_) ⟨.inl rfl, trivial⟩)
        · repeat walk_at "mw"
          refine Bin_pow (by decide) (by decide) ?_
          rw [show (2 : Int) ^ (20 : Int).toNat = 1048576 from rfl]
          repeat walk_at "mw"
          refine ifD (fun h => ?_) (fun h => ?_)
          · repeat walk_at "mw"
            rw [if_pos h]
          · repeat walk_at "mw"
            rw [if_neg h]
        rintro _ rfl
        generalize (1048576 * (if M < x then one else -one)) = size at *
        refine Ex_cons (ExS_assign (Ev_cut (fun v => v = .int (1048576 * (54 + 53 * (most : Int)))) ?_ ?_) ⟨.inl rfl, trivial⟩)
        · repeat walk_at "mw"
          refine Bin_pow (by decide) (by decide) ?_
          rw [show (2 : Int) ^ (20 : Int).toNat = 1048576 from rfl]
          repeat walk_at "mw"
          rfl
        rintro _ rfl
        repeat walk_at "mw"
        refine ifD (fun h => by omega) (fun _ => ?_)
        repeat walk_at "mw"
        refine ifD (fun h => by omega) (fun _ => ?_)
        repeat walk_at "mw"
        exact ⟨s8B tls mid most M r L ns, by walk_at "le", rfl⟩
      · rintro S' rfl
        repeat walk_at "mw"
        exact ⟨s8A M r L ns, by walk_at "le", rfl⟩
    · rintro S' rfl
      repeat walk_at "mw"
      rfl
theorem holds08 : PySem.Challenge.rw_dm0263_08.Holds := hd (by
  k_fill
  intro w s₀ s₁ mg mb G Y fa o pm cd doc dV kV ho hd' hcd hD hmg hg args vals as hpre hlay hrd hwl hlo
  refine Ground.open G ?_
  intro T B D TE TW
  have KX := kIn_of Y
  wrow_args hpre hlay hrd hwl hlo
  rename_i ns _ _ hLay _ _ _ _ la vs _ hL _ _ _ hI _ hlen _
  have nob : ∀ x ∈ bltNames, mg x = none := by
    intro x hx
    simp only [bltNames, List.mem_cons, List.not_mem_nil, or_false] at hx
    rcases hx with rfl | rfl | rfl | rfl | rfl | rfl | rfl | rfl | rfl | rfl | rfl | rfl | rfl | rfl <;> exact T.free _ (by decide +kernel) (by decide +kernel) (by decide +kernel) (by decide +kernel) (by decide +kernel)
  refine law_go (l := PySem.Challenge.rw_dm0263_08) (g := ⟨_, w, _, _, _, mg, mb, (hd.heap_39 w.params).In, fun _ _ x k => Frag.In.keeps x k, rfl, by decide +kernel, ⟨_, T, KX⟩, nob⟩) rfl ⟨T, KX⟩ hg hmg hL hI (n := 3) (by decide) (c_law ⟨rfl, rfl⟩ (by omega)))
end Mine
theorem PySem.Challenge.cw_dm0263_08_holds : PySem.Challenge.rw_dm0263_08.Holds :=
  Mine.holds08
