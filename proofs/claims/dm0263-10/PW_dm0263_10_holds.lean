import PyProof.Rows.All
import Wide.All
import OpenK.AllK
import Wide.FinOn
import PyProof.NsDelKeeps
import PyProof.ExcFactsAll.ValueError
import PyProof.ExcStrAll.ValueError
import PyProof.ExcStrCall
import PyProof.FactsAll.tuple_2
import PySem.Challenge.RW_dm0263_10
set_option Elab.async false
set_option maxHeartbeats 4000000
set_option maxRecDepth 100000
set_option compiler.extract_closed false
namespace Mine
-- signs, told shortly
theorem nn6 {m : Rat} (h : 1000000 ≤ m) : 0 ≤ m := Rat.le_trans (by decide +kernel) h
theorem nn1 {m : Rat} (h : 1 ≤ m) : 0 ≤ m := Rat.le_trans (by decide +kernel) h
theorem nn2 {m : Rat} (h : 2 ≤ m) : 0 ≤ m := Rat.le_trans (by decide +kernel) h
theorem n2 {a : Rat} (ha : 0 ≤ a) : 0 ≤ 2 * a := Rat.mul_nonneg (by decide +kernel) ha
theorem n4 {a : Rat} (ha : 0 ≤ a) : 0 ≤ 4 * a := Rat.mul_nonneg (by decide +kernel) ha
theorem n1s {a : Rat} (ha : a ≤ 1) : 0 ≤ 1 - a := by have := (Rat.le_iff_sub_nonneg a 1).mp ha; exact this
theorem n1p {a : Rat} (ha : 0 ≤ a) : 0 ≤ 1 + a := Rat.add_nonneg (by decide +kernel) ha
theorem sb {a b : Rat} (h : b ≤ a) : 0 ≤ a - b := (Rat.le_iff_sub_nonneg b a).mp h
theorem ad {a b : Rat} (h : -a ≤ b) : 0 ≤ a + b := by grind
theorem ad' {a b : Rat} (h : -b ≤ a) : 0 ≤ a + b := by grind
open PySem PySem.W PyProof.Rows

noncomputable abbrev StIn (h h' : Heap) : Prop := ∀ b o, h.get? b = some o → h'.get? b = some o

theorem StIn.refl (h : Heap) : StIn h h := fun _ _ e => e
theorem StIn.trans {a b c : Heap} (x : StIn a b) (y : StIn b c) : StIn a c := fun p o e => y p o (x p o e)
theorem StIn.push (h : Heap) (o : Obj) : StIn h (h.push o) := fun _ _ e => Heap.get?_push_of_some o e

inductive AV where
  | int (i : Int)
  | bool (b : Bool)
  | none
  | str (s : Str)
  | ty (n : String)
  | bi (n : String)
  | raw (v : Value)
  | rng (a b c : Int)
  | tup (l : List AV)
  | lst (l : List AV)

mutual
noncomputable def RelV (X : List Addr) (h : Heap) : AV → Value → Prop
  | .int i, v => ∃ t, v = .int i t
  | .bool b, v => v = .bool b
  | .none, v => v = .none
  | .str s, v => ∃ t, v = .str s t
  | .ty n, v => v = .type n
  | .bi n, v => v = .builtin n
  | .raw w, v => v = w
  | .rng a b c, v => ∃ r t u w, v = .ref r ∧ IsRange h r a b c t u w
  | .tup l, v => ∃ a vs, v = .ref a ∧ h.IsTuple a vs.toArray ∧ RelVs X h l vs
  | .lst l, v => ∃ a vs, v = .ref a ∧ a ∉ X ∧ h.IsList a vs.toArray ∧ RelVs X h l vs
noncomputable def RelVs (X : List Addr) (h : Heap) : List AV → List Value → Prop
  | [], vs => vs = []
  | a :: l, vs => ∃ v r, vs = v :: r ∧ RelV X h a v ∧ RelVs X h l r
end

noncomputable def isVal (o : Obj) : Prop := (∃ xs n, o.data = .seq xs n) ∨ (o.cls = .type "range" ∧ ∃ fs, o.data = .fields fs)

mutual
theorem RelV.mono {X Y : List Addr} {h h' : Heap} (hk : ∀ a o, a ∉ X → isVal o → h.get? a = some o → h'.get? a = some o) (htup : ∀ a o, isVal o → o.cls ≠ .type "list" → h.get? a = some o → h'.get? a = some o) (hY : ∀ p, p ∈ Y → p ∈ X) : (av : AV) → (v : Value) → RelV X h av v → RelV Y h' av v
  | .int _, _, r => r
  | .bool _, _, r => r
  | .none, _, r => r
  | .str _, _, r => r
  | .ty _, _, r => r
  | .bi _, _, r => r
  | .raw _, _, r => r
  | .rng _ _ _, _, q => by
    obtain ⟨r, t, u, w, e, hr⟩ := q
    exact ⟨r, t, u, w, e, htup _ _ (.inr ⟨rfl, _, rfl⟩) (show Value.type "range" ≠ Value.type "list" by decide) hr⟩
  | .tup l, _, q => by
    obtain ⟨a, vs, e, ⟨o, ho, hc, n, hd⟩, rr⟩ := q
    exact ⟨a, vs, e, ⟨o, htup a o (.inl ⟨_, n, hd⟩) (by rw [hc]; decide) ho, hc, n, hd⟩, RelVs.mono hk htup hY l vs rr⟩
  | .lst l, _, q => by
    obtain ⟨a, vs, e, hx, ⟨o, ho, hc, n, hd⟩, rr⟩ := q
    exact ⟨a, vs, e, fun q => hx (hY a q), ⟨o, hk a o hx (.inl ⟨_, n, hd⟩) ho, hc, n, hd⟩, RelVs.mono hk htup hY l vs rr⟩
theorem RelVs.mono {X Y : List Addr} {h h' : Heap} (hk : ∀ a o, a ∉ X → isVal o → h.get? a = some o → h'.get? a = some o) (htup : ∀ a o, isVal o → o.cls ≠ .type "list" → h.get? a = some o → h'.get? a = some o) (hY : ∀ p, p ∈ Y → p ∈ X) : (l : List AV) → (vs : List Value) → RelVs X h l vs → RelVs Y h' l vs
  | [], _, r => r
  | a :: l, _, ⟨v, r, e, h1, h2⟩ => ⟨v, r, e, RelV.mono hk htup hY a v h1, RelVs.mono hk htup hY l r h2⟩
end

structure VKeep (X : List Addr) (h h' : Heap) : Prop where
  off : ∀ a o, a ∉ X → isVal o → h.get? a = some o → h'.get? a = some o
  imm : ∀ a o, isVal o → o.cls ≠ .type "list" → h.get? a = some o → h'.get? a = some o

theorem VKeep.of (X : List Addr) {h h' : Heap} (x : StIn h h') : VKeep X h h' := ⟨fun a o _ _ e => x a o e, fun a o _ _ e => x a o e⟩
theorem VKeep.refl (X : List Addr) (h : Heap) : VKeep X h h := .of X (StIn.refl h)
theorem VKeep.trans {X : List Addr} {a b c : Heap} (x : VKeep X a b) (y : VKeep X b c) : VKeep X a c := ⟨fun p o hp hv e => y.off p o hp hv (x.off p o hp hv e), fun p o hv hc e => y.imm p o hv hc (x.imm p o hv hc e)⟩
theorem VKeep.sub {X Y : List Addr} {a b : Heap} (x : VKeep X a b) (hs : ∀ p, p ∈ X → p ∈ Y) : VKeep Y a b := ⟨fun p o hp hv e => x.off p o (fun q => hp (hs p q)) hv e, x.imm⟩

theorem RelV.keep {X : List Addr} {h h' : Heap} {av : AV} {v : Value} (r : RelV X h av v) (k : VKeep X h h') : RelV X h' av v := RelV.mono k.off k.imm (fun _ q => q) av v r
theorem RelVs.keep {X : List Addr} {h h' : Heap} {l : List AV} {vs : List Value} (r : RelVs X h l vs) (k : VKeep X h h') : RelVs X h' l vs := RelVs.mono k.off k.imm (fun _ q => q) l vs r
theorem RelV.st {X : List Addr} {h h' : Heap} {av : AV} {v : Value} (r : RelV X h av v) (k : StIn h h') : RelV X h' av v := r.keep (.of X k)
theorem RelVs.st {X : List Addr} {h h' : Heap} {l : List AV} {vs : List Value} (r : RelVs X h l vs) (k : StIn h h') : RelVs X h' l vs := r.keep (.of X k)
theorem RelV.less {X Y : List Addr} {h : Heap} {av : AV} {v : Value} (r : RelV X h av v) (hs : ∀ p, p ∈ Y → p ∈ X) : RelV Y h av v := RelV.mono (fun _ _ _ _ e => e) (fun _ _ _ _ e => e) hs av v r
theorem RelVs.length {X : List Addr} {h : Heap} : ∀ {l : List AV} {vs : List Value}, RelVs X h l vs → vs.length = l.length
  | [], _, r => by rw [show _ = [] from r]; rfl
  | _ :: l, _, ⟨v, r, e, _, h2⟩ => by rw [e, List.length_cons, List.length_cons, h2.length]
theorem RelVs.get {X : List Addr} {h : Heap} : ∀ {l : List AV} {vs : List Value} (_ : RelVs X h l vs) (i : Nat) (a : AV), l[i]? = some a → ∃ v, vs[i]? = some v ∧ RelV X h a v
  | b :: l, _, ⟨v, r, e, h1, h2⟩, 0, a, hi => by
    have : b = a := by simpa using hi
    exact ⟨v, by rw [e]; rfl, this ▸ h1⟩
  | b :: l, _, ⟨v, r, e, h1, h2⟩, i + 1, a, hi => by
    obtain ⟨v', hv', hr⟩ := h2.get i a (by simpa using hi)
    exact ⟨v', by rw [e]; simpa using hv', hr⟩
theorem RelVs.append {X : List Addr} {h : Heap} : ∀ {l l' : List AV} {vs vs' : List Value}, RelVs X h l vs → RelVs X h l' vs' → RelVs X h (l ++ l') (vs ++ vs')
  | [], _, _, _, r, r' => by rw [show _ = [] from r]; exact r'
  | _ :: l, _, _, _, ⟨v, r, e, h1, h2⟩, r' => ⟨v, r ++ _, by rw [e]; rfl, h1, h2.append r'⟩
noncomputable def bltNames : List Str := ["abs", "len", "divmod", "isinstance", "range", "sum", "min", "max", "str", "int", "bool", "sorted", "type", "ValueError"]
structure GX where
  prog : Program
  w : World
  p : Program
  loose : List Str
  mean : ExcName → Option Value
  mg : Str → Option Value
  mb : Str → Option Value
  ex : Heap → Prop
  exm : ∀ h h', ex h → StIn h h' → ex h'
  tree : prog.given.tree = none
  noimp : importsNone p = true
  inh : ∃ h, Top p loose mean mg mb h ∧ ex h
  nob : ∀ x ∈ bltNames, mg x = none

structure PG (g : GX) (h : Heap) : Prop where
  top : Top g.p g.loose g.mean g.mg g.mb h
  ex : g.ex h
theorem PG.st {g : GX} {h h' : Heap} (x : PG g h) (k : StIn h h') : PG g h' := ⟨x.top.keeps k, g.exm _ _ x.ex k⟩

structure Room (A : Around) (n : Nat) : Prop where
  hh : A.handled = none
  depth : A.depth + n + 110 < recursionLimit
  units : A.units + 16 * n + 100 < cLine
  fr : ∃ l, A.frames = some l
theorem Room.le {A : Around} {n k : Nat} (x : Room A n) (hk : k ≤ n) : Room A k := ⟨x.hh, by have := x.depth; omega, by have := x.units; omega, x.fr⟩

structure CX where
  g : GX
  A : Around
  env : Env
  n : Nat

structure CX.Ok (C : CX) : Prop where
  room : Room C.A C.n
  kind : C.env.scope.kind = .function
  glob : C.env.globals = mainGlobals
  blt : C.env.builtins = builtinsNs
  seer : ∃ e l, C.A.frames = some (e :: l) ∧ e.scope.isGenerator = false ∧ e.scope.isCoroutine = false ∧ e.builtins = builtinsNs ∧ e.globals = mainGlobals

theorem CX.Ok.pylong {C : CX} (k : C.Ok) {s : Shared} (p : PG C.g s.heap) : PylongRoom (model C.g.prog C.g.w) C.A s := by
  obtain ⟨e, l, h1, h2, h3, h4, h5⟩ := k.seer
  refine PylongRoom.of p.top.nolimit ?_ (SeerAt.of (p.top.seer C.g.noimp) C.g.tree h1 h2 h3 h4 h5)
  have := k.room.depth
  show C.A.depth + 100 < recursionLimit
  omega

noncomputable def Rd (env : Env) (h : Heap) (x : Str) (v : Value) : Prop :=
  (env.kindOf x = some .local ∧ ∃ m, h.Ns env.locals m ∧ m x = some v) ∨ ((env.kindOf x = some .cell ∨ env.kindOf x = some .free) ∧ ∃ c, env.cells.lookup x = some c ∧ h.IsCell c (some v))
theorem Rd.st {env : Env} {h h' : Heap} {x : Str} {v : Value} (r : Rd env h x v) (k : StIn h h') : Rd env h' x v := by
  rcases r with ⟨hl, m, hn, hv⟩ | ⟨hl, c, hc, hv⟩
  · exact .inl ⟨hl, m, hn.keeps k, hv⟩
  · exact .inr ⟨hl, c, hc, hv.keeps k⟩

noncomputable abbrev AM := List (Str × AV)
structure AS where
  vs : AM
  own : Option (Str × List AV) := none

noncomputable def RelE (env : Env) (X : List Addr) (h : Heap) (S : AM) : Prop := ∀ x av, S.lookup x = some av → ∃ v, Rd env h x v ∧ RelV X h av v
theorem RelE.st {env : Env} {X : List Addr} {h h' : Heap} {S : AM} (r : RelE env X h S) (k : StIn h h') : RelE env X h' S := fun x av e => let ⟨v, h1, h2⟩ := r x av e; ⟨v, h1.st k, h2.st k⟩

structure OwnAt (env : Env) (X : List Addr) (h : Heap) (x : Str) (l : List AV) (b : Addr) (vs : List Value) : Prop where
  rd : Rd env h x (.ref b)
  inX : b ∈ X
  lst : h.PlainList b vs.toArray
  rel : RelVs X h l vs
theorem OwnAt.st {env : Env} {X : List Addr} {h h' : Heap} {x : Str} {l : List AV} {b : Addr} {vs : List Value} (r : OwnAt env X h x l b vs) (k : StIn h h') : OwnAt env X h' x l b vs :=
  ⟨r.rd.st k, r.inX, r.lst.at fun o e => k b o e, r.rel.st k⟩

noncomputable def RelS (env : Env) (X : List Addr) (h : Heap) (S : AS) : Prop := RelE env X h S.vs ∧ ∀ x l, S.own = some (x, l) → ∃ b vs, OwnAt env X h x l b vs
theorem RelS.st {env : Env} {X : List Addr} {h h' : Heap} {S : AS} (r : RelS env X h S) (k : StIn h h') : RelS env X h' S := ⟨r.1.st k, fun x l e => let ⟨b, vs, h1⟩ := r.2 x l e; ⟨b, vs, h1.st k⟩⟩

noncomputable def XIn (X : List Addr) (h : Heap) : Prop := ∀ a ∈ X, (h.get? a).isSome = true
theorem XIn.st {X : List Addr} {h h' : Heap} (x : XIn X h) (k : StIn h h') : XIn X h' := fun a ha => by
  obtain ⟨o, ho⟩ := Option.isSome_iff_exists.mp (x a ha)
  rw [k a o ho]; rfl
structure Ev (C : CX) (S : AS) (e : Expr) (Φ : AV → Prop) : Prop where
  go : C.Ok → ∀ (X : List Addr) (s : Shared) (Q : Value → Shared → Prop) (E : Value → Shared → Prop), PG C.g s.heap → XIn X s.heap → RelS C.env X s.heap S →
    (∀ av v h' tk, StIn s.heap h' → RelV X h' av v → Φ av → Q v { s with heap := h', toks := tk }) → wpAny (model C.g.prog C.g.w) C.A (eval e C.env) Q E s

structure Evs (C : CX) (S : AS) (es : List Expr) (Φ : List AV → Prop) : Prop where
  go : C.Ok → ∀ (pos : Pos) (X : List Addr) (s : Shared) (Q : List Value → Shared → Prop) (E : Value → Shared → Prop), PG C.g s.heap → XIn X s.heap → RelS C.env X s.heap S →
    (∀ avs vs h' tk, StIn s.heap h' → RelVs X h' avs vs → avs.length = es.length → Φ avs → Q vs { s with heap := h', toks := tk }) → wpAny (model C.g.prog C.g.w) C.A (spliced (backTo pos (starEach es C.env))) Q E s

structure Tst (C : CX) (S : AS) (e : Expr) (Φ : Bool → Prop) : Prop where
  go : C.Ok → ∀ (X : List Addr) (s : Shared) (Q : Bool → Shared → Prop) (E : Value → Shared → Prop), PG C.g s.heap → XIn X s.heap → RelS C.env X s.heap S →
    (∀ b h' tk, StIn s.heap h' → Φ b → Q b { s with heap := h', toks := tk }) → wpAny (model C.g.prog C.g.w) C.A (isTrue e C.env (eval e C.env)) Q E s

structure CallsV (g : GX) (n : Nat) (f : Value) (args : List AV) (Φ : AV → Prop) : Prop where
  go : ∀ (A : Around) (X : List Addr) (s : Shared) (vs : List Value) (Q : Value → Shared → Prop) (E : Value → Shared → Prop), Room A n → PG g s.heap → XIn X s.heap → RelVs X s.heap args vs →
    (∀ av v h' tk, StIn s.heap h' → RelV X h' av v → Φ av → Q v { s with heap := h', toks := tk }) → wpAny (model g.prog g.w) A (call f vs) Q E s

theorem Ev.mono {C : CX} {S : AS} {e : Expr} {Φ Ψ : AV → Prop} (x : Ev C S e Φ) (h : ∀ a, Φ a → Ψ a) : Ev C S e Ψ :=
  ⟨fun ok X s Q E p xi r k => x.go ok X s Q E p xi r fun av v h' tk a b c => k av v h' tk a b (h _ c)⟩
theorem Tst.mono {C : CX} {S : AS} {e : Expr} {Φ Ψ : Bool → Prop} (x : Tst C S e Φ) (h : ∀ a, Φ a → Ψ a) : Tst C S e Ψ :=
  ⟨fun ok X s Q E p xi r k => x.go ok X s Q E p xi r fun b h' tk a c => k b h' tk a (h _ c)⟩
variable {C : CX} {S : AS} {Φ : AV → Prop}

structure Bin (C : CX) (op : Operator) (a b : AV) (Φ : AV → Prop) : Prop where
  go : C.Ok → ∀ (X : List Addr) (s : Shared) (va vb : Value) (Q : Value → Shared → Prop) (E : Value → Shared → Prop), PG C.g s.heap → XIn X s.heap → RelV X s.heap a va → RelV X s.heap b vb →
    (∀ av v h' tk, StIn s.heap h' → RelV X h' av v → Φ av → Q v { s with heap := h', toks := tk }) → wpAny (model C.g.prog C.g.w) C.A (binaryOp op va vb) Q E s
structure IBin (C : CX) (op : Operator) (a b : AV) (Φ : AV → Prop) : Prop where
  go : C.Ok → ∀ (X : List Addr) (s : Shared) (va vb : Value) (Q : Value → Shared → Prop) (E : Value → Shared → Prop), PG C.g s.heap → XIn X s.heap → RelV X s.heap a va → RelV X s.heap b vb →
    (∀ av v h' tk, StIn s.heap h' → RelV X h' av v → Φ av → Q v { s with heap := h', toks := tk }) → wpAny (model C.g.prog C.g.w) C.A (inplaceOp op va vb) Q E s
structure Una (C : CX) (op : UnaryOp) (a : AV) (Φ : AV → Prop) : Prop where
  go : C.Ok → ∀ (X : List Addr) (s : Shared) (va : Value) (Q : Value → Shared → Prop) (E : Value → Shared → Prop), PG C.g s.heap → XIn X s.heap → RelV X s.heap a va →
    (∀ av v h' tk, StIn s.heap h' → RelV X h' av v → Φ av → Q v { s with heap := h', toks := tk }) → wpAny (model C.g.prog C.g.w) C.A (unaryOp op va) Q E s
structure Cmp (C : CX) (op : CmpOp) (a b : AV) (Φ : AV → Prop) : Prop where
  go : C.Ok → ∀ (X : List Addr) (s : Shared) (va vb : Value) (Q : Value → Shared → Prop) (E : Value → Shared → Prop), PG C.g s.heap → XIn X s.heap → RelV X s.heap a va → RelV X s.heap b vb →
    (∀ av v h' tk, StIn s.heap h' → RelV X h' av v → Φ av → Q v { s with heap := h', toks := tk }) → wpAny (model C.g.prog C.g.w) C.A (compareOp op va vb) Q E s
structure Trt (C : CX) (a : AV) (Φ : Bool → Prop) : Prop where
  go : C.Ok → ∀ (X : List Addr) (s : Shared) (va : Value) (Q : Bool → Shared → Prop) (E : Value → Shared → Prop), PG C.g s.heap → XIn X s.heap → RelV X s.heap a va →
    (∀ b h' tk, StIn s.heap h' → Φ b → Q b { s with heap := h', toks := tk }) → wpAny (model C.g.prog C.g.w) C.A (truthy va) Q E s
structure CallB (C : CX) (f : Value) (args : List AV) (Φ : AV → Prop) : Prop where
  go : C.Ok → ∀ (X : List Addr) (s : Shared) (vs : List Value) (Q : Value → Shared → Prop) (E : Value → Shared → Prop), PG C.g s.heap → XIn X s.heap → RelVs X s.heap args vs →
    (∀ av v h' tk, StIn s.heap h' → RelV X h' av v → Φ av → Q v { s with heap := h', toks := tk }) → wpAny (model C.g.prog C.g.w) C.A (call f vs) Q E s

theorem Ev_bin {l r : Expr} {op : Operator} {pos : Pos} (h : Ev C S l fun a => Ev C S r fun b => Bin C op a b Φ) : Ev C S (.BinOp l op r pos) Φ := by
  refine ⟨fun ok X s Q E p xi rs k => ?_⟩
  refine wpAny_BinOp (h.go ok X s _ E p xi rs fun a va h₁ t₁ st₁ ra hb => ?_)
  refine hb.go ok X _ _ E (p.st st₁) (xi.st st₁) (rs.st st₁) fun b vb h₂ t₂ st₂ rb hc => ?_
  exact hc.go ok X _ va vb Q E ((p.st st₁).st st₂) ((xi.st st₁).st st₂) (ra.st st₂) rb fun av v h' tk st r φ => k av v h' tk (st₁.trans (st₂.trans st)) r φ

theorem Ev_una {e : Expr} {op : UnaryOp} {pos : Pos} (h : Ev C S e fun a => Una C op a Φ) : Ev C S (.UnaryOp op e pos) Φ := by
  refine ⟨fun ok X s Q E p xi rs k => ?_⟩
  refine wpAny_UnaryOp (h.go ok X s _ E p xi rs fun a va h₁ t₁ st₁ ra hb => ?_)
  exact hb.go ok X _ va Q E (p.st st₁) (xi.st st₁) ra fun av v h' tk st r φ => k av v h' tk (st₁.trans st) r φ

theorem Ev_cmp {l r : Expr} {op : CmpOp} {pos : Pos} (h : Ev C S l fun a => Ev C S r fun b => Cmp C op a b Φ) (hm : behindInMarks op r = false := by with_unfolding_all rfl) : Ev C S (.Compare l [op] [r] pos) Φ := by
  refine ⟨fun ok X s Q E p xi rs k => ?_⟩
  refine wpAny_Compare1 (h.go ok X s _ E p xi rs fun a va h₁ t₁ st₁ ra hb => ?_) hm
  refine hb.go ok X _ _ E (p.st st₁) (xi.st st₁) (rs.st st₁) fun b vb h₂ t₂ st₂ rb hc => ?_
  exact hc.go ok X _ va vb Q E ((p.st st₁).st st₂) ((xi.st st₁).st st₂) (ra.st st₂) rb fun av v h' tk st r φ => k av v h' tk (st₁.trans (st₂.trans st)) r φ

theorem Tst_cmp {l r : Expr} {op : CmpOp} {pos : Pos} {Φ : Bool → Prop} (h : Ev C S l fun a => Ev C S r fun b => Cmp C op a b fun c => Trt C c Φ) (hm : behindInMarks op r = false := by with_unfolding_all rfl) : Tst C S (.Compare l [op] [r] pos) Φ := by
  refine ⟨fun ok X s Q E p xi rs k => ?_⟩
  refine wpAny_isTrue_Compare1 (h.go ok X s _ E p xi rs fun a va h₁ t₁ st₁ ra hb => ?_) hm
  refine hb.go ok X _ _ E (p.st st₁) (xi.st st₁) (rs.st st₁) fun b vb h₂ t₂ st₂ rb hc => ?_
  refine hc.go ok X _ va vb _ E ((p.st st₁).st st₂) ((xi.st st₁).st st₂) (ra.st st₂) rb fun c vc h₃ t₃ st₃ rc hd => ?_
  exact hd.go ok X _ vc Q E (((p.st st₁).st st₂).st st₃) (((xi.st st₁).st st₂).st st₃) rc fun b h' tk st φ => k b h' tk (st₁.trans (st₂.trans (st₃.trans st))) φ

theorem Ev_const_int {i : Int} {k : Nat} {pos : Pos} (h : Φ (.int i)) : Ev C S (.Constant (.int i) k pos) Φ :=
  ⟨fun _ _ s _ _ _ _ _ k => wpAny_Constant_int (k (.int i) _ s.heap _ (StIn.refl _) ⟨_, rfl⟩ h)⟩
theorem Ev_const_bool {b : Bool} {k : Nat} {pos : Pos} (h : Φ (.bool b)) : Ev C S (.Constant (.bool b) k pos) Φ :=
  ⟨fun _ _ s _ _ _ _ _ k => wpAny_Constant_bool (k (.bool b) _ s.heap s.toks (StIn.refl _) rfl h)⟩
theorem Ev_const_str {x : Str} {k : Nat} {pos : Pos} (h : Φ (.str x)) : Ev C S (.Constant (.str x) k pos) Φ :=
  ⟨fun _ _ s _ _ _ _ _ k => wpAny_Constant_str (k (.str x) _ s.heap _ (StIn.refl _) ⟨_, rfl⟩ h)⟩

theorem load_rd {M : Model} {A : Around} {env : Env} {x : Str} {v : Value} {s : Shared} {Q : Value → Shared → Prop} {E : Value → Shared → Prop} (hk : env.scope.kind = .function) (r : Rd env s.heap x v) (h : Q v s)
    (hn : (x == ("__classdict__" : Str)) = false) : wpAny M A (loadName env x) Q E s := by
  rcases r with ⟨hl, m, hns, hv⟩ | ⟨hl | hl, c, hc, hv⟩
  · exact wpAny_loadName_local hk hl hns hv h
  · exact wpAny_loadName_cell hk hl hc hv h
  · exact wpAny_loadName_free hk hl hc hv h hn

theorem Ev_name {x : Str} {pos : Pos} {av : AV} (hx : S.vs.lookup x = some av) (h : Φ av) (hd : (x == ("__debug__" : Str)) = false := by decide) (hn : (x == ("__classdict__" : Str)) = false := by decide) : Ev C S (.Name x pos) Φ := by
  refine ⟨fun ok X s Q E p xi rs k => ?_⟩
  obtain ⟨v, hr, hv⟩ := rs.1 x av hx
  exact wpAny_Name (load_rd ok.kind hr (k av v s.heap s.toks (StIn.refl _) hv h) hn) hd

theorem Ev_ifexp {t a b : Expr} {pos : Pos} (h : Tst C S t fun c => if c then Ev C S a Φ else Ev C S b Φ) : Ev C S (.IfExp t a b pos) Φ := by
  refine ⟨fun ok X s Q E p xi rs k => ?_⟩
  refine wpAny_IfExp (h.go ok X s _ E p xi rs fun c h₁ t₁ st₁ φ => ?_)
  cases c with
  | true => exact φ.go ok X _ Q E (p.st st₁) (xi.st st₁) (rs.st st₁) fun av v h' tk st r ψ => k av v h' tk (st₁.trans st) r ψ
  | false => exact φ.go ok X _ Q E (p.st st₁) (xi.st st₁) (rs.st st₁) fun av v h' tk st r ψ => k av v h' tk (st₁.trans st) r ψ

theorem Evs_nil {Φ : List AV → Prop} (h : Φ []) : Evs C S [] Φ := ⟨fun _ _ _ s _ _ _ _ _ k => wpAny_items_nil (k [] [] s.heap s.toks (StIn.refl _) rfl rfl h)⟩
theorem Evs_cons {e : Expr} {es : List Expr} {Φ : List AV → Prop} (h : Ev C S e fun a => Evs C S es fun l => Φ (a :: l))
    (he : starEach (e :: es) C.env = (false, eval e C.env) :: starEach es C.env := by rfl) : Evs C S (e :: es) Φ := by
  refine ⟨fun ok pos X s Q E p xi rs k => ?_⟩
  refine wpAny_items_cons (h.go ok X s _ E p xi rs fun a va h₁ t₁ st₁ ra hb => ?_) he
  exact hb.go ok pos X _ _ E (p.st st₁) (xi.st st₁) (rs.st st₁) fun avs vs h₂ t₂ st₂ rb hl φ => k (a :: avs) (va :: vs) h₂ t₂ (st₁.trans st₂) ⟨va, vs, rfl, ra.st st₂, rb⟩ (by rw [List.length_cons, List.length_cons, hl]) φ

-- tests
structure Tsts (C : CX) (S : AS) (op : BoolOp) (es : List Expr) (Φ : Bool → Prop) : Prop where
  go : C.Ok → ∀ (X : List Addr) (s : Shared) (Q : Bool → Shared → Prop) (E : Value → Shared → Prop), PG C.g s.heap → XIn X s.heap → RelS C.env X s.heap S →
    (∀ b h' tk, StIn s.heap h' → Φ b → Q b { s with heap := h', toks := tk }) → wpAny (model C.g.prog C.g.w) C.A (allTrue op es C.env) Q E s
theorem Tst_boolop {op : BoolOp} {es : List Expr} {pos : Pos} {Φ : Bool → Prop} (h : Tsts C S op es Φ) : Tst C S (.BoolOp op es pos) Φ :=
  ⟨fun ok X s Q E p xi rs k => wpAny_isTrue_BoolOp (h.go ok X s Q E p xi rs k)⟩
theorem Tsts_and_nil {Φ : Bool → Prop} (h : Φ true) : Tsts C S .And [] Φ := ⟨fun _ _ s _ _ _ _ _ k => wpAny_allTrue_And_nil (k true s.heap s.toks (StIn.refl _) h)⟩
theorem Tsts_or_nil {Φ : Bool → Prop} (h : Φ false) : Tsts C S .Or [] Φ := ⟨fun _ _ s _ _ _ _ _ k => wpAny_allTrue_Or_nil (k false s.heap s.toks (StIn.refl _) h)⟩
theorem Tsts_and_cons {e : Expr} {es : List Expr} {Φ : Bool → Prop} (h : Tst C S e fun b => if b then Tsts C S .And es Φ else Φ false) : Tsts C S .And (e :: es) Φ := by
  refine ⟨fun ok X s Q E p xi rs k => ?_⟩
  refine wpAny_allTrue_And_cons (h.go ok X s _ E p xi rs fun b h₁ t₁ st₁ φ => ?_)
  cases b with
  | false => exact k false h₁ t₁ st₁ φ
  | true => exact φ.go ok X _ Q E (p.st st₁) (xi.st st₁) (rs.st st₁) fun b h' tk st ψ => k b h' tk (st₁.trans st) ψ
theorem Tsts_or_cons {e : Expr} {es : List Expr} {Φ : Bool → Prop} (h : Tst C S e fun b => if b then Φ true else Tsts C S .Or es Φ) : Tsts C S .Or (e :: es) Φ := by
  refine ⟨fun ok X s Q E p xi rs k => ?_⟩
  refine wpAny_allTrue_Or_cons (h.go ok X s _ E p xi rs fun b h₁ t₁ st₁ φ => ?_)
  cases b with
  | true => exact k true h₁ t₁ st₁ φ
  | false => exact φ.go ok X _ Q E (p.st st₁) (xi.st st₁) (rs.st st₁) fun b h' tk st ψ => k b h' tk (st₁.trans st) ψ
-- and, or as values, of two
theorem Trt_bool {b : Bool} {Φ : Bool → Prop} (h : Φ b) : Trt C (.bool b) Φ := by
  refine ⟨fun _ _ s va _ _ _ _ r k => ?_⟩
  obtain rfl : va = .bool b := r
  exact wpAny_truthy_bool (k b s.heap s.toks (StIn.refl _) h)
-- ints
section
variable {a b : Int}
theorem Bin_add (h : Φ (.int (a + b))) : Bin C .Add (.int a) (.int b) Φ := by
  refine ⟨fun _ _ s va vb _ _ _ _ ra rb k => ?_⟩
  obtain ⟨t, rfl⟩ : ∃ t, va = .int a t := ra
  obtain ⟨u, rfl⟩ : ∃ t, vb = .int b t := rb
  exact PyProof.Rows.add_int (k (.int _) _ s.heap _ (StIn.refl _) ⟨_, rfl⟩ h)
theorem Bin_sub (h : Φ (.int (a - b))) : Bin C .Sub (.int a) (.int b) Φ := by
  refine ⟨fun _ _ s va vb _ _ _ _ ra rb k => ?_⟩
  obtain ⟨t, rfl⟩ : ∃ t, va = .int a t := ra
  obtain ⟨u, rfl⟩ : ∃ t, vb = .int b t := rb
  exact PyProof.Rows.sub_int' (k (.int _) _ s.heap _ (StIn.refl _) ⟨_, rfl⟩ h)
theorem Bin_mul (hm : IntMulOk a b) (h : Φ (.int (a * b))) : Bin C .Mult (.int a) (.int b) Φ := by
  refine ⟨fun _ _ s va vb _ _ _ _ ra rb k => ?_⟩
  obtain ⟨t, rfl⟩ : ∃ t, va = .int a t := ra
  obtain ⟨u, rfl⟩ : ∃ t, vb = .int b t := rb
  exact PyProof.Rows.mul_int (k (.int _) _ s.heap _ (StIn.refl _) ⟨_, rfl⟩ h) hm
theorem Bin_fdiv (hb : b ≠ 0) (h : Φ (.int (a.fdiv b))) : Bin C .FloorDiv (.int a) (.int b) Φ := by
  refine ⟨fun ok _ s va vb _ _ p _ ra rb k => ?_⟩
  obtain ⟨t, rfl⟩ : ∃ t, va = .int a t := ra
  obtain ⟨u, rfl⟩ : ∃ t, vb = .int b t := rb
  exact PyProof.Rows.floordiv_int hb (k (.int _) _ s.heap _ (StIn.refl _) ⟨_, rfl⟩ h) (.inr (ok.pylong p))
theorem Bin_mod (hb : b ≠ 0) (h : Φ (.int (a.fmod b))) : Bin C .Mod (.int a) (.int b) Φ := by
  refine ⟨fun ok _ s va vb _ _ p _ ra rb k => ?_⟩
  obtain ⟨t, rfl⟩ : ∃ t, va = .int a t := ra
  obtain ⟨u, rfl⟩ : ∃ t, vb = .int b t := rb
  exact PyProof.Rows.mod_int' hb (k (.int _) _ s.heap _ (StIn.refl _) ⟨_, rfl⟩ h)
theorem Bin_pow (hn : 0 ≤ b) (hsz : (Builtin.Int.intBits a : Int) * b ≤ 2 ^ 27) (h : Φ (.int (a ^ b.toNat))) : Bin C .Pow (.int a) (.int b) Φ := by
  refine ⟨fun ok _ s va vb _ _ p _ ra rb k => ?_⟩
  obtain ⟨t, rfl⟩ : ∃ t, va = .int a t := ra
  obtain ⟨u, rfl⟩ : ∃ t, vb = .int b t := rb
  exact PyProof.Rows.pow_int hn hsz (k (.int _) _ s.heap _ (StIn.refl _) ⟨_, rfl⟩ h)
theorem Bin_shl (hn : 0 ≤ b) (hsz : (Builtin.Int.intBits a : Int) + b ≤ 2 ^ 27) (h : Φ (.int (a * 2 ^ b.toNat))) : Bin C .LShift (.int a) (.int b) Φ := by
  refine ⟨fun ok _ s va vb _ _ p _ ra rb k => ?_⟩
  obtain ⟨t, rfl⟩ : ∃ t, va = .int a t := ra
  obtain ⟨u, rfl⟩ : ∃ t, vb = .int b t := rb
  exact PyProof.Rows.lshift_int hn hsz (k (.int _) _ s.heap _ (StIn.refl _) ⟨_, rfl⟩ h)
theorem Bin_shr (hn : 0 ≤ b) (h : Φ (.int (a.fdiv (2 ^ b.toNat)))) : Bin C .RShift (.int a) (.int b) Φ := by
  refine ⟨fun ok _ s va vb _ _ p _ ra rb k => ?_⟩
  obtain ⟨t, rfl⟩ : ∃ t, va = .int a t := ra
  obtain ⟨u, rfl⟩ : ∃ t, vb = .int b t := rb
  exact PyProof.Rows.rshift_int hn (k (.int _) _ s.heap _ (StIn.refl _) ⟨_, rfl⟩ h)
theorem Bin_and (h : Φ (.int (Builtin.bitAnd a b))) : Bin C .BitAnd (.int a) (.int b) Φ := by
  refine ⟨fun ok _ s va vb _ _ p _ ra rb k => ?_⟩
  obtain ⟨t, rfl⟩ : ∃ t, va = .int a t := ra
  obtain ⟨u, rfl⟩ : ∃ t, vb = .int b t := rb
  exact PyProof.Rows.and_int (k (.int _) _ s.heap _ (StIn.refl _) ⟨_, rfl⟩ h)
theorem Bin_add_bool {c : Bool} (h : Φ (.int (a + if c = true then (1 : Int) else 0))) : Bin C .Add (.int a) (.bool c) Φ := by
  refine ⟨fun ok _ s va vb _ _ p _ ra rb k => ?_⟩
  obtain ⟨t, rfl⟩ : ∃ t, va = .int a t := ra
  obtain rfl : vb = .bool c := rb
  exact PySem.add_int_bool (k (.int _) _ s.heap _ (StIn.refl _) ⟨_, rfl⟩ h)
theorem Una_neg (h : Φ (.int (-a))) : Una C .USub (.int a) Φ := by
  refine ⟨fun _ _ s va _ _ _ _ ra k => ?_⟩
  obtain ⟨t, rfl⟩ : ∃ t, va = .int a t := ra
  exact PyProof.Rows.neg_int (k (.int _) _ s.heap _ (StIn.refl _) ⟨_, rfl⟩ h)
theorem Cmp_eq (h : Φ (.bool (a == b))) : Cmp C .Eq (.int a) (.int b) Φ := by
  refine ⟨fun ok _ s va vb _ _ p _ ra rb k => ?_⟩
  obtain ⟨t, rfl⟩ : ∃ t, va = .int a t := ra
  obtain ⟨u, rfl⟩ : ∃ t, vb = .int b t := rb
  exact PyProof.Rows.eq_int (k (.bool _) _ s.heap s.toks (StIn.refl _) rfl h)
theorem Cmp_ne (h : Φ (.bool (a != b))) : Cmp C .NotEq (.int a) (.int b) Φ := by
  refine ⟨fun ok _ s va vb _ _ p _ ra rb k => ?_⟩
  obtain ⟨t, rfl⟩ : ∃ t, va = .int a t := ra
  obtain ⟨u, rfl⟩ : ∃ t, vb = .int b t := rb
  exact PyProof.Rows.ne_int (k (.bool _) _ s.heap s.toks (StIn.refl _) rfl h)
theorem Cmp_lt (h : Φ (.bool (decide (a < b)))) : Cmp C .Lt (.int a) (.int b) Φ := by
  refine ⟨fun ok _ s va vb _ _ p _ ra rb k => ?_⟩
  obtain ⟨t, rfl⟩ : ∃ t, va = .int a t := ra
  obtain ⟨u, rfl⟩ : ∃ t, vb = .int b t := rb
  exact PyProof.Rows.lt_int (k (.bool _) _ s.heap s.toks (StIn.refl _) rfl h)
theorem Cmp_le (h : Φ (.bool (decide (a ≤ b)))) : Cmp C .LtE (.int a) (.int b) Φ := by
  refine ⟨fun ok _ s va vb _ _ p _ ra rb k => ?_⟩
  obtain ⟨t, rfl⟩ : ∃ t, va = .int a t := ra
  obtain ⟨u, rfl⟩ : ∃ t, vb = .int b t := rb
  exact PyProof.Rows.le_int (k (.bool _) _ s.heap s.toks (StIn.refl _) rfl h)
theorem Cmp_gt (h : Φ (.bool (decide (b < a)))) : Cmp C .Gt (.int a) (.int b) Φ := by
  refine ⟨fun ok _ s va vb _ _ p _ ra rb k => ?_⟩
  obtain ⟨t, rfl⟩ : ∃ t, va = .int a t := ra
  obtain ⟨u, rfl⟩ : ∃ t, vb = .int b t := rb
  exact PyProof.Rows.gt_int (k (.bool _) _ s.heap s.toks (StIn.refl _) rfl h)
theorem Cmp_ge (h : Φ (.bool (decide (b ≤ a)))) : Cmp C .GtE (.int a) (.int b) Φ := by
  refine ⟨fun ok _ s va vb _ _ p _ ra rb k => ?_⟩
  obtain ⟨t, rfl⟩ : ∃ t, va = .int a t := ra
  obtain ⟨u, rfl⟩ : ∃ t, vb = .int b t := rb
  exact PyProof.Rows.ge_int (k (.bool _) _ s.heap s.toks (StIn.refl _) rfl h)
end

theorem IBin_add {a b : Int} (h : Φ (.int (a + b))) : IBin C .Add (.int a) (.int b) Φ := by
  refine ⟨fun _ _ s va vb _ _ _ _ ra rb k => ?_⟩
  obtain ⟨t, rfl⟩ : ∃ t, va = .int a t := ra
  obtain ⟨u, rfl⟩ : ∃ t, vb = .int b t := rb
  exact PyProof.Rows.iadd_int (k (.int _) _ s.heap _ (StIn.refl _) ⟨_, rfl⟩ h)
theorem IBin_sub {a b : Int} (h : Φ (.int (a - b))) : IBin C .Sub (.int a) (.int b) Φ := by
  refine ⟨fun _ _ s va vb _ _ _ _ ra rb k => ?_⟩
  obtain ⟨t, rfl⟩ : ∃ t, va = .int a t := ra
  obtain ⟨u, rfl⟩ : ∃ t, vb = .int b t := rb
  exact PyProof.Rows.isub_int (k (.int _) _ s.heap _ (StIn.refl _) ⟨_, rfl⟩ h)
-- displays
theorem newTuple_rel {M : Model} {A : Around} {X : List Addr} {s : Shared} {avs : List AV} {vs : List Value} {Q : Value → Shared → Prop} {E : Value → Shared → Prop} (r : RelVs X s.heap avs vs) (hsz : avs.length ≤ sizeLine)
    (k : ∀ v h' tk, StIn s.heap h' → RelV X h' (.tup avs) v → Q v { s with heap := h', toks := tk }) : wpAny M A (newTuple vs) Q E s := by
  refine wpAny_newTuple (k _ _ s.toks (StIn.push _ _) ⟨_, vs, rfl, ⟨_, Heap.get?_push_size _ rfl, rfl, 0, rfl⟩, r.st (StIn.push _ _)⟩) ?_
  rw [r.length]; exact hsz
theorem Ev_tuple {es : List Expr} {k : Nat} {pos : Pos} (h : Evs C S es fun l => Φ (.tup l)) (hsz : es.length ≤ 1000 := by decide) : Ev C S (.Tuple es k pos) Φ := by
  refine ⟨fun ok X s Q E p xi rs k => ?_⟩
  refine PyProof.Rows.Tuple_ (h.go ok pos X s _ E p xi rs fun avs vs h₁ t₁ st₁ r hl φ => ?_)
  exact newTuple_rel r (by rw [hl, sizeLine_eq]; omega) fun v h' tk st rr => k _ v h' tk (st₁.trans st) rr φ
variable {C : CX} {S : AS} {Φ : AV → Prop}

theorem Ev_boot {x : Str} {pos : Pos} {fv : Value} {av : AV} (hm : C.g.mg x = none) (hb : bootBuiltins x = some fv) (hx : C.env.kindOf x = some .globalImplicit) (hr : ∀ X h, RelV X h av fv) (h : Φ av)
    (hn : x ≠ "__name__" := by decide) (hd : (x == ("__debug__" : Str)) = false := by decide) : Ev C S (.Name x pos) Φ := by
  refine ⟨fun ok X s Q E p xi rs k => ?_⟩
  refine Calls.Name_function_global ok.kind hx (Calls.loadGlobal_builtin (by rw [ok.glob]; exact p.top.g) hm (by rw [ok.blt]; exact p.top.b) ((p.top.builtins x hn).trans hb) ?_) hd
  exact k av fv s.heap s.toks (StIn.refl _) (hr X _) h

theorem spliced_any {args : List Expr} {pos : Pos} {env : Env} (h : (starEach args env).any (·.1) = false) : (backTo pos (starEach args env)).any (·.1) = false := by
  rw [← h]; unfold backTo
  induction starEach args env with
  | nil => rfl
  | cons x r ih => simp_all

theorem Ev_callB {f : Str} {fp pos : Pos} {args : List Expr} {id : String} (hm : C.g.mg f = none) (hb : bootBuiltins f = some (.builtin id)) (hx : C.env.kindOf f = some .globalImplicit) (h : Evs C S args fun avs => CallB C (.builtin id) avs Φ)
    (ha : ∃ x r, starEach args C.env = (false, x) :: r ∧ (starEach args C.env).any (·.1) = false := by exact ⟨_, _, rfl, rfl⟩)
    (hn : f ≠ "__name__" := by decide) (hd : (f == ("__debug__" : Str)) = false := by decide) : Ev C S (.Call (.Name f fp) args [] pos) Φ := by
  refine ⟨fun ok X s Q E p xi rs k => ?_⟩
  obtain ⟨x, r, he, hany⟩ := ha
  refine wpAny_Call_Name_kw ?_
  refine Calls.Name_function_global ok.kind hx (Calls.loadGlobal_builtin (by rw [ok.glob]; exact p.top.g) hm (by rw [ok.blt]; exact p.top.b) ((p.top.builtins f hn).trans hb) ?_) hd
  refine Calls.callWith_builtin (spliced_any hany) ?_
  have hb' : ∃ x' r', backTo pos (starEach args C.env) = (false, x') :: r' := by rw [he]; exact ⟨_, _, rfl⟩
  obtain ⟨x', r', hb'⟩ := hb'
  rw [hb']
  refine Calls.evalArgs_plain ?_
  rw [← hb']
  refine h.go ok pos X s _ E p xi rs fun avs vs h₁ t₁ st₁ ra _ hc => ?_
  exact hc.go ok X _ vs Q E (p.st st₁) (xi.st st₁) ra fun av v h' tk st r φ => k av v h' tk (st₁.trans st) r φ
theorem Ev_callT {f : Str} {fp pos : Pos} {args : List Expr} {T : String} (hm : C.g.mg f = none) (hb : bootBuiltins f = some (.type T)) (hx : C.env.kindOf f = some .globalImplicit) (h : Evs C S args fun avs => CallB C (.type T) avs Φ)
    (ha : ∃ x r, starEach args C.env = (false, x) :: r ∧ (starEach args C.env).any (·.1) = false := by exact ⟨_, _, rfl, rfl⟩)
    (hn : f ≠ "__name__" := by decide) (hd : (f == ("__debug__" : Str)) = false := by decide) : Ev C S (.Call (.Name f fp) args [] pos) Φ := by
  refine ⟨fun ok X s Q E p xi rs k => ?_⟩
  obtain ⟨x, r, he, hany⟩ := ha
  refine wpAny_Call_Name_kw ?_
  refine Calls.Name_function_global ok.kind hx (Calls.loadGlobal_builtin (by rw [ok.glob]; exact p.top.g) hm (by rw [ok.blt]; exact p.top.b) ((p.top.builtins f hn).trans hb) ?_) hd
  refine PyProof.Rows.callWith_type (spliced_any hany) ?_
  have hb' : ∃ x' r', backTo pos (starEach args C.env) = (false, x') :: r' := by rw [he]; exact ⟨_, _, rfl⟩
  obtain ⟨x', r', hb'⟩ := hb'
  rw [hb']
  refine Calls.evalArgs_plain ?_
  rw [← hb']
  refine h.go ok pos X s _ E p xi rs fun avs vs h₁ t₁ st₁ ra _ hc => ?_
  exact hc.go ok X _ vs Q E (p.st st₁) (xi.st st₁) ra fun av v h' tk st r φ => k av v h' tk (st₁.trans st) r φ

noncomputable def FnIs (g : GX) (f : Str) (a : Addr) : Prop := g.mg f = some (.ref a) ∧ ∀ h, PG g h → ∃ o fd, h.get? a = some o ∧ o.data = .func fd
noncomputable def Calls (g : GX) (n : Nat) (f : Str) (args : List AV) (Φ : AV → Prop) : Prop := ∃ a, FnIs g f a ∧ CallsV g n (.ref a) args Φ

theorem Calls.mono {g : GX} {n : Nat} {f : Str} {args : List AV} {Φ Ψ : AV → Prop} (x : Calls g n f args Φ) (h : ∀ a, Φ a → Ψ a) : Calls g n f args Ψ :=
  let ⟨a, hf, hc⟩ := x; ⟨a, hf, ⟨fun A X s vs Q E ro p xi r k => hc.go A X s vs Q E ro p xi r fun av v h' tk st rv φ => k av v h' tk st rv (h _ φ)⟩⟩

theorem Ev_call {f : Str} {fp pos : Pos} {args : List Expr} {n : Nat} (hx : C.env.kindOf f = some .globalImplicit) (h : Evs C S args fun avs => Calls C.g n f avs Φ) (hn : n ≤ C.n)
    (ha : ∃ x r, starEach args C.env = (false, x) :: r ∧ (starEach args C.env).any (·.1) = false := by exact ⟨_, _, rfl, rfl⟩)
    (hg : ∃ a, FnIs C.g f a)
    (hd : (f == ("__debug__" : Str)) = false := by decide) : Ev C S (.Call (.Name f fp) args [] pos) Φ := by
  refine ⟨fun ok X s Q E p xi rs k => ?_⟩
  obtain ⟨x, r, he, hany⟩ := ha
  obtain ⟨a, hfa, hfo⟩ := hg
  refine wpAny_Call_Name_kw ?_
  refine Calls.Name_function_global ok.kind hx (Calls.loadGlobal_global (by rw [ok.glob]; exact p.top.g) hfa ?_) hd
  have hb' : ∃ x' r', backTo pos (starEach args C.env) = (false, x') :: r' := by rw [he]; exact ⟨_, _, rfl⟩
  obtain ⟨x', r', hb'⟩ := hb'
  obtain ⟨o, fd, ho, hd⟩ := hfo _ p
  refine Calls.callWith_function (o := o) (fd := fd) ?_
  rw [hb']
  refine Calls.evalArgs_plain ?_
  rw [← hb']
  refine h.go ok pos X s _ E p xi rs fun avs vs h₁ t₁ st₁ ra _ hc => ?_
  obtain ⟨a', ⟨hfa', _⟩, hc⟩ := hc
  rw [hfa] at hfa'
  cases hfa'
  exact ⟨⟨st₁ _ _ ho, hd⟩, hc.go C.A X _ vs Q E (ok.room.le hn) (p.st st₁) (xi.st st₁) ra fun av v h' tk st r φ => k av v h' tk (st₁.trans st) r φ⟩

-- built-ins
theorem CallB_abs {a : Int} (h : Φ (.int (if a < 0 then -a else a))) : CallB C (.builtin "abs") [.int a] Φ := by
  refine ⟨?_⟩
  rintro _ X s vs Q E _ _ ⟨v, r, rfl, ⟨t, rfl⟩, rfl⟩ k
  exact PyProof.Rows.call_abs_int fun u tk => k (.int _) _ s.heap tk (StIn.refl _) ⟨_, rfl⟩ h
theorem CallB_divmod {a b : Int} (hb : b ≠ 0) (h : Φ (.tup [.int (a.fdiv b), .int (a.fmod b)])) : CallB C (.builtin "divmod") [.int a, .int b] Φ := by
  refine ⟨?_⟩
  rintro ok X s vs Q E p xi ⟨v, r, rfl, ⟨t, rfl⟩, ⟨v', r', rfl, ⟨t', rfl⟩, rfl⟩⟩ k
  exact PyProof.Rows.divmod_int hb (k (.tup [.int (a.fdiv b), .int (a.fmod b)]) _ _ _ (StIn.push _ _) ⟨_, [_, _], rfl, ⟨_, Heap.get?_push_size _ rfl, rfl, 0, rfl⟩, ⟨_, _, rfl, ⟨_, rfl⟩, _, _, rfl, ⟨_, rfl⟩, rfl⟩⟩ h) (.inr (ok.pylong p))
theorem CallB_len {l : List AV} (hl : l.length < 2 ^ 60) (h : Φ (.int l.length)) : CallB C (.builtin "len") [.lst l] Φ := by
  refine ⟨?_⟩
  rintro ok X s vs Q E p xi ⟨v, r, rfl, ⟨a, vs', rfl, hx, hl', hr⟩, rfl⟩ k
  have e : vs'.toArray.size = l.length := by rw [List.size_toArray, hr.length]
  refine Calls.call_len_list hl' (by rw [e]; omega) (k (.int _) _ s.heap _ (StIn.refl _) ⟨_, by rw [e]⟩ h)
theorem CallB_range3 {a b c : Int} (hc : c ≠ 0) (h : Φ (.rng a b c)) : CallB C (.type "range") [.int a, .int b, .int c] Φ := by
  refine ⟨?_⟩
  rintro ok X s vs Q E p _ ⟨v, r, rfl, ⟨t, rfl⟩, ⟨v', r', rfl, ⟨t', rfl⟩, ⟨v'', r'', rfl, ⟨t'', rfl⟩, rfl⟩⟩⟩ k
  exact call_range_3 hc (k (.rng _ _ _) _ _ _ (StIn.push _ _) ⟨_, _, _, _, rfl, Heap.get?_push_size _ rfl⟩ h) (.inr (ok.pylong p))
theorem CallB_max {a b : Int} (h : Φ (.int (max a b))) : CallB C (.builtin "max") [.int a, .int b] Φ := by
  refine ⟨?_⟩
  rintro ok X s vs Q E _ _ ⟨v, r, rfl, ⟨t, rfl⟩, ⟨v', r', rfl, ⟨t', rfl⟩, rfl⟩⟩ k
  refine max_two_ints ok.room.hh fun h' tk st => k (.int _) _ h' tk st ?_ h
  by_cases hab : b > a
  · rw [if_pos hab]; exact ⟨_, by rw [Int.max_eq_right (by omega)]⟩
  · rw [if_neg hab]; exact ⟨_, by rw [Int.max_eq_left (by omega)]⟩
theorem CallB_min {a b : Int} (h : Φ (.int (min a b))) : CallB C (.builtin "min") [.int a, .int b] Φ := by
  refine ⟨?_⟩
  rintro ok X s vs Q E _ _ ⟨v, r, rfl, ⟨t, rfl⟩, ⟨v', r', rfl, ⟨t', rfl⟩, rfl⟩⟩ k
  refine min_two_ints ok.room.hh fun h' tk st => k (.int _) _ h' tk st ?_ h
  by_cases hab : b < a
  · rw [if_pos hab]; exact ⟨_, by rw [Int.min_eq_right (by omega)]⟩
  · rw [if_neg hab]; exact ⟨_, by rw [Int.min_eq_left (by omega)]⟩
theorem CallB_int {a : Int} (h : Φ (.int a)) : CallB C (.type "int") [.int a] Φ := by
  refine ⟨?_⟩
  rintro _ X s vs Q E _ _ ⟨v, r, rfl, ⟨t, rfl⟩, rfl⟩ k
  exact call_int_int (k (.int _) _ s.heap s.toks (StIn.refl _) ⟨_, rfl⟩ h)

noncomputable abbrev IL (l : List Int) : List AV := l.map AV.int
theorem RelVs.of_ints {X : List Addr} {h : Heap} : ∀ {l : List Int} {vs : List Value}, IntsAre vs l → RelVs X h (Mine.IL l) vs
  | _, _, .nil => rfl
  | _, _, .cons n t r => ⟨_, _, rfl, ⟨t, rfl⟩, RelVs.of_ints r⟩

-- items
structure Itm (C : CX) (o i : AV) (Φ : AV → Prop) : Prop where
  go : C.Ok → ∀ (X : List Addr) (s : Shared) (vo vi : Value) (Q : Value → Shared → Prop) (E : Value → Shared → Prop), PG C.g s.heap → XIn X s.heap → RelV X s.heap o vo → RelV X s.heap i vi →
    (∃ T id, s.TypeIs vo T ∧ typeLookup (.type T) "__getitem__" = pure (some (.builtin id))) ∧
    ((∀ av v h' tk, StIn s.heap h' → RelV X h' av v → Φ av → Q v { s with heap := h', toks := tk }) → wpAny (model C.g.prog C.g.w) C.A (getItem vo vi) Q E s)

theorem Ev_item {value slice : Expr} {pos : Pos} (h : Ev C S value fun o => Ev C S slice fun i => Itm C o i Φ)
    (hs : ∀ o i, subscripted slice false o i = operate [o, i] (getItem o i) := by intro _ _; with_unfolding_all rfl) : Ev C S (.Subscript value slice pos) Φ := by
  refine ⟨fun ok X s Q E p xi rs k => ?_⟩
  refine PyProof.Rows.Subscript_ (h.go ok X s _ E p xi rs fun o vo h₁ t₁ st₁ ro hb => ?_)
  refine hb.go ok X _ _ E (p.st st₁) (xi.st st₁) (rs.st st₁) fun i vi h₂ t₂ st₂ ri hc => ?_
  obtain ⟨⟨T, id, hT, hl⟩, hc⟩ := hc.go ok X { s with heap := h₂, toks := t₂ } vo vi Q E ((p.st st₁).st st₂) ((xi.st st₁).st st₂) (ro.st st₂) ri
  exact PyProof.Rows.tail_any hT hl (hc fun av v h' tk st r φ => k av v h' tk (st₁.trans (st₂.trans st)) r φ) (hs vo vi)

theorem Itm_list {l : List AV} {i : Int} {av : AV} (h0 : 0 ≤ i) (hi : i < 2 ^ 60) (hx : l[i.toNat]? = some av) (h : Φ av) : Itm C (.lst l) (.int i) Φ := by
  refine ⟨?_⟩
  rintro ok X s vo vi Q E p xi ⟨a, vs, rfl, hax, hl, hr⟩ ⟨t, rfl⟩
  refine ⟨⟨_, _, hl.typeIs, slot_list_getitem.lookup⟩, fun k => ?_⟩
  obtain ⟨v, hv, rv⟩ := hr.get i.toNat av hx
  exact wpAny_getItem_list hl h0 (by omega) (by simpa using hv) (k av v s.heap s.toks (StIn.refl _) rv h)
theorem Itm_tup {l : List AV} {i : Int} {j : Nat} {av : AV} (hi : -(2 ^ 60) ≤ i ∧ i < 2 ^ 60) (hj : seqIndex? i l.length = some j) (hx : l[j]? = some av) (h : Φ av) : Itm C (.tup l) (.int i) Φ := by
  refine ⟨?_⟩
  rintro ok X s vo vi Q E p xi ⟨a, vs, rfl, hl, hr⟩ ⟨t, rfl⟩
  refine ⟨⟨_, _, hl.typeIs, PyProof.Rows.slot_tuple_getitem.lookup⟩, fun k => ?_⟩
  obtain ⟨v, hv, rv⟩ := hr.get _ av hx
  exact PyProof.Rows.getItem_tuple hl (by omega) (by omega) (by rw [List.size_toArray, hr.length]; exact hj) (by simpa using hv) (k av v s.heap s.toks (StIn.refl _) rv h)

-- slices
variable {C : CX} {S : AS}

inductive AFl where
  | next | brk | cont
  | ret (v : AV)

noncomputable def RelFl (X : List Addr) (h : Heap) : AFl → Flow → Prop
  | .next, f => f = .next
  | .brk, f => f = .brk
  | .cont, f => f = .cont
  | .ret av, f => ∃ v, f = .ret v ∧ RelV X h av v

noncomputable def AS.set (S : AS) (x : Str) (av : AV) : AS := { S with vs := (x, av) :: S.vs }
noncomputable def AS.off (S : AS) (x : Str) : Prop := match S.own with | none => True | some (y, _) => (y == x) = false
noncomputable def AS.le (S S' : AS) : Prop := (∀ x av, S'.vs.lookup x = some av → S.vs.lookup x = some av) ∧ S.own = S'.own

noncomputable def OwnOk (C : CX) (s₀ : Shared) (X₀ : List Addr) (h : Heap) : Option (Str × List AV) → Option Addr → Prop
  | none, none => True
  | some (x, l), some b => (∃ vs, OwnAt C.env (b :: X₀) h x l b vs) ∧ s₀.heap.objs.size ≤ b
  | none, some _ => False
  | some _, none => False

structure FS (C : CX) (s₀ : Shared) (X₀ : List Addr) (β : Option Addr) (S : AS) (s : Shared) : Prop where
  call : ∃ m cm, InCallC s₀ C.env.locals m C.env.cells cm s
  vars : RelE C.env (β.toList ++ X₀) s.heap S.vs
  own : OwnOk C s₀ X₀ s.heap S.own β
  xin : XIn X₀ s₀.heap

theorem FS.same {s₀ s : Shared} {X₀ : List Addr} {β : Option Addr} (F : FS C s₀ X₀ β S s) : ∃ h tk, s = { s₀ with heap := h, toks := tk } := let ⟨_, _, c⟩ := F.call; c.toInCall.same
theorem FS.keep {s₀ s : Shared} {X₀ : List Addr} {β : Option Addr} (F : FS C s₀ X₀ β S s) : StIn s₀.heap s.heap := let ⟨_, _, c⟩ := F.call; c.toInCall.keep
theorem FS.relS {s₀ s : Shared} {X₀ : List Addr} {β : Option Addr} (F : FS C s₀ X₀ β S s) : RelS C.env (β.toList ++ X₀) s.heap S := by
  refine ⟨F.vars, fun x l e => ?_⟩
  have h := F.own
  rw [e] at h
  cases β with
  | none => exact h.elim
  | some b => obtain ⟨⟨vs, o⟩, _⟩ := h; exact ⟨b, vs, o⟩
theorem FS.xinh {s₀ s : Shared} {X₀ : List Addr} {β : Option Addr} (F : FS C s₀ X₀ β S s) : XIn (β.toList ++ X₀) s.heap := by
  intro a ha
  rcases List.mem_append.mp ha with h | h
  · cases β with
    | none => cases h
    | some b =>
      obtain rfl : a = b := by simpa using h
      have h := F.own
      cases ho : S.own with
      | none => rw [ho] at h; exact h.elim
      | some p =>
        rw [ho] at h
        obtain ⟨⟨vs, o⟩, _⟩ := h
        obtain ⟨n, hb⟩ := o.lst
        rw [hb]; rfl
  · exact (F.xin.st F.keep) a h

theorem Ns.uniq {h : Heap} {a : Addr} {m m' : Str → Option Value} (x : h.Ns a m) (y : h.Ns a m') : m = m' := by
  obtain ⟨o, es, ep, h1, h2, _, h4⟩ := x
  obtain ⟨o', es', ep', g1, g2, _, g4⟩ := y
  rw [h1] at g1; cases g1
  rw [h2] at g2; cases g2
  funext n; rw [← h4 n, ← g4 n]

noncomputable def FKeep (C : CX) (β : Option Addr) (h h' : Heap) : Prop := ∀ a o, a ≠ C.env.locals → (∀ x, C.env.cells.lookup x ≠ some a) → β ≠ some a → h.get? a = some o → h'.get? a = some o
noncomputable def BEv (β : Option Addr) (h : Heap) (β' : Option Addr) : Prop := ∀ b, β' = some b → β = some b ∨ h.get? b = none
theorem FKeep.of {β : Option Addr} {h h' : Heap} (x : StIn h h') : FKeep C β h h' := fun a o _ _ _ e => x a o e
theorem BEv.refl (β : Option Addr) (h : Heap) : BEv β h β := fun _ e => .inl e
theorem FKeep.trans {β β' : Option Addr} {h h' h'' : Heap} (x : FKeep C β h h') (b : BEv β h β') (y : FKeep C β' h' h'') : FKeep C β h h'' := by
  intro a o h1 h2 h3 e
  refine y a o h1 h2 (fun hb => ?_) (x a o h1 h2 h3 e)
  rcases b a hb with hb | hb
  · exact h3 hb
  · rw [e] at hb; cases hb

structure FFr (C : CX) (β : Option Addr) (h : Heap) : Prop where
  loc : ∃ m, h.Ns C.env.locals m
  cel : ∀ x c, C.env.cells.lookup x = some c → ∃ v, h.IsCell c v
  own : ∀ b, β = some b → ∃ vs, h.PlainList b vs
theorem FS.ffr {s₀ s : Shared} {X₀ : List Addr} {β : Option Addr} (F : FS C s₀ X₀ β S s) : FFr C β s.heap := by
  obtain ⟨m, cm, c⟩ := F.call
  refine ⟨⟨m, c.toInCall.ns⟩, fun x a e => ⟨_, c.cell x a e⟩, fun b e => ?_⟩
  subst e
  have h := F.own
  cases ho : S.own with
  | none => rw [ho] at h; exact h.elim
  | some p => rw [ho] at h; obtain ⟨⟨vs, o⟩, _⟩ := h; exact ⟨_, o.lst⟩
theorem BEv.trans {β β' β'' : Option Addr} {h h' : Heap} (x : BEv β h β') (y : BEv β' h' β'') (k : FKeep C β h h') (f' : FFr C β' h') : BEv β h β'' := by
  intro b e
  rcases y b e with e | e
  · exact x b e
  · cases hq : h.get? b with
    | none => exact .inr rfl
    | some o =>
      by_cases h1 : b = C.env.locals
      · obtain ⟨m, o', _, _, ho', _⟩ := f'.loc
        rw [h1, ho'] at e; cases e
      · by_cases h3 : β = some b
        · exact .inl h3
        · by_cases h2 : ∃ x, C.env.cells.lookup x = some b
          · obtain ⟨x, h2⟩ := h2
            obtain ⟨v, o', ho', _⟩ := f'.cel x b h2
            rw [ho'] at e; cases e
          · rw [k b o h1 (fun x hx => h2 ⟨x, hx⟩) h3 hq] at e; cases e
theorem FKeep.vkeep {β : Option Addr} {h h' : Heap} {X₀ : List Addr} (x : FKeep C β h h') (f : FFr C β h) : VKeep (β.toList ++ X₀) h h' := by
  have hL : ∀ a o, isVal o → h.get? a = some o → a ≠ C.env.locals := by
    rintro a o hv e rfl
    obtain ⟨m, o', es, ep, ho', hd, _⟩ := f.loc
    rw [e] at ho'; cases ho'
    rcases hv with ⟨xs, n, q⟩ | ⟨_, fs, q⟩ <;> rw [hd] at q <;> cases q
  have hC : ∀ a o, isVal o → h.get? a = some o → ∀ x, C.env.cells.lookup x ≠ some a := by
    intro a o hv e x hx
    obtain ⟨v, o', ho', hd⟩ := f.cel x a hx
    rw [e] at ho'; cases ho'
    rcases hv with ⟨xs, n, q⟩ | ⟨_, fs, q⟩ <;> rw [hd] at q <;> cases q
  refine ⟨fun a o ha hv e => x a o (hL a o hv e) (hC a o hv e) (fun hb => ha ?_) e, fun a o hv hc e => x a o (hL a o hv e) (hC a o hv e) (fun hb => hc ?_) e⟩
  · subst hb; simp
  · obtain ⟨vs, n, ho⟩ := f.own a hb
    rw [e] at ho; cases ho; rfl

theorem store_rel {s₀ s : Shared} {X₀ : List Addr} {β : Option Addr} {x : Str} {av : AV} {v : Value} {M : Model} {A : Around} {Q : Unit → Shared → Prop} {E : Value → Shared → Prop} (ok : C.Ok) (F : FS C s₀ X₀ β S s) (hv : RelV (β.toList ++ X₀) s.heap av v)
    (hx : C.env.kindOf x = some .local ∨ (C.env.kindOf x = some .cell ∧ (C.env.cells.lookup x).isSome = true)) (hown : S.off x)
    (k : ∀ h' tk, FS C s₀ X₀ β (S.set x av) { s with heap := h', toks := tk } → FKeep C β s.heap h' → Q () { s with heap := h', toks := tk }) : wpAny M A (storeName C.env x v) Q E s := by
  obtain ⟨m, cm, c⟩ := F.call
  have fin : ∀ (h' : Heap) (tk : Nat), (∃ m cm, InCallC s₀ C.env.locals m C.env.cells cm { s with heap := h', toks := tk }) → FKeep C β s.heap h' → (∀ a o, isVal o → s.heap.get? a = some o → h'.get? a = some o) → Rd C.env h' x v → (∀ y w, (y == x) = false → Rd C.env s.heap y w → Rd C.env h' y w) → Q () { s with heap := h', toks := tk } := by
    intro h' tk hc fk hk hr hy
    have vk : ∀ X, VKeep X s.heap h' := fun X => ⟨fun a o _ hv e => hk a o hv e, fun a o hv _ e => hk a o hv e⟩
    refine k h' tk ⟨hc, ?_, ?_, F.xin⟩ fk
    · intro y aw e
      simp only [AS.set, List.lookup_cons] at e
      cases hb : y == x with
      | true =>
        rw [hb] at e; cases e
        rw [beq_iff_eq.mp hb]
        exact ⟨v, hr, hv.keep (vk _)⟩
      | false =>
        rw [hb] at e
        obtain ⟨w, h1, h2⟩ := F.vars y aw e
        exact ⟨w, hy y w hb h1, h2.keep (vk _)⟩
    · have h := F.own
      show OwnOk C s₀ X₀ h' S.own β
      cases ho : S.own with
      | none => rw [ho] at h; cases β with | none => trivial | some _ => exact h
      | some p =>
        obtain ⟨y, l⟩ := p
        rw [ho] at h
        cases β with
        | none => exact h
        | some b =>
          obtain ⟨⟨vs, o⟩, h1⟩ := h
          unfold AS.off at hown
          rw [ho] at hown
          obtain ⟨n, hb⟩ := o.lst
          exact ⟨⟨vs, hy y _ hown o.rd, o.inX, ⟨n, hk _ _ (.inl ⟨_, n, rfl⟩) hb⟩, o.rel.keep (vk _)⟩, h1⟩
  have fr := F.ffr
  have valL : ∀ a o, isVal o → s.heap.get? a = some o → a ≠ C.env.locals := by
    rintro a o hv e rfl
    obtain ⟨m, o', es, ep, ho', hd, _⟩ := fr.loc
    rw [e] at ho'; cases ho'
    rcases hv with ⟨xs, n, q⟩ | ⟨_, fs, q⟩ <;> rw [hd] at q <;> cases q
  have valC : ∀ a o, isVal o → s.heap.get? a = some o → ∀ x, C.env.cells.lookup x ≠ some a := by
    intro a o hv e x hx
    obtain ⟨v, o', ho', hd⟩ := fr.cel x a hx
    rw [e] at ho'; cases ho'
    rcases hv with ⟨xs, n, q⟩ | ⟨_, fs, q⟩ <;> rw [hd] at q <;> cases q
  rcases hx with hl | ⟨hl, hc⟩
  · refine wpAny_storeName_local hl c.toInCall.ns (fun h' hn' hs' => ?_) (by rw [ok.kind]; rfl)
    refine fin h' _ ⟨_, cm, ⟨⟨?_, hn', fun b o e => ?_, c.toInCall.fresh⟩, fun k' c' hc' => ?_, c.apart, c.above⟩⟩ ?_ ?_ (.inl ⟨hl, _, hn', by simp⟩) ?_
    · obtain ⟨h₁, tk, e⟩ := c.toInCall.same
      exact ⟨h', _, by rw [e]⟩
    · exact hs'.extBut b o (Nat.ne_of_lt (Nat.lt_of_lt_of_le (Heap.lt_size e) c.toInCall.fresh)) (c.toInCall.keep b o e)
    · exact (c.cell k' c' hc').sameBut hs' (Nat.ne_of_gt (c.above k' c' (mem_of_lookup hc')))
    · exact fun a o h1 _ _ e => hs'.extBut a o h1 e
    · exact fun a o hv e => hs'.extBut a o (valL a o hv e) e
    · rintro y w hy (⟨hk, m', hn, hw⟩ | ⟨hk, c', hc', hw⟩)
      · refine .inl ⟨hk, _, hn', ?_⟩
        rw [Ns.uniq hn c.toInCall.ns] at hw
        show (if y = x then some v else m y) = some w
        rw [if_neg (by intro e; rw [e] at hy; simp at hy)]; exact hw
      · exact .inr ⟨hk, c', hc', hw.sameBut hs' (Nat.ne_of_gt (c.above y c' (mem_of_lookup hc')))⟩
  · obtain ⟨cc, hc⟩ := Option.isSome_iff_exists.mp hc
    have hLc := c.above x cc (mem_of_lookup hc)
    refine wpAny_storeName_cell ok.kind hl hc (c.cell x cc hc) fun h' hc' hs' => ?_
    refine fin h' s.toks ⟨m, (fun y => if y = x then some v else cm y), ⟨⟨?_, c.toInCall.ns.sameBut hs' (Nat.ne_of_lt hLc), fun b o e => ?_, c.toInCall.fresh⟩, fun k' c' hk' => ?_, c.apart, c.above⟩⟩ ?_ ?_ (.inr ⟨.inl hl, cc, hc, hc'⟩) ?_
    · obtain ⟨h₁, tk, e⟩ := c.toInCall.same
      exact ⟨h', s.toks, by rw [e]⟩
    · exact hs'.extBut b o (Nat.ne_of_lt (Nat.lt_trans (Nat.lt_of_lt_of_le (Heap.lt_size e) c.toInCall.fresh) hLc)) (c.toInCall.keep b o e)
    · by_cases hkn : k' = x
      · subst hkn
        rw [hc] at hk'; cases hk'
        simpa using hc'
      · rw [if_neg hkn]
        exact (c.cell k' c' hk').sameBut hs' fun e => hkn (name_of_addr c.apart (mem_of_lookup hk') (e ▸ mem_of_lookup hc))
    · exact fun a o _ h2 _ e => hs'.extBut a o (fun q => h2 x (q ▸ hc)) e
    · exact fun a o hv e => hs'.extBut a o (fun q => valC a o hv e x (q ▸ hc)) e
    · rintro y w hy (⟨hk, m', hn, hw⟩ | ⟨hk, c', hc'', hw⟩)
      · exact .inl ⟨hk, m', hn.sameBut hs' (Nat.ne_of_lt hLc), hw⟩
      · refine .inr ⟨hk, c', hc'', hw.sameBut hs' fun e => ?_⟩
        have := name_of_addr c.apart (mem_of_lookup hc'') (e ▸ mem_of_lookup hc)
        rw [this] at hy; simp at hy

structure Ex (C : CX) (S : AS) (st : List Stmt) (Ψ : AFl → AS → Prop) : Prop where
  go : C.Ok → ∀ (s₀ : Shared) (X₀ : List Addr) (β : Option Addr) (s : Shared) (Q : Flow → Shared → Prop), PG C.g s₀.heap → FS C s₀ X₀ β S s →
    (∀ afl fl S' β' h' tk, FS C s₀ X₀ β' S' { s with heap := h', toks := tk } → FKeep C β s.heap h' → BEv β s.heap β' → RelFl X₀ h' afl fl → Ψ afl S' → Q fl { s with heap := h', toks := tk }) →
    wpAny (model C.g.prog C.g.w) C.A (execs st C.env) Q (fun _ _ => False) s
structure ExS (C : CX) (S : AS) (st : Stmt) (Ψ : AFl → AS → Prop) : Prop where
  go : C.Ok → ∀ (s₀ : Shared) (X₀ : List Addr) (β : Option Addr) (s : Shared) (Q : Flow → Shared → Prop), PG C.g s₀.heap → FS C s₀ X₀ β S s →
    (∀ afl fl S' β' h' tk, FS C s₀ X₀ β' S' { s with heap := h', toks := tk } → FKeep C β s.heap h' → BEv β s.heap β' → RelFl X₀ h' afl fl → Ψ afl S' → Q fl { s with heap := h', toks := tk }) →
    wpAny (model C.g.prog C.g.w) C.A (exec st C.env) Q (fun _ _ => False) s

variable {Ψ : AFl → AS → Prop}

theorem Ex_nil (h : Ψ .next S) : Ex C S [] Ψ := ⟨fun _ _ _ β s _ _ F k => wpAny_execs_nil (k .next .next S β s.heap s.toks F (.of (StIn.refl _)) (.refl _ _) rfl h)⟩
theorem Ex_cons {st : Stmt} {rest : List Stmt} (h : ExS C S st fun fl S' => match fl with | .next => Ex C S' rest Ψ | fl => Ψ fl S') : Ex C S (st :: rest) Ψ := by
  refine ⟨fun ok s₀ X₀ β s Q p F k => ?_⟩
  refine wpAny_execs_cons (h.go ok s₀ X₀ β s _ p F fun afl fl S' β' h' tk F' fk bv rf ψ => ?_)
  cases afl with
  | next =>
    obtain rfl : fl = .next := rf
    exact ψ.go ok s₀ X₀ β' _ Q p F' fun afl fl S'' β'' h'' tk'' F'' fk'' bv'' rf'' ψ'' => k afl fl S'' β'' h'' tk'' F'' (fk.trans bv fk'') (bv.trans bv'' fk F'.ffr) rf'' ψ''
  | brk => obtain rfl : fl = .brk := rf; exact k .brk .brk S' β' h' tk F' fk bv rfl ψ
  | cont => obtain rfl : fl = .cont := rf; exact k .cont .cont S' β' h' tk F' fk bv rfl ψ
  | ret av => obtain ⟨v, rfl, rv⟩ := rf; exact k (.ret av) (.ret v) S' β' h' tk F' fk bv ⟨v, rfl, rv⟩ ψ

theorem FS.st {s₀ s : Shared} {X₀ : List Addr} {β : Option Addr} (F : FS C s₀ X₀ β S s) {h' : Heap} {tk : Nat} (k : StIn s.heap h') : FS C s₀ X₀ β S { s with heap := h', toks := tk } := by
  obtain ⟨m, cm, c⟩ := F.call
  refine ⟨⟨m, cm, ⟨⟨?_, c.toInCall.ns.keeps k, fun b o e => k b o (c.toInCall.keep b o e), c.toInCall.fresh⟩, fun x a e => (c.cell x a e).keeps k, c.apart, c.above⟩⟩, F.vars.st k, ?_, F.xin⟩
  · obtain ⟨h₁, tk₁, e⟩ := c.toInCall.same
    exact ⟨h', tk, by rw [e]⟩
  · have h := F.own
    show OwnOk C s₀ X₀ h' S.own β
    cases ho : S.own with
    | none => rw [ho] at h; cases β with | none => trivial | some _ => exact h
    | some p =>
      rw [ho] at h
      cases β with
      | none => exact h
      | some b => obtain ⟨⟨vs, o⟩, h1⟩ := h; exact ⟨⟨vs, o.st k⟩, h1⟩

theorem FS.weak {s₀ s : Shared} {X₀ : List Addr} {β : Option Addr} {S' : AS} (F : FS C s₀ X₀ β S s) (hl : S.le S') : FS C s₀ X₀ β S' s :=
  ⟨F.call, fun x av e => F.vars x av (hl.1 x av e), hl.2 ▸ F.own, F.xin⟩
noncomputable def Stb (C : CX) (S : AS) (x : Str) : Prop := (C.env.kindOf x = some .local ∨ (C.env.kindOf x = some .cell ∧ (C.env.cells.lookup x).isSome = true)) ∧ S.off x

theorem ExS_assign {x : Str} {px pos : Pos} {e : Expr} (h : Ev C S e fun av => Ψ .next (S.set x av)) (hx : Stb C S x)
    (hs : swapsWith e (some (.Name x px)) pos.line C.env = pure false := by rfl) : ExS C S (.Assign [.Name x px] e pos) Ψ := by
  refine ⟨fun ok s₀ X₀ β s Q p F k => ?_⟩
  refine wpAny_Assign_Name (h.go ok _ s _ _ (p.st F.keep) F.xinh F.relS fun av v h₁ t₁ st₁ rv ψ => ?_) hs
  exact store_rel ok (F.st (tk := t₁) st₁) rv hx.1 hx.2 fun h' tk F' fk => k .next .next _ β h' tk F' (FKeep.trans (.of st₁) (.refl _ _) fk) (.refl _ _) rfl ψ

theorem ExS_aug {x : Str} {px pos : Pos} {op : Operator} {e : Expr} {av : AV} (hl : S.vs.lookup x = some av) (h : Ev C S e fun b => IBin C op av b fun c => Ψ .next (S.set x c)) (hx : Stb C S x) (hn : (x == ("__classdict__" : Str)) = false := by decide) : ExS C S (.AugAssign (.Name x px) op e pos) Ψ := by
  refine ⟨fun ok s₀ X₀ β s Q p F k => ?_⟩
  obtain ⟨v, hr, hv⟩ := F.vars x av hl
  refine wpAny_AugAssign_Name (load_rd ok.kind hr ?_ hn)
  refine h.go ok _ s _ _ (p.st F.keep) F.xinh F.relS fun b vb h₁ t₁ st₁ rb hc => ?_
  refine hc.go ok _ _ v vb _ _ ((p.st F.keep).st st₁) (F.xinh.st st₁) (hv.st st₁) rb fun c vc h₂ t₂ st₂ rc ψ => ?_
  exact store_rel ok (F.st (tk := t₂) (st₁.trans st₂)) rc hx.1 hx.2 fun h' tk F' fk => k .next .next _ β h' tk F' (FKeep.trans (.of (st₁.trans st₂)) (.refl _ _) fk) (.refl _ _) rfl ψ

theorem ExS_return {e : Expr} {pos : Pos} (h : Ev C S e fun av => Ψ (.ret av) S) : ExS C S (.Return (some e) pos) Ψ := by
  refine ⟨fun ok s₀ X₀ β s Q p F k => ?_⟩
  refine wpAny_Return_some (h.go ok _ s _ _ (p.st F.keep) F.xinh F.relS fun av v h₁ t₁ st₁ rv ψ => ?_)
  exact k (.ret av) (.ret v) S β h₁ t₁ (F.st st₁) (.of st₁) (.refl _ _) ⟨v, rfl, rv.less fun _ hp => List.mem_append_right _ hp⟩ ψ

theorem ExS_if {t : Expr} {a b : List Stmt} {pos : Pos} (h : Tst C S t fun c => if c then Ex C S a Ψ else Ex C S b Ψ) : ExS C S (.If t a b pos) Ψ := by
  refine ⟨fun ok s₀ X₀ β s Q p F k => ?_⟩
  refine wpAny_If (h.go ok _ s _ _ (p.st F.keep) F.xinh F.relS fun c h₁ t₁ st₁ φ => ?_)
  have k' : ∀ afl fl S' β' h' tk, FS C s₀ X₀ β' S' { ({ s with heap := h₁, toks := t₁ } : Shared) with heap := h', toks := tk } → FKeep C β h₁ h' → BEv β h₁ β' → RelFl X₀ h' afl fl → Ψ afl S' → Q fl { ({ s with heap := h₁, toks := t₁ } : Shared) with heap := h', toks := tk } := by
    intro afl fl S' β' h' tk F' fk bv rf ψ
    exact k afl fl S' β' h' tk F' (FKeep.trans (.of st₁) (.refl _ _) fk) (BEv.trans (.refl _ _) bv (.of st₁) (F.st (tk := t₁) st₁).ffr) rf ψ
  cases c with
  | true => exact φ.go ok s₀ X₀ β _ Q p (F.st st₁) k'
  | false => exact φ.go ok s₀ X₀ β _ Q p (F.st st₁) k'
variable {C : CX} {S : AS} {Ψ : AFl → AS → Prop}

theorem ExS_while {t : Expr} {body : List Stmt} {pos : Pos} (I : Nat → AS → Prop) {n₀ : Nat} {S₀ : AS} (hle : S.le S₀) (h0 : I n₀ S₀)
    (turn : ∀ n S, I n S → Tst C S t fun b => if b then Ex C S body (fun fl S' => match fl with
        | .next => ∃ S'' m, S'.le S'' ∧ m < n ∧ I m S''
        | .cont => ∃ S'' m, S'.le S'' ∧ m < n ∧ I m S''
        | .brk => Ψ .next S'
        | .ret v => Ψ (.ret v) S') else Ψ .next S) : ExS C S (.While t body [] pos) Ψ := by
  refine ⟨fun ok s₀ X₀ β s Q p F k => ?_⟩
  refine wpAny_While (codeAny_whileLoop (fun n s' => ∃ h' tk S' β', s' = { s with heap := h', toks := tk } ∧ FS C s₀ X₀ β' S' s' ∧ FKeep C β s.heap h' ∧ BEv β s.heap β' ∧ I n S') ?_ n₀ ⟨s.heap, s.toks, S₀, β, rfl, F.weak hle, .of (StIn.refl _), .refl _ _, h0⟩)
  intro n s' hyp
  refine Classical.byContradiction fun hG => ?_
  obtain ⟨h₁, t₁, S₁, β₁, rfl, F₁, fk₁, bv₁, hI⟩ := hyp
  refine hG <| wpAny_mono ((turn n S₁ hI).go ok _ _ _ (fun _ _ => False) (p.st F₁.keep) F₁.xinh F₁.relS fun b h₂ t₂ st₂ φ => ?_) (fun _ _ x => x) fun _ _ x => x.elim
  cases b with
  | false =>
    exact wpAny_execs_nil (k .next .next S₁ β₁ h₂ t₂ (F₁.st st₂) (fk₁.trans bv₁ (.of st₂)) bv₁ rfl φ)
  | true =>
    refine wpAny_mono (φ.go ok s₀ X₀ β₁ _ _ p (F₁.st (tk := t₂) st₂) fun afl fl S₃ β₃ h₃ t₃ F₃ fk₃ bv₃ rf ψ => ?_) (fun _ _ x => x) fun _ _ x => x.elim
    have fk' : FKeep C β s.heap h₃ := (fk₁.trans bv₁ (FKeep.of st₂)).trans bv₁ fk₃
    have bv' : BEv β s.heap β₃ := bv₁.trans (BEv.trans (.refl _ _) bv₃ (.of st₂) (F₁.st (tk := t₂) st₂).ffr) fk₁ F₁.ffr
    cases afl with
    | next => obtain rfl : fl = .next := rf; obtain ⟨S'', m, hle, hm, hI'⟩ := ψ; exact ⟨m, hm, h₃, t₃, S'', β₃, rfl, F₃.weak hle, fk', bv', hI'⟩
    | cont => obtain rfl : fl = .cont := rf; obtain ⟨S'', m, hle, hm, hI'⟩ := ψ; exact ⟨m, hm, h₃, t₃, S'', β₃, rfl, F₃.weak hle, fk', bv', hI'⟩
    | brk => obtain rfl : fl = .brk := rf; exact k .next .next S₃ β₃ h₃ t₃ F₃ fk' bv' rfl ψ
    | ret av => obtain ⟨v, rfl, rv⟩ := rf; exact k (.ret av) (.ret v) S₃ β₃ h₃ t₃ F₃ fk' bv' ⟨v, rfl, rv⟩ ψ

noncomputable def rngL (a c : Int) (n : Nat) : List AV := (List.range n).map fun (i : Nat) => AV.int (a + i * c)
inductive Items : AV → List AV → Prop
  | lst (l : List AV) : Items (.lst l) l
  | tup (l : List AV) : Items (.tup l) l
  | rng (a b c : Int) (n : Nat) (hn : Builtin.Range.rangeSize a b c = n) : Items (.rng a b c) (rngL a c n)

mutual
theorem RelV.more {X : List Addr} {h : Heap} {b : Addr} (hb : h.get? b = none) : (av : AV) → (v : Value) → RelV X h av v → RelV (b :: X) h av v
  | .int _, _, r => r
  | .bool _, _, r => r
  | .none, _, r => r
  | .str _, _, r => r
  | .ty _, _, r => r
  | .bi _, _, r => r
  | .raw _, _, r => r
  | .rng _ _ _, _, r => r
  | .tup l, _, ⟨a, vs, e, ht, rr⟩ => ⟨a, vs, e, ht, RelVs.more hb l vs rr⟩
  | .lst l, _, ⟨a, vs, e, hx, ht, rr⟩ => ⟨a, vs, e, fun q => by
      rcases List.mem_cons.mp q with q | q
      · obtain ⟨o, ho, _⟩ := ht; rw [q, hb] at ho; cases ho
      · exact hx q, ht, RelVs.more hb l vs rr⟩
theorem RelVs.more {X : List Addr} {h : Heap} {b : Addr} (hb : h.get? b = none) : (l : List AV) → (vs : List Value) → RelVs X h l vs → RelVs (b :: X) h l vs
  | [], _, r => r
  | a :: l, _, ⟨v, r, e, h1, h2⟩ => ⟨v, r, e, RelV.more hb a v h1, RelVs.more hb l r h2⟩
end

noncomputable def ownIters : List String := ["enumerate", "zip", "dict_itemiterator", "dict_reverseitemiterator", "odict_iterator", "itertools.zip_longest", "itertools.pairwise"]
structure Itr (C : CX) (X : List Addr) (xs : List AV) (I : Addr) (h₀ : Heap) (fp : List Addr) (P : Nat → Value → Prop) (St : Nat → Heap → Prop) : Prop where
  walk : Walks C.g.prog C.g.w C.A I fp [I] xs.length P St
  start : St 0 h₀
  fps : ∀ b ∈ fp, b = I ∨ (b ∉ X ∧ ∃ o, h₀.get? b = some o ∧ isVal o) ∨ (∃ o, h₀.get? b = some o ∧ isVal o ∧ o.cls ≠ .type "list")
  item : ∀ i v, P i v → ∃ av, xs[i]? = some av ∧ RelV X h₀ av v
  itr : ∀ i h, St i h → ∃ o, h.get? I = some o ∧ ¬ isVal o
  cls : ∀ i h, St i h → ∃ o n, h.get? I = some o ∧ o.cls = .type n ∧ ownIters.contains n = false

theorem iter_go {X : List Addr} {xs : List AV} {av : AV} {v : Value} {s : Shared} {Q : Value → Shared → Prop} {E : Value → Shared → Prop} (ok : C.Ok) (hi : Items av xs) (r : RelV X s.heap av v)
    (k : ∀ fp P St o, Itr C X xs s.heap.objs.size (s.heap.push o) fp P St → o.isFreed = false → Q (.ref s.heap.objs.size) { s with heap := s.heap.push o }) : wpAny (model C.g.prog C.g.w) C.A (pyIter v) Q E s := by
  cases hi with
  | lst =>
    obtain ⟨ax, vs, rfl, hx, hl, hr⟩ := r
    have hne : ax ≠ s.heap.objs.size := by obtain ⟨o, ho, _⟩ := hl; exact Nat.ne_of_lt (Heap.lt_size ho)
    refine wpAny_pyIter_list hl (k [s.heap.objs.size, ax] (fun i v => vs.toArray[i]? = some v) (fun i h => h.IsListIter s.heap.objs.size ax i ∧ h.IsList ax vs.toArray) _ ⟨?_, ?_, ?_, ?_, ?_, ?_⟩ rfl)
    · have W := Walks.list (prog := C.g.prog) (w := C.g.w) ok.room.hh s.heap.objs.size ax hne vs.toArray
      rw [show vs.toArray.size = xs.length from hr.length] at W
      exact W
    · exact ⟨⟨_, Heap.get?_push_size _ rfl, rfl, rfl⟩, hl.push _⟩
    · intro b hb
      rcases List.mem_cons.mp hb with e | hb
      · exact .inl e
      · obtain rfl := List.mem_singleton.mp hb
        obtain ⟨o, ho, hc, n, hd⟩ := hl
        exact .inr (.inl ⟨hx, o, Heap.get?_push_of_some _ ho, .inl ⟨_, n, hd⟩⟩)
    · intro i v hP
      have hP' : vs[i]? = some v := by simpa using hP
      have hlt : i < xs.length := by rw [← hr.length]; exact (List.getElem?_eq_some_iff.mp hP').1
      obtain ⟨v', hv', rv⟩ := hr.get i xs[i] (by simp)
      rw [hP'] at hv'; cases hv'
      exact ⟨xs[i], by simp, rv.st (StIn.push _ _)⟩
    · rintro i h ⟨⟨o, ho, hc, hd⟩, _⟩
      refine ⟨o, ho, ?_⟩
      rintro (⟨xs, n, q⟩ | ⟨q, _⟩)
      · rw [hd] at q; cases q
      · rw [hc] at q; exact absurd q (by decide)
    · rintro i h ⟨⟨o, ho, hc, hd⟩, _⟩
      exact ⟨o, _, ho, hc, by decide⟩
  | tup =>
    obtain ⟨ax, vs, rfl, hl, hr⟩ := r
    have hne : ax ≠ s.heap.objs.size := by obtain ⟨o, ho, _⟩ := hl; exact Nat.ne_of_lt (Heap.lt_size ho)
    refine wpAny_pyIter_tuple hl (k [s.heap.objs.size, ax] (fun i v => vs.toArray[i]? = some v) (fun i h => h.IsTupleIter s.heap.objs.size ax i ∧ h.IsTuple ax vs.toArray) _ ⟨?_, ?_, ?_, ?_, ?_, ?_⟩ rfl)
    · have W := Walks.tuple (prog := C.g.prog) (w := C.g.w) ok.room.hh s.heap.objs.size ax hne vs.toArray
      rw [show vs.toArray.size = xs.length from hr.length] at W
      exact W
    · exact ⟨⟨_, Heap.get?_push_size _ rfl, rfl, rfl⟩, hl.push _⟩
    · intro b hb
      rcases List.mem_cons.mp hb with e | hb
      · exact .inl e
      · obtain rfl := List.mem_singleton.mp hb
        obtain ⟨o, ho, hc, n, hd⟩ := hl
        exact .inr (.inr ⟨o, Heap.get?_push_of_some _ ho, .inl ⟨_, n, hd⟩, by rw [hc]; decide⟩)
    · intro i v hP
      have hP' : vs[i]? = some v := by simpa using hP
      have hlt : i < xs.length := by rw [← hr.length]; exact (List.getElem?_eq_some_iff.mp hP').1
      obtain ⟨v', hv', rv⟩ := hr.get i xs[i] (by simp)
      rw [hP'] at hv'; cases hv'
      exact ⟨xs[i], by simp, rv.st (StIn.push _ _)⟩
    · rintro i h ⟨⟨o, ho, hc, hd⟩, _⟩
      refine ⟨o, ho, ?_⟩
      rintro (⟨xs, n, q⟩ | ⟨q, _⟩)
      · rw [hd] at q; cases q
      · rw [hc] at q; exact absurd q (by decide)
    · rintro i h ⟨⟨o, ho, hc, hd⟩, _⟩
      exact ⟨o, _, ho, hc, by decide⟩
  | rng a b c n hn =>
    obtain ⟨r, t, u, w, rfl, hr⟩ := r
    have hlen : (rngL a c n).length = n := by simp [rngL]
    have hit : ∀ (i : Nat) v (h : Heap), (∃ t, v = Value.int (a + i * c) t) → i < n → ∃ av, (rngL a c n)[i]? = some av ∧ RelV X h av v := by
      rintro i v h ⟨t, rfl⟩ hlt
      exact ⟨.int (a + i * c), by simp [rngL, hlt], ⟨t, rfl⟩⟩
    cases hs : Builtin.Range.small a b c with
    | true =>
      refine wpAny_pyIter_range hr hs (k [s.heap.objs.size] (fun i v => i < n ∧ ∃ t, v = .int (a + i * c) t) (fun i h => IsRangeIter h s.heap.objs.size (a + (i : Nat) * c) ((n : Int) - (i : Nat)) c) _ ⟨?_, ?_, ?_, ?_, ?_, ?_⟩ rfl)
      · rw [hlen]
        have W := Walks.range (prog := C.g.prog) (w := C.g.w) ok.room.hh s.heap.objs.size a c n
        exact ⟨W.sub, W.frame, fun i s Q E hi st hQ => W.item i s Q E hi st fun v h' tk hP => hQ v h' tk ⟨hi, hP⟩, W.done, W.self⟩
      · show IsRangeIter _ _ _ _ _
        rw [show a + ((0 : Nat) : Int) * c = a by simp, show (n : Int) - ((0 : Nat) : Int) = Builtin.Range.rangeSize a b c by rw [hn]; simp]
        exact Heap.get?_push_size _ rfl
      · intro b hb; exact .inl (List.mem_singleton.mp hb)
      · exact fun i v hP => hit i v _ hP.2 hP.1
      · intro i h hst
        refine ⟨_, hst, ?_⟩
        rintro (⟨xs, n, q⟩ | ⟨q, _⟩)
        · cases q
        · exact absurd q (show Value.type "range_iterator" ≠ Value.type "range" by decide)
      · intro i h hst
        exact ⟨_, "range_iterator", hst, rfl, by decide⟩
    | false =>
      refine wpAny_pyIter_longrange hr hs (k [s.heap.objs.size] (fun i v => i < n ∧ ∃ t, v = .int (a + i * c) t) (fun i h => IsLongIter h s.heap.objs.size (a + (i : Nat) * c) ((n : Int) - (i : Nat)) c) _ ⟨?_, ?_, ?_, ?_, ?_, ?_⟩ rfl)
      · rw [hlen]
        have W := Walks.longrange (prog := C.g.prog) (w := C.g.w) ok.room.hh s.heap.objs.size a c n
        exact ⟨W.sub, W.frame, fun i s Q E hi st hQ => W.item i s Q E hi st fun v h' tk hP => hQ v h' tk ⟨hi, hP⟩, W.done, W.self⟩
      · show IsLongIter _ _ _ _ _
        rw [show a + ((0 : Nat) : Int) * c = a by simp, show (n : Int) - ((0 : Nat) : Int) = Builtin.Range.rangeSize a b c by rw [hn]; simp]
        exact Heap.get?_push_size _ rfl
      · intro b hb; exact .inl (List.mem_singleton.mp hb)
      · exact fun i v hP => hit i v _ hP.2 hP.1
      · intro i h hst
        refine ⟨_, hst, ?_⟩
        rintro (⟨xs, n, q⟩ | ⟨q, _⟩)
        · cases q
        · exact absurd q (show Value.type "longrange_iterator" ≠ Value.type "range" by decide)
      · intro i h hst
        exact ⟨_, "longrange_iterator", hst, rfl, by decide⟩

variable {C : CX} {S : AS} {Ψ : AFl → AS → Prop}

noncomputable def AS.sets (S : AS) : List Str → List AV → AS
  | x :: xs, a :: as => (S.set x a).sets xs as
  | _, _ => S

theorem stores_rel {s₀ : Shared} {X₀ : List Addr} {β : Option Addr} (ok : C.Ok) {M : Model} {A : Around} {E : Value → Shared → Prop} :
    ∀ (fs : List (Str × (Value → Sem Unit))) (as : List AV) (vs : List Value) (S : AS) (s : Shared) (Q : Unit → Shared → Prop), FS C s₀ X₀ β S s → RelVs (β.toList ++ X₀) s.heap as vs → fs.length = as.length →
      (∀ x ∈ fs, ∀ v Q s, wpAny M A (storeName C.env x.1 v) Q E s → wpAny M A (x.2 v) Q E s) →
      (∀ x ∈ fs, (C.env.kindOf x.1 = some .local ∨ (C.env.kindOf x.1 = some .cell ∧ (C.env.cells.lookup x.1).isSome = true)) ∧ S.off x.1) →
      (∀ h' tk, FS C s₀ X₀ β (S.sets (fs.map (·.1)) as) { s with heap := h', toks := tk } → FKeep C β s.heap h' → Q () { s with heap := h', toks := tk }) → wpAny M A (assignInOrder (fs.map (·.2)) vs) Q E s
  | [], _, vs, S, s, Q, F, r, hl, hf, hx, k => by
    show wpAny M A (assignInOrder [] vs) Q E s
    unfold assignInOrder
    exact wpAny_pure (k s.heap s.toks F (.of (StIn.refl _)))
  | x :: xs, [], vs, S, s, Q, F, r, hl, hf, hx, k => by simp at hl
  | (x, f) :: xs, a :: as, vs, S, s, Q, F, r, hl, hf, hx, k => by
    obtain ⟨v, vs', rfl, rv, rr⟩ := r
    show wpAny M A (do holding vs' (f v); assignInOrder (xs.map (·.2)) vs') Q E s
    refine wpAny_bind (wpAny_holding (hf (x, f) (List.mem_cons_self) v _ s ?_))
    refine store_rel ok F rv (hx (x, f) List.mem_cons_self).1 (hx (x, f) List.mem_cons_self).2 fun h' tk F' fk => ?_
    refine stores_rel ok xs as vs' (S.set x a) _ Q F' (rr.keep (fk.vkeep F.ffr)) (by simpa using hl) (fun y hy => hf y (List.mem_cons_of_mem _ hy)) (fun y hy => hx y (List.mem_cons_of_mem _ hy)) fun h'' tk' F'' fk' => ?_
    exact k h'' tk' F'' (fk.trans (.refl _ _) fk')

theorem RelVs.snoc {X : List Addr} {h : Heap} : ∀ {l : List AV} {vs : List Value} {a : AV} {v : Value}, RelVs X h l vs → RelV X h a v → RelVs X h (l ++ [a]) (vs ++ [v])
  | _, _, _, _, r, ra => r.append ⟨_, _, rfl, ra, rfl⟩
theorem RelVs.rev {X : List Addr} {h : Heap} : ∀ {l : List AV} {vs : List Value}, RelVs X h l vs → RelVs X h l.reverse vs.reverse
  | [], _, r => by rw [show _ = [] from r]; rfl
  | a :: l, _, ⟨v, r, e, h1, h2⟩ => by rw [e, List.reverse_cons, List.reverse_cons]; exact (RelVs.rev h2).snoc h1

theorem ext_st {h h' : Heap} (he : Heap.ExtBut h.objs.size h h') : StIn h h' := fun b o e => he b o (Nat.ne_of_lt (Heap.lt_size e)) e

theorem unpack_go {s₀ s : Shared} {X₀ : List Addr} {β : Option Addr} {a : Addr} {l : List AV} {vs : List Value} {nps : List (Str × Pos)} {elts : List Expr} {k₀ : Nat} {tp : Pos} {Q : Unit → Shared → Prop} {E : Value → Shared → Prop} (ok : C.Ok) (F : FS C s₀ X₀ β S s)
    (ht : s.heap.IsTuple a vs.toArray) (hr : RelVs (β.toList ++ X₀) s.heap l vs) (hl : l.length = nps.length) (hx : ∀ x ∈ nps, Stb C S x.1) (he : elts = nps.map fun p => Expr.Name p.1 p.2)
    (k : ∀ h' tk, FS C s₀ X₀ β (S.sets (nps.map (·.1)) l) { s with heap := h', toks := tk } → FKeep C β s.heap h' → Q () { s with heap := h', toks := tk }) :
    wpAny (model C.g.prog C.g.w) C.A (assign (.Tuple elts k₀ tp) C.env (.ref a)) Q E s := by
  have hae : ∀ nps : List (Str × Pos), assignEach (nps.map fun p => Expr.Name p.1 p.2) C.env = nps.map fun p => (false, assign (.Name p.1 p.2) C.env) := by
    intro nps
    induction nps with
    | nil => rfl
    | cons p r ih => rw [List.map_cons, List.map_cons, ← ih]; rfl
  subst he
  refine wpAny_assign_Tuple ok.room.hh ht (by rw [hae, List.length_map, List.size_toArray, hr.length, hl]) (by
    rw [hae]
    induction nps with
    | nil => rfl
    | cons p r _ => simp) fun h' hb => ?_
  have st := ext_st hb
  have e1 : (nps.map fun p => (p.1, assign (.Name p.1 p.2) C.env)).map (·.1) = nps.map (·.1) := by rw [List.map_map]; rfl
  have e2 : (nps.map fun p => (p.1, assign (.Name p.1 p.2) C.env)).map (·.2) = (nps.map fun p => (false, assign (.Name p.1 p.2) C.env)).map (·.2) := by rw [List.map_map, List.map_map]; rfl
  have := stores_rel (M := model C.g.prog C.g.w) (A := C.A) (E := E) ok (nps.map fun p => (p.1, assign (.Name p.1 p.2) C.env)) l vs S { s with heap := h' } Q (F.st (tk := s.toks) st) (hr.st st) (by rw [List.length_map, hl])
    (fun x hx v Q s hq => by obtain ⟨p, _, rfl⟩ := List.mem_map.mp hx; exact wpAny_assign_Name hq)
    (fun x hx' => by obtain ⟨p, hp, rfl⟩ := List.mem_map.mp hx'; exact hx p hp)
    (fun h'' tk F'' fk => k h'' tk (by rw [e1] at F''; exact F'') (FKeep.trans (.of st) (.refl _ _) fk))
  rw [hae, ← e2]
  exact this

theorem ExS_unpack2 {x y : Str} {px py tp pos : Pos} {k₀ : Nat} {e : Expr} (h : Ev C S e fun av => ∃ a b, av = .tup [a, b] ∧ Ψ .next ((S.set x a).set y b)) (hx : Stb C S x) (hy : Stb C S y)
    (hs : swapsWithSole [.Tuple [.Name x px, .Name y py] k₀ tp] e pos.line C.env = pure false := by rfl) (hw : swappedStores [.Tuple [.Name x px, .Name y py] k₀ tp] e C.env = pure none := by rfl) : ExS C S (.Assign [.Tuple [.Name x px, .Name y py] k₀ tp] e pos) Ψ := by
  refine ⟨fun ok s₀ X₀ β s Q p F k => ?_⟩
  refine PyProof.Rows.Assign_Tuple (h.go ok _ s _ _ (p.st F.keep) F.xinh F.relS fun av v h₁ t₁ st₁ rv hyp => ?_) hs hw
  obtain ⟨a, b, rfl, ψ⟩ := hyp
  obtain ⟨ad, vs, rfl, ht, hr⟩ := rv
  refine unpack_go (nps := [(x, px), (y, py)]) ok (F.st (tk := t₁) st₁) ht hr rfl (by intro z hz; simp at hz; rcases hz with rfl | rfl <;> assumption) rfl fun h' tk F' fk => ?_
  exact k .next .next _ β h' tk F' (FKeep.trans (.of st₁) (.refl _ _) fk) (.refl _ _) rfl ψ

theorem ExS_swap2 {x y : Str} {px py tp pos : Pos} {k₀ : Nat} {e : Expr} (h : Ev C S e fun av => ∃ a b, av = .tup [a, b] ∧ Ψ .next ((S.set y b).set x a)) (hx : Stb C S x) (hy : Stb C S y)
    (hs : swapsWithSole [.Tuple [.Name x px, .Name y py] k₀ tp] e pos.line C.env = pure false := by rfl) (hw : swappedStores [.Tuple [.Name x px, .Name y py] k₀ tp] e C.env = pure (some [x, y]) := by rfl) : ExS C S (.Assign [.Tuple [.Name x px, .Name y py] k₀ tp] e pos) Ψ := by
  refine ⟨fun ok s₀ X₀ β s Q p F k => ?_⟩
  refine PyProof.Rows.Assign_Tuple_swapped (names := [x, y]) (h.go ok _ s _ _ (p.st F.keep) F.xinh F.relS fun av v h₁ t₁ st₁ rv hyp => ?_) hs hw
  obtain ⟨a, b, rfl, ψ⟩ := hyp
  obtain ⟨ad, vs, rfl, ht, hr⟩ := rv
  have F₁ := F.st (tk := t₁) st₁
  have e2 : [x, y].length = vs.toArray.size := by rw [List.size_toArray, hr.length]; rfl
  rw [e2]
  refine wpAny_unpackItems_tuple (s := { s with heap := h₁, toks := t₁ }) ok.room.hh ht fun h' he => ?_
  have st₂ : StIn h₁ h' := ext_st he
  refine stores_rel ok [(y, fun v => bindName C.env y v), (x, fun v => bindName C.env x v)] [b, a] vs.reverse S _ _ (F₁.st (tk := t₁) st₂) (hr.st st₂).rev rfl (fun z hz v Q s hq => ?_) (fun z hz => ?_) fun h'' tk F'' fk => ?_
  · simp at hz; rcases hz with rfl | rfl <;> exact wpAny_bindName hq
  · simp at hz; rcases hz with rfl | rfl <;> assumption
  · exact k .next .next _ β h'' tk F'' (FKeep.trans (.of (st₁.trans st₂)) (.refl _ _) fk) (.refl _ _) rfl ψ

-- defs
theorem bindL_spec {kindOf : Str → Option NameKind} : ∀ (binds : List (Str × Value)) (m : Str → Option Value) (x : Str) (v : Value), (binds.map (·.1)).Nodup → binds.lookup x = some v → kindOf x = some .local → bindL kindOf binds m x = some v
  | (n, w) :: r, m, x, v, hnd, hl, hk => by
    rw [List.lookup_cons] at hl
    obtain ⟨hn, hr⟩ := List.nodup_cons.mp hnd
    unfold bindL
    cases hb : x == n with
    | true =>
      rw [hb] at hl; cases hl
      obtain rfl := beq_iff_eq.mp hb
      rw [if_pos hk]
      have skip : ∀ (r : List (Str × Value)) (m : Str → Option Value), x ∉ r.map (·.1) → bindL kindOf r m x = m x := by
        intro r
        induction r with
        | nil => intro m _; rfl
        | cons p r ih =>
          intro m hx
          obtain ⟨q, u⟩ := p
          simp only [List.map_cons, List.mem_cons, not_or] at hx
          unfold bindL
          rw [ih _ hx.2]
          split
          · simp [hx.1]
          · rfl
      rw [skip r _ hn]; simp
    | false => rw [hb] at hl; exact bindL_spec r _ x v hr hl hk
theorem bindC_spec {kindOf : Str → Option NameKind} : ∀ (binds : List (Str × Value)) (m : Str → Option Value) (x : Str) (v : Value), (binds.map (·.1)).Nodup → binds.lookup x = some v → kindOf x = some .cell → bindC kindOf binds m x = some v
  | (n, w) :: r, m, x, v, hnd, hl, hk => by
    rw [List.lookup_cons] at hl
    obtain ⟨hn, hr⟩ := List.nodup_cons.mp hnd
    unfold bindC
    cases hb : x == n with
    | true =>
      rw [hb] at hl; cases hl
      obtain rfl := beq_iff_eq.mp hb
      rw [if_neg (by rw [hk]; decide)]
      have skip : ∀ (r : List (Str × Value)) (m : Str → Option Value), x ∉ r.map (·.1) → bindC kindOf r m x = m x := by
        intro r
        induction r with
        | nil => intro m _; rfl
        | cons p r ih =>
          intro m hx
          obtain ⟨q, u⟩ := p
          simp only [List.map_cons, List.mem_cons, not_or] at hx
          unfold bindC
          rw [ih _ hx.2]
          split
          · rfl
          · simp [hx.1]
      rw [skip r _ hn]; simp
    | false => rw [hb] at hl; exact bindC_spec r _ x v hr hl hk

theorem lookup_zip {X : List Addr} {h : Heap} : ∀ {ns : List Str} {as : List AV} {vs : List Value} {x : Str} {a : AV}, RelVs X h as vs → (ns.zip as).lookup x = some a → ∃ v, (ns.zip vs).lookup x = some v ∧ RelV X h a v
  | [], _, _, _, _, _, e => by simp at e
  | n :: ns, [], _, _, _, _, e => by simp at e
  | n :: ns, b :: as, _, x, a, ⟨v, vs, rfl, rv, rr⟩, e => by
    rw [List.zip_cons_cons, List.lookup_cons] at e
    rw [List.zip_cons_cons, List.lookup_cons]
    cases hb : x == n with
    | true => rw [hb] at e; cases e; exact ⟨v, rfl, rv⟩
    | false => rw [hb] at e; exact lookup_zip rr e

noncomputable def parsOk (ns : List Str) (scope : Scope) : Bool := ns.all fun x => match scope.names.lookup x with
  | some .local => true
  | some .cell => ((cellsFrom 0 scope.names []).lookup x).isSome
  | _ => false

theorem cells_some {x : Str} : ∀ (names : List (Str × NameKind)) (n m : Nat) (acc acc' : List (Str × Addr)), ((acc.lookup x).isSome = (acc'.lookup x).isSome) → ((cellsFrom n names acc).lookup x).isSome = ((cellsFrom m names acc').lookup x).isSome
  | [], _, _, _, _, e => e
  | (y, k) :: r, n, m, acc, acc', e => by
    unfold cellsFrom
    split
    · refine cells_some r _ _ _ _ ?_
      rw [List.lookup_cons, List.lookup_cons]
      cases x == y with
      | true => rfl
      | false => exact e
    · exact cells_some r _ _ _ _ e

theorem parsOk_spec {ns : List Str} {scope : Scope} (h : parsOk ns scope = true) (n : Nat) {x : Str} (hx : x ∈ ns) : scope.names.lookup x = some .local ∨ (scope.names.lookup x = some .cell ∧ ((cellsFrom n scope.names []).lookup x).isSome = true) := by
  have := List.all_eq_true.mp h x hx
  cases hk : scope.names.lookup x with
  | none => rw [hk] at this; cases this
  | some k =>
    rw [hk] at this
    cases k with
    | «local» => exact .inl rfl
    | cell => exact .inr ⟨rfl, by rw [cells_some scope.names n 0 [] [] rfl]; exact this⟩
    | _ => cases this

theorem codeAny_call_cellsB {prog : Program} {w : World} {A : Around} {s : Shared} {R : Result → Shared → Prop} {a : Addr} {o : Obj} {fd : FuncData} {body : List Stmt} {vals : List Value} {binds : List (Str × Value)}
    (hroom : A.depth < recursionLimit) (ho : s.heap.get? a = some o) (hdata : o.data = .func fd) (hlim : s.heap.NoLimit) (hcd : s.heap.CodeRec fd.code fd.qualname)
    (hbody : fd.body = .stmts body) (hbind : BindsTo s fd ⟨vals, []⟩ binds) (hclo : fd.closure = [])
    (hkind : ∀ x ∈ binds, fd.scope.names.lookup x.1 = some .local ∨ (fd.scope.names.lookup x.1 = some .cell ∧ ((cellsFrom (s.heap.objs.size + 1) fd.scope.names []).lookup x.1).isSome = true))
    (h : ∀ s₁, InCallC s (callEnvC fd s.heap.objs.size a).locals (bindL (callEnvC fd s.heap.objs.size a).kindOf binds fun _ => none) (callEnvC fd s.heap.objs.size a).cells
        (bindC (callEnvC fd s.heap.objs.size a).kindOf binds fun _ => none) s₁ →
      wpAny (model prog w) (A.deeper (callEnvC fd s.heap.objs.size a)) (execs body (callEnvC fd s.heap.objs.size a)) (fun f s' => R (.ok (.ret (match f with | .ret v => v | _ => .none))) s')
        (fun e s' => wpAny (model prog w) (A.deeper (callEnvC fd s.heap.objs.size a)) (leaving (callEnvC fd s.heap.objs.size a) e) (fun _ s'' => R (.error e) s'') (fun e' s'' => R (.error e') s'') s') s₁)
    (hco : fd.scope.isCoroutine = false) (hgen : fd.scope.isGenerator = false) (hk : fd.scope.kind = .function) :
    codeAny (model prog w) A (.call (.ref a) ⟨vals, []⟩) R s := by
  refine codeAny_call_function hroom ho hdata hco hgen hbody hcd (hbind _ _ _ _ ?_)
  rw [hclo]
  refine wpAny_newFunctionEnv_cells hk hkind fun env he s' x => ?_
  subst he
  exact ⟨hlim.keeps x.toInCall.keep, codeAny_func (h s' x)⟩
theorem enter_def {g : GX} {n : Nat} {a : Addr} {ns : List Str} {body : List Stmt} {scope : Scope} {args : List AV}
    (hfd : ∀ h, PG g h → ∃ o d, h.get? a = some o ∧ o.data = .func d ∧ h.CodeRec d.code d.qualname ∧ d.body = .stmts body ∧ d.scope = scope ∧ d.closure = [] ∧ d.globals = mainGlobals ∧ d.builtins = builtinsNs ∧
      ∀ (vs : List Value) (s : Shared), s.heap = h → vs.length = args.length → BindsTo s d ⟨vs, []⟩ (ns.zip vs))
    (hlen : ns.length = args.length) (hp : parsOk ns scope = true) (hnd : ns.Nodup) (hk : scope.kind = .function) (hgen : scope.isGenerator = false) (hco : scope.isCoroutine = false)
    {A : Around} {l : List Env} {X : List Addr} {s : Shared} {vs : List Value} {Q : Value → Shared → Prop} {E : Value → Shared → Prop} (hfr : A.frames = some l) (ro : Room A (n + 1)) (p : PG g s.heap) (xi : XIn X s.heap) (rv : RelVs X s.heap args vs)
    (k : ∀ (L : Addr) (qual : Str) (code : Value) (C : CX), C = ⟨g, A.deeper (newEnv scope L mainGlobals (cellsFrom (L + 1) scope.names []) qual (some a) code none builtinsNs), newEnv scope L mainGlobals (cellsFrom (L + 1) scope.names []) qual (some a) code none builtinsNs, n⟩ → C.Ok → s.heap.get? L = none →
      ∀ h₁ tk₁, FS C s X none ⟨ns.zip args, none⟩ { s with heap := h₁, toks := tk₁ } →
        wpAny (model g.prog g.w) C.A (execs body C.env) (fun f s' => Q (match f with | .ret v => v | _ => .none) s') (fun e s' => wpAny (model g.prog g.w) C.A (leaving C.env e) (fun _ s'' => E e s'') (fun e' s'' => E e' s'') s') { s with heap := h₁, toks := tk₁ }) :
    wpAny (model g.prog g.w) A (call (.ref a) vs) Q E s := by
  obtain ⟨o, d, ho, hd, hcd, hdb, hds, hdc, hdg, hdbl, hbind⟩ := hfd _ p
  have hvl : vs.length = args.length := rv.length
  have hb := hbind vs s rfl hvl
  have hdep := ro.depth
  have hun := ro.units
  have hzip1 : ∀ x ∈ ns.zip vs, x.1 ∈ ns := fun x hx => (List.of_mem_zip (a := x.1) (b := x.2) hx).1
  have hmapz : (ns.zip vs).map (·.1) = ns := by
    rw [List.map_fst_zip]; omega
  refine wpAny_call (codeAny_call_cellsB (by omega) ho hd p.top.nolimit hcd hdb hb hdc (fun x hx => by rw [hds]; exact parsOk_spec hp _ (hzip1 x hx)) (fun s₁ ic => ?_) (by rw [hds]; exact hco) (by rw [hds]; exact hgen) (by rw [hds]; exact hk))
  generalize hL : s.heap.objs.size = L at ic
  have henv : callEnvC d L a = newEnv scope L mainGlobals (cellsFrom (L + 1) scope.names []) (d.qualname ++ ".<locals>.") (some a) d.code none builtinsNs := by
    unfold callEnvC; rw [hds, hdg, hdbl]
  rw [henv] at ic ⊢
  generalize d.qualname ++ ".<locals>." = qual at *
  obtain ⟨h₁, tk₁, hs₁⟩ := ic.toInCall.same
  subst hs₁
  have st₁ : StIn s.heap h₁ := ic.toInCall.keep
  have hLn : s.heap.get? L = none := by
    cases e : s.heap.get? L with
    | none => rfl
    | some o' => have := Heap.lt_size e; rw [hL] at this; exact absurd this (Nat.lt_irrefl _)
  refine k L qual d.code _ rfl ⟨⟨ro.hh, ?_, ?_, ⟨_, Around.frames_deeper hfr⟩⟩, hk, rfl, rfl, ⟨_, l, Around.frames_deeper hfr, hgen, hco, rfl, rfl⟩⟩ hLn h₁ tk₁ ⟨⟨_, _, ic⟩, ?_, trivial, xi⟩
  · show A.depth + 1 + n + 110 < recursionLimit; omega
  · show A.units + 3 + 16 * n + 100 < cLine; omega
  · intro x av e
    obtain ⟨v, hv, rx⟩ := lookup_zip (rv.st st₁) e
    refine ⟨v, ?_, by simpa using rx⟩
    have hxn : x ∈ ns := hzip1 (x, v) (mem_of_lookup hv)
    rcases parsOk_spec hp (L + 1) hxn with h1 | ⟨h1, h2⟩
    · exact .inl ⟨h1, _, ic.toInCall.ns, bindL_spec _ _ x v (by rw [hmapz]; exact hnd) hv h1⟩
    · obtain ⟨c, hc⟩ := Option.isSome_iff_exists.mp h2
      refine .inr ⟨.inl h1, c, hc, ?_⟩
      have := ic.cell x c hc
      rw [bindC_spec _ _ x v (by rw [hmapz]; exact hnd) hv h1] at this
      exact this

theorem CallsV_ofB {g : GX} {n : Nat} {a : Addr} {ns : List Str} {body : List Stmt} {scope : Scope} {args : List AV} {Φ : AV → Prop}
    (hfd : ∀ h, PG g h → ∃ o d, h.get? a = some o ∧ o.data = .func d ∧ h.CodeRec d.code d.qualname ∧ d.body = .stmts body ∧ d.scope = scope ∧ d.closure = [] ∧ d.globals = mainGlobals ∧ d.builtins = builtinsNs ∧
      ∀ (vs : List Value) (s : Shared), s.heap = h → vs.length = args.length → BindsTo s d ⟨vs, []⟩ (ns.zip vs))
    (hlen : ns.length = args.length) (hp : parsOk ns scope = true) (hnd : ns.Nodup) (hk : scope.kind = .function) (hgen : scope.isGenerator = false) (hco : scope.isCoroutine = false)
    (hbody : ∀ (A : Around) (L : Addr) (qual : Str) (code : Value), Ex ⟨g, A, newEnv scope L mainGlobals (cellsFrom (L + 1) scope.names []) qual (some a) code none builtinsNs, n⟩ ⟨ns.zip args, none⟩ body fun fl _ => match fl with
      | .ret v => Φ v
      | .next => Φ .none
      | _ => False) : CallsV g (n + 1) (.ref a) args Φ := by
  refine ⟨fun A X s vs Q E ro p xi rv k => ?_⟩
  obtain ⟨l, hfr⟩ := ro.fr
  refine enter_def hfd hlen hp hnd hk hgen hco hfr ro p xi rv fun L qual code C hC ok _ h₁ tk₁ F => ?_
  subst hC
  refine wpAny_mono ((hbody _ L qual code).go ok s X none _ _ p F fun afl fl S' β' h' tk F' fk bv rf ψ => ?_) (fun _ _ x => x) fun _ _ x => x.elim
  cases afl with
  | ret av => obtain ⟨v, rfl, rv'⟩ := rf; exact k av v h' tk F'.keep rv' ψ
  | next => obtain rfl : fl = .next := rf; exact k .none .none h' tk F'.keep rfl ψ
  | brk => exact ψ.elim
  | cont => exact ψ.elim

theorem CallsV_of {g : GX} {n : Nat} {a : Addr} {ns : List Str} {body : List Stmt} {scope : Scope} {args : List AV} {Φ : AV → Prop}
    (hfd : ∀ h, PG g h → ∃ o d, h.get? a = some o ∧ o.data = .func d ∧ h.CodeRec d.code d.qualname ∧ d.body = .stmts body ∧ d.scope = scope ∧ d.closure = [] ∧ d.globals = mainGlobals ∧ d.builtins = builtinsNs ∧
      ∀ vs : List Value, vs.length = args.length → bindArgs d ⟨vs, []⟩ = pure (ns.zip vs))
    (hlen : ns.length = args.length) (hp : parsOk ns scope = true) (hnd : ns.Nodup) (hk : scope.kind = .function) (hgen : scope.isGenerator = false) (hco : scope.isCoroutine = false)
    (hbody : ∀ (A : Around) (L : Addr) (qual : Str) (code : Value), Ex ⟨g, A, newEnv scope L mainGlobals (cellsFrom (L + 1) scope.names []) qual (some a) code none builtinsNs, n⟩ ⟨ns.zip args, none⟩ body fun fl _ => match fl with
      | .ret v => Φ v
      | .next => Φ .none
      | _ => False) : CallsV g (n + 1) (.ref a) args Φ :=
  CallsV_ofB (fun h p => let ⟨o, d, h1, h2, h3, h4, h5, h6, h7, h8, h9⟩ := hfd h p; ⟨o, d, h1, h2, h3, h4, h5, h6, h7, h8, fun vs _ _ hv => .of_eq (h9 vs hv)⟩) hlen hp hnd hk hgen hco hbody

theorem Calls_of {g : GX} {n : Nat} {f : Str} {params : Arguments} {pos : Pos} {ns : List Str} {body : List Stmt} {scope : Scope} {args : List AV} {Φ : AV → Prop}
    (hd : (⟨f, params, body, scope, pos⟩ : DefRec) ∈ recsOf g.p)
    (hbind : ∀ (vs : List Value) (pm cd doc : Value), vs.length = args.length → bindArgs (Calls.docDef f params body scope pm cd doc) ⟨vs, []⟩ = pure (ns.zip vs))
    (hlen : ns.length = args.length) (hp : parsOk ns scope = true) (hnd : ns.Nodup) (hk : scope.kind = .function) (hgen : scope.isGenerator = false) (hco : scope.isCoroutine = false)
    (hbody : ∀ (A : Around) (L a : Addr) (qual : Str) (code : Value), Ex ⟨g, A, newEnv scope L mainGlobals (cellsFrom (L + 1) scope.names []) qual (some a) code none builtinsNs, n⟩ ⟨ns.zip args, none⟩ body fun fl _ => match fl with
      | .ret v => Φ v
      | .next => Φ .none
      | _ => False) : Calls g (n + 1) f args Φ := by
  obtain ⟨h, T, _⟩ := g.inh
  obtain ⟨a, o, pm, code, doc, h1, _⟩ := T.fn _ hd
  have at_ : ∀ h, PG g h → ∃ o pm code doc, h.get? a = some o ∧ o.data = .func (Calls.docDef f params body scope pm code doc) ∧ h.CodeRec code f := by
    intro h p
    obtain ⟨a', o, pm, code, doc, h1', h2, h3, h4⟩ := p.top.fn _ hd
    rw [h1] at h1'; cases h1'
    exact ⟨o, pm, code, doc, h2, h3, h4⟩
  refine ⟨a, ⟨h1, fun h p => let ⟨o, pm, code, doc, q1, q2, _⟩ := at_ h p; ⟨o, _, q1, q2⟩⟩, ?_⟩
  refine CallsV_of (fun h p => ?_) hlen hp hnd hk hgen hco (fun A L qual code => hbody A L a qual code)
  obtain ⟨o, pm, code, doc, q1, q2, q3⟩ := at_ h p
  exact ⟨o, _, q1, q2, q3, rfl, rfl, rfl, rfl, rfl, fun vs hv => hbind vs pm code doc hv⟩
theorem FnIs_of {g : GX} {f : Str} {params : Arguments} {pos : Pos} {body : List Stmt} {scope : Scope} (hd : (⟨f, params, body, scope, pos⟩ : DefRec) ∈ recsOf g.p) : ∃ a, FnIs g f a := by
  obtain ⟨h, T, _⟩ := g.inh
  obtain ⟨a, o, pm, code, doc, h1, _⟩ := T.fn _ hd
  refine ⟨a, h1, fun h p => ?_⟩
  obtain ⟨a', o, pm, code, doc, h1', h2, h3, h4⟩ := p.top.fn _ hd
  rw [h1] at h1'; cases h1'
  exact ⟨o, _, h2, h3⟩
theorem law_end {l : OpenLaw} {cl : Str → Option Addr} {mean : ExcName → Option Value} {args : List WData} {s₁ s' : Shared} (hk : StIn s₁.heap s'.heap) (ho : s'.os = s₁.os) (hg : s'.gens = #[]) :
    GoodWG l.row.claim cl mean args s₁ (.ok (.ret (.bool true))) s' := by
  refine GoodW.toG ⟨.inl ⟨.bool true, .bool true, [], rfl, fun _ => rfl, .bool true, ?_, fun _ => ⟨.nil, fun _ h => nomatch h⟩⟩, hk, ho, hg⟩
  exact postW_of rfl (w_eq_bool (w_res rfl) w_lit) rfl

theorem ifT {c : Bool} {P Q : Prop} (h1 : c = true → P) (h2 : c = false → Q) : if c = true then P else Q := by cases c <;> simp_all
theorem ifD {p : Prop} [Decidable p] {P Q : Prop} (h1 : p → P) (h2 : ¬ p → Q) : if decide p = true then P else Q := ifT (fun h => h1 (of_decide_eq_true h)) (fun h => h2 (of_decide_eq_false h))
theorem ifE {a b : Int} {P Q : Prop} (h1 : a = b → P) (h2 : a ≠ b → Q) : if (a == b) = true then P else Q := ifT (fun h => h1 (by simpa using h)) (fun h => h2 (by simpa using h))
theorem ifN {a b : Int} {P Q : Prop} (h1 : a ≠ b → P) (h2 : a = b → Q) : if (a != b) = true then P else Q := ifT (fun h => h1 (by simpa using h)) (fun h => h2 (by simpa using h))
theorem boot_abs : bootBuiltins "abs" = some (.builtin "abs") := by decide +kernel
theorem boot_len : bootBuiltins "len" = some (.builtin "len") := by decide +kernel
theorem boot_divmod : bootBuiltins "divmod" = some (.builtin "divmod") := by decide +kernel
theorem boot_min : bootBuiltins "min" = some (.builtin "min") := by decide +kernel
theorem boot_max : bootBuiltins "max" = some (.builtin "max") := by decide +kernel
theorem boot_range : bootBuiltins "range" = some (.type "range") := by decide +kernel
theorem boot_int : bootBuiltins "int" = some (.type "int") := by decide +kernel
theorem boot_str : bootBuiltins "str" = some (.type "str") := by decide +kernel
theorem boot_type : bootBuiltins "type" = some (.type "type") := by decide +kernel
section
variable {C : CX} {S : AS} {Φ : AV → Prop} {fp pos : Pos} {args : List Expr}
theorem Ev_abs (hx : C.env.kindOf "abs" = some .globalImplicit) (h : Evs C S args fun avs => CallB C (.builtin "abs") avs Φ) (ha : ∃ x r, starEach args C.env = (false, x) :: r ∧ (starEach args C.env).any (·.1) = false := by exact ⟨_, _, rfl, rfl⟩) :
    Ev C S (.Call (.Name "abs" fp) args [] pos) Φ := Ev_callB (C.g.nob _ (by decide)) boot_abs hx h ha
theorem Ev_len (hx : C.env.kindOf "len" = some .globalImplicit) (h : Evs C S args fun avs => CallB C (.builtin "len") avs Φ) (ha : ∃ x r, starEach args C.env = (false, x) :: r ∧ (starEach args C.env).any (·.1) = false := by exact ⟨_, _, rfl, rfl⟩) :
    Ev C S (.Call (.Name "len" fp) args [] pos) Φ := Ev_callB (C.g.nob _ (by decide)) boot_len hx h ha
theorem Ev_divmod (hx : C.env.kindOf "divmod" = some .globalImplicit) (h : Evs C S args fun avs => CallB C (.builtin "divmod") avs Φ) (ha : ∃ x r, starEach args C.env = (false, x) :: r ∧ (starEach args C.env).any (·.1) = false := by exact ⟨_, _, rfl, rfl⟩) :
    Ev C S (.Call (.Name "divmod" fp) args [] pos) Φ := Ev_callB (C.g.nob _ (by decide)) boot_divmod hx h ha
theorem Ev_min (hx : C.env.kindOf "min" = some .globalImplicit) (h : Evs C S args fun avs => CallB C (.builtin "min") avs Φ) (ha : ∃ x r, starEach args C.env = (false, x) :: r ∧ (starEach args C.env).any (·.1) = false := by exact ⟨_, _, rfl, rfl⟩) :
    Ev C S (.Call (.Name "min" fp) args [] pos) Φ := Ev_callB (C.g.nob _ (by decide)) boot_min hx h ha
theorem Ev_max (hx : C.env.kindOf "max" = some .globalImplicit) (h : Evs C S args fun avs => CallB C (.builtin "max") avs Φ) (ha : ∃ x r, starEach args C.env = (false, x) :: r ∧ (starEach args C.env).any (·.1) = false := by exact ⟨_, _, rfl, rfl⟩) :
    Ev C S (.Call (.Name "max" fp) args [] pos) Φ := Ev_callB (C.g.nob _ (by decide)) boot_max hx h ha
theorem Ev_range (hx : C.env.kindOf "range" = some .globalImplicit) (h : Evs C S args fun avs => CallB C (.type "range") avs Φ) (ha : ∃ x r, starEach args C.env = (false, x) :: r ∧ (starEach args C.env).any (·.1) = false := by exact ⟨_, _, rfl, rfl⟩) :
    Ev C S (.Call (.Name "range" fp) args [] pos) Φ := Ev_callT (C.g.nob _ (by decide)) boot_range hx h ha
theorem Ev_int (hx : C.env.kindOf "int" = some .globalImplicit) (h : Evs C S args fun avs => CallB C (.type "int") avs Φ) (ha : ∃ x r, starEach args C.env = (false, x) :: r ∧ (starEach args C.env).any (·.1) = false := by exact ⟨_, _, rfl, rfl⟩) :
    Ev C S (.Call (.Name "int" fp) args [] pos) Φ := Ev_callT (C.g.nob _ (by decide)) boot_int hx h ha
theorem Ev_str (hx : C.env.kindOf "str" = some .globalImplicit) (h : Evs C S args fun avs => CallB C (.type "str") avs Φ) (ha : ∃ x r, starEach args C.env = (false, x) :: r ∧ (starEach args C.env).any (·.1) = false := by exact ⟨_, _, rfl, rfl⟩) :
    Ev C S (.Call (.Name "str" fp) args [] pos) Φ := Ev_callT (C.g.nob _ (by decide)) boot_str hx h ha
theorem Ev_type (hx : C.env.kindOf "type" = some .globalImplicit) (h : Evs C S args fun avs => CallB C (.type "type") avs Φ) (ha : ∃ x r, starEach args C.env = (false, x) :: r ∧ (starEach args C.env).any (·.1) = false := by exact ⟨_, _, rfl, rfl⟩) :
    Ev C S (.Call (.Name "type" fp) args [] pos) Φ := Ev_callT (C.g.nob _ (by decide)) boot_type hx h ha
theorem Ev_ty_int (hx : C.env.kindOf "int" = some .globalImplicit) (h : Φ (.ty "int")) : Ev C S (.Name "int" pos) Φ := Ev_boot (av := .ty "int") (C.g.nob _ (by decide)) boot_int hx (fun _ _ => rfl) h
end
theorem AS.le_of {S S' : AS} (h : ∀ p ∈ S'.vs, S.vs.lookup p.1 = some p.2) (ho : S.own = S'.own) : S.le S' := ⟨fun x av e => h (x, av) (mem_of_lookup e), ho⟩
-- one step of the walk
local macro_rules | `(tactic| walk_at "mw") => `(tactic| first
  | refine Ex_cons ?_
  | refine Ex_nil ?_
  | refine ExS_assign ?_ ⟨.inl rfl, by first | exact trivial | exact rfl⟩
  | refine ExS_assign ?_ ⟨.inr ⟨rfl, rfl⟩, by first | exact trivial | exact rfl⟩
  | refine ExS_return ?_
  | refine ExS_if ?_
  | refine ExS_swap2 ?_ ⟨.inl rfl, by first | exact trivial | exact rfl⟩ ⟨.inl rfl, by first | exact trivial | exact rfl⟩
  | refine ExS_unpack2 ?_ ⟨.inl rfl, by first | exact trivial | exact rfl⟩ ⟨.inl rfl, by first | exact trivial | exact rfl⟩
  | refine ExS_aug rfl ?_ ⟨.inl rfl, by first | exact trivial | exact rfl⟩
  | refine Ev_const_int ?_
  | refine Ev_const_bool ?_
  | refine Ev_const_str ?_
  | refine Ev_name rfl ?_
  | refine Ev_bin ?_
  | refine Ev_una ?_
  | refine Ev_cmp ?_
  | refine Ev_tuple ?_
  | refine Ev_ifexp ?_
  | refine Evs_cons ?_
  | refine Evs_nil ?_
  | refine Tst_cmp ?_
  | refine Tst_boolop ?_
  | refine Tsts_and_cons ?_
  | refine Tsts_and_nil ?_
  | refine Tsts_or_cons ?_
  | refine Tsts_or_nil ?_
  | refine Bin_add ?_
  | refine Bin_sub ?_
  | refine Bin_mul (IntMulOk.of_left (by decide)) ?_
  | refine Bin_mul (IntMulOk.of_right (by decide)) ?_
  | refine Bin_and ?_
  | refine Bin_add_bool ?_
  | refine Una_neg ?_
  | refine Cmp_eq ?_
  | refine Cmp_ne ?_
  | refine Cmp_lt ?_
  | refine Cmp_le ?_
  | refine Cmp_gt ?_
  | refine Cmp_ge ?_
  | refine Trt_bool ?_
  | refine Ev_abs rfl ?_
  | refine Ev_len rfl ?_
  | refine Ev_divmod rfl ?_
  | refine Ev_min rfl ?_
  | refine Ev_max rfl ?_
  | refine Ev_range rfl ?_
  | refine Ev_int rfl ?_
  | refine Ev_str rfl ?_
  | refine Ev_type rfl ?_
  | refine Ev_ty_int rfl ?_
  | refine CallB_abs ?_
  | refine CallB_divmod (by first | assumption | omega) ?_
  | refine Bin_fdiv (by first | assumption | omega | decide) ?_
  | refine Bin_mod (by first | assumption | omega | decide) ?_
  | refine Bin_shr (by first | assumption | omega | decide) ?_
  | refine CallB_len (by first | assumption | omega | decide) ?_
  | (refine ⟨_, _, rfl, ?_⟩)
  | refine CallB_range3 (by decide) ?_
  | refine CallB_max ?_
  | refine CallB_min ?_
  | refine CallB_int ?_
  | refine IBin_add ?_
  | refine IBin_sub ?_
  | refine Tst_val ?_)
local macro_rules | `(tactic| walk_at "le") => `(tactic| (refine AS.le_of ?_ rfl; repeat (first | (refine List.forall_mem_cons.mpr ⟨rfl, ?_⟩) | exact List.forall_mem_nil _)))
variable {C : CX} {S : AS} {Φ : AV → Prop} {Ψ : AFl → AS → Prop}

variable {C : CX} {S : AS} {Φ : AV → Prop} {Ψ : AFl → AS → Prop}

-- reads of the own list
-- lists of ints compared
theorem ExS_cut {st : Stmt} (P : AS → Prop) (h1 : ExS C S st fun fl S' => match fl with | .next => ∃ S'', S'.le S'' ∧ P S'' | fl => Ψ fl S') (h2 : ∀ S'', P S'' → Ψ .next S'') : ExS C S st Ψ := by
  refine ⟨fun ok s₀ X₀ β s Q p F k => h1.go ok s₀ X₀ β s Q p F fun afl fl S' β' h' tk F' fk bv rf ψ => ?_⟩
  cases afl with
  | next => obtain ⟨S'', hle, hP⟩ := ψ; exact k .next fl S'' β' h' tk (F'.weak hle) fk bv rf (h2 S'' hP)
  | brk => exact k .brk fl S' β' h' tk F' fk bv rf ψ
  | cont => exact k .cont fl S' β' h' tk F' fk bv rf ψ
  | ret v => exact k (.ret v) fl S' β' h' tk F' fk bv rf ψ
theorem Ev_cut {e : Expr} (P : AV → Prop) (h1 : Ev C S e P) (h2 : ∀ v, P v → Φ v) : Ev C S e Φ := h1.mono h2
noncomputable def dn (a b : Int) : Int := a / b + if b < 2 * (a % b) + (a / b) % 2 then 1 else 0

theorem dn_spec {a b : Int} (hb : 0 < b) : -b ≤ 2 * (a - b * dn a b) ∧ 2 * (a - b * dn a b) ≤ b ∧ (2 * (a - b * dn a b) = b → dn a b % 2 = 0) ∧ (2 * (a - b * dn a b) = -b → dn a b % 2 = 0) := by
  have h1 := Int.mul_ediv_add_emod a b
  have h2 := Int.emod_nonneg a (show b ≠ 0 by omega)
  have h3 := Int.emod_lt_of_pos a hb
  unfold dn
  generalize a / b = q at *
  generalize a % b = r at *
  have h4 : q % 2 = 0 ∨ q % 2 = 1 := by omega
  split
  · rename_i h
    have e : b * (q + 1) = b * q + b := by rw [Int.mul_add, Int.mul_one]
    rw [e]
    generalize b * q = m at *
    refine ⟨by omega, by omega, fun _ => by omega, fun _ => by omega⟩
  · rename_i h
    rw [Int.add_zero]
    generalize b * q = m at *
    refine ⟨by omega, by omega, fun _ => by omega, fun _ => by omega⟩

theorem dn_uniq {a b q : Int} (hb : 0 < b) (h1 : -b ≤ 2 * (a - b * q)) (h2 : 2 * (a - b * q) ≤ b) (h3 : 2 * (a - b * q) = b → q % 2 = 0) (h4 : 2 * (a - b * q) = -b → q % 2 = 0) : dn a b = q := by
  have s := dn_spec (a := a) hb
  generalize dn a b = p at *
  obtain ⟨s1, s2, s3, s4⟩ := s
  have key : ∀ {p q : Int}, p ≤ q - 1 → 2 * (a - b * p) ≤ b → -b ≤ 2 * (a - b * q) → (2 * (a - b * p) = b → p % 2 = 0) → (2 * (a - b * q) = -b → q % 2 = 0) → False := by
    clear h1 h2 h3 h4 s1 s2 s3 s4
    intro p q h u v u' v'
    have e : b * p ≤ b * (q - 1) := Int.mul_le_mul_of_nonneg_left h (Int.le_of_lt hb)
    have e' : b * (q - 1) = b * q - b := by rw [Int.mul_sub, Int.mul_one]
    have e2 : b * p = b * (q - 1) := by
      clear u' v' h
      generalize b * q = m at *
      generalize b * p = n at *
      omega
    have e3 : p = q - 1 := Int.eq_of_mul_eq_mul_left (Int.ne_of_gt hb) e2
    have w1 := u' (by clear u' v' h e3; generalize b * q = m at *; generalize b * p = n at *; omega)
    have w2 := v' (by clear u' v' h e3 w1; generalize b * q = m at *; generalize b * p = n at *; omega)
    clear u' v' u v e e' e2
    omega
  rcases Int.lt_trichotomy p q with h | h | h
  · exact (key (Int.le_sub_one_of_lt h) s2 h1 s3 h4).elim
  · exact h
  · exact (key (Int.le_sub_one_of_lt h) h2 s1 h3 s4).elim

theorem dn_zero {b : Int} (hb : 0 < b) : dn 0 b = 0 := by
  refine dn_uniq hb ?_ ?_ ?_ ?_ <;> simp <;> omega
theorem dn_mul {a b : Int} (hb : 0 < b) : dn (b * a) b = a := by
  refine dn_uniq hb ?_ ?_ ?_ ?_ <;> omega

theorem dn_walk {a b : Int} (hb : 0 < b) : (a.fdiv b + if decide (b < 2 * a.fmod b + Builtin.bitAnd (a.fdiv b) 1) = true then (1 : Int) else 0) = dn a b := by
  unfold dn
  rw [Int.fdiv_eq_ediv_of_nonneg _ (by first | with_reducible assumption | with_reducible exact Int.natCast_nonneg _ | with_reducible exact Int.le_of_lt (by assumption) | omega), Int.fmod_eq_emod_of_nonneg _ (by first | with_reducible assumption | with_reducible exact Int.natCast_nonneg _ | with_reducible exact Int.le_of_lt (by assumption) | omega), bitAnd_m1]
  simp
theorem dn_walkS {a : Int} {k : Nat} : (a.fdiv (2 ^ k) + if decide ((2 : Int) ^ k < 2 * Builtin.bitAnd a (2 ^ k - 1) + Builtin.bitAnd (a.fdiv (2 ^ k)) 1) = true then (1 : Int) else 0) = dn a (2 ^ k) := by
  have h : (0 : Int) < 2 ^ k := Int.pow_pos (by decide)
  rw [kbt_maskF]; exact dn_walk h

-- sizes
open Builtin.Int (intBits)
theorem bits_lt {x : Int} {m : Nat} (h : intBits x ≤ m) : x.natAbs < 2 ^ m := intBits_le_iff.mp h
theorem lt_bits {x : Int} {m : Nat} (h : x.natAbs < 2 ^ m) : intBits x ≤ m := intBits_le_iff.mpr h

-- slices
theorem rngL_get {a c : Int} {n i : Nat} {av : AV} (h : (rngL a c n)[i]? = some av) : i < n ∧ av = .int (a + i * c) := by
  unfold rngL at h
  rw [List.getElem?_map] at h
  by_cases hi : i < n
  · rw [List.getElem?_range hi] at h; cases h; exact ⟨hi, rfl⟩
  · rw [List.getElem?_eq_none (by simp; omega)] at h; cases h
theorem rngL_len {a c : Int} {n : Nat} : (rngL a c n).length = n := by simp [rngL]
theorem abs_if (x : Int) : (if x < 0 then -x else x) = (x.natAbs : Int) := by split <;> omega
set_option linter.unusedVariables false
local macro_rules | `(tactic| walk_at "mw") => `(tactic| first
  | refine ExS_aug rfl ?_ ⟨.inr ⟨rfl, rfl⟩, by first | exact trivial | exact rfl⟩)
local macro_rules | `(tactic| walk_at "cap") => `(tactic| repeat (first | exact List.forall_mem_nil _ | refine List.forall_mem_cons.mpr ⟨⟨rfl, rfl, rfl, rfl, rfl⟩, ?_⟩))
theorem vs1 {vs : List Value} (h : vs.length = 1) : ∃ x, vs = [x] := List.length_eq_one_iff.mp h
theorem vs2 {vs : List Value} (h : vs.length = 2) : ∃ x y, vs = [x, y] := by
  cases vs with
  | nil => simp at h
  | cons x r => obtain ⟨y, rfl⟩ := vs1 (vs := r) (by simpa using h); exact ⟨x, y, rfl⟩
theorem vs3 {vs : List Value} (h : vs.length = 3) : ∃ x y z, vs = [x, y, z] := by
  cases vs with
  | nil => simp at h
  | cons x r => obtain ⟨y, z, rfl⟩ := vs2 (vs := r) (by simpa using h); exact ⟨x, y, z, rfl⟩
set_option linter.unusedVariables false
variable {C : CX} {S : AS} {Ψ : AFl → AS → Prop}
theorem letGo_any {prog : Program} {w : World} {A : Around} {E : Value → Shared → Prop} {s : Shared} {elts : List Expr} {x1} {pos : Pos} {I T : Addr} {o : Obj} {n : String} {Q : Unit → Shared → Prop} (ho : s.heap.get? I = some o) (hc : o.cls = .type n) (hn : ownIters.contains n = false) (hQ : Q () s) :
    wpAny (model prog w) A (letOwnedTupleGo (.Tuple elts x1 pos) (.ref I) (.ref T)) Q E s := by
  unfold letOwnedTupleGo
  refine wpAny_bind (wpAny_load ho ?_)
  rw [hc]
  cases hd : o.data <;> try exact wpAny_pure hQ
  rename_i vs
  show wpAny _ A (if (ownIters.contains n && vs[0]? == some (rawInt T)) = true then _ else _) Q E s
  rw [if_neg (by rw [hn, Bool.false_and]; exact Bool.false_ne_true)]
  exact wpAny_pure hQ
noncomputable def Takes (C : CX) (S : AS) (target : Expr) (av : AV) (S' : AS) : Prop := C.Ok → ∀ (s₀ : Shared) (X₀ : List Addr) (β : Option Addr) (s : Shared) (J : Addr) (o : Obj) (n : String) (v : Value) (Q : Unit → Shared → Prop) (E : Value → Shared → Prop), s.heap.get? J = some o → o.cls = .type n → ownIters.contains n = false → FS C s₀ X₀ β S s → RelV (β.toList ++ X₀) s.heap av v →
  (∀ h' tk, FS C s₀ X₀ β S' { s with heap := h', toks := tk } → FKeep C β s.heap h' → Q () { s with heap := h', toks := tk }) → wpAny (model C.g.prog C.g.w) C.A (letOwnedTupleGo target (.ref J) v) (fun _ s' => wpAny (model C.g.prog C.g.w) C.A (assign target C.env v) Q E s') E s
structure FInv (C : CX) (s₀ : Shared) (X₀ : List Addr) (β : Option Addr) (s : Shared) (h₂ : Heap) (J : Addr) (N : Nat) (St : Nat → Heap → Prop) (I : Nat → AS → Prop) (n : Nat) (h' : Heap) (tk : Nat) (S' : AS) (β' : Option Addr) (i : Nat) : Prop where
  F : FS C s₀ X₀ β' S' { s with heap := h', toks := tk }
  fk : FKeep C β s.heap h'
  bv : BEv β s.heap β'
  bo : ∀ b, β' = some b → β = some b ∨ h₂.get? b = none
  vk : VKeep (β.toList ++ X₀) h₂ h'
  lk : ∀ a oa, a ≠ C.env.locals → (∀ x, C.env.cells.lookup x ≠ some a) → β ≠ some a → a ≠ J → h₂.get? a = some oa → h'.get? a = some oa
  hst : St i h'
  hle : i ≤ N
  hn : n = N + 1 - i
  hI : I i S'
theorem ExS_forG {target : Expr} {pos : Pos} {iter : Expr} {body : List Stmt}
    (h : Ev C S iter fun av => ∃ xs, Items av xs ∧ ∃ I : Nat → AS → Prop, (∃ S₀, S.le S₀ ∧ I 0 S₀) ∧
      (∀ i S av, xs[i]? = some av → I i S → ∃ S₁, Takes C S target av S₁ ∧ Ex C S₁ body fun fl S' => match fl with
        | .next => ∃ S'', S'.le S'' ∧ I (i + 1) S''
        | .cont => ∃ S'', S'.le S'' ∧ I (i + 1) S''
        | .brk => Ψ .next S'
        | .ret v => Ψ (.ret v) S') ∧ (∀ S, I xs.length S → Ψ .next S))
    (hs : ∀ x, foldedSetIterable iter C.env x = pure x := by intro _; rfl) : ExS C S (.For target iter body [] pos) Ψ := by
  refine ⟨fun ok s₀ X₀ β s Q p F k => ?_⟩
  refine wpAny_For (h.go ok _ s _ _ (p.st F.keep) F.xinh F.relS fun av v h₁ t₁ st₁ rv hyp => ?_) hs
  refine Classical.byContradiction fun hG0 => ?_
  obtain ⟨xs, hit, I, ⟨S₀, hle0, hI0⟩, hturn, hend⟩ := hyp
  refine hG0 (iter_go ok hit rv fun fp P St o itr hfree => ?_)
  have F₁ : FS C s₀ X₀ β S { s with heap := h₁.push o, toks := t₁ } := F.st (st₁.trans (StIn.push _ _))
  generalize hIaddr : h₁.objs.size = J at itr
  -- what is kept: relative to the heap with the iterator
  have hJ : (h₁.push o).get? J = some o := by rw [← hIaddr]; exact Heap.get?_push_size _ hfree
  have hJnone : h₁.get? J = none := by
    cases e : h₁.get? J with
    | none => rfl
    | some o' => have := Heap.lt_size e; rw [hIaddr] at this; exact absurd this (Nat.lt_irrefl _)
  have hJs : s.heap.get? J = none := by
    cases e : s.heap.get? J with
    | none => rfl
    | some o' => rw [st₁ _ _ e] at hJnone; cases hJnone
  refine codeAny_forLoop_any (fun n s' => ∃ h' tk S' β' i, s' = { s with heap := h', toks := tk } ∧ FInv C s₀ X₀ β s (h₁.push o) J xs.length St I n h' tk S' β' i) ?_ (xs.length + 1)
    ⟨h₁.push o, t₁, S₀, β, 0, rfl, F₁.weak hle0, .of (st₁.trans (StIn.push _ _)), .refl _ _, (fun b e => .inl e), .refl _ _, (fun _ _ _ _ _ _ e => e), itr.start, Nat.zero_le _, rfl, hI0⟩
  intro n s' hyp
  refine Classical.byContradiction fun hG => ?_
  obtain ⟨h', tk, S', β', i, rfl, V⟩ := hyp
  obtain rfl := V.hn
  have F' := V.F
  have bv := V.bv
  have bo := V.bo
  have hst := V.hst
  have hle := V.hle
  -- the iterator is none of the frame's
  have hJL : J ≠ C.env.locals := by
    rintro rfl
    obtain ⟨m, hn⟩ := F.ffr.loc
    obtain ⟨o', _, _, ho', _⟩ := hn
    rw [ho'] at hJs; cases hJs
  have hJc : ∀ y, C.env.cells.lookup y ≠ some J := by
    intro y e
    obtain ⟨w, o', ho', _⟩ := F.ffr.cel y J e
    rw [ho'] at hJs; cases hJs
  have hJb : β' ≠ some J := by
    intro e
    rcases bo J e with e | e
    · obtain ⟨vs, n, ho'⟩ := F.ffr.own J e
      rw [ho'] at hJs; cases hJs
    · rw [hJ] at e; cases e
  have kp : ∀ {h'' : Heap}, (∀ b o, b ∉ [J] → h'.get? b = some o → h''.get? b = some o) → ∀ tk, FS C s₀ X₀ β' S' { s with heap := h'', toks := tk } ∧ FKeep C β s.heap h'' ∧ VKeep (β.toList ++ X₀) (h₁.push o) h'' := by
    intro h'' hk tk
    have hkJ : ∀ b o, b ≠ J → h'.get? b = some o → h''.get? b = some o := fun b o hb e => hk b o (by simpa using hb) e
    obtain ⟨oi, hoi, hnv⟩ := itr.itr i h' hst
    have vk2 : ∀ X, VKeep X h' h'' := fun X => ⟨fun a o _ hv e => hkJ a o (by rintro rfl; rw [e] at hoi; cases hoi; exact hnv hv) e, fun a o hv _ e => hkJ a o (by rintro rfl; rw [e] at hoi; cases hoi; exact hnv hv) e⟩
    refine ⟨?_, ?_, V.vk.trans (vk2 _)⟩
    · obtain ⟨m, cm, c⟩ := F'.call
      have hrd : ∀ y w, Rd C.env h' y w → Rd C.env h'' y w := by
        rintro y w (⟨hk', m', hn, hw⟩ | ⟨hk', c', hc', hw⟩)
        · exact .inl ⟨hk', m', hn.at' fun o e => hkJ _ o (Ne.symm hJL) e, hw⟩
        · obtain ⟨o', ho', hd'⟩ := hw
          exact .inr ⟨hk', c', hc', o', hkJ _ _ (fun q => hJc y (q ▸ hc')) ho', hd'⟩
      refine ⟨⟨m, cm, ⟨⟨?_, c.toInCall.ns.at' fun o e => hkJ _ o (Ne.symm hJL) e, fun b o e => ?_, c.toInCall.fresh⟩, fun y a e => ?_, c.apart, c.above⟩⟩, ?_, ?_, F'.xin⟩
      · obtain ⟨h₁, tk₁, e⟩ := F.same
        exact ⟨h'', tk, by rw [e]⟩
      · refine hkJ b o ?_ (c.toInCall.keep b o e)
        rintro rfl
        rw [F.keep _ _ e] at hJs; cases hJs
      · obtain ⟨o', ho', hd'⟩ := c.cell y a e
        exact ⟨o', hkJ _ _ (fun q => hJc y (q ▸ e)) ho', hd'⟩
      · exact fun y aw e => let ⟨w, h1, h2⟩ := F'.vars y aw e; ⟨w, hrd y w h1, h2.keep (vk2 _)⟩
      · have h := F'.own
        show OwnOk C s₀ X₀ h'' S'.own β'
        cases ho : S'.own with
        | none => rw [ho] at h; cases β' with | none => trivial | some _ => exact h
        | some q =>
          rw [ho] at h
          cases β' with
          | none => exact h
          | some b =>
            obtain ⟨⟨vs, ow⟩, h1⟩ := h
            exact ⟨⟨vs, hrd _ _ ow.rd, ow.inX, ow.lst.at fun o e => hkJ b o (by rintro rfl; exact hJb rfl) e, ow.rel.keep (vk2 _)⟩, h1⟩
    · intro a oa h1 h2 h3 e
      refine hkJ a oa ?_ (V.fk a oa h1 h2 h3 e)
      rintro rfl; rw [hJs] at e; cases e
  by_cases hlt : i < xs.length
  · refine hG (itr.walk.item i _ _ _ hlt hst fun w h₂ t₂ hP hst₂ hk₂ => Classical.byContradiction fun hG2 => ?_)
    obtain ⟨F₂, fk₂, vk₂⟩ := kp hk₂ t₂
    obtain ⟨aw, haw, raw⟩ := itr.item i w hP
    obtain ⟨S₁, htake, hbody⟩ := hturn i S' aw haw V.hI
    have rw₂ : RelV (β'.toList ++ X₀) h₂ aw w := by
      cases hb : β' with
      | none => exact (raw.keep vk₂).less fun q hq => List.mem_append_right _ (by simpa using hq)
      | some b =>
        rcases bo b hb with e | e
        · rw [← e]; exact raw.keep vk₂
        · have r1 : RelV (b :: (β.toList ++ X₀)) (h₁.push o) aw w := RelV.more e aw w raw
          have r2 := r1.keep (vk₂.sub fun q hq => List.mem_cons_of_mem _ hq)
          exact r2.less fun q hq => by
            rcases List.mem_append.mp hq with hq | hq
            · obtain rfl : q = b := by simpa using hq
              exact List.mem_cons_self
            · exact List.mem_cons_of_mem _ (List.mem_append_right _ hq)
    obtain ⟨oJ, nJ, hoJ, hcJ, hnJ⟩ := itr.cls _ _ hst₂
    refine hG2 (htake ok s₀ X₀ β' _ _ oJ nJ w _ _ hoJ hcJ hnJ F₂ rw₂ fun h₃ t₃ F₃ fk₃ => ?_)
    refine wpAny_mono (hbody.go ok s₀ X₀ β' _ _ p F₃ fun afl fl S₄ β₄ h₄ t₄ F₄ fk₄ bv₄ rf ψ => ?_) (fun _ _ q => q) fun _ _ q => q.elim
    have fk23 : FKeep C β' h₂ h₄ := fk₃.trans (.refl _ _) fk₄
    have fk' : FKeep C β s.heap h₄ := fk₂.trans bv fk23
    have bv24 : BEv β' h₂ β₄ := BEv.trans (.refl _ _) bv₄ fk₃ F₃.ffr
    have bv' : BEv β s.heap β₄ := bv.trans bv24 fk₂ F₂.ffr
    have hst₄ : St (i + 1) h₄ := itr.walk.frame _ _ _ hst₂ fun b hb ob e => by
      rcases itr.fps b hb with rfl | ⟨hx, oo, ho, hv⟩ | ⟨oo, ho, hv, hcl⟩
      · exact fk23 _ _ hJL hJc hJb e
      · have e2 := vk₂.off b oo hx hv ho
        rw [e] at e2; cases e2
        refine (fk23.vkeep (X₀ := X₀) F₂.ffr).off b _ (fun q => ?_) hv e
        rcases List.mem_append.mp q with q | q
        · cases hbb : β' with
          | none => rw [hbb] at q; cases q
          | some b' =>
            rw [hbb] at q
            obtain rfl : b = b' := by simpa using q
            rcases bo _ hbb with h1 | h1
            · exact hx (by rw [h1]; simp)
            · rw [ho] at h1; cases h1
        · exact hx (List.mem_append_right _ q)
      · have e2 := vk₂.imm b oo hv hcl ho
        rw [e] at e2; cases e2
        exact (fk23.vkeep (X₀ := X₀) F₂.ffr).imm b _ hv hcl e
    have vk' : VKeep (β.toList ++ X₀) (h₁.push o) h₄ := by
      have v4 := fk23.vkeep (X₀ := X₀) F₂.ffr
      refine ⟨fun a oa ha hv e => v4.off a oa (fun q => ?_) hv (vk₂.off a oa ha hv e), fun a oa hv hc e => v4.imm a oa hv hc (vk₂.imm a oa hv hc e)⟩
      rcases List.mem_append.mp q with q | q
      · cases hbb : β' with
        | none => rw [hbb] at q; cases q
        | some b' =>
          rw [hbb] at q
          obtain rfl : a = b' := by simpa using q
          rcases bo _ hbb with h1 | h1
          · exact ha (by rw [h1]; simp)
          · rw [e] at h1; cases h1
      · exact ha (List.mem_append_right _ q)
    have bo' : ∀ b, β₄ = some b → β = some b ∨ (h₁.push o).get? b = none := by
      intro b hb
      by_cases h3 : β = some b
      · exact .inl h3
      rcases bv24 b hb with e | e
      · exact bo b e
      · cases hq : (h₁.push o).get? b with
        | none => exact .inr rfl
        | some oq =>
          exfalso
          by_cases hbJ : b = J
          · subst hbJ
            obtain ⟨oi, hoi, _⟩ := itr.itr (i + 1) h₂ hst₂
            rw [hoi] at e; cases e
          · by_cases h1 : b = C.env.locals
            · obtain ⟨m, o', _, _, ho', _⟩ := F₂.ffr.loc
              rw [h1, ho'] at e; cases e
            · by_cases h2 : ∃ y, C.env.cells.lookup y = some b
              · obtain ⟨y, h2⟩ := h2
                obtain ⟨v, o', ho', _⟩ := F₂.ffr.cel y b h2
                rw [ho'] at e; cases e
              · have hkJ := hk₂ b oq (by simpa using hbJ) (V.lk b oq h1 (fun y hy => h2 ⟨y, hy⟩) h3 hbJ hq)
                rw [hkJ] at e; cases e
    have lk' : ∀ a oa, a ≠ C.env.locals → (∀ x, C.env.cells.lookup x ≠ some a) → β ≠ some a → a ≠ J → (h₁.push o).get? a = some oa → h₄.get? a = some oa := by
      intro a oa h1 h2 h3 h4 e
      refine fk23 a oa h1 h2 (fun hb => ?_) (hk₂ a oa (by simpa using h4) (V.lk a oa h1 h2 h3 h4 e))
      rcases bo a hb with q | q
      · exact h3 q
      · rw [e] at q; cases q
    have hn' : xs.length + 1 - (i + 1) < xs.length + 1 - i := by omega
    cases afl with
    | next => obtain rfl : fl = .next := rf; obtain ⟨S'', hle', hI'⟩ := ψ; exact ⟨_, hn', h₄, t₄, S'', β₄, i + 1, rfl, F₄.weak hle', fk', bv', bo', vk', lk', hst₄, hlt, rfl, hI'⟩
    | cont => obtain rfl : fl = .cont := rf; obtain ⟨S'', hle', hI'⟩ := ψ; exact ⟨_, hn', h₄, t₄, S'', β₄, i + 1, rfl, F₄.weak hle', fk', bv', bo', vk', lk', hst₄, hlt, rfl, hI'⟩
    | brk => obtain rfl : fl = .brk := rf; exact k .next .next S₄ β₄ h₄ t₄ F₄ fk' bv' rfl ψ
    | ret av => obtain ⟨v, rfl, rv⟩ := rf; exact k (.ret av) (.ret v) S₄ β₄ h₄ t₄ F₄ fk' bv' ⟨v, rfl, rv⟩ ψ
  · have hin : i = xs.length := by omega
    subst hin
    refine hG (itr.walk.done _ _ _ hst fun h₂ t₂ hk₂ => wpAny_execs_nil ?_)
    obtain ⟨F₂, fk₂, _⟩ := kp hk₂ t₂
    exact k .next .next S' β' h₂ t₂ F₂ fk₂ bv rfl (hend S' V.hI)
theorem takes_name {x : Str} {px : Pos} {av : AV} (hx : Stb C S x) : Takes C S (.Name x px) av (S.set x av) :=
  fun ok s₀ X₀ β s J o n v Q E _ _ _ F rv k => wpAny_pure (wpAny_assign_Name (store_rel ok F rv hx.1 hx.2 k))
theorem takes_tuple {nps : List (Str × Pos)} {elts : List Expr} {k₀ : Nat} {tp : Pos} {l : List AV} (he : elts = nps.map fun p => Expr.Name p.1 p.2) (hl : l.length = nps.length) (hx : ∀ x ∈ nps, Stb C S x.1) : Takes C S (.Tuple elts k₀ tp) (.tup l) (S.sets (nps.map (·.1)) l) := by
  rintro ok s₀ X₀ β s J o n v Q E ho hc hn F ⟨ta, tvs, rfl, htup, hrel⟩ k
  exact letGo_any ho hc hn (unpack_go (nps := nps) ok F htup hrel hl hx he k)
theorem ExS_forN {x : Str} {px pos : Pos} {iter : Expr} {body : List Stmt}
    (h : Ev C S iter fun av => ∃ xs, Items av xs ∧ ∃ I : Nat → AS → Prop, (∃ S₀, S.le S₀ ∧ I 0 S₀) ∧
      (∀ i S av, xs[i]? = some av → I i S → Stb C S x ∧ Ex C (S.set x av) body fun fl S' => match fl with
        | .next => ∃ S'', S'.le S'' ∧ I (i + 1) S''
        | .cont => ∃ S'', S'.le S'' ∧ I (i + 1) S''
        | .brk => Ψ .next S'
        | .ret v => Ψ (.ret v) S') ∧ (∀ S, I xs.length S → Ψ .next S))
    (hs : ∀ x, foldedSetIterable iter C.env x = pure x := by intro _; rfl) : ExS C S (.For (.Name x px) iter body [] pos) Ψ :=
  ExS_forG (h.mono fun _ ⟨xs, hi, I, h0, ht, he⟩ => ⟨xs, hi, I, h0, fun i S av ha hI => let ⟨h1, h2⟩ := ht i S av ha hI; ⟨_, takes_name h1, h2⟩, he⟩) hs
theorem ExS_forT {nps : List (Str × Pos)} {elts : List Expr} {k₀ : Nat} {tp pos : Pos} {iter : Expr} {body : List Stmt} (he : elts = nps.map fun p => Expr.Name p.1 p.2)
    (h : Ev C S iter fun av => ∃ xs, Items av xs ∧ ∃ I : Nat → AS → Prop, (∃ S₀, S.le S₀ ∧ I 0 S₀) ∧
      (∀ i S av, xs[i]? = some av → I i S → ∃ l, av = .tup l ∧ l.length = nps.length ∧ (∀ x ∈ nps, Stb C S x.1) ∧ Ex C (S.sets (nps.map (·.1)) l) body fun fl S' => match fl with
        | .next => ∃ S'', S'.le S'' ∧ I (i + 1) S''
        | .cont => ∃ S'', S'.le S'' ∧ I (i + 1) S''
        | .brk => Ψ .next S'
        | .ret v => Ψ (.ret v) S') ∧ (∀ S, I xs.length S → Ψ .next S))
    (hs : ∀ x, foldedSetIterable iter C.env x = pure x := by intro _; rfl) : ExS C S (.For (.Tuple elts k₀ tp) iter body [] pos) Ψ :=
  ExS_forG (h.mono fun _ ⟨xs, hi, I, h0, ht, hend⟩ => ⟨xs, hi, I, h0, fun i S av ha hI => by
    obtain ⟨l, rfl, h2, h3, h4⟩ := ht i S av ha hI
    exact ⟨_, takes_tuple he h2 h3, h4⟩, hend⟩) hs
set_option linter.unusedVariables false
-- the nearest whole root, and Newton's way to it
structure Rt (n r : Int) : Prop where
  pos : 0 < r
  lo : r * (r - 1) < n
  hi : n ≤ r * (r + 1)
theorem Rt.uniq {n r q : Int} (h : Rt n r) (h' : Rt n q) : r = q := by
  have key : ∀ {a b : Int}, Rt n a → Rt n b → ¬ a < b := by
    intro a b h h' hl
    have h1 := h.hi
    have h2 := h'.lo
    have h3 : a * (a + 1) ≤ (b - 1) * b := Int.mul_le_mul (by first | with_reducible assumption | with_reducible exact Int.natCast_nonneg _ | with_reducible exact Int.le_of_lt (by assumption) | omega) (by first | with_reducible assumption | with_reducible exact Int.natCast_nonneg _ | with_reducible exact Int.le_of_lt (by assumption) | omega) (by have := h.pos; omega) (by have := h.pos; omega)
    rw [Int.mul_comm (b - 1)] at h3
    omega
  have := key h h'
  have := key h' h
  omega
noncomputable def ns1 (n a : Int) : Int := (a - (-n) / a) / 2
theorem ns1_c {n a : Int} (ha : 0 < a) (hn : 0 < n) : ∃ c : Int, ns1 n a = (a + c) / 2 ∧ n ≤ a * c ∧ a * (c - 1) < n ∧ 0 < c := by
  refine ⟨-((-n) / a), by unfold ns1; rw [Int.sub_eq_add_neg], ?_, ?_, ?_⟩
  · have := Int.mul_ediv_add_emod (-n) a
    have := Int.emod_nonneg (-n) (show a ≠ 0 by omega)
    rw [Int.mul_neg]; omega
  · have := Int.mul_ediv_add_emod (-n) a
    have := Int.emod_lt_of_pos (-n) ha
    rw [Int.mul_sub, Int.mul_neg, Int.mul_one]; omega
  · have : (-n) / a < 0 := Int.ediv_neg_of_neg_of_pos (by first | with_reducible assumption | with_reducible exact Int.natCast_nonneg _ | with_reducible exact Int.le_of_lt (by assumption) | omega) ha
    omega
theorem ns1_pos {n a : Int} (ha : 0 < a) (hn : 0 < n) : 0 < ns1 n a := by
  obtain ⟨c, h1, _, _, h4⟩ := ns1_c ha hn
  rw [h1]; omega
theorem ns1_hi {n a : Int} (ha : 0 < a) (hn : 0 < n) : n ≤ ns1 n a * (ns1 n a + 1) := by
  obtain ⟨c, h1, h2, _, h4⟩ := ns1_c ha hn
  rw [h1]
  rcases Int.emod_two_eq (a + c) with h | h
  · obtain ⟨k, hk⟩ : ∃ k, a + c = 2 * k := ⟨(a + c) / 2, by omega⟩
    rw [show (a + c) / 2 = k by omega]
    have : 0 ≤ (a - c) * (a - c) := by
      rcases Int.le_total 0 (a - c) with h | h
      · exact Int.mul_nonneg h h
      · exact Int.mul_nonneg_of_nonpos_of_nonpos h h
    have e : 4 * (k * k) = (a - c) * (a - c) + 4 * (a * c) := by
      have : c = 2 * k - a := by omega
      subst this; grind
    have hk0 : 0 ≤ k := by omega
    rw [Int.mul_add, Int.mul_one]
    generalize k * k = x at *; generalize a * c = y at *; generalize (a - c) * (a - c) = z at *
    omega
  · obtain ⟨k, hk⟩ : ∃ k, a + c = 2 * k + 1 := ⟨(a + c) / 2, by omega⟩
    rw [show (a + c) / 2 = k by omega]
    have : 1 ≤ (a - c) * (a - c) := by
      have hne : a - c ≠ 0 := by omega
      rcases Int.lt_or_gt_of_ne hne with h | h
      · have := Int.mul_pos_of_neg_of_neg h h; omega
      · have := Int.mul_pos h h; omega
    have e : 4 * (k * (k + 1)) + 1 = (a - c) * (a - c) + 4 * (a * c) := by
      have : c = 2 * k + 1 - a := by omega
      subst this; grind
    generalize k * (k + 1) = x at *; generalize a * c = y at *; generalize (a - c) * (a - c) = z at *
    omega
theorem ns1_fix {n a : Int} (ha : 0 < a) (hn : 0 < n) (h : ns1 n a = a) : Rt n a := by
  obtain ⟨c, h1, h2, h3, h4⟩ := ns1_c ha hn
  rw [h1] at h
  have hc : c = a ∨ c = a + 1 := by omega
  rcases hc with rfl | rfl
  · exact ⟨ha, h3, by rw [Int.mul_add]; omega⟩
  · refine ⟨ha, ?_, h2⟩
    have : a * (a - 1) ≤ a * (a + 1 - 1) := Int.mul_le_mul_of_nonneg_left (by first | with_reducible assumption | with_reducible exact Int.natCast_nonneg _ | with_reducible exact Int.le_of_lt (by assumption) | omega) (by first | with_reducible assumption | with_reducible exact Int.natCast_nonneg _ | with_reducible exact Int.le_of_lt (by assumption) | omega)
    omega
theorem ns1_le {n a : Int} (ha : 0 < a) (hn : 0 < n) (h : n ≤ a * (a + 1)) : ns1 n a ≤ a := by
  obtain ⟨c, h1, h2, h3, h4⟩ := ns1_c ha hn
  rw [h1]
  have : c - 1 < a + 1 := Int.lt_of_mul_lt_mul_left (Int.lt_of_lt_of_le h3 h) (by first | with_reducible assumption | with_reducible exact Int.natCast_nonneg _ | with_reducible exact Int.le_of_lt (by assumption) | omega)
  omega
set_option linter.unusedVariables false
section
variable {C : CX} {S : AS} {Φ : AV → Prop}
theorem CallB_typeI {a : Int} (h : Φ (.ty "int")) : CallB C (.type "type") [.int a] Φ := by
  refine ⟨?_⟩
  rintro ok X s vs Q E _ _ ⟨v, r, rfl, ⟨t, rfl⟩, rfl⟩ k
  exact call_type_of (typeIs_int s a t) (by decide) (k (.ty "int") _ s.heap s.toks (StIn.refl _) rfl h)
theorem Cmp_isnotT {X Y : String} (h : Φ (.bool (!(Value.type X == Value.type Y)))) : Cmp C .IsNot (.ty X) (.ty Y) Φ := by
  refine ⟨?_⟩
  rintro ok Z s va vb Q E _ _ rfl rfl k
  exact isnot_type (k (.bool _) _ s.heap s.toks (StIn.refl _) rfl h)
theorem CallB_strI {a : Int} (ha : a.natAbs.log2 < 1920) (h : Φ (.str (toString a))) : CallB C (.type "str") [.int a] Φ := by
  refine ⟨?_⟩
  rintro ok X s vs Q E _ _ ⟨v, r, rfl, ⟨t, rfl⟩, rfl⟩ k
  exact PySem.P.str_of_int ha (k (.str _) _ s.heap _ (StIn.refl _) ⟨_, rfl⟩ h)
theorem CallB_lenS {x : Str} (hx : x.length < 2 ^ 62) (h : Φ (.int x.length)) : CallB C (.builtin "len") [.str x] Φ := by
  refine ⟨?_⟩
  rintro ok X s vs Q E _ _ ⟨v, r, rfl, ⟨t, rfl⟩, rfl⟩ k
  exact PySem.P.len_str (by omega) (k (.int _) _ s.heap _ (StIn.refl _) ⟨_, rfl⟩ h)
theorem Ev_bitlen {x : Str} {px apos pos : Pos} {a : Int} (hx : S.vs.lookup x = some (.int a)) (h : Φ (.int (intBits a : Nat)))
    (hbase : attributeBase (.Name x px) "bit_length" C.env (eval (.Name x px) C.env) = eval (.Name x px) C.env := by rfl) (hline : (apos.endLine == pos.line) = true := by rfl)
    (hd : (x == ("__debug__" : Str)) = false := by decide) (hn : (x == ("__classdict__" : Str)) = false := by decide) : Ev C S (.Call (.Attribute (.Name x px) "bit_length" apos) [] [] pos) Φ := by
  refine ⟨fun ok X s Q E p xi rs k => ?_⟩
  obtain ⟨v, hr, ⟨t, rfl⟩⟩ := rs.1 x _ hx
  refine wpAny_Call_method0_late hbase hline (wpAny_Name (load_rd ok.kind hr ⟨"int", "int.bit_length", F.plainAttrs_int, F.slot_int_bit_length, F.type_int_bit_length, typeIs_int _ _ _, (fun _ e => by cases e), ?_⟩ hn) hd)
  exact callWith_method0 (env := C.env) (call_int_bit_length (k (.int _) _ s.heap _ (StIn.refl _) ⟨_, rfl⟩ h))
end
set_option maxHeartbeats 4000000
set_option linter.unusedVariables false
section
variable {C : CX} {S : AS} {Φ : AV → Prop}
end
set_option linter.unusedVariables false
set_option linter.unusedVariables false
theorem exists_rt : ∀ n : Nat, ∃ r, Rt ((n : Int) + 1) r
  | 0 => ⟨1, by decide, by decide, by decide⟩
  | n + 1 => by
    obtain ⟨r, h1, h2, h3⟩ := exists_rt n
    by_cases h : ((n + 1 : Nat) : Int) + 1 ≤ r * (r + 1)
    · exact ⟨r, h1, by omega, h⟩
    · have e1 : (r + 1) * (r + 1 - 1) = r * (r + 1) := by grind
      have e2 : (r + 1) * (r + 1 + 1) = r * (r + 1) + 2 * r + 2 := by grind
      exact ⟨r + 1, by omega, by rw [e1]; omega, by rw [e2]; omega⟩
noncomputable def rt (n : Int) : Int := Classical.epsilon fun r => Rt n r
theorem rt_spec {n : Int} (h : 0 < n) : Rt n (rt n) := by
  obtain ⟨r, hr⟩ := exists_rt (n - 1).toNat
  rw [show (((n - 1).toNat : Nat) : Int) + 1 = n by omega] at hr
  exact Classical.epsilon_spec (p := fun r => Rt n r) ⟨r, hr⟩
theorem rt_eq {n r : Int} (h : Rt n r) : rt n = r := (Classical.epsilon_spec (p := fun r => Rt n r) ⟨r, h⟩).uniq h
noncomputable def ys (M x : Int) : Nat → Int
  | 0 => x - M
  | R + 1 => dn (M * ys M x R * 2) (M + rt (M * (M + dn (ys M x R) (2 ^ R))))
noncomputable def hw (M u : Int) (T : Int) : Nat → Int
  | 0 => dn M T
  | j + 1 => dn M (T - 1 - j) - dn (u * hw M u T j) M

theorem dn_abs {a b : Int} (hb : 0 < b) : (dn a b).natAbs ≤ a.natAbs := by
  obtain ⟨h1, h2, _, _⟩ := dn_spec (a := a) hb
  have a1 : a ≤ (a.natAbs : Int) := Int.le_natAbs
  have a2 : -(a.natAbs : Int) ≤ a := by omega
  have h3 : (1 : Int) * (a.natAbs : Int) ≤ b * (a.natAbs : Int) := Int.mul_le_mul_of_nonneg_right hb (Int.natCast_nonneg _)
  have e1 : b * ((a.natAbs : Int) + 1) = b * (a.natAbs : Int) + b := by rw [Int.mul_add, Int.mul_one]
  have key : dn a b < (a.natAbs : Int) + 1 ∧ -dn a b < (a.natAbs : Int) + 1 := by
    generalize dn a b = d at *
    have e2 : b * -d = -(b * d) := Int.mul_neg ..
    constructor
    · refine Int.lt_of_mul_lt_mul_left (a := b) ?_ (Int.le_of_lt hb)
      rw [e1]
      generalize b * d = u at *
      generalize b * (a.natAbs : Int) = w at *
      generalize (a.natAbs : Int) = n at *
      omega
    · refine Int.lt_of_mul_lt_mul_left (a := b) ?_ (Int.le_of_lt hb)
      rw [e1, e2]
      generalize b * d = u at *
      generalize b * (a.natAbs : Int) = w at *
      generalize (a.natAbs : Int) = n at *
      omega
  clear h1 h2 a1 a2 h3 e1
  omega
theorem dn_bits {a b : Int} {m : Nat} (hb : 0 < b) (h : intBits a ≤ m) : intBits (dn a b) ≤ m := lt_bits (Nat.lt_of_le_of_lt (dn_abs hb) (bits_lt h))
theorem two_pos (k : Nat) : (0 : Int) < 2 ^ k := Int.pow_pos (by decide)
theorem go_le {M y : Int} {R L : Nat} (h : R ≤ L) : M ≤ y * 2 ^ (L - R) ↔ M * 2 ^ R ≤ y * 2 ^ L := by
  have e : y * 2 ^ L = y * 2 ^ (L - R) * 2 ^ R := by rw [Int.mul_assoc, ← Int.pow_add]; congr 2; omega
  rw [e]
  exact ⟨fun q => Int.mul_le_mul_of_nonneg_right q (Int.le_of_lt (two_pos R)), fun q => Int.le_of_mul_le_mul_right q (two_pos R)⟩
theorem go_gt {M y : Int} {R L : Nat} (h : L < R) : M ≤ y / 2 ^ (R - L) ↔ M * 2 ^ R ≤ y * 2 ^ L := by
  rw [Int.le_ediv_iff_mul_le (two_pos _)]
  have e : M * 2 ^ R = M * 2 ^ (R - L) * 2 ^ L := by rw [Int.mul_assoc, ← Int.pow_add]; congr 2; omega
  rw [e]
  exact ⟨fun q => Int.mul_le_mul_of_nonneg_right q (Int.le_of_lt (two_pos L)), fun q => Int.le_of_mul_le_mul_right q (two_pos L)⟩
theorem log_bits {M : Int} (hM : 0 < M) (h : M.natAbs.log2 < 1920) : intBits M ≤ 1920 := lt_bits ((Nat.log2_lt (by first | with_reducible assumption | with_reducible exact Int.natCast_nonneg _ | with_reducible exact Int.le_of_lt (by assumption) | omega)).mp h)
set_option linter.unusedVariables false
-- a logarithm without reals: harmonic sums
noncomputable def Hn : Nat → Rat
  | 0 => 0
  | n + 1 => Hn n + 1 / ((n : Rat) + 1)
noncomputable def lg (N a b : Nat) : Rat := Hn (N * a) - Hn (N * b)
noncomputable def Pw : Nat → Rat → Rat
  | 0, _ => 0
  | T + 1, a => Pw T a + a ^ (T + 1) / ((T : Rat) + 1)
noncomputable def Ge : Nat → Rat → Rat
  | 0, _ => 0
  | T + 1, a => Ge T a + a ^ T
theorem q_mul_le {a b c : Rat} (h : a ≤ b) (hc : 0 ≤ c) : a * c ≤ b * c := Rat.mul_le_mul_of_nonneg_right h hc
theorem q_mul_le' {a b c : Rat} (h : a ≤ b) (hc : 0 ≤ c) : c * a ≤ c * b := by have := q_mul_le h hc; grind
theorem q_mul_nn {a b : Rat} (ha : 0 ≤ a) (hb : 0 ≤ b) : 0 ≤ a * b := Rat.mul_nonneg ha hb
theorem abs_mul {a b A B : Rat} (h1 : a ≤ A) (h2 : -A ≤ a) (h3 : b ≤ B) (h4 : -B ≤ b) : a * b ≤ A * B ∧ -(A * B) ≤ a * b := by
  have a1 := q_mul_nn (show 0 ≤ A - a by first | with_reducible exact sb (by assumption) | with_reducible exact sb (Rat.le_of_lt (by assumption)) | grind) (show 0 ≤ B + b by first | with_reducible exact ad (by assumption) | with_reducible exact ad' (by assumption) | with_reducible exact Rat.add_nonneg (by first | with_reducible assumption | with_reducible exact Rat.le_of_lt (by assumption) | with_reducible exact nn6 (by assumption) | with_reducible exact nn1 (by assumption) | with_reducible exact nn2 (by assumption)) (by first | with_reducible assumption | with_reducible exact Rat.le_of_lt (by assumption) | with_reducible exact nn6 (by assumption) | with_reducible exact nn1 (by assumption) | with_reducible exact nn2 (by assumption)) | grind)
  have a2 := q_mul_nn (show 0 ≤ A + a by first | with_reducible exact ad (by assumption) | with_reducible exact ad' (by assumption) | with_reducible exact Rat.add_nonneg (by first | with_reducible assumption | with_reducible exact Rat.le_of_lt (by assumption) | with_reducible exact nn6 (by assumption) | with_reducible exact nn1 (by assumption) | with_reducible exact nn2 (by assumption)) (by first | with_reducible assumption | with_reducible exact Rat.le_of_lt (by assumption) | with_reducible exact nn6 (by assumption) | with_reducible exact nn1 (by assumption) | with_reducible exact nn2 (by assumption)) | grind) (show 0 ≤ B - b by first | with_reducible exact sb (by assumption) | with_reducible exact sb (Rat.le_of_lt (by assumption)) | grind)
  have a3 := q_mul_nn (show 0 ≤ A - a by first | with_reducible exact sb (by assumption) | with_reducible exact sb (Rat.le_of_lt (by assumption)) | grind) (show 0 ≤ B - b by first | with_reducible exact sb (by assumption) | with_reducible exact sb (Rat.le_of_lt (by assumption)) | grind)
  have a4 := q_mul_nn (show 0 ≤ A + a by first | with_reducible exact ad (by assumption) | with_reducible exact ad' (by assumption) | with_reducible exact Rat.add_nonneg (by first | with_reducible assumption | with_reducible exact Rat.le_of_lt (by assumption) | with_reducible exact nn6 (by assumption) | with_reducible exact nn1 (by assumption) | with_reducible exact nn2 (by assumption)) (by first | with_reducible assumption | with_reducible exact Rat.le_of_lt (by assumption) | with_reducible exact nn6 (by assumption) | with_reducible exact nn1 (by assumption) | with_reducible exact nn2 (by assumption)) | grind) (show 0 ≤ B + b by first | with_reducible exact ad (by assumption) | with_reducible exact ad' (by assumption) | with_reducible exact Rat.add_nonneg (by first | with_reducible assumption | with_reducible exact Rat.le_of_lt (by assumption) | with_reducible exact nn6 (by assumption) | with_reducible exact nn1 (by assumption) | with_reducible exact nn2 (by assumption)) (by first | with_reducible assumption | with_reducible exact Rat.le_of_lt (by assumption) | with_reducible exact nn6 (by assumption) | with_reducible exact nn1 (by assumption) | with_reducible exact nn2 (by assumption)) | grind)
  constructor <;> grind
theorem q_div_le {a b c : Rat} (hb : 0 < b) (h : a ≤ c * b) : a / b ≤ c := by
  have h1 : (0 : Rat) ≤ 1 / b := by
    have : 0 < b⁻¹ := Rat.inv_pos.mpr hb
    grind
  have := q_mul_le h h1
  have e : c * b * (1 / b) = c := by grind
  have e2 : a * (1 / b) = a / b := by grind
  rw [e, e2] at this; exact this
theorem q_le_div {a b c : Rat} (hb : 0 < b) (h : c * b ≤ a) : c ≤ a / b := by
  have h1 : (0 : Rat) ≤ 1 / b := by
    have : 0 < b⁻¹ := Rat.inv_pos.mpr hb
    grind
  have := q_mul_le h h1
  have e : c * b * (1 / b) = c := by grind
  have e2 : a * (1 / b) = a / b := by grind
  rw [e, e2] at this; exact this
theorem q_div_nn {a b : Rat} (ha : 0 ≤ a) (hb : 0 < b) : 0 ≤ a / b := q_le_div hb (by grind)
theorem q_div_pos {a b : Rat} (ha : 0 < a) (hb : 0 < b) : 0 < a / b := by
  have h1 : 0 < b⁻¹ := Rat.inv_pos.mpr hb
  have := Rat.mul_pos ha h1
  grind
theorem q_pow_nn {a : Rat} (ha : 0 ≤ a) : ∀ n : Nat, 0 ≤ a ^ n
  | 0 => by grind
  | n + 1 => by have := q_mul_nn (q_pow_nn ha n) ha; grind
theorem q_pow_le {a b : Rat} (ha : 0 ≤ a) (h : a ≤ b) : ∀ n : Nat, a ^ n ≤ b ^ n
  | 0 => by grind
  | n + 1 => by
    have h1 := q_mul_le (q_pow_le ha h n) ha
    have h2 := q_mul_le' h (q_pow_nn (show 0 ≤ b by first | with_reducible assumption | with_reducible exact Rat.le_of_lt (by assumption) | with_reducible exact nn6 (by assumption) | with_reducible exact nn1 (by assumption) | with_reducible exact nn2 (by assumption) | grind) n)
    rw [Rat.pow_succ, Rat.pow_succ]
    exact Rat.le_trans h1 h2
theorem q_pow_one {a : Rat} (ha : 0 ≤ a) (h : a ≤ 1) (n : Nat) : a ^ n ≤ 1 := by
  have := q_pow_le ha h n
  have e : ∀ n : Nat, (1 : Rat) ^ n = 1 := fun n => by
    induction n with
    | zero => grind
    | succ n ih => rw [Rat.pow_succ, ih]; grind
  have := e n
  grind

theorem Ge_eq (a : Rat) : ∀ T, Ge T a * (1 - a) = 1 - a ^ T
  | 0 => by simp [Ge]; grind
  | T + 1 => by have := Ge_eq a T; simp only [Ge]; grind
theorem pow_diff {u h : Rat} (hu : 0 ≤ u) (hh : 0 ≤ h) : ∀ k : Nat, ((k : Rat) + 1) * h * u ^ k ≤ (u + h) ^ (k + 1) - u ^ (k + 1) ∧ (u + h) ^ (k + 1) - u ^ (k + 1) ≤ ((k : Rat) + 1) * h * (u + h) ^ k
  | 0 => by constructor <;> grind
  | k + 1 => by
    obtain ⟨h1, h2⟩ := pow_diff hu hh k
    have hk : (0 : Rat) ≤ (k : Rat) := by grind
    have p1 := q_pow_nn hu k
    have p2 := q_pow_nn (show 0 ≤ u + h by first | with_reducible exact ad (by assumption) | with_reducible exact ad' (by assumption) | with_reducible exact Rat.add_nonneg (by first | with_reducible assumption | with_reducible exact Rat.le_of_lt (by assumption) | with_reducible exact nn6 (by assumption) | with_reducible exact nn1 (by assumption) | with_reducible exact nn2 (by assumption)) (by first | with_reducible assumption | with_reducible exact Rat.le_of_lt (by assumption) | with_reducible exact nn6 (by assumption) | with_reducible exact nn1 (by assumption) | with_reducible exact nn2 (by assumption)) | grind) k
    have p3 := q_pow_le hu (show u ≤ u + h by grind) (k + 1)
    have ec : ((k + 1 : Nat) : Rat) = (k : Rat) + 1 := by grind
    rw [ec, Rat.pow_succ (u + h) (k + 1), Rat.pow_succ u (k + 1)]
    rw [Rat.pow_succ, Rat.pow_succ] at h1 h2 p3 ⊢
    generalize u ^ k = A at *
    generalize (u + h) ^ k = B at *
    generalize (k : Rat) = c at *
    have m0 : 0 ≤ (c + 1) * h * A := q_mul_nn (q_mul_nn (by grind) hh) p1
    have m1 := q_mul_le h1 hu
    have m2 : 0 ≤ (B * (u + h) - A * u) * h := q_mul_nn (by grind) hh
    have m3 := q_mul_le h2 (show 0 ≤ u + h by first | with_reducible exact ad (by assumption) | with_reducible exact ad' (by assumption) | with_reducible exact Rat.add_nonneg (by first | with_reducible assumption | with_reducible exact Rat.le_of_lt (by assumption) | with_reducible exact nn6 (by assumption) | with_reducible exact nn1 (by assumption) | with_reducible exact nn2 (by assumption)) (by first | with_reducible assumption | with_reducible exact Rat.le_of_lt (by assumption) | with_reducible exact nn6 (by assumption) | with_reducible exact nn1 (by assumption) | with_reducible exact nn2 (by assumption)) | grind)
    have m4 := q_mul_le' p3 hh
    constructor
    · have e : B * (u + h) * (u + h) - A * u * u - (c + 1 + 1) * h * (A * u) = ((B * (u + h) - A * u) * u - (c + 1) * h * A * u) + (B * (u + h) - A * u) * h := by grind
      grind
    · have e : (c + 1 + 1) * h * (B * (u + h)) - (B * (u + h) * (u + h) - A * u * u) = ((c + 1) * h * B * (u + h) - (B * (u + h) - A * u) * (u + h)) + (h * (B * (u + h)) - h * (A * u)) := by grind
      grind
theorem Pw_diff {u h : Rat} (hu : 0 ≤ u) (hh : 0 ≤ h) : ∀ T : Nat, h * Ge T u ≤ Pw T (u + h) - Pw T u ∧ Pw T (u + h) - Pw T u ≤ h * Ge T (u + h)
  | 0 => by simp [Pw, Ge]; grind
  | T + 1 => by
    obtain ⟨h1, h2⟩ := Pw_diff hu hh T
    obtain ⟨d1, d2⟩ := pow_diff hu hh T
    have hT : (0 : Rat) < (T : Rat) + 1 := by
      have : (0 : Rat) ≤ (T : Rat) := by grind
      grind
    have e1 : ((T : Rat) + 1) * h * u ^ T / ((T : Rat) + 1) = h * u ^ T := by grind
    have e2 : ((T : Rat) + 1) * h * (u + h) ^ T / ((T : Rat) + 1) = h * (u + h) ^ T := by grind
    have i1 : h * u ^ T ≤ ((u + h) ^ (T + 1) - u ^ (T + 1)) / ((T : Rat) + 1) := q_le_div hT (by grind)
    have i2 : ((u + h) ^ (T + 1) - u ^ (T + 1)) / ((T : Rat) + 1) ≤ h * (u + h) ^ T := q_div_le hT (by grind)
    have e3 : ((u + h) ^ (T + 1) - u ^ (T + 1)) / ((T : Rat) + 1) = (u + h) ^ (T + 1) / ((T : Rat) + 1) - u ^ (T + 1) / ((T : Rat) + 1) := by grind
    simp only [Pw, Ge]
    constructor <;> grind
theorem Pw_zero : ∀ T, Pw T 0 = 0
  | 0 => rfl
  | T + 1 => by simp only [Pw, Pw_zero T, Rat.pow_succ]; grind
theorem nat_pos {n : Nat} (h : 0 < n) : (0 : Rat) < (n : Rat) := by
  have : ((0 : Nat) : Rat) < (n : Rat) := by exact_mod_cast h
  grind
theorem Pw_step {D i T : Nat} (hi : 0 < i) (hD : i + 1 ≤ D) :
    Pw T (1 - (i : Rat) / D) - Pw T (1 - ((i : Rat) + 1) / D) ≤ 1 / (i : Rat) ∧ (1 - (1 - ((i : Rat) + 1) / D) ^ T) / ((i : Rat) + 1) ≤ Pw T (1 - (i : Rat) / D) - Pw T (1 - ((i : Rat) + 1) / D) := by
  have hDp : (0 : Rat) < (D : Rat) := nat_pos (by first | with_reducible assumption | with_reducible exact Int.natCast_nonneg _ | with_reducible exact Int.le_of_lt (by assumption) | omega)
  have hip : (0 : Rat) < (i : Rat) := nat_pos hi
  have hiD : (i : Rat) + 1 ≤ (D : Rat) := by
    have : ((i + 1 : Nat) : Rat) ≤ (D : Rat) := by exact_mod_cast hD
    grind
  have hu : 0 ≤ 1 - ((i : Rat) + 1) / D := by
    have := q_div_le (c := 1) hDp (show (i : Rat) + 1 ≤ 1 * D by grind)
    grind
  have hh : (0 : Rat) ≤ 1 / D := q_div_nn (by grind) hDp
  have e : 1 - (i : Rat) / D = (1 - ((i : Rat) + 1) / D) + 1 / D := by grind
  have hv : 0 ≤ 1 - (i : Rat) / D := by grind
  obtain ⟨h1, h2⟩ := Pw_diff (h := 1 / D) hu hh T
  rw [← e] at h1 h2
  have g1 := Ge_eq (1 - (i : Rat) / D) T
  have g2 := Ge_eq (1 - ((i : Rat) + 1) / D) T
  have pn := q_pow_nn hv T
  constructor
  · refine Rat.le_trans h2 ?_
    have e2 : 1 / (D : Rat) * Ge T (1 - (i : Rat) / D) = (1 - (1 - (i : Rat) / D) ^ T) / i := by
      rw [← g1]; grind
    rw [e2]
    exact q_div_le hip (by grind)
  · refine Rat.le_trans ?_ h1
    have e2 : 1 / (D : Rat) * Ge T (1 - ((i : Rat) + 1) / D) = (1 - (1 - ((i : Rat) + 1) / D) ^ T) / ((i : Rat) + 1) := by
      rw [← g2]; grind
    rw [e2]
    exact Rat.le_refl
theorem Pw_up {D p T : Nat} (hp : 0 < p) : ∀ j : Nat, p + j ≤ D → Pw T (1 - (p : Rat) / D) - Pw T (1 - ((p + j : Nat) : Rat) / D) ≤ Hn (p + j) - Hn p + 1 / (p : Rat) - 1 / ((p + j : Nat) : Rat)
  | 0, _ => by grind
  | j + 1, h => by
    have ih := Pw_up (D := D) (T := T) hp j (by first | with_reducible assumption | with_reducible exact Int.natCast_nonneg _ | with_reducible exact Int.le_of_lt (by assumption) | omega)
    have st := (Pw_step (D := D) (i := p + j) (T := T) (by first | with_reducible assumption | with_reducible exact Int.natCast_nonneg _ | with_reducible exact Int.le_of_lt (by assumption) | omega) (by first | with_reducible assumption | with_reducible exact Int.natCast_nonneg _ | with_reducible exact Int.le_of_lt (by assumption) | omega)).1
    have e : ((p + (j + 1) : Nat) : Rat) = ((p + j : Nat) : Rat) + 1 := by grind
    have eH : Hn (p + (j + 1)) = Hn (p + j) + 1 / (((p + j : Nat) : Rat) + 1) := rfl
    rw [e, eH]
    grind
theorem Pw_dn {D p T : Nat} (hp : 0 < p) : ∀ j : Nat, p + j ≤ D → (1 - (1 - (p : Rat) / D) ^ T) * (Hn (p + j) - Hn p) ≤ Pw T (1 - (p : Rat) / D) - Pw T (1 - ((p + j : Nat) : Rat) / D)
  | 0, _ => by grind
  | j + 1, h => by
    have ih := Pw_dn (D := D) (T := T) hp j (by first | with_reducible assumption | with_reducible exact Int.natCast_nonneg _ | with_reducible exact Int.le_of_lt (by assumption) | omega)
    have st := (Pw_step (D := D) (i := p + j) (T := T) (by first | with_reducible assumption | with_reducible exact Int.natCast_nonneg _ | with_reducible exact Int.le_of_lt (by assumption) | omega) (by first | with_reducible assumption | with_reducible exact Int.natCast_nonneg _ | with_reducible exact Int.le_of_lt (by assumption) | omega)).2
    have e : ((p + (j + 1) : Nat) : Rat) = ((p + j : Nat) : Rat) + 1 := by grind
    have eH : Hn (p + (j + 1)) = Hn (p + j) + 1 / (((p + j : Nat) : Rat) + 1) := rfl
    rw [e, eH]
    have hDp : (0 : Rat) < (D : Rat) := nat_pos (by first | with_reducible assumption | with_reducible exact Int.natCast_nonneg _ | with_reducible exact Int.le_of_lt (by assumption) | omega)
    have hpp : (0 : Rat) < ((p + j : Nat) : Rat) := nat_pos (by first | with_reducible assumption | with_reducible exact Int.natCast_nonneg _ | with_reducible exact Int.le_of_lt (by assumption) | omega)
    have hle : (p : Rat) ≤ ((p + j : Nat) : Rat) := by exact_mod_cast (show p ≤ p + j by omega)
    have hjD : ((p + j : Nat) : Rat) + 1 ≤ (D : Rat) := by
      have : ((p + j + 1 : Nat) : Rat) ≤ (D : Rat) := by exact_mod_cast h
      grind
    generalize ((p + j : Nat) : Rat) = q at *
    have hu : 0 ≤ 1 - (q + 1) / D := by
      have := q_div_le (c := 1) hDp (show q + 1 ≤ 1 * D by grind)
      grind
    have hle2 : 1 - (q + 1) / D ≤ 1 - (p : Rat) / D := by
      have : (p : Rat) / D ≤ (q + 1) / D := q_div_le hDp (by
        have : (q + 1) / D * D = q + 1 := by grind
        grind)
      grind
    have pw := q_pow_le hu hle2 T
    generalize (1 - (q + 1) / (D : Rat)) ^ T = A at *
    generalize (1 - (p : Rat) / D) ^ T = B at *
    have : (1 - B) * (1 / (q + 1)) ≤ (1 - A) / (q + 1) := by
      have h1 : (0 : Rat) ≤ 1 / (q + 1) := q_div_nn (by grind) (by grind)
      have := q_mul_le (show 1 - B ≤ 1 - A by grind) h1
      grind
    grind
set_option linter.unusedVariables false
theorem natCast_mul' (a b : Nat) : ((a * b : Nat) : Rat) = (a : Rat) * (b : Rat) := by first | exact Rat.intCast_add .. | exact Rat.intCast_sub .. | exact Rat.intCast_mul .. | exact Rat.intCast_neg .. | exact_mod_cast rfl
theorem nat_le {a b : Nat} (h : a ≤ b) : (a : Rat) ≤ (b : Rat) := by exact_mod_cast h
theorem lg_add (N a b c : Nat) : lg N a b + lg N b c = lg N a c := by unfold lg; grind
theorem Hn_mono (a : Nat) : ∀ j : Nat, Hn a ≤ Hn (a + j)
  | 0 => by grind
  | j + 1 => by
    have ih := Hn_mono a j
    have eH : Hn (a + (j + 1)) = Hn (a + j) + 1 / (((a + j : Nat) : Rat) + 1) := rfl
    have h0 : (0 : Rat) ≤ ((a + j : Nat) : Rat) := by grind
    have : (0 : Rat) ≤ 1 / (((a + j : Nat) : Rat) + 1) := q_div_nn (by grind) (by grind)
    grind
theorem lg_nn {N a b : Nat} (h : b ≤ a) : 0 ≤ lg N a b := by
  unfold lg
  have := Hn_mono (N * b) (N * a - N * b)
  have e : N * b + (N * a - N * b) = N * a := by
    have := Nat.mul_le_mul_left N h
    omega
  rw [e] at this
  grind
theorem lg_lo {N m p T : Nat} (hN : 0 < N) (hp : 0 < p) (hm : p ≤ m) : Pw T (1 - (p : Rat) / m) ≤ lg N m p + 1 / (N : Rat) ∧ (1 - (1 - (p : Rat) / m) ^ T) * lg N m p ≤ Pw T (1 - (p : Rat) / m) := by
  have hNp := nat_pos hN
  have hpp := nat_pos hp
  have hmp : (0 : Rat) < (m : Rat) := nat_pos (by first | with_reducible assumption | with_reducible exact Int.natCast_nonneg _ | with_reducible exact Int.le_of_lt (by assumption) | omega)
  have hle : N * p ≤ N * m := Nat.mul_le_mul_left N hm
  have hNP : 0 < N * p := Nat.mul_pos hN hp
  have u := Pw_up (D := N * m) (p := N * p) (T := T) hNP (N * m - N * p) (by first | with_reducible assumption | with_reducible exact Int.natCast_nonneg _ | with_reducible exact Int.le_of_lt (by assumption) | omega)
  have d := Pw_dn (D := N * m) (p := N * p) (T := T) hNP (N * m - N * p) (by first | with_reducible assumption | with_reducible exact Int.natCast_nonneg _ | with_reducible exact Int.le_of_lt (by assumption) | omega)
  have e : N * p + (N * m - N * p) = N * m := by omega
  rw [e] at u d
  have e1 : 1 - ((N * p : Nat) : Rat) / ((N * m : Nat) : Rat) = 1 - (p : Rat) / m := by
    rw [natCast_mul', natCast_mul']; grind
  have e2 : 1 - ((N * m : Nat) : Rat) / ((N * m : Nat) : Rat) = 0 := by
    rw [natCast_mul']
    have := Rat.mul_pos hNp hmp
    grind
  rw [e1, e2, Pw_zero] at u d
  unfold lg
  refine ⟨?_, by grind⟩
  have h1 : (1 : Rat) / ((N * p : Nat) : Rat) ≤ 1 / N := by
    refine q_div_le (nat_pos hNP) ?_
    rw [natCast_mul']
    have hp1 : (1 : Rat) ≤ p := by have := nat_le (show 1 ≤ p from hp); grind
    have e3 : 1 / (N : Rat) * (N * p) = p := by grind
    rw [e3]; exact hp1
  have h2 : (0 : Rat) ≤ 1 / ((N * m : Nat) : Rat) := q_div_nn (by grind) (nat_pos (Nat.mul_pos hN (by first | with_reducible assumption | with_reducible exact Int.natCast_nonneg _ | with_reducible exact Int.le_of_lt (by assumption) | omega)))
  grind
theorem Hn_scale1 {c j : Nat} (hc : 0 < c) (hj : 0 < j) : ∀ i : Nat, i ≤ c → (i : Rat) / (c * ((j : Rat) + 1)) ≤ Hn (c * j + i) - Hn (c * j) ∧ Hn (c * j + i) - Hn (c * j) ≤ (i : Rat) / (c * j)
  | 0, _ => by
    have e : (((0 : Nat) : Rat)) = 0 := by grind
    rw [e]
    constructor <;> grind
  | i + 1, h => by
    obtain ⟨h1, h2⟩ := Hn_scale1 hc hj i (by first | with_reducible assumption | with_reducible exact Int.natCast_nonneg _ | with_reducible exact Int.le_of_lt (by assumption) | omega)
    have eH : Hn (c * j + (i + 1)) = Hn (c * j + i) + 1 / (((c * j + i : Nat) : Rat) + 1) := rfl
    have e : ((i + 1 : Nat) : Rat) = (i : Rat) + 1 := by grind
    have hcp := nat_pos hc
    have hjp := nat_pos hj
    have hcj := Rat.mul_pos hcp hjp
    have hcj1 : (0 : Rat) < c * ((j : Rat) + 1) := Rat.mul_pos hcp (by grind)
    have hi0 : (0 : Rat) ≤ (i : Rat) := by grind
    have hic : (i : Rat) + 1 ≤ c := by have := nat_le h; grind
    have ec : ((c * j + i : Nat) : Rat) = c * j + i := by
      have : ((c * j + i : Nat) : Rat) = ((c * j : Nat) : Rat) + i := by first | exact Rat.intCast_add .. | exact Rat.intCast_sub .. | exact Rat.intCast_mul .. | exact Rat.intCast_neg .. | exact_mod_cast rfl
      rw [this, natCast_mul']
    rw [eH, e, ec]
    have hden : (0 : Rat) < c * j + i + 1 := by grind
    have k1 : 1 / ((c : Rat) * ((j : Rat) + 1)) ≤ 1 / (c * j + i + 1) := by
      refine q_le_div hden ?_
      have : 1 / ((c : Rat) * ((j : Rat) + 1)) * (c * j + i + 1) = (c * j + i + 1) / (c * ((j : Rat) + 1)) := by grind
      rw [this]
      exact q_div_le hcj1 (by grind)
    have k2 : 1 / ((c : Rat) * j + i + 1) ≤ 1 / (c * j) := by
      refine q_div_le hden ?_
      have : 1 / ((c : Rat) * j) * (c * j + i + 1) = (c * j + i + 1) / (c * j) := by grind
      rw [this]
      exact q_le_div hcj (by grind)
    constructor
    · have : ((i : Rat) + 1) / (c * ((j : Rat) + 1)) = (i : Rat) / (c * ((j : Rat) + 1)) + 1 / (c * ((j : Rat) + 1)) := by grind
      grind
    · have : ((i : Rat) + 1) / (c * j) = (i : Rat) / (c * j) + 1 / (c * j) := by grind
      grind
theorem Hn_scale {c b : Nat} (hc : 0 < c) (hb : 0 < b) : ∀ j : Nat, Hn (b + j) - Hn b ≤ Hn (c * (b + j)) - Hn (c * b) ∧ Hn (c * (b + j)) - Hn (c * b) ≤ Hn (b + j) - Hn b + 1 / (b : Rat) - 1 / ((b + j : Nat) : Rat)
  | 0 => by constructor <;> grind
  | j + 1 => by
    obtain ⟨h1, h2⟩ := Hn_scale hc hb j
    obtain ⟨s1, s2⟩ := Hn_scale1 (j := b + j) hc (by first | with_reducible assumption | with_reducible exact Int.natCast_nonneg _ | with_reducible exact Int.le_of_lt (by assumption) | omega) c (Nat.le_refl _)
    have e : c * (b + (j + 1)) = c * (b + j) + c := by rw [show b + (j + 1) = (b + j) + 1 by omega, Nat.mul_succ]
    have eH : Hn (b + (j + 1)) = Hn (b + j) + 1 / (((b + j : Nat) : Rat) + 1) := rfl
    have eb : ((b + (j + 1) : Nat) : Rat) = ((b + j : Nat) : Rat) + 1 := by grind
    have hcp := nat_pos hc
    have hbj : (0 : Rat) < ((b + j : Nat) : Rat) := nat_pos (by first | with_reducible assumption | with_reducible exact Int.natCast_nonneg _ | with_reducible exact Int.le_of_lt (by assumption) | omega)
    rw [e, eH, eb]
    generalize ((b + j : Nat) : Rat) = q at *
    have e1 : (c : Rat) / (c * (q + 1)) = 1 / (q + 1) := by grind
    have e2 : (c : Rat) / (c * q) = 1 / q := by grind
    rw [e1] at s1
    rw [e2] at s2
    constructor <;> grind
theorem lg_scale {N a b c : Nat} (hN : 0 < N) (hb : 0 < b) (hab : b ≤ a) (hc : 0 < c) : lg N a b ≤ lg N (c * a) (c * b) ∧ lg N (c * a) (c * b) ≤ lg N a b + 1 / (N : Rat) := by
  have hle : N * b ≤ N * a := Nat.mul_le_mul_left N hab
  obtain ⟨h1, h2⟩ := Hn_scale (c := c) (b := N * b) hc (Nat.mul_pos hN hb) (N * a - N * b)
  have e : N * b + (N * a - N * b) = N * a := by omega
  rw [e] at h1 h2
  have ea : N * (c * a) = c * (N * a) := Nat.mul_left_comm ..
  have eb : N * (c * b) = c * (N * b) := Nat.mul_left_comm ..
  unfold lg
  rw [ea, eb]
  refine ⟨h1, ?_⟩
  have hNp := nat_pos hN
  have hbp := nat_pos hb
  have k1 : (1 : Rat) / ((N * b : Nat) : Rat) ≤ 1 / N := by
    refine q_div_le (nat_pos (Nat.mul_pos hN hb)) ?_
    rw [natCast_mul']
    have hp1 : (1 : Rat) ≤ b := by have := nat_le (show 1 ≤ b from hb); grind
    have e3 : 1 / (N : Rat) * (N * b) = b := by grind
    rw [e3]; exact hp1
  have k2 : (0 : Rat) ≤ 1 / ((N * a : Nat) : Rat) := q_div_nn (by grind) (nat_pos (Nat.mul_pos hN (by first | with_reducible assumption | with_reducible exact Int.natCast_nonneg _ | with_reducible exact Int.le_of_lt (by assumption) | omega)))
  grind
-- tails
theorem q_pow_add (a : Rat) (m : Nat) : ∀ n : Nat, a ^ (m + n) = a ^ m * a ^ n
  | 0 => by grind
  | n + 1 => by rw [show m + (n + 1) = (m + n) + 1 from rfl, Rat.pow_succ, Rat.pow_succ, q_pow_add a m n]; grind
theorem Pw_tail {a : Rat} (ha : 0 ≤ a) (T : Nat) : ∀ j : Nat, Pw (T + j) a - Pw T a ≤ a ^ (T + 1) / ((T : Rat) + 1) * Ge j a ∧ Pw T a ≤ Pw (T + j) a
  | 0 => by simp [Ge]; grind
  | j + 1 => by
    obtain ⟨h1, h2⟩ := Pw_tail ha T j
    have e : Pw (T + (j + 1)) a = Pw (T + j) a + a ^ (T + j + 1) / (((T + j : Nat) : Rat) + 1) := rfl
    have hT : (0 : Rat) ≤ (T : Rat) := by grind
    have hj : (0 : Rat) ≤ (j : Rat) := by grind
    have ec : ((T + j : Nat) : Rat) = (T : Rat) + j := by first | exact Rat.intCast_add .. | exact Rat.intCast_sub .. | exact Rat.intCast_mul .. | exact Rat.intCast_neg .. | exact_mod_cast rfl
    rw [e, ec]
    simp only [Ge]
    have ep : a ^ (T + j + 1) = a ^ (T + 1) * a ^ j := by rw [← q_pow_add]; congr 1; omega
    have p0 := q_pow_nn ha (T + j + 1)
    have k : a ^ (T + j + 1) / ((T : Rat) + j + 1) ≤ a ^ (T + 1) / ((T : Rat) + 1) * a ^ j := by
      have e2 : a ^ (T + 1) / ((T : Rat) + 1) * a ^ j = a ^ (T + j + 1) / ((T : Rat) + 1) := by rw [ep]; grind
      rw [e2]
      refine q_div_le (by grind) ?_
      have : a ^ (T + j + 1) / ((T : Rat) + 1) * ((T : Rat) + j + 1) = a ^ (T + j + 1) + a ^ (T + j + 1) / ((T : Rat) + 1) * j := by grind
      have := q_mul_nn (q_div_nn p0 (show (0 : Rat) < (T : Rat) + 1 by grind)) hj
      grind
    have k2 : 0 ≤ a ^ (T + j + 1) / ((T : Rat) + j + 1) := q_div_nn p0 (by grind)
    have e3 : a ^ (T + 1) / ((T : Rat) + 1) * (Ge j a + a ^ j) = a ^ (T + 1) / ((T : Rat) + 1) * Ge j a + a ^ (T + 1) / ((T : Rat) + 1) * a ^ j := by grind
    constructor <;> grind
noncomputable def tl (T : Nat) (a : Rat) : Rat := a ^ (T + 1) / (((T : Rat) + 1) * (1 - a))
theorem Ge_le {a : Rat} (ha : 0 ≤ a) (h1 : a < 1) (T : Nat) : Ge T a ≤ 1 / (1 - a) := by
  refine q_le_div (by grind) ?_
  have := Ge_eq a T
  have := q_pow_nn ha T
  grind
theorem Pw_tl {a : Rat} (ha : 0 ≤ a) (h1 : a < 1) (T j : Nat) : Pw (T + j) a ≤ Pw T a + tl T a := by
  have h := (Pw_tail ha T j).1
  have g := Ge_le ha h1 j
  have hT : (0 : Rat) ≤ (T : Rat) := by grind
  have p : 0 ≤ a ^ (T + 1) / ((T : Rat) + 1) := q_div_nn (q_pow_nn ha _) (by grind)
  have := q_mul_le' g p
  have e : a ^ (T + 1) / ((T : Rat) + 1) * (1 / (1 - a)) = tl T a := by unfold tl; grind
  grind
theorem q_half_pow : ∀ n : Nat, (1 / 2 : Rat) ^ n * ((n : Rat) + 1) ≤ 1
  | 0 => by grind
  | n + 1 => by
    have ih := q_half_pow n
    have e : ((n + 1 : Nat) : Rat) = (n : Rat) + 1 := by grind
    have p := q_pow_nn (show (0 : Rat) ≤ 1 / 2 by decide +kernel) n
    have hn : (0 : Rat) ≤ (n : Rat) := by grind
    rw [e, Rat.pow_succ]
    have := q_mul_nn p hn
    generalize (1 / 2 : Rat) ^ n = A at *
    grind
theorem q_half_pow_le {N n : Nat} (hN : 0 < N) (h : N ≤ n) {a : Rat} (ha : 0 ≤ a) (h2 : a ≤ 1 / 2) : a ^ n ≤ 1 / (N : Rat) := by
  have h1 := q_pow_le ha h2 n
  have h3 := q_half_pow n
  have hNp := nat_pos hN
  have hle := nat_le h
  refine Rat.le_trans h1 (q_le_div hNp ?_)
  have p := q_pow_nn (show (0 : Rat) ≤ 1 / 2 by decide +kernel) n
  have := q_mul_le' (show (N : Rat) ≤ (n : Rat) + 1 by grind) p
  grind
theorem tl_le {N T : Nat} (hN : 0 < N) (h : N ≤ T) {a : Rat} (ha : 0 ≤ a) (h2 : a ≤ 1 / 2) : tl T a ≤ 1 / (N : Rat) := by
  have h1 := q_half_pow_le hN (show N ≤ T + 1 by omega) ha h2
  have hT : (0 : Rat) ≤ (T : Rat) := by grind
  have hN1 := nat_le (show 1 ≤ N from hN)
  have hNT := nat_le h
  have hNp := nat_pos hN
  unfold tl
  refine q_div_le (Rat.mul_pos (by grind) (by grind)) ?_
  have k : (1 : Rat) ≤ ((T : Rat) + 1) * (1 - a) := by
    have := q_mul_le' (show (1 : Rat) / 2 ≤ 1 - a by grind) (show (0 : Rat) ≤ (T : Rat) + 1 by grind)
    grind
  have := q_mul_le' k (show (0 : Rat) ≤ 1 / N from q_div_nn (by grind) hNp)
  grind
theorem lg_both {N m p : Nat} (T : Nat) (hN : 0 < N) (hp : 0 < p) (hm : p ≤ m) (h2 : m ≤ 2 * p) :
    Pw T (1 - (p : Rat) / m) - 1 / (N : Rat) ≤ lg N m p ∧ lg N m p ≤ Pw T (1 - (p : Rat) / m) + tl T (1 - (p : Rat) / m) + 1 / (N : Rat) := by
  have hpp := nat_pos hp
  have hmp : (0 : Rat) < (m : Rat) := nat_pos (by first | with_reducible assumption | with_reducible exact Int.natCast_nonneg _ | with_reducible exact Int.le_of_lt (by assumption) | omega)
  have hle := nat_le hm
  have hle2 : (m : Rat) ≤ 2 * p := by
    have := nat_le h2
    rw [natCast_mul'] at this
    grind
  have ha : 0 ≤ 1 - (p : Rat) / m := by
    have := q_div_le (c := 1) hmp (show (p : Rat) ≤ 1 * m by grind)
    grind
  have ha2 : 1 - (p : Rat) / m ≤ 1 / 2 := by
    have := q_le_div (c := 1 / 2) hmp (show (1 / 2 : Rat) * m ≤ p by grind)
    grind
  refine ⟨by have := (lg_lo (T := T) hN hp hm).1; grind, ?_⟩
  have h1 := (lg_lo (T := T + N) hN hp hm).2
  have h3 := (lg_lo (T := 1) hN hp hm).2
  have h0 := lg_nn (N := N) hm
  generalize 1 - (p : Rat) / m = a at *
  have ht := Pw_tl ha (by grind) T N
  have hpw := q_half_pow_le hN (show N ≤ T + N by omega) ha ha2
  have e1 : Pw 1 a = a := by simp [Pw]; grind
  rw [e1] at h3
  have hl : lg N m p ≤ 1 := by
    have := q_mul_le (show (1 / 2 : Rat) ≤ 1 - a ^ 1 by grind) h0
    grind
  have := q_mul_le hpw h0
  have := q_mul_le' hl (show (0 : Rat) ≤ 1 / N from q_div_nn (by grind) (nat_pos hN))
  grind
set_option linter.unusedVariables false
noncomputable def lgI (N : Nat) (a b : Int) : Rat := lg N a.toNat b.toNat
theorem int_pos {n : Int} (h : 0 < n) : (0 : Rat) < (n : Rat) := by exact_mod_cast h
theorem int_le {a b : Int} (h : a ≤ b) : (a : Rat) ≤ (b : Rat) := by exact_mod_cast h
theorem toNat_cast {n : Int} (h : 0 ≤ n) : ((n.toNat : Nat) : Rat) = (n : Rat) := by
  have : ((n.toNat : Nat) : Int) = n := Int.toNat_of_nonneg h
  have h2 : (((n.toNat : Nat) : Int) : Rat) = (n : Rat) := by rw [this]
  exact h2
theorem neg_pow {a : Rat} (ha : 0 ≤ a) : ∀ k : Nat, -(a ^ k) ≤ (-a) ^ k ∧ (-a) ^ k ≤ a ^ k
  | 0 => by constructor <;> grind
  | k + 1 => by
    obtain ⟨h1, h2⟩ := neg_pow ha k
    rw [Rat.pow_succ, Rat.pow_succ]
    have m1 := q_mul_le h1 ha
    have m2 := q_mul_le h2 ha
    constructor <;> grind
theorem Pw_neg {a : Rat} (ha : 0 ≤ a) (T : Nat) : ∀ j : Nat, Pw (T + j) (-a) - Pw T (-a) ≤ Pw (T + j) a - Pw T a ∧ -(Pw (T + j) a - Pw T a) ≤ Pw (T + j) (-a) - Pw T (-a)
  | 0 => by constructor <;> grind
  | j + 1 => by
    obtain ⟨h1, h2⟩ := Pw_neg ha T j
    obtain ⟨n1, n2⟩ := neg_pow ha (T + j + 1)
    have e : Pw (T + (j + 1)) a = Pw (T + j) a + a ^ (T + j + 1) / (((T + j : Nat) : Rat) + 1) := rfl
    have e' : Pw (T + (j + 1)) (-a) = Pw (T + j) (-a) + (-a) ^ (T + j + 1) / (((T + j : Nat) : Rat) + 1) := rfl
    have h0 : (0 : Rat) ≤ ((T + j : Nat) : Rat) := by grind
    rw [e, e']
    generalize (((T + j : Nat) : Rat)) = c at *
    have h3 : (0 : Rat) ≤ 1 / (c + 1) := q_div_nn (by grind) (by grind)
    have m1 := q_mul_le n1 h3
    have m2 := q_mul_le n2 h3
    have e1 : a ^ (T + j + 1) / (c + 1) = a ^ (T + j + 1) * (1 / (c + 1)) := by grind
    have e2 : (-a) ^ (T + j + 1) / (c + 1) = (-a) ^ (T + j + 1) * (1 / (c + 1)) := by grind
    rw [e1, e2]
    constructor <;> grind
theorem pow_even (t : Rat) : ∀ J : Nat, (t * t) ^ J = t ^ (2 * J) ∧ (-t) ^ (2 * J) = t ^ (2 * J)
  | 0 => by constructor <;> grind
  | J + 1 => by
    obtain ⟨h1, h2⟩ := pow_even t J
    rw [show 2 * (J + 1) = 2 * J + 1 + 1 by omega, Rat.pow_succ, Rat.pow_succ, Rat.pow_succ, Rat.pow_succ, Rat.pow_succ, h1, h2]
    constructor <;> grind
theorem Pw_even (t : Rat) : ∀ J : Nat, Pw (2 * J) t - Pw J (t * t) = -Pw (2 * J) (-t)
  | 0 => by simp [Pw]; grind
  | J + 1 => by
    have ih := Pw_even t J
    obtain ⟨h1, h2⟩ := pow_even t J
    rw [show 2 * (J + 1) = 2 * J + 1 + 1 by omega]
    simp only [Pw]
    have e : ((2 * J + 1 : Nat) : Rat) = 2 * (J : Rat) + 1 := by
      have : ((2 * J + 1 : Nat) : Rat) = ((2 * J : Nat) : Rat) + 1 := by first | exact Rat.intCast_add .. | exact Rat.intCast_sub .. | exact Rat.intCast_mul .. | exact Rat.intCast_neg .. | exact_mod_cast rfl
      rw [this, natCast_mul']; grind
    have e2 : ((2 * J : Nat) : Rat) = 2 * (J : Rat) := by rw [natCast_mul']; grind
    have hJ : (0 : Rat) ≤ (J : Rat) := by grind
    rw [e, e2, Rat.pow_succ, Rat.pow_succ, Rat.pow_succ, Rat.pow_succ, Rat.pow_succ, h1, h2]
    generalize t ^ (2 * J) = A at *
    generalize (J : Rat) = c at *
    have k1 : A * (t * t) / (c + 1) = 2 * (A * t * t / (2 * c + 1 + 1)) := by
      have : 2 * c + 1 + 1 ≠ 0 := by grind
      have : c + 1 ≠ 0 := by grind
      grind
    grind
theorem taylor {N : Nat} (hN : 0 < N) {M y : Int} (hM : 0 < M) (hy : 2 * (y.natAbs : Int) ≤ M) (T : Nat) :
    lgI N (M + y) M + Pw T (-((y : Rat) / M)) ≤ tl T ((y.natAbs : Rat) / M) + 4 / (N : Rat) ∧ -(tl T ((y.natAbs : Rat) / M) + 4 / (N : Rat)) ≤ lgI N (M + y) M + Pw T (-((y : Rat) / M)) := by
  have hNp := nat_pos hN
  have hMp := int_pos hM
  have he : (0 : Rat) < 1 / N := q_div_pos (by grind) hNp
  have e4 : (4 : Rat) / N = 4 * (1 / N) := by grind
  rw [e4]
  have cM := toNat_cast (show 0 ≤ M by omega)
  rcases Int.le_total y 0 with hy0 | hy0
  · have hyM : 2 * -y ≤ M := by omega
    clear hy
    have b := lg_both (N := N) (m := M.toNat) (p := (M + y).toNat) T hN (by first | with_reducible assumption | with_reducible exact Int.natCast_nonneg _ | with_reducible exact Int.le_of_lt (by assumption) | omega) (by first | with_reducible assumption | with_reducible exact Int.natCast_nonneg _ | with_reducible exact Int.le_of_lt (by assumption) | omega) (by first | with_reducible assumption | with_reducible exact Int.natCast_nonneg _ | with_reducible exact Int.le_of_lt (by assumption) | omega)
    have e1 : (((M + y).toNat : Nat) : Rat) = (M : Rat) + y := by
      rw [toNat_cast (show 0 ≤ M + y by omega)]; exact_mod_cast rfl
    have e2 : 1 - (((M + y).toNat : Nat) : Rat) / ((M.toNat : Nat) : Rat) = -((y : Rat) / M) := by
      rw [e1, cM]; grind
    have e3 : (y.natAbs : Rat) / M = -((y : Rat) / M) := by
      have : ((y.natAbs : Nat) : Rat) = -(y : Rat) := by
        have : ((y.natAbs : Nat) : Int) = -y := by omega
        have h2 : (((y.natAbs : Nat) : Int) : Rat) = ((-y : Int) : Rat) := by rw [this]
        have h3 : ((-y : Int) : Rat) = -(y : Rat) := by first | exact Rat.intCast_add .. | exact Rat.intCast_sub .. | exact Rat.intCast_mul .. | exact Rat.intCast_neg .. | exact_mod_cast rfl
        rw [← h3]; exact h2
      rw [this]; grind
    rw [e2] at b
    rw [e3]
    have en : lgI N (M + y) M = -lg N M.toNat (M + y).toNat := by unfold lgI lg; grind
    rw [en]
    constructor <;> grind
  · have hyM : 2 * y ≤ M := by omega
    clear hy
    have q1 : y * y ≤ y * M := Int.mul_le_mul_of_nonneg_left (by first | with_reducible assumption | with_reducible exact Int.natCast_nonneg _ | with_reducible exact Int.le_of_lt (by assumption) | omega) hy0
    have q2 : 2 * y * M ≤ M * M := Int.mul_le_mul_of_nonneg_right hyM (by first | with_reducible assumption | with_reducible exact Int.natCast_nonneg _ | with_reducible exact Int.le_of_lt (by assumption) | omega)
    have q3 : 2 * (y * M) = 2 * y * M := by grind
    have hMM : 0 < M * M := Int.mul_pos hM hM
    have q4 : 2 * y * (2 * y) ≤ M * M := Int.mul_le_mul hyM hyM (by first | with_reducible assumption | with_reducible exact Int.natCast_nonneg _ | with_reducible exact Int.le_of_lt (by assumption) | omega) (by first | with_reducible assumption | with_reducible exact Int.natCast_nonneg _ | with_reducible exact Int.le_of_lt (by assumption) | omega)
    have q5 : 2 * y * (2 * y) = 4 * (y * y) := by grind
    have q6 : 0 ≤ y * y := Int.mul_nonneg hy0 hy0
    have b1 := lg_both (N := N) (m := M.toNat) (p := (M - y).toNat) (2 * (T + N)) hN (by first | with_reducible assumption | with_reducible exact Int.natCast_nonneg _ | with_reducible exact Int.le_of_lt (by assumption) | omega) (by first | with_reducible assumption | with_reducible exact Int.natCast_nonneg _ | with_reducible exact Int.le_of_lt (by assumption) | omega) (by first | with_reducible assumption | with_reducible exact Int.natCast_nonneg _ | with_reducible exact Int.le_of_lt (by assumption) | omega)
    have b2 := lg_both (N := N) (m := (M * M).toNat) (p := (M * M - y * y).toNat) (T + N) hN (by first | with_reducible assumption | with_reducible exact Int.natCast_nonneg _ | with_reducible exact Int.le_of_lt (by assumption) | omega) (by first | with_reducible assumption | with_reducible exact Int.natCast_nonneg _ | with_reducible exact Int.le_of_lt (by assumption) | omega) (by first | with_reducible assumption | with_reducible exact Int.natCast_nonneg _ | with_reducible exact Int.le_of_lt (by assumption) | omega)
    have s1 := lg_scale (N := N) (a := (M + y).toNat) (b := M.toNat) (c := (M - y).toNat) hN (by first | with_reducible assumption | with_reducible exact Int.natCast_nonneg _ | with_reducible exact Int.le_of_lt (by assumption) | omega) (by first | with_reducible assumption | with_reducible exact Int.natCast_nonneg _ | with_reducible exact Int.le_of_lt (by assumption) | omega) (by first | with_reducible assumption | with_reducible exact Int.natCast_nonneg _ | with_reducible exact Int.le_of_lt (by assumption) | omega)
    have s2 := lg_scale (N := N) (a := M.toNat) (b := (M - y).toNat) (c := M.toNat) hN (by first | with_reducible assumption | with_reducible exact Int.natCast_nonneg _ | with_reducible exact Int.le_of_lt (by assumption) | omega) (by first | with_reducible assumption | with_reducible exact Int.natCast_nonneg _ | with_reducible exact Int.le_of_lt (by assumption) | omega) (by first | with_reducible assumption | with_reducible exact Int.natCast_nonneg _ | with_reducible exact Int.le_of_lt (by assumption) | omega)
    have n1 : (M - y).toNat * (M + y).toNat = (M * M - y * y).toNat := by
      rw [← Int.toNat_mul (by first | with_reducible assumption | with_reducible exact Int.natCast_nonneg _ | with_reducible exact Int.le_of_lt (by assumption) | omega) (by first | with_reducible assumption | with_reducible exact Int.natCast_nonneg _ | with_reducible exact Int.le_of_lt (by assumption) | omega)]; congr 1; grind
    have n2 : (M - y).toNat * M.toNat = M.toNat * (M - y).toNat := Nat.mul_comm ..
    have n3 : M.toNat * M.toNat = (M * M).toNat := by rw [← Int.toNat_mul (by first | with_reducible assumption | with_reducible exact Int.natCast_nonneg _ | with_reducible exact Int.le_of_lt (by assumption) | omega) (by first | with_reducible assumption | with_reducible exact Int.natCast_nonneg _ | with_reducible exact Int.le_of_lt (by assumption) | omega)]
    rw [n1, n2] at s1
    rw [n3] at s2
    have c1 : (((M - y).toNat : Nat) : Rat) = (M : Rat) - y := by
      rw [toNat_cast (show 0 ≤ M - y by omega)]; exact_mod_cast rfl
    have c2 : (((M * M).toNat : Nat) : Rat) = (M : Rat) * M := by
      rw [toNat_cast (show 0 ≤ M * M by omega)]; exact_mod_cast rfl
    have c3 : (((M * M - y * y).toNat : Nat) : Rat) = (M : Rat) * M - y * y := by
      rw [toNat_cast (show 0 ≤ M * M - y * y by omega)]; exact_mod_cast rfl
    have e1 : 1 - (((M - y).toNat : Nat) : Rat) / ((M.toNat : Nat) : Rat) = (y : Rat) / M := by rw [c1, cM]; grind
    have e2 : 1 - (((M * M - y * y).toNat : Nat) : Rat) / (((M * M).toNat : Nat) : Rat) = ((y : Rat) / M) * ((y : Rat) / M) := by
      rw [c2, c3]
      have : (M : Rat) ≠ 0 := by grind
      grind
    have e3 : (y.natAbs : Rat) / M = (y : Rat) / M := by
      have : ((y.natAbs : Nat) : Rat) = (y : Rat) := by
        have : ((y.natAbs : Nat) : Int) = y := by omega
        have h2 : (((y.natAbs : Nat) : Int) : Rat) = ((y : Int) : Rat) := by rw [this]
        exact h2
      rw [this]
    rw [e1] at b1
    rw [e2] at b2
    rw [e3]
    have hyr : (2 : Rat) * y ≤ M := by
      have := int_le hyM
      have h3 : ((2 * y : Int) : Rat) = 2 * (y : Rat) := by first | exact Rat.intCast_add .. | exact Rat.intCast_sub .. | exact Rat.intCast_mul .. | exact Rat.intCast_neg .. | exact_mod_cast rfl
      rw [h3] at this; exact this
    have hyr0 : (0 : Rat) ≤ y := by have := int_le hy0; exact_mod_cast this
    have t0 : 0 ≤ (y : Rat) / M := q_div_nn hyr0 hMp
    have t1 : (y : Rat) / M ≤ 1 / 2 := q_div_le hMp (by grind)
    have add1 := lg_add N (M * M - y * y).toNat (M * M).toNat (M.toNat * (M - y).toNat)
    have en : lg N (M * M - y * y).toNat (M * M).toNat = -lg N (M * M).toNat (M * M - y * y).toNat := by unfold lg; grind
    have ev := Pw_even ((y : Rat) / M) (T + N)
    generalize (y : Rat) / M = t at *
    have tt0 : 0 ≤ t * t := q_mul_nn t0 t0
    have tt1 : t * t ≤ 1 / 2 := by have := q_mul_le t1 t0; grind
    have l1 := tl_le hN (show N ≤ 2 * (T + N) by omega) t0 t1
    have l2 := tl_le hN (show N ≤ T + N by omega) tt0 tt1
    have pn := Pw_neg t0 T (2 * (T + N) - T)
    have pt := Pw_tl t0 (by grind) T (2 * (T + N) - T)
    rw [show T + (2 * (T + N) - T) = 2 * (T + N) by omega] at pn pt
    unfold lgI
    rw [en] at add1
    clear en e1 e2 e3 c1 c2 c3 n1 n2 n3 q1 q2 q3 q4 q5 q6 hMM cM hyr hyr0 t0 t1 tt0 tt1 hyM hy0 hMp hNp e4 he
    generalize lg N (M * M).toNat (M * M - y * y).toNat = u1 at *
    generalize lg N (M * M - y * y).toNat (M.toNat * (M - y).toNat) = u2 at *
    generalize lg N (M * M).toNat (M.toNat * (M - y).toNat) = u3 at *
    generalize lg N (M + y).toNat M.toNat = u4 at *
    generalize lg N M.toNat (M - y).toNat = u5 at *
    generalize (1 : Rat) / (N : Rat) = ep at *
    generalize Pw (2 * (T + N)) t = w1 at *
    generalize Pw (2 * (T + N)) (-t) = w2 at *
    generalize Pw (T + N) (t * t) = w3 at *
    generalize Pw T (-t) = w4 at *
    generalize Pw T t = w5 at *
    generalize tl T t = w6 at *
    constructor <;> grind
set_option linter.unusedVariables false
noncomputable def At : Nat → Rat → Rat
  | 0, _ => 0
  | K + 1, z => At K z + 2 * z ^ (2 * K + 1) / (2 * (K : Rat) + 1)
theorem At_eq (z : Rat) : ∀ K : Nat, Pw (2 * K) z - Pw (2 * K) (-z) = At K z
  | 0 => by simp [Pw, At]; grind
  | K + 1 => by
    have ih := At_eq z K
    obtain ⟨h1, h2⟩ := pow_even z K
    rw [show 2 * (K + 1) = 2 * K + 1 + 1 by omega]
    simp only [Pw, At]
    have e : ((2 * K + 1 : Nat) : Rat) = 2 * (K : Rat) + 1 := by
      have : ((2 * K + 1 : Nat) : Rat) = ((2 * K : Nat) : Rat) + 1 := by first | exact Rat.intCast_add .. | exact Rat.intCast_sub .. | exact Rat.intCast_mul .. | exact Rat.intCast_neg .. | exact_mod_cast rfl
      rw [this, natCast_mul']; grind
    have e2 : ((2 * K : Nat) : Rat) = 2 * (K : Rat) := by rw [natCast_mul']; grind
    have hK : (0 : Rat) ≤ (K : Rat) := by grind
    rw [e, e2, Rat.pow_succ, Rat.pow_succ, Rat.pow_succ, Rat.pow_succ, h2]
    generalize z ^ (2 * K) = A at *
    generalize (K : Rat) = c at *
    have : 2 * c + 1 ≠ 0 := by grind
    have : 2 * c + 1 + 1 ≠ 0 := by grind
    grind
noncomputable def tA (K : Nat) (z : Rat) : Rat := 2 * z ^ (2 * K + 1) / ((2 * (K : Rat) + 1) * (1 - z * z))
theorem At_mono {z : Rat} (hz : 0 ≤ z) (K : Nat) : ∀ j : Nat, At K z ≤ At (K + j) z ∧ At (K + j) z - At K z ≤ 2 * z ^ (2 * K + 1) / (2 * (K : Rat) + 1) * Ge j (z * z)
  | 0 => by simp [Ge]; grind
  | j + 1 => by
    obtain ⟨h1, h2⟩ := At_mono hz K j
    have e : At (K + (j + 1)) z = At (K + j) z + 2 * z ^ (2 * (K + j) + 1) / (2 * ((K + j : Nat) : Rat) + 1) := rfl
    have ec : ((K + j : Nat) : Rat) = (K : Rat) + j := by first | exact Rat.intCast_add .. | exact Rat.intCast_sub .. | exact Rat.intCast_mul .. | exact Rat.intCast_neg .. | exact_mod_cast rfl
    have hK : (0 : Rat) ≤ (K : Rat) := by grind
    have hj : (0 : Rat) ≤ (j : Rat) := by grind
    have p0 := q_pow_nn hz (2 * (K + j) + 1)
    have ep : z ^ (2 * (K + j) + 1) = z ^ (2 * K + 1) * (z * z) ^ j := by
      rw [(pow_even z j).1, ← q_pow_add]; congr 1; omega
    rw [e, ec]
    simp only [Ge]
    have k0 : 0 ≤ 2 * z ^ (2 * (K + j) + 1) / (2 * ((K : Rat) + j) + 1) := q_div_nn (by grind) (by grind)
    have k1 : 2 * z ^ (2 * (K + j) + 1) / (2 * ((K : Rat) + j) + 1) ≤ 2 * z ^ (2 * K + 1) / (2 * (K : Rat) + 1) * (z * z) ^ j := by
      have e2 : 2 * z ^ (2 * K + 1) / (2 * (K : Rat) + 1) * (z * z) ^ j = 2 * z ^ (2 * (K + j) + 1) / (2 * (K : Rat) + 1) := by rw [ep]; grind
      rw [e2]
      refine q_div_le (by grind) ?_
      generalize z ^ (2 * (K + j) + 1) = X at *
      have : 2 * X / (2 * (K : Rat) + 1) * (2 * ((K : Rat) + j) + 1) = 2 * X + 2 * X / (2 * (K : Rat) + 1) * (2 * j) := by
        have : 2 * (K : Rat) + 1 ≠ 0 := by grind
        grind
      have := q_mul_nn (q_div_nn (show 0 ≤ 2 * X by first | with_reducible exact n2 (by first | with_reducible assumption | with_reducible exact Rat.le_of_lt (by assumption) | with_reducible exact nn6 (by assumption) | with_reducible exact nn1 (by assumption) | with_reducible exact nn2 (by assumption)) | grind) (show (0 : Rat) < 2 * (K : Rat) + 1 by grind)) (show (0 : Rat) ≤ 2 * j by grind)
      grind
    have e3 : 2 * z ^ (2 * K + 1) / (2 * (K : Rat) + 1) * (Ge j (z * z) + (z * z) ^ j) = 2 * z ^ (2 * K + 1) / (2 * (K : Rat) + 1) * Ge j (z * z) + 2 * z ^ (2 * K + 1) / (2 * (K : Rat) + 1) * (z * z) ^ j := by grind
    constructor <;> grind
theorem At_tA {z : Rat} (hz : 0 ≤ z) (h1 : z ≤ 1 / 2) (K j : Nat) : At (K + j) z ≤ At K z + tA K z := by
  have h := (At_mono hz K j).2
  have zz : z * z ≤ 1 / 4 := by
    have := q_mul_le h1 hz
    grind
  have g := Ge_le (q_mul_nn hz hz) (show z * z < 1 by grind) j
  have hK : (0 : Rat) ≤ (K : Rat) := by grind
  have p : 0 ≤ 2 * z ^ (2 * K + 1) / (2 * (K : Rat) + 1) := q_div_nn (by have := q_pow_nn hz (2 * K + 1); grind) (by grind)
  have := q_mul_le' g p
  have e : 2 * z ^ (2 * K + 1) / (2 * (K : Rat) + 1) * (1 / (1 - z * z)) = tA K z := by unfold tA; grind
  grind
theorem artanh {N : Nat} (hN : 0 < N) {A B : Int} (hB : 0 < B) (hBA : B ≤ A) (h2 : A ≤ 2 * B) (K : Nat) :
    At K (((A - B : Int) : Rat) / ((A + B : Int) : Rat)) ≤ lgI N A B + 12 / (N : Rat) ∧ lgI N A B ≤ At K (((A - B : Int) : Rat) / ((A + B : Int) : Rat)) + tA K (((A - B : Int) : Rat) / ((A + B : Int) : Rat)) + 12 / (N : Rat) := by
  have hNp := nat_pos hN
  have he : (0 : Rat) < 1 / N := q_div_pos (by grind) hNp
  have hmp := int_pos (show 0 < A + B by omega)
  have hn0 : (0 : Rat) ≤ ((A - B : Int) : Rat) := by have := int_le (show 0 ≤ A - B by omega); exact_mod_cast this
  have hn2 : 2 * ((A - B : Int) : Rat) ≤ ((A + B : Int) : Rat) := by
    have := int_le (show 2 * (A - B) ≤ A + B by omega)
    have h3 : ((2 * (A - B) : Int) : Rat) = 2 * ((A - B : Int) : Rat) := by first | exact Rat.intCast_add .. | exact Rat.intCast_sub .. | exact Rat.intCast_mul .. | exact Rat.intCast_neg .. | exact_mod_cast rfl
    rw [h3] at this; exact this
  have t1 := taylor (N := N) hN (M := A + B) (y := A - B) (by first | with_reducible assumption | with_reducible exact Int.natCast_nonneg _ | with_reducible exact Int.le_of_lt (by assumption) | omega) (by first | with_reducible assumption | with_reducible exact Int.natCast_nonneg _ | with_reducible exact Int.le_of_lt (by assumption) | omega) (2 * (K + N))
  have t2 := taylor (N := N) hN (M := A + B) (y := -(A - B)) (by first | with_reducible assumption | with_reducible exact Int.natCast_nonneg _ | with_reducible exact Int.le_of_lt (by assumption) | omega) (by first | with_reducible assumption | with_reducible exact Int.natCast_nonneg _ | with_reducible exact Int.le_of_lt (by assumption) | omega) (2 * (K + N))
  rw [show A + B + (A - B) = 2 * A by omega] at t1
  rw [show A + B + -(A - B) = 2 * B by omega] at t2
  have ca : (((-(A - B) : Int)) : Rat) = -((A - B : Int) : Rat) := by first | exact Rat.intCast_add .. | exact Rat.intCast_sub .. | exact Rat.intCast_mul .. | exact Rat.intCast_neg .. | exact_mod_cast rfl
  have na : (((A - B).natAbs : Nat) : Rat) = ((A - B : Int) : Rat) := by
    have : (((A - B).natAbs : Nat) : Int) = A - B := by omega
    have h2 : ((((A - B).natAbs : Nat) : Int) : Rat) = ((A - B : Int) : Rat) := by rw [this]
    exact h2
  have nb : (-(A - B)).natAbs = (A - B).natAbs := Int.natAbs_neg _
  rw [ca, nb, na] at t2
  rw [na] at t1
  have s := lg_scale (N := N) (a := A.toNat) (b := B.toNat) (c := 2) hN (by first | with_reducible assumption | with_reducible exact Int.natCast_nonneg _ | with_reducible exact Int.le_of_lt (by assumption) | omega) (by first | with_reducible assumption | with_reducible exact Int.natCast_nonneg _ | with_reducible exact Int.le_of_lt (by assumption) | omega) (by decide)
  have e1 : 2 * A.toNat = (2 * A).toNat := by omega
  have e2 : 2 * B.toNat = (2 * B).toNat := by omega
  rw [e1, e2] at s
  have ad := lg_add N (2 * A).toNat (A + B).toNat (2 * B).toNat
  have en : lg N (A + B).toNat (2 * B).toNat = -lg N (2 * B).toNat (A + B).toNat := by unfold lg; grind
  have ae := At_eq (((A - B : Int) : Rat) / ((A + B : Int) : Rat)) (K + N)
  have z0 : 0 ≤ ((A - B : Int) : Rat) / ((A + B : Int) : Rat) := q_div_nn hn0 hmp
  have z1 : ((A - B : Int) : Rat) / ((A + B : Int) : Rat) ≤ 1 / 2 := q_div_le hmp (by grind)
  have ez : -(-((A - B : Int) : Rat) / ((A + B : Int) : Rat)) = ((A - B : Int) : Rat) / ((A + B : Int) : Rat) := by grind
  rw [ez] at t2
  generalize ((A - B : Int) : Rat) / ((A + B : Int) : Rat) = z at *
  have l1 := tl_le hN (show N ≤ 2 * (K + N) by omega) z0 z1
  have m1 := (At_mono z0 K N).1
  have m2 := At_tA z0 z1 K N
  have e4 : (4 : Rat) / N = 4 * (1 / N) := by grind
  have e12 : (12 : Rat) / N = 12 * (1 / N) := by grind
  rw [e4] at t1 t2
  rw [e12]
  unfold lgI at t1 t2 ⊢
  constructor <;> grind
-- the sums of _law_log
noncomputable def lp (n m scale : Int) : Nat → Int
  | 0 => scale * n / m
  | i + 1 => lp n m scale i * n * n / (m * m)
noncomputable def ls (n m scale : Int) : Nat → Int
  | 0 => 0
  | K + 1 => ls n m scale K + 2 * (lp n m scale K / (2 * (K : Int) + 1))
theorem ediv_q {a b : Int} (hb : 0 < b) : ((a / b : Int) : Rat) ≤ (a : Rat) / b ∧ (a : Rat) / b - 1 ≤ ((a / b : Int) : Rat) := by
  have h1 := Int.mul_ediv_add_emod a b
  have h2 := Int.emod_nonneg a (show b ≠ 0 by omega)
  have h3 := Int.emod_lt_of_pos a hb
  have hbp := int_pos hb
  have c : (b : Rat) * ((a / b : Int) : Rat) + ((a % b : Int) : Rat) = (a : Rat) := by exact_mod_cast congrArg (fun x : Int => (x : Rat)) h1
  have r0 : (0 : Rat) ≤ ((a % b : Int) : Rat) := by have := int_le h2; exact_mod_cast this
  have r1 : ((a % b : Int) : Rat) ≤ (b : Rat) := int_le (by first | with_reducible assumption | with_reducible exact Int.natCast_nonneg _ | with_reducible exact Int.le_of_lt (by assumption) | omega)
  generalize ((a / b : Int) : Rat) = q at *
  generalize ((a % b : Int) : Rat) = r at *
  rw [← c]
  constructor
  · exact q_le_div hbp (by grind)
  · have := q_div_le (a := b * q + r) (c := q + 1) hbp (by grind)
    grind
theorem lp_both {n m scale : Int} (hm : 0 < m) (hn : 0 ≤ n) (h3 : 3 * n ≤ m) (hs : 0 ≤ scale) : ∀ i : Nat,
    0 ≤ lp n m scale i ∧ ((lp n m scale i : Int) : Rat) ≤ scale * ((n : Rat) / m) ^ (2 * i + 1) ∧ (scale : Rat) * ((n : Rat) / m) ^ (2 * i + 1) - 9 / 8 ≤ ((lp n m scale i : Int) : Rat)
  | 0 => by
    refine ⟨Int.ediv_nonneg (Int.mul_nonneg hs hn) (by first | with_reducible assumption | with_reducible exact Int.natCast_nonneg _ | with_reducible exact Int.le_of_lt (by assumption) | omega), ?_⟩
    obtain ⟨h1, h2⟩ := ediv_q (a := scale * n) hm
    have c : ((scale * n : Int) : Rat) = (scale : Rat) * n := by first | exact Rat.intCast_add .. | exact Rat.intCast_sub .. | exact Rat.intCast_mul .. | exact Rat.intCast_neg .. | exact_mod_cast rfl
    rw [c] at h1 h2
    have hmp := int_pos hm
    have e : (scale : Rat) * n / m = scale * ((n : Rat) / m) ^ (2 * 0 + 1) := by
      rw [show 2 * 0 + 1 = 0 + 1 from rfl, Rat.pow_succ]; grind
    rw [e] at h1 h2
    show ((scale * n / m : Int) : Rat) ≤ _ ∧ _ ≤ ((scale * n / m : Int) : Rat)
    constructor <;> grind
  | i + 1 => by
    obtain ⟨h0, h1, h2⟩ := lp_both hm hn h3 hs i
    have hmm : 0 < m * m := Int.mul_pos hm hm
    have hmp := int_pos hm
    obtain ⟨g1, g2⟩ := ediv_q (a := lp n m scale i * n * n) hmm
    have c1 : ((lp n m scale i * n * n : Int) : Rat) = ((lp n m scale i : Int) : Rat) * n * n := by first | exact Rat.intCast_add .. | exact Rat.intCast_sub .. | exact Rat.intCast_mul .. | exact Rat.intCast_neg .. | exact_mod_cast rfl
    have c2 : ((m * m : Int) : Rat) = (m : Rat) * m := by first | exact Rat.intCast_add .. | exact Rat.intCast_sub .. | exact Rat.intCast_mul .. | exact Rat.intCast_neg .. | exact_mod_cast rfl
    rw [c1, c2] at g1 g2
    refine ⟨Int.ediv_nonneg (Int.mul_nonneg (Int.mul_nonneg h0 hn) hn) (by first | with_reducible assumption | with_reducible exact Int.natCast_nonneg _ | with_reducible exact Int.le_of_lt (by assumption) | omega), ?_⟩
    show ((lp n m scale i * n * n / (m * m) : Int) : Rat) ≤ _ ∧ _ ≤ ((lp n m scale i * n * n / (m * m) : Int) : Rat)
    have hn0 : (0 : Rat) ≤ n := by have := int_le hn; exact_mod_cast this
    have hn3 : 3 * (n : Rat) ≤ m := by
      have := int_le h3
      have h3 : ((3 * n : Int) : Rat) = 3 * (n : Rat) := by first | exact Rat.intCast_add .. | exact Rat.intCast_sub .. | exact Rat.intCast_mul .. | exact Rat.intCast_neg .. | exact_mod_cast rfl
      rw [h3] at this; exact this
    have z0 : 0 ≤ (n : Rat) / m := q_div_nn hn0 hmp
    have z1 : (n : Rat) / m ≤ 1 / 3 := q_div_le hmp (by grind)
    have e : ((lp n m scale i : Int) : Rat) * n * n / (m * m) = ((lp n m scale i : Int) : Rat) * (((n : Rat) / m) * ((n : Rat) / m)) := by
      have : (m : Rat) ≠ 0 := by grind
      grind
    rw [e] at g1 g2
    rw [show 2 * (i + 1) + 1 = 2 * i + 1 + 1 + 1 by omega, Rat.pow_succ, Rat.pow_succ]
    generalize ((lp n m scale i * n * n / (m * m) : Int) : Rat) = Z at *
    generalize ((lp n m scale i : Int) : Rat) = Y at *
    generalize (n : Rat) / m = z at *
    generalize z ^ (2 * i + 1) = X at *
    generalize (scale : Rat) = s at *
    have zz0 : 0 ≤ z * z := q_mul_nn z0 z0
    have zz1 : z * z ≤ 1 / 9 := by
      have := q_mul_le z1 z0
      grind
    have m1 := q_mul_le h1 zz0
    have m2 := q_mul_le h2 zz0
    have e5 : s * (X * z * z) = s * X * (z * z) := by grind
    rw [e5]
    constructor <;> grind
theorem ls_both {n m scale : Int} (hm : 0 < m) (hn : 0 ≤ n) (h3 : 3 * n ≤ m) (hs : 0 ≤ scale) : ∀ K : Nat,
    ((ls n m scale K : Int) : Rat) ≤ scale * At K ((n : Rat) / m) ∧ (scale : Rat) * At K ((n : Rat) / m) ≤ ((ls n m scale K : Int) : Rat) + 3 * K
  | 0 => by
    show ((0 : Int) : Rat) ≤ (scale : Rat) * 0 ∧ (scale : Rat) * 0 ≤ ((0 : Int) : Rat) + 3 * ((0 : Nat) : Rat)
    constructor <;> grind
  | K + 1 => by
    obtain ⟨i1, i2⟩ := ls_both hm hn h3 hs K
    obtain ⟨h0, h1, h2⟩ := lp_both hm hn h3 hs K
    have hk : 0 < 2 * (K : Int) + 1 := by omega
    have d1 := Int.mul_ediv_add_emod (lp n m scale K) (2 * (K : Int) + 1)
    have d2 := Int.emod_nonneg (lp n m scale K) (show 2 * (K : Int) + 1 ≠ 0 by omega)
    have d3 := Int.emod_lt_of_pos (lp n m scale K) hk
    have ck : ((2 * (K : Int) + 1 : Int) : Rat) = 2 * (K : Rat) + 1 := by first | exact Rat.intCast_add .. | exact Rat.intCast_sub .. | exact Rat.intCast_mul .. | exact Rat.intCast_neg .. | exact_mod_cast rfl
    have cc : (2 * (K : Rat) + 1) * ((lp n m scale K / (2 * (K : Int) + 1) : Int) : Rat) + ((lp n m scale K % (2 * (K : Int) + 1) : Int) : Rat) = ((lp n m scale K : Int) : Rat) := by
      rw [← ck]; exact_mod_cast congrArg (fun x : Int => (x : Rat)) d1
    have r0 : (0 : Rat) ≤ ((lp n m scale K % (2 * (K : Int) + 1) : Int) : Rat) := by have := int_le d2; exact_mod_cast this
    have r1 : ((lp n m scale K % (2 * (K : Int) + 1) : Int) : Rat) ≤ 2 * (K : Rat) := by
      have := int_le (show lp n m scale K % (2 * (K : Int) + 1) ≤ 2 * (K : Int) by omega)
      have e : ((2 * (K : Int) : Int) : Rat) = 2 * (K : Rat) := by first | exact Rat.intCast_add .. | exact Rat.intCast_sub .. | exact Rat.intCast_mul .. | exact Rat.intCast_neg .. | exact_mod_cast rfl
      rw [e] at this; exact this
    have eL : ((ls n m scale (K + 1) : Int) : Rat) = ((ls n m scale K : Int) : Rat) + 2 * ((lp n m scale K / (2 * (K : Int) + 1) : Int) : Rat) := by
      show ((ls n m scale K + 2 * (lp n m scale K / (2 * (K : Int) + 1)) : Int) : Rat) = _
      exact_mod_cast rfl
    have eK : ((K + 1 : Nat) : Rat) = (K : Rat) + 1 := by grind
    rw [eL, eK]
    simp only [At]
    have hK : (0 : Rat) ≤ (K : Rat) := by grind
    generalize ((lp n m scale K / (2 * (K : Int) + 1) : Int) : Rat) = q at *
    generalize ((lp n m scale K % (2 * (K : Int) + 1) : Int) : Rat) = r at *
    generalize ((lp n m scale K : Int) : Rat) = Y at *
    generalize ((n : Rat) / m) ^ (2 * K + 1) = X at *
    generalize At K ((n : Rat) / m) = AA at *
    generalize (scale : Rat) = s at *
    generalize (K : Rat) = c at *
    have e6 : s * (AA + 2 * X / (2 * c + 1)) = s * AA + 2 * (s * X) / (2 * c + 1) := by
      have : 2 * c + 1 ≠ 0 := by grind
      grind
    rw [e6]
    constructor
    · have : 2 * q ≤ 2 * (s * X) / (2 * c + 1) := q_le_div (by grind) (by grind)
      grind
    · have : 2 * (s * X) / (2 * c + 1) ≤ 2 * q + 3 := q_div_le (by grind) (by grind)
      grind
theorem ls_log {N : Nat} (hN : 0 < N) {A B scale : Int} (hB : 0 < B) (hBA : B ≤ A) (h2 : A ≤ 2 * B) (hs : 0 ≤ scale) {K : Nat} (hK : lp (A - B) (A + B) scale K ≤ 0) :
    ((ls (A - B) (A + B) scale K : Int) : Rat) ≤ scale * (lgI N A B + 12 / (N : Rat)) ∧ (scale : Rat) * (lgI N A B - 12 / (N : Rat)) ≤ ((ls (A - B) (A + B) scale K : Int) : Rat) + 3 * ((K : Rat) + 1) := by
  obtain ⟨a1, a2⟩ := artanh hN hB hBA h2 K
  obtain ⟨l1, l2⟩ := ls_both (n := A - B) (m := A + B) (by first | with_reducible assumption | with_reducible exact Int.natCast_nonneg _ | with_reducible exact Int.le_of_lt (by assumption) | omega) (by first | with_reducible assumption | with_reducible exact Int.natCast_nonneg _ | with_reducible exact Int.le_of_lt (by assumption) | omega) (by first | with_reducible assumption | with_reducible exact Int.natCast_nonneg _ | with_reducible exact Int.le_of_lt (by assumption) | omega) hs K
  obtain ⟨p0, p1, p2⟩ := lp_both (n := A - B) (m := A + B) (by first | with_reducible assumption | with_reducible exact Int.natCast_nonneg _ | with_reducible exact Int.le_of_lt (by assumption) | omega) (by first | with_reducible assumption | with_reducible exact Int.natCast_nonneg _ | with_reducible exact Int.le_of_lt (by assumption) | omega) (by first | with_reducible assumption | with_reducible exact Int.natCast_nonneg _ | with_reducible exact Int.le_of_lt (by assumption) | omega) hs K
  have hp0 : lp (A - B) (A + B) scale K = 0 := by omega
  rw [hp0] at p1 p2
  have z : ((0 : Int) : Rat) = 0 := by first | exact Rat.intCast_add .. | exact Rat.intCast_sub .. | exact Rat.intCast_mul .. | exact Rat.intCast_neg .. | exact_mod_cast rfl
  rw [z] at p1 p2
  have hsr : (0 : Rat) ≤ scale := by have := int_le hs; exact_mod_cast this
  have hmp := int_pos (show 0 < A + B by omega)
  have hn0 : (0 : Rat) ≤ ((A - B : Int) : Rat) := by have := int_le (show 0 ≤ A - B by omega); exact_mod_cast this
  have hn3 : 3 * ((A - B : Int) : Rat) ≤ ((A + B : Int) : Rat) := by
    have := int_le (show 3 * (A - B) ≤ A + B by omega)
    have h3 : ((3 * (A - B) : Int) : Rat) = 3 * ((A - B : Int) : Rat) := by first | exact Rat.intCast_add .. | exact Rat.intCast_sub .. | exact Rat.intCast_mul .. | exact Rat.intCast_neg .. | exact_mod_cast rfl
    rw [h3] at this; exact this
  have z0 : 0 ≤ ((A - B : Int) : Rat) / ((A + B : Int) : Rat) := q_div_nn hn0 hmp
  have z1 : ((A - B : Int) : Rat) / ((A + B : Int) : Rat) ≤ 1 / 3 := q_div_le hmp (by grind)
  generalize ((A - B : Int) : Rat) / ((A + B : Int) : Rat) = zz at *
  generalize ((ls (A - B) (A + B) scale K : Int) : Rat) = SS at *
  generalize lgI N A B = lam at *
  generalize (12 : Rat) / N = e at *
  generalize (scale : Rat) = s at *
  have zq : zz * zz ≤ 1 / 9 := by have := q_mul_le z1 z0; grind
  have hc : (0 : Rat) ≤ (K : Rat) := by grind
  have hp := q_pow_nn z0 (2 * K + 1)
  have tb : s * tA K zz ≤ 3 := by
    have e7 : s * tA K zz = 2 * (s * zz ^ (2 * K + 1)) / ((2 * (K : Rat) + 1) * (1 - zz * zz)) := by unfold tA; grind
    rw [e7]
    have hd : (8 : Rat) / 9 ≤ (2 * (K : Rat) + 1) * (1 - zz * zz) := by
      have := q_mul_le (show (1 : Rat) ≤ 2 * (K : Rat) + 1 by grind) (show 0 ≤ 1 - zz * zz by grind)
      grind
    exact q_div_le (by grind) (by grind)
  have m1 := q_mul_le' a1 hsr
  have m2 := q_mul_le' a2 hsr
  constructor
  · exact Rat.le_trans l1 m1
  · have e8 : s * (At K zz + tA K zz + e) = s * At K zz + s * tA K zz + s * e := by grind
    have e9 : s * (lam - e) = s * lam - s * e := by grind
    rw [e8] at m2
    rw [e9]
    grind
set_option linter.unusedVariables false
noncomputable def Qs (t : Rat) : Nat → Nat → Rat
  | _, 0 => 0
  | k, n + 1 => 1 / (k : Rat) - t * Qs t (k + 1) n
theorem Qs_back (t : Rat) : ∀ (n k : Nat), Qs t k (n + 1) = Qs t k n + (-t) ^ n / ((k + n : Nat) : Rat)
  | 0, k => by
    show 1 / (k : Rat) - t * 0 = 0 + (-t) ^ 0 / ((k : Nat) : Rat)
    grind
  | n + 1, k => by
    have ih := Qs_back t n (k + 1)
    have e : Qs t k (n + 1 + 1) = 1 / (k : Rat) - t * Qs t (k + 1) (n + 1) := rfl
    have e2 : Qs t k (n + 1) = 1 / (k : Rat) - t * Qs t (k + 1) n := rfl
    rw [e, e2, ih, show k + (n + 1) = k + 1 + n by omega, Rat.pow_succ]
    grind
theorem Qs_one (t : Rat) : ∀ T : Nat, t * Qs t 1 T = -Pw T (-t)
  | 0 => by simp [Qs, Pw]
  | T + 1 => by
    have ih := Qs_one t T
    rw [Qs_back]
    simp only [Pw]
    have e : ((1 + T : Nat) : Rat) = (T : Rat) + 1 := by rw [Nat.add_comm]; grind
    rw [e, Rat.pow_succ]
    grind
theorem Qs_abs {t τ : Rat} (h0 : 0 ≤ τ) (h1 : τ < 1) (ht : t ≤ τ) (ht' : -τ ≤ t) : ∀ (n k : Nat), 0 < k → Qs t k n ≤ 1 / (1 - τ) ∧ -(1 / (1 - τ)) ≤ Qs t k n
  | 0, k, hk => by
    have : (0 : Rat) ≤ 1 / (1 - τ) := q_div_nn (by grind) (by grind)
    show (0 : Rat) ≤ _ ∧ _ ≤ (0 : Rat)
    constructor <;> grind
  | n + 1, k, hk => by
    obtain ⟨i1, i2⟩ := Qs_abs h0 h1 ht ht' n (k + 1) (by first | with_reducible assumption | with_reducible exact Int.natCast_nonneg _ | with_reducible exact Int.le_of_lt (by assumption) | omega)
    show 1 / (k : Rat) - t * Qs t (k + 1) n ≤ _ ∧ _ ≤ 1 / (k : Rat) - t * Qs t (k + 1) n
    have hE : (0 : Rat) < 1 / (1 - τ) := q_div_pos (by grind) (by grind)
    have eE : 1 + τ * (1 / (1 - τ)) = 1 / (1 - τ) := by
      have : 1 - τ ≠ 0 := by grind
      grind
    have hk1 : 1 / (k : Rat) ≤ 1 := q_div_le (nat_pos hk) (by have := nat_le (show 1 ≤ k from hk); grind)
    have hk0 : 0 ≤ 1 / (k : Rat) := q_div_nn (by grind) (nat_pos hk)
    generalize Qs t (k + 1) n = Q at *
    generalize 1 / (1 - τ) = E at *
    have b : t * Q ≤ τ * E ∧ -(τ * E) ≤ t * Q := abs_mul (by first | assumption | grind) (by first | assumption | grind) (by first | assumption | grind) (by first | assumption | grind)
    constructor <;> grind
theorem dn_q {a b : Int} (hb : 0 < b) : (a : Rat) / b - ((dn a b : Int) : Rat) ≤ 1 / 2 ∧ -(1 / 2) ≤ (a : Rat) / b - ((dn a b : Int) : Rat) := by
  obtain ⟨h1, h2, _, _⟩ := dn_spec (a := a) hb
  have hbp := int_pos hb
  have g1 := int_le h1
  have g2 := int_le h2
  have c1 : ((-b : Int) : Rat) = -(b : Rat) := by first | exact Rat.intCast_add .. | exact Rat.intCast_sub .. | exact Rat.intCast_mul .. | exact Rat.intCast_neg .. | exact_mod_cast rfl
  have c2 : ((2 * (a - b * dn a b) : Int) : Rat) = 2 * ((a : Rat) - b * ((dn a b : Int) : Rat)) := by first | exact Rat.intCast_add .. | exact Rat.intCast_sub .. | exact Rat.intCast_mul .. | exact Rat.intCast_neg .. | exact_mod_cast rfl
  rw [c1, c2] at g1
  rw [c2] at g2
  generalize ((dn a b : Int) : Rat) = q at *
  constructor
  · have := q_div_le (a := (a : Rat)) (b := (b : Rat)) (c := q + 1 / 2) hbp (by grind)
    grind
  · have := q_le_div (a := (a : Rat)) (b := (b : Rat)) (c := q - 1 / 2) hbp (by grind)
    grind
theorem hw_q {M u : Int} {T : Nat} {τ : Rat} (hM : 0 < M) (h0 : 0 ≤ τ) (h1 : τ < 1) (ht : (u : Rat) / M ≤ τ) (ht' : -τ ≤ (u : Rat) / M) : ∀ j : Nat, j < T →
    ((hw M u T j : Int) : Rat) - M * Qs ((u : Rat) / M) (T - j) (j + 1) ≤ 1 / (1 - τ) ∧ -(1 / (1 - τ)) ≤ ((hw M u T j : Int) : Rat) - M * Qs ((u : Rat) / M) (T - j) (j + 1)
  | 0, hj => by
    obtain ⟨d1, d2⟩ := dn_q (a := M) (b := T) (by first | with_reducible assumption | with_reducible exact Int.natCast_nonneg _ | with_reducible exact Int.le_of_lt (by assumption) | omega)
    have e : Qs ((u : Rat) / M) (T - 0) (0 + 1) = 1 / ((T : Nat) : Rat) := by
      show 1 / ((T : Nat) : Rat) - (u : Rat) / M * 0 = _
      grind
    have c : (((T : Nat) : Int) : Rat) = ((T : Nat) : Rat) := by first | exact Rat.intCast_add .. | exact Rat.intCast_sub .. | exact Rat.intCast_mul .. | exact Rat.intCast_neg .. | exact_mod_cast rfl
    rw [c] at d1 d2
    have hE : (1 : Rat) ≤ 1 / (1 - τ) := q_le_div (by grind) (by grind)
    rw [e]
    show ((dn M T : Int) : Rat) - _ ≤ _ ∧ _ ≤ ((dn M T : Int) : Rat) - _
    have e2 : (M : Rat) * (1 / ((T : Nat) : Rat)) = (M : Rat) / ((T : Nat) : Rat) := by grind
    rw [e2]
    constructor <;> grind
  | j + 1, hj => by
    obtain ⟨i1, i2⟩ := hw_q (T := T) hM h0 h1 ht ht' j (by first | with_reducible assumption | with_reducible exact Int.natCast_nonneg _ | with_reducible exact Int.le_of_lt (by assumption) | omega)
    have hk : 0 < T - (j + 1) := by omega
    obtain ⟨d1, d2⟩ := dn_q (a := M) (b := (T : Int) - 1 - j) (by first | with_reducible assumption | with_reducible exact Int.natCast_nonneg _ | with_reducible exact Int.le_of_lt (by assumption) | omega)
    obtain ⟨f1, f2⟩ := dn_q (a := u * hw M u T j) hM
    have ck : (((T : Int) - 1 - j : Int) : Rat) = ((T - (j + 1) : Nat) : Rat) := by
      have : (T : Int) - 1 - j = ((T - (j + 1) : Nat) : Int) := by omega
      rw [this]; exact_mod_cast rfl
    have cu : ((u * hw M u T j : Int) : Rat) = (u : Rat) * ((hw M u T j : Int) : Rat) := by first | exact Rat.intCast_add .. | exact Rat.intCast_sub .. | exact Rat.intCast_mul .. | exact Rat.intCast_neg .. | exact_mod_cast rfl
    rw [ck] at d1 d2
    rw [cu] at f1 f2
    have e : Qs ((u : Rat) / M) (T - (j + 1)) (j + 1 + 1) = 1 / ((T - (j + 1) : Nat) : Rat) - (u : Rat) / M * Qs ((u : Rat) / M) (T - j) (j + 1) := by
      have : T - j = T - (j + 1) + 1 := by omega
      rw [this]; rfl
    have ew : ((hw M u T (j + 1) : Int) : Rat) = ((dn M ((T : Int) - 1 - j) : Int) : Rat) - ((dn (u * hw M u T j) M : Int) : Rat) := by
      show ((dn M ((T : Int) - 1 - j) - dn (u * hw M u T j) M : Int) : Rat) = _
      exact_mod_cast rfl
    rw [ew, e]
    have hMp := int_pos hM
    have eE : 1 + τ * (1 / (1 - τ)) = 1 / (1 - τ) := by
      have : 1 - τ ≠ 0 := by grind
      grind
    have em : (u : Rat) * ((hw M u T j : Int) : Rat) / M = (u : Rat) / M * ((hw M u T j : Int) : Rat) := by grind
    rw [em] at f1 f2
    have ed : (M : Rat) / ((T - (j + 1) : Nat) : Rat) = M * (1 / ((T - (j + 1) : Nat) : Rat)) := by grind
    rw [ed] at d1 d2
    have eX : (M : Rat) * (1 / ((T - (j + 1) : Nat) : Rat) - (u : Rat) / M * Qs ((u : Rat) / M) (T - j) (j + 1)) = M * (1 / ((T - (j + 1) : Nat) : Rat)) - (u : Rat) / M * (M * Qs ((u : Rat) / M) (T - j) (j + 1)) := by grind
    rw [eX]
    generalize (M : Rat) * Qs ((u : Rat) / M) (T - j) (j + 1) = Y at *
    generalize ((hw M u T j : Int) : Rat) = W at *
    generalize ((dn M ((T : Int) - 1 - j) : Int) : Rat) = D1 at *
    generalize ((dn (u * hw M u T j) M : Int) : Rat) = D2 at *
    generalize (M : Rat) * (1 / ((T - (j + 1) : Nat) : Rat)) = M1 at *
    generalize (u : Rat) / M = t at *
    generalize 1 / (1 - τ) = E at *
    have b : t * (W - Y) ≤ τ * E ∧ -(τ * E) ≤ t * (W - Y) := abs_mul (by first | assumption | grind) (by first | assumption | grind) (by first | assumption | grind) (by first | assumption | grind)
    constructor <;> grind
theorem hw_last {M u : Int} {T : Nat} {τ : Rat} (hM : 0 < M) (hT : 0 < T) (h0 : 0 ≤ τ) (h1 : τ < 1) (ht : (u : Rat) / M ≤ τ) (ht' : -τ ≤ (u : Rat) / M) :
    ((hw M u T (T - 1) : Int) : Rat) - M * Qs ((u : Rat) / M) 1 T ≤ 1 / 2 + τ / (1 - τ) ∧ -(1 / 2 + τ / (1 - τ)) ≤ ((hw M u T (T - 1) : Int) : Rat) - M * Qs ((u : Rat) / M) 1 T := by
  have hMp := int_pos hM
  have hq : (0 : Rat) ≤ τ / (1 - τ) := q_div_nn h0 (by grind)
  have d1M : dn M 1 = M := by have := dn_mul (a := M) (b := 1) (by decide); rwa [Int.one_mul] at this
  by_cases hT1 : T = 1
  · subst hT1
    have ew : hw M u ((1 : Nat) : Int) (1 - 1) = M := d1M
    rw [ew]
    have e : Qs ((u : Rat) / M) 1 1 = 1 := by
      show 1 / ((1 : Nat) : Rat) - (u : Rat) / M * 0 = 1
      grind
    rw [e]
    constructor <;> grind
  · obtain ⟨k, rfl⟩ : ∃ k, T = k + 2 := ⟨T - 2, by omega⟩
    obtain ⟨i1, i2⟩ := hw_q (T := k + 2) hM h0 h1 ht ht' k (by first | with_reducible assumption | with_reducible exact Int.natCast_nonneg _ | with_reducible exact Int.le_of_lt (by assumption) | omega)
    obtain ⟨f1, f2⟩ := dn_q (a := u * hw M u ((k + 2 : Nat) : Int) k) hM
    have cu : ((u * hw M u ((k + 2 : Nat) : Int) k : Int) : Rat) = (u : Rat) * ((hw M u ((k + 2 : Nat) : Int) k : Int) : Rat) := by first | exact Rat.intCast_add .. | exact Rat.intCast_sub .. | exact Rat.intCast_mul .. | exact Rat.intCast_neg .. | exact_mod_cast rfl
    rw [cu] at f1 f2
    have ew : ((hw M u ((k + 2 : Nat) : Int) (k + 2 - 1) : Int) : Rat) = (M : Rat) - ((dn (u * hw M u ((k + 2 : Nat) : Int) k) M : Int) : Rat) := by
      show ((dn M (((k + 2 : Nat) : Int) - 1 - k) - dn (u * hw M u ((k + 2 : Nat) : Int) k) M : Int) : Rat) = _
      rw [show ((k + 2 : Nat) : Int) - 1 - k = 1 by omega, d1M]
      exact_mod_cast rfl
    have e : Qs ((u : Rat) / M) 1 (k + 2) = 1 - (u : Rat) / M * Qs ((u : Rat) / M) 2 (k + 1) := by
      show 1 / ((1 : Nat) : Rat) - (u : Rat) / M * Qs ((u : Rat) / M) 2 (k + 1) = _
      grind
    rw [show k + 2 - k = 2 by omega] at i1 i2
    rw [ew, e]
    have em : (u : Rat) * ((hw M u ((k + 2 : Nat) : Int) k : Int) : Rat) / M = (u : Rat) / M * ((hw M u ((k + 2 : Nat) : Int) k : Int) : Rat) := by grind
    rw [em] at f1 f2
    have eX : (M : Rat) * (1 - (u : Rat) / M * Qs ((u : Rat) / M) 2 (k + 1)) = M - (u : Rat) / M * (M * Qs ((u : Rat) / M) 2 (k + 1)) := by grind
    rw [eX]
    have eT : τ / (1 - τ) = τ * (1 / (1 - τ)) := by grind
    rw [eT]
    generalize (M : Rat) * Qs ((u : Rat) / M) 2 (k + 1) = Y at *
    generalize ((hw M u ((k + 2 : Nat) : Int) k : Int) : Rat) = W at *
    generalize ((dn (u * hw M u ((k + 2 : Nat) : Int) k) M : Int) : Rat) = D2 at *
    generalize (u : Rat) / M = t at *
    generalize 1 / (1 - τ) = E at *
    have b : t * (W - Y) ≤ τ * E ∧ -(τ * E) ≤ t * (W - Y) := abs_mul (by first | assumption | grind) (by first | assumption | grind) (by first | assumption | grind) (by first | assumption | grind)
    constructor <;> grind
set_option maxHeartbeats 4000000
set_option linter.unusedVariables false
theorem FnIs_any {g : GX} {f : Str} (h : (recsOf g.p).any (fun d => d.name == f) = true) : ∃ a, FnIs g f a := by
  obtain ⟨d, hd, he⟩ := List.any_eq_true.mp h
  obtain rfl := beq_iff_eq.mp he
  obtain ⟨n, pa, bo, sc, po⟩ := d
  exact FnIs_of hd
open_top hd for PySem.Challenge.rw_dm0263_10
structure GOk (g : GX) : Prop where
  p : g.p = hd.view_39
  ex : g.ex = (hd.heap_39 g.w.params).In
example : (recsOf hd.view_39).map (fun d => d.name.toString) = ["_sqrt_nearest", "_rshift_nearest", "_div_nearest", "_law_at", "_law_log", "_law_far", "_law_root", "law"] := by decide +kernel

noncomputable abbrev stN (n a b : Int) : AS := ⟨[("a", .int a), ("b", .int b), ("n", .int n)], none⟩
theorem c_sqrt {g : GX} (hg : GOk g) {n a₀ : Int} (hn : 0 < n) (ha : 0 < a₀) : Calls g 1 "_sqrt_nearest" [.int n, .int a₀] fun v => v = .int (rt n) := by
  refine Calls_of (n := 0) (ns := [Str.ofString "n", Str.ofString "a"]) (hd := by rw [hg.p]; exact List.Mem.head _) ?_ rfl rfl (by decide) rfl rfl rfl ?_
  · intro vs pm cd doc hv
    obtain ⟨x, y, rfl⟩ := vs2 hv; rfl
  · intro A L a qual code
    repeat walk_at "mw"
    refine ifD (fun h => absurd h (by first | with_reducible assumption | with_reducible exact Int.natCast_nonneg _ | with_reducible exact Int.le_of_lt (by assumption) | omega)) (fun _ => ?_)
    repeat walk_at "mw"
    refine ifD (fun h => absurd h (by first | with_reducible assumption | with_reducible exact Int.natCast_nonneg _ | with_reducible exact Int.le_of_lt (by assumption) | omega)) (fun _ => ?_)
    repeat walk_at "mw"
    refine ExS_while (fun k S => ∃ a b : Int, 0 < a ∧ S = stN n a b ∧ ((b = 0 ∧ k = 2 * (ns1 n a).toNat + 2) ∨ (0 < b ∧ a = ns1 n b ∧ n ≤ a * (a + 1) ∧ k = 2 * a.toNat + if a = b then 0 else 1))) (n₀ := 2 * (ns1 n a₀).toNat + 2) (S₀ := stN n a₀ 0) (by walk_at "le") ⟨a₀, 0, ha, rfl, .inl ⟨rfl, rfl⟩⟩ ?_
    rintro k S ⟨a, b, ha, rfl, hk⟩
    have ha' : a ≠ 0 := by omega
    repeat walk_at "mw"
    refine ifN (fun hab => ?_) (fun hab => ?_)
    · repeat walk_at "mw"
      have e : (a - (-n).fdiv a).fdiv (2 ^ (1 : Int).toNat) = ns1 n a := by
        rw [Int.fdiv_eq_ediv_of_nonneg _ (by decide), Int.fdiv_eq_ediv_of_nonneg _ (by first | with_reducible assumption | with_reducible exact Int.natCast_nonneg _ | with_reducible exact Int.le_of_lt (by assumption) | omega)]; rfl
      rw [e]
      have hp := ns1_pos ha hn
      have hh := ns1_hi ha hn
      refine ⟨stN n (ns1 n a) a, 2 * (ns1 n a).toNat + (if ns1 n a = a then 0 else 1), by walk_at "le", ?_, ns1 n a, a, hp, rfl, .inr ⟨ha, rfl, hh, rfl⟩⟩
      rcases hk with ⟨rfl, rfl⟩ | ⟨hb, _, hle, rfl⟩
      · split <;> omega
      · have := ns1_le ha hn hle
        rw [if_neg hab]
        split <;> omega
    · repeat walk_at "mw"
      rcases hk with ⟨rfl, _⟩ | ⟨hb, he, _, _⟩
      · omega
      · rw [← hab] at he
        rw [rt_eq (ns1_fix ha hn he.symm)]
theorem f_sqrt {g : GX} (hg : GOk g) : ∃ a, FnIs g "_sqrt_nearest" a := FnIs_any (by rw [hg.p]; decide +kernel)
theorem c_rsh {g : GX} (hg : GOk g) {x : Int} {k : Nat} (hk : k ≤ 100000000) : Calls g 1 "_rshift_nearest" [.int x, .int k] fun v => v = .int (dn x (2 ^ k)) := by
  refine Calls_of (n := 0) (ns := [Str.ofString "x", Str.ofString "shift"]) (hd := by rw [hg.p]; exact List.Mem.tail _ (List.Mem.head _)) ?_ rfl rfl (by decide) rfl rfl rfl ?_
  · intro vs pm cd doc hv
    obtain ⟨x, y, rfl⟩ := vs2 hv; rfl
  · intro A L a qual code
    repeat walk_at "mw"
    refine Bin_shl (by first | with_reducible assumption | with_reducible exact Int.natCast_nonneg _ | with_reducible exact Int.le_of_lt (by assumption) | omega) (by rw [show intBits 1 = 1 from rfl]; omega) ?_
    repeat walk_at "mw"
    rw [Int.one_mul, Int.toNat_natCast]
    exact congrArg AV.int dn_walkS
theorem f_rsh {g : GX} (hg : GOk g) : ∃ a, FnIs g "_rshift_nearest" a := FnIs_any (by rw [hg.p]; decide +kernel)
theorem c_div {g : GX} (hg : GOk g) {a b : Int} (hb : 0 < b) : Calls g 1 "_div_nearest" [.int a, .int b] fun v => v = .int (dn a b) := by
  refine Calls_of (n := 0) (ns := [Str.ofString "a", Str.ofString "b"]) (hd := by rw [hg.p]; exact List.Mem.tail _ (List.Mem.tail _ (List.Mem.head _))) ?_ rfl rfl (by decide) rfl rfl rfl ?_
  · intro vs pm cd doc hv
    obtain ⟨x, y, rfl⟩ := vs2 hv; rfl
  · intro A L a qual code
    have hb' : b ≠ 0 := by omega
    repeat walk_at "mw"
    exact congrArg AV.int (dn_walk hb)
theorem f_div {g : GX} (hg : GOk g) : ∃ a, FnIs g "_div_nearest" a := FnIs_any (by rw [hg.p]; decide +kernel)
set_option maxHeartbeats 4000000
set_option linter.unusedVariables false
theorem f_ilog {g : GX} (hg : GOk g) : FnIs g "_ilog" 43 := by
  have at_ : ∀ h, PG g h → (hd.heap_39 g.w.params).In h := fun h p => by have := p.ex; rw [hg.ex] at this; exact this
  constructor
  · obtain ⟨h, T, hx⟩ := g.inh
    exact mg_of (at_ h ⟨T, hx⟩) T.g rfl
  · intro h p
    exact ⟨_, _, at_ h p _ _ rfl, rfl⟩
noncomputable abbrev stI (y R x M L : Int) : AS := ⟨[("y", .int y), ("R", .int R), ("x", .int x), ("M", .int M), ("L", .int L)], none⟩
noncomputable abbrev stW (w u y M : Int) : AS := ⟨[("w", .int w), ("yshift", .int u), ("y", .int y), ("M", .int M)], none⟩
theorem c_ilog {g : GX} (hg : GOk g) {x M : Int} {L N T : Nat} (hM : 0 < M) (hMb : M.natAbs.log2 < 1920) (hL : 0 < L) (hL2 : L ≤ 100000) (hN : N ≤ 90000000)
    (hgo : ∀ R, R < N → M * 2 ^ R ≤ ((ys M x R).natAbs : Int) * 2 ^ L) (hstop : ((ys M x N).natAbs : Int) * 2 ^ L < M * 2 ^ N)
    (hz : ∀ R, R < N → 0 < M + dn (ys M x R) (2 ^ R)) (hb : ∀ R, R ≤ N → intBits (ys M x R) ≤ 65000000)
    (hT0 : 0 < T) (hT : (T : Int) = -((-10 * ((Str.ofString (toString M)).length : Int)) / (3 * L)))
    (hw' : ∀ j, j < T → intBits (hw M (dn (ys M x N) (2 ^ N)) T j) ≤ 65000000) :
    Calls g 2 "_ilog" [.int x, .int M, .int L] fun v => v = .int (dn (hw M (dn (ys M x N) (2 ^ N)) T (T - 1) * ys M x N) M) := by
  refine ⟨43, f_ilog hg, ?_⟩
  apply CallsV_ofB (n := 1) (ns := [Str.ofString "x", Str.ofString "M", Str.ofString "L"])
  case hfd =>
    intro h p
    have X : (hd.heap_39 g.w.params).In h := by have := p.ex; rw [hg.ex] at this; exact this
    refine ⟨_, _, X 43 _ rfl, rfl, ⟨42, _, _, _, rfl, X 42 _ rfl, rfl, rfl⟩, rfl, rfl, rfl, rfl, rfl, ?_⟩
    intro vs s hs hv
    obtain ⟨x, y, z, rfl⟩ := vs3 hv; exact BindsTo.of_defaults rfl (hs ▸ X 36 _ rfl) rfl rfl rfl
  case hlen => rfl
  case hp => rfl
  case hnd => decide
  case hk => rfl
  case hgen => rfl
  case hco => rfl
  case hbody =>
    intro A Lo qual code
    refine Ex_cons (ExS_assign ?_ ⟨.inl rfl, trivial⟩)
    repeat walk_at "mw"
    refine ExS_while (fun k S => ∃ R : Nat, R ≤ N ∧ k = N - R ∧ S = stI (ys M x R) R x M L) (n₀ := N) (S₀ := stI (x - M) (0 : Nat) x M L) (by walk_at "le") ⟨0, Nat.zero_le _, rfl, rfl⟩ ?_
    rintro k S ⟨R, hR, rfl, rfl⟩
    have hyb := hb R hR
    have hab : intBits ((ys M x R).natAbs : Int) ≤ 65000000 := intBits_natAbs_le hyb
    have turn : M * 2 ^ R ≤ ((ys M x R).natAbs : Int) * 2 ^ L → R < N := by
      intro h
      apply Nat.lt_of_le_of_ne hR
      rintro rfl
      omega
    have stay : ¬ M * 2 ^ R ≤ ((ys M x R).natAbs : Int) * 2 ^ L → R = N := by
      intro h
      apply Classical.byContradiction
      intro hne
      exact h (hgo R (by first | with_reducible assumption | with_reducible exact Int.natCast_nonneg _ | with_reducible exact Int.le_of_lt (by assumption) | omega))
    refine Tst.mono (Φ := fun b => b = decide (M * 2 ^ R ≤ ((ys M x R).natAbs : Int) * 2 ^ L)) ?_ ?_
    · generalize ys M x R = y at *
      repeat walk_at "mw"
      refine ifD (fun hRL => ?_) (fun hRL => ?_)
      · have hRL' : R ≤ L := by omega
        repeat walk_at "mw"
        rw [abs_if]
        refine Bin_shl (by first | with_reducible assumption | with_reducible exact Int.natCast_nonneg _ | with_reducible exact Int.le_of_lt (by assumption) | omega) (by first | with_reducible assumption | with_reducible exact Int.natCast_nonneg _ | with_reducible exact Int.le_of_lt (by assumption) | omega) ?_
        repeat walk_at "mw"
        rw [show ((L : Int) - R).toNat = L - R by omega]
        refine ifD (fun h => ?_) (fun h => ?_)
        · repeat walk_at "mw"
          exact (decide_eq_true ((go_le hRL').mp h)).symm
        · repeat walk_at "mw"
          refine ifD (fun h => by omega) (fun _ => ?_)
          repeat walk_at "mw"
          exact (decide_eq_false (fun q => h ((go_le hRL').mpr q))).symm
      · have hRL' : L < R := by omega
        repeat walk_at "mw"
        refine ifD (fun _ => ?_) (fun h => by omega)
        repeat walk_at "mw"
        rw [abs_if, show ((R : Int) - L).toNat = R - L by omega, Int.fdiv_eq_ediv_of_nonneg _ (Int.le_of_lt (two_pos _))]
        refine ifD (fun h => ?_) (fun h => ?_)
        · repeat walk_at "mw"
          exact (decide_eq_true ((go_gt hRL').mp h)).symm
        · repeat walk_at "mw"
          exact (decide_eq_false (fun q => h ((go_gt hRL').mpr q))).symm
    · rintro _ rfl
      refine ifD (fun h => ?_) (fun h => ?_)
      · have hRN := turn h
        have hMbb := log_bits hM hMb
        have hz' := hz R hRN
        have hdb := dn_bits (two_pos R) hyb
        have hsum : intBits (M + dn (ys M x R) (2 ^ R)) ≤ 65000001 := Nat.le_trans (intBits_add_le hMbb hdb) (by first | with_reducible assumption | with_reducible exact Int.natCast_nonneg _ | with_reducible exact Int.le_of_lt (by assumption) | omega)
        have hpos : 0 < M * (M + dn (ys M x R) (2 ^ R)) := Int.mul_pos hM hz'
        have hr := rt_spec hpos
        have hrp := hr.pos
        refine Ex_cons (ExS_assign (Ev_call (n := 1) rfl (Evs_cons ?_) (Nat.le_refl _) (hg := f_div hg)) ⟨.inl rfl, trivial⟩)
        repeat walk_at "mw"
        refine Bin_mul (IntMulOk.of_le hMbb hyb (by first | with_reducible assumption | with_reducible exact Int.natCast_nonneg _ | with_reducible exact Int.le_of_lt (by assumption) | omega)) ?_
        repeat walk_at "mw"
        refine Bin_shl (by decide) (by have := intBits_mul_le hMbb hyb; omega) ?_
        rw [show (2 : Int) ^ (1 : Int).toNat = 2 from rfl]
        refine Evs_cons (Ev_bin (Ev_name rfl (Ev_call (n := 1) rfl (Evs_cons (Ev_bin (Ev_name rfl (Ev_bin (Ev_name rfl (Ev_call (n := 1) rfl ?_ (Nat.le_refl _) (hg := f_rsh hg))))))) (Nat.le_refl _) (hg := f_sqrt hg))))
        repeat walk_at "mw"
        refine (c_rsh hg (by first | with_reducible assumption | with_reducible exact Int.natCast_nonneg _ | with_reducible exact Int.le_of_lt (by assumption) | omega)).mono ?_
        rintro _ rfl
        repeat walk_at "mw"
        refine Bin_mul (IntMulOk.of_le hMbb hsum (by first | with_reducible assumption | with_reducible exact Int.natCast_nonneg _ | with_reducible exact Int.le_of_lt (by assumption) | omega)) ?_
        repeat walk_at "mw"
        refine (c_sqrt hg hpos hM).mono ?_
        rintro _ rfl
        repeat walk_at "mw"
        refine (c_div hg (by first | with_reducible assumption | with_reducible exact Int.natCast_nonneg _ | with_reducible exact Int.le_of_lt (by assumption) | omega)).mono ?_
        rintro _ rfl
        repeat walk_at "mw"
        exact ⟨stI (ys M x (R + 1)) ((R + 1 : Nat) : Int) x M L, N - (R + 1), by walk_at "le", by omega, R + 1, hRN, rfl, rfl⟩
      · obtain rfl := stay h
        have hMbb := log_bits hM hMb
        have hdig : (Str.ofString (toString M)).length ≤ 1921 := int_text_len_1921 hMb
        have hL3 : (3 : Int) * L ≠ 0 := by omega
        refine Ex_cons (ExS_assign (Ev_una (Ev_int rfl (Evs_cons (Ev_bin (Ev_bin ?_))))) ⟨.inl rfl, trivial⟩)
        repeat walk_at "mw"
        refine CallB_strI hMb ?_
        repeat walk_at "mw"
        refine CallB_lenS (show (Str.ofString (toString M)).length < 2 ^ 62 by omega) ?_
        generalize (Str.ofString (toString M)).length = dg at *
        repeat walk_at "mw"
        rw [Int.fdiv_eq_ediv_of_nonneg _ (by first | with_reducible assumption | with_reducible exact Int.natCast_nonneg _ | with_reducible exact Int.le_of_lt (by assumption) | omega), ← hT]
        have hu := dn_bits (two_pos R) hyb
        generalize hu' : dn (ys M x R) (2 ^ R) = u at *
        refine Ev_call (n := 1) rfl ?_ (Nat.le_refl _) (hg := f_rsh hg)
        repeat walk_at "mw"
        refine (c_rsh hg (by first | with_reducible assumption | with_reducible exact Int.natCast_nonneg _ | with_reducible exact Int.le_of_lt (by assumption) | omega)).mono ?_
        rintro _ rfl
        rw [hu']
        refine Ex_cons (ExS_assign (Ev_call (n := 1) rfl ?_ (Nat.le_refl _) (hg := f_div hg)) ⟨.inl rfl, trivial⟩)
        repeat walk_at "mw"
        refine (c_div hg (by first | with_reducible assumption | with_reducible exact Int.natCast_nonneg _ | with_reducible exact Int.le_of_lt (by assumption) | omega)).mono ?_
        rintro _ rfl
        refine Ex_cons (ExS_forN ?_)
        repeat walk_at "mw"
        have hrs : Builtin.Range.rangeSize ((T : Int) - 1) 0 (-1) = ((T - 1 : Nat) : Int) := by
          unfold Builtin.Range.rangeSize; simp; omega
        refine ⟨_, .rng _ _ _ _ hrs, fun i S' => S' = stW (hw M u T i) u (ys M x R) M, ⟨stW (dn M T) u (ys M x R) M, by walk_at "le", rfl⟩, ?_, ?_⟩
        · rintro i S' av hi rfl
          obtain ⟨hin, rfl⟩ := rngL_get hi
          refine ⟨⟨.inl rfl, trivial⟩, ?_⟩
          have hk : (0 : Int) < (T : Int) - 1 + i * -1 := by omega
          have hk' : (T : Int) - 1 + i * -1 = T - 1 - i := by omega
          rw [hk'] at hk ⊢
          refine Ex_cons (ExS_assign (Ev_bin (Ev_call (n := 1) rfl ?_ (Nat.le_refl _) (hg := f_div hg))) ⟨.inl rfl, trivial⟩)
          repeat walk_at "mw"
          refine (c_div hg hk).mono ?_
          rintro _ rfl
          refine Ev_call (n := 1) rfl ?_ (Nat.le_refl _) (hg := f_div hg)
          repeat walk_at "mw"
          refine Bin_mul (IntMulOk.of_le hu (hw' i (by first | with_reducible assumption | with_reducible exact Int.natCast_nonneg _ | with_reducible exact Int.le_of_lt (by assumption) | omega)) (by first | with_reducible assumption | with_reducible exact Int.natCast_nonneg _ | with_reducible exact Int.le_of_lt (by assumption) | omega)) ?_
          repeat walk_at "mw"
          refine (c_div hg hM).mono ?_
          rintro _ rfl
          repeat walk_at "mw"
          exact ⟨stW (hw M u T (i + 1)) u (ys M x R) M, by walk_at "le", rfl⟩
        · rintro S' rfl
          rw [rngL_len]
          refine Ex_cons (ExS_return (Ev_call (n := 1) rfl ?_ (Nat.le_refl _) (hg := f_div hg)))
          repeat walk_at "mw"
          refine Bin_mul (IntMulOk.of_le (hw' (T - 1) (by first | with_reducible assumption | with_reducible exact Int.natCast_nonneg _ | with_reducible exact Int.le_of_lt (by assumption) | omega)) hyb (by first | with_reducible assumption | with_reducible exact Int.natCast_nonneg _ | with_reducible exact Int.le_of_lt (by assumption) | omega)) ?_
          repeat walk_at "mw"
          exact c_div hg hM
set_option linter.unusedVariables false
theorem lp_fall {n m scale : Int} (hm : 0 < m) (hn : 0 ≤ n) (h3 : 3 * n ≤ m) (hs : 0 ≤ scale) : ∀ i : Nat, lp n m scale i * 2 ^ i ≤ scale
  | 0 => by
    show scale * n / m * 2 ^ 0 ≤ scale
    have : scale * n / m ≤ scale := by
      apply Int.ediv_le_of_le_mul hm
      exact Int.mul_le_mul_of_nonneg_left (by first | with_reducible assumption | with_reducible exact Int.natCast_nonneg _ | with_reducible exact Int.le_of_lt (by assumption) | omega) hs
    rw [show (2 : Int) ^ 0 = 1 from rfl]; omega
  | i + 1 => by
    have ih := lp_fall hm hn h3 hs i
    obtain ⟨h0, _, _⟩ := lp_both hm hn h3 hs i
    have hmm : 0 < m * m := Int.mul_pos hm hm
    have k : lp n m scale (i + 1) * 2 ≤ lp n m scale i := by
      show lp n m scale i * n * n / (m * m) * 2 ≤ _
      have h1 : lp n m scale i * n * n / (m * m) * (m * m) ≤ lp n m scale i * n * n := Int.ediv_mul_le _ (by first | with_reducible assumption | with_reducible exact Int.natCast_nonneg _ | with_reducible exact Int.le_of_lt (by assumption) | omega)
      have h2 : 2 * (n * n) ≤ m * m := by
        have : 3 * n * (3 * n) ≤ m * m := Int.mul_le_mul h3 h3 (by first | with_reducible assumption | with_reducible exact Int.natCast_nonneg _ | with_reducible exact Int.le_of_lt (by assumption) | omega) (by first | with_reducible assumption | with_reducible exact Int.natCast_nonneg _ | with_reducible exact Int.le_of_lt (by assumption) | omega)
        have e : 3 * n * (3 * n) = 9 * (n * n) := by grind
        have : 0 ≤ n * n := Int.mul_nonneg hn hn
        omega
      have h3 : lp n m scale i * (2 * (n * n)) ≤ lp n m scale i * (m * m) := Int.mul_le_mul_of_nonneg_left h2 h0
      refine Int.le_of_mul_le_mul_right (a := m * m) ?_ hmm
      generalize lp n m scale i * n * n / (m * m) = q at *
      grind
    have hp : (0 : Int) ≤ 2 ^ i := Int.le_of_lt (two_pos i)
    have := Int.mul_le_mul_of_nonneg_right k hp
    rw [Int.pow_succ]
    have e : lp n m scale (i + 1) * (2 ^ i * 2) = lp n m scale (i + 1) * 2 * 2 ^ i := by grind
    rw [e]; omega
theorem lp_ends {n m scale : Int} {B : Nat} (hm : 0 < m) (hn : 0 ≤ n) (h3 : 3 * n ≤ m) (hs : 0 ≤ scale) (hB : scale < 2 ^ B) : ∃ K : Nat, K ≤ B ∧ lp n m scale K ≤ 0 ∧ ∀ i, i < K → 0 < lp n m scale i := by
  have hend : lp n m scale B ≤ 0 := by
    have h := lp_fall hm hn h3 hs B
    apply Int.not_lt.mp
    intro hpos
    have : 1 * 2 ^ B ≤ lp n m scale B * 2 ^ B := Int.mul_le_mul_of_nonneg_right (by first | with_reducible assumption | with_reducible exact Int.natCast_nonneg _ | with_reducible exact Int.le_of_lt (by assumption) | omega) (Int.le_of_lt (two_pos B))
    omega
  have : ∀ j, j ≤ B → lp n m scale j ≤ 0 → ∃ K : Nat, K ≤ B ∧ lp n m scale K ≤ 0 ∧ ∀ i, i < K → 0 < lp n m scale i := by
    intro j
    induction j with
    | zero => intro _ h; exact ⟨0, by omega, h, fun i hi => by omega⟩
    | succ j ih =>
      intro hj h
      by_cases hp : lp n m scale j ≤ 0
      · exact ih (by first | with_reducible assumption | with_reducible exact Int.natCast_nonneg _ | with_reducible exact Int.le_of_lt (by assumption) | omega) hp
      · refine ⟨j + 1, hj, h, fun i hi => ?_⟩
        apply Int.not_le.mp
        intro hle
        -- once nought, always nought
        have stay : ∀ k, lp n m scale (i + k) ≤ 0 := by
          intro k
          induction k with
          | zero => exact hle
          | succ k ihk =>
            show lp n m scale (i + k) * n * n / (m * m) ≤ 0
            have h0 := (lp_both hm hn h3 hs (i + k)).1
            have : lp n m scale (i + k) = 0 := by omega
            rw [this]; simp
        have := stay (j - i)
        rw [show i + (j - i) = j by omega] at this
        exact hp this
  exact this B (Nat.le_refl _) hend
theorem ser_log {N T : Nat} (hN : 0 < N) (hT : 0 < T) {M y : Int} (hM : 0 < M) (hy : 2 * (y.natAbs : Int) ≤ M) :
    ((hw M y T (T - 1) : Int) : Rat) * ((y : Rat) / M) - M * lgI N (M + y) M ≤ (y.natAbs : Rat) / M * (1 / 2 + (y.natAbs : Rat) / M / (1 - (y.natAbs : Rat) / M)) + M * (tl T ((y.natAbs : Rat) / M) + 4 / (N : Rat)) ∧
    -((y.natAbs : Rat) / M * (1 / 2 + (y.natAbs : Rat) / M / (1 - (y.natAbs : Rat) / M)) + M * (tl T ((y.natAbs : Rat) / M) + 4 / (N : Rat))) ≤ ((hw M y T (T - 1) : Int) : Rat) * ((y : Rat) / M) - M * lgI N (M + y) M := by
  have hMp := int_pos hM
  obtain ⟨t1, t2⟩ := taylor hN hM hy T
  have hya : (y : Rat) ≤ (y.natAbs : Rat) ∧ -(y.natAbs : Rat) ≤ (y : Rat) := by
    have h1 := int_le (show y ≤ (y.natAbs : Int) by omega)
    have h2 := int_le (show -(y.natAbs : Int) ≤ y by omega)
    have c : ((-(y.natAbs : Int) : Int) : Rat) = -(y.natAbs : Rat) := by first | exact Rat.intCast_add .. | exact Rat.intCast_sub .. | exact Rat.intCast_mul .. | exact Rat.intCast_neg .. | exact_mod_cast rfl
    rw [c] at h2
    exact ⟨h1, h2⟩
  have hn2 : 2 * (y.natAbs : Rat) ≤ M := by
    have := int_le hy
    have c : ((2 * (y.natAbs : Int) : Int) : Rat) = 2 * (y.natAbs : Rat) := by first | exact Rat.intCast_add .. | exact Rat.intCast_sub .. | exact Rat.intCast_mul .. | exact Rat.intCast_neg .. | exact_mod_cast rfl
    rw [c] at this; exact this
  have hn0 : (0 : Rat) ≤ (y.natAbs : Rat) := by grind
  have τ0 : (0 : Rat) ≤ (y.natAbs : Rat) / M := q_div_nn hn0 hMp
  have τ1 : (y.natAbs : Rat) / M ≤ 1 / 2 := q_div_le hMp (by grind)
  have k1 : (y : Rat) / M ≤ (y.natAbs : Rat) / M := q_div_le hMp (by
    have : (y.natAbs : Rat) / M * M = (y.natAbs : Rat) := by grind
    grind)
  have k2 : -((y.natAbs : Rat) / M) ≤ (y : Rat) / M := q_le_div hMp (by
    have : -((y.natAbs : Rat) / M) * M = -(y.natAbs : Rat) := by grind
    grind)
  obtain ⟨w1, w2⟩ := hw_last (T := T) hM hT τ0 (by grind) k1 k2
  have q := Qs_one ((y : Rat) / M) T
  generalize ((hw M y T (T - 1) : Int) : Rat) = W at *
  generalize Qs ((y : Rat) / M) 1 T = Q at *
  generalize Pw T (-((y : Rat) / M)) = PP at *
  generalize lgI N (M + y) M = lam at *
  generalize tl T ((y.natAbs : Rat) / M) = tt at *
  generalize (4 : Rat) / N = e at *
  have eD : (0 : Rat) ≤ (y.natAbs : Rat) / M / (1 - (y.natAbs : Rat) / M) := q_div_nn τ0 (by grind)
  generalize (y.natAbs : Rat) / M / (1 - (y.natAbs : Rat) / M) = D at *
  generalize (y.natAbs : Rat) / M = τ at *
  generalize (y : Rat) / M = t at *
  generalize (M : Rat) = m at *
  have b : t * (W - m * Q) ≤ τ * (1 / 2 + D) ∧ -(τ * (1 / 2 + D)) ≤ t * (W - m * Q) := by
    have a1 := q_mul_nn (show 0 ≤ τ - t by first | with_reducible exact sb (by assumption) | with_reducible exact sb (Rat.le_of_lt (by assumption)) | grind) (show 0 ≤ (1 / 2 + D) + (W - m * Q) by grind)
    have a2 := q_mul_nn (show 0 ≤ τ + t by first | with_reducible exact ad (by assumption) | with_reducible exact ad' (by assumption) | with_reducible exact Rat.add_nonneg (by first | with_reducible assumption | with_reducible exact Rat.le_of_lt (by assumption) | with_reducible exact nn6 (by assumption) | with_reducible exact nn1 (by assumption) | with_reducible exact nn2 (by assumption)) (by first | with_reducible assumption | with_reducible exact Rat.le_of_lt (by assumption) | with_reducible exact nn6 (by assumption) | with_reducible exact nn1 (by assumption) | with_reducible exact nn2 (by assumption)) | grind) (show 0 ≤ (1 / 2 + D) - (W - m * Q) by grind)
    have a3 := q_mul_nn (show 0 ≤ τ - t by first | with_reducible exact sb (by assumption) | with_reducible exact sb (Rat.le_of_lt (by assumption)) | grind) (show 0 ≤ (1 / 2 + D) - (W - m * Q) by grind)
    have a4 := q_mul_nn (show 0 ≤ τ + t by first | with_reducible exact ad (by assumption) | with_reducible exact ad' (by assumption) | with_reducible exact Rat.add_nonneg (by first | with_reducible assumption | with_reducible exact Rat.le_of_lt (by assumption) | with_reducible exact nn6 (by assumption) | with_reducible exact nn1 (by assumption) | with_reducible exact nn2 (by assumption)) (by first | with_reducible assumption | with_reducible exact Rat.le_of_lt (by assumption) | with_reducible exact nn6 (by assumption) | with_reducible exact nn1 (by assumption) | with_reducible exact nn2 (by assumption)) | grind) (show 0 ≤ (1 / 2 + D) + (W - m * Q) by grind)
    constructor <;> grind
  have m1 := q_mul_le' t1 (show 0 ≤ m by first | with_reducible assumption | with_reducible exact Rat.le_of_lt (by assumption) | with_reducible exact nn6 (by assumption) | with_reducible exact nn1 (by assumption) | with_reducible exact nn2 (by assumption) | grind)
  have m2 := q_mul_le' t2 (show 0 ≤ m by first | with_reducible assumption | with_reducible exact Rat.le_of_lt (by assumption) | with_reducible exact nn6 (by assumption) | with_reducible exact nn1 (by assumption) | with_reducible exact nn2 (by assumption) | grind)
  have e1 : W * t - m * lam = t * (W - m * Q) + (m * (t * Q) - m * lam) := by grind
  have e2 : m * (t * Q) = -(m * PP) := by rw [q]; grind
  have e3 : m * (lam + PP) = m * lam + m * PP := by grind
  have e4 : m * -(tt + e) = -(m * (tt + e)) := by grind
  rw [e3] at m1 m2
  rw [e4] at m2
  rw [e1, e2]
  constructor <;> grind
theorem q_arch {a b : Rat} {C : Int} (h : ∀ N : Nat, 0 < N → a ≤ b + (C : Rat) / (N : Rat)) : a ≤ b := by
  apply Classical.byContradiction
  intro hab
  have hd : 0 < a - b := by grind
  -- 1 / (a - b) is below some N
  obtain ⟨n, hn⟩ : ∃ n : Nat, ((C.natAbs : Nat) : Rat) / (a - b) < (n : Rat) := by
    refine ⟨(((C.natAbs : Nat) : Rat) / (a - b)).floor.toNat + 1, ?_⟩
    have h1 : ((C.natAbs : Nat) : Rat) / (a - b) < ((((C.natAbs : Nat) : Rat) / (a - b)).floor : Rat) + 1 := by
      have := Rat.lt_floor (x := ((C.natAbs : Nat) : Rat) / (a - b))
      grind
    have h2 := int_le (show (((C.natAbs : Nat) : Rat) / (a - b)).floor ≤ (((((C.natAbs : Nat) : Rat) / (a - b)).floor.toNat : Nat) : Int) by omega)
    have h3 : ((((((C.natAbs : Nat) : Rat) / (a - b)).floor.toNat + 1 : Nat)) : Rat) = ((((((C.natAbs : Nat) : Rat) / (a - b)).floor.toNat : Nat) : Int) : Rat) + 1 := by first | exact Rat.intCast_add .. | exact Rat.intCast_sub .. | exact Rat.intCast_mul .. | exact Rat.intCast_neg .. | exact_mod_cast rfl
    rw [h3]
    grind
  have hc0 : (0 : Rat) ≤ ((C.natAbs : Nat) : Rat) := by grind
  have hq0 : (0 : Rat) ≤ ((C.natAbs : Nat) : Rat) / (a - b) := q_div_nn hc0 hd
  have hnp : 0 < n := by
    apply Nat.pos_of_ne_zero
    rintro rfl
    have : ((0 : Nat) : Rat) = 0 := by grind
    grind
  have hN := h n hnp
  have hnr := nat_pos hnp
  have hC : (C : Rat) ≤ ((C.natAbs : Nat) : Rat) := int_le (show C ≤ (C.natAbs : Int) by omega)
  have k : (C : Rat) / n < a - b := by
    have h1 : ((C.natAbs : Nat) : Rat) < n * (a - b) := by
      have h4 := Rat.mul_pos (show 0 < (n : Rat) - ((C.natAbs : Nat) : Rat) / (a - b) by grind) hd
      have e : ((n : Rat) - ((C.natAbs : Nat) : Rat) / (a - b)) * (a - b) = n * (a - b) - ((C.natAbs : Nat) : Rat) := by grind
      rw [e] at h4
      grind
    have h2 : 0 < (n * (a - b) - C) / (n : Rat) := q_div_pos (by grind) hnr
    have e : (n * (a - b) - C) / (n : Rat) = (a - b) - (C : Rat) / n := by grind
    rw [e] at h2
    grind
  grind
set_option maxHeartbeats 4000000
set_option linter.unusedVariables false
theorem f_at {g : GX} (hg : GOk g) : ∃ a, FnIs g "_law_at" a := FnIs_any (by rw [hg.p]; decide +kernel)


noncomputable abbrev stLg (p low k n m a b s : Int) : AS := ⟨[("power", .int p), ("low", .int low), ("k", .int k), ("n", .int n), ("m", .int m), ("a", .int a), ("b", .int b), ("scale", .int s)], none⟩
theorem c_log {g : GX} (hg : GOk g) {a b s : Int} {B : Nat} (hb : 0 < b) (hba : b ≤ a) (h2 : a ≤ 2 * b) (hs : 0 ≤ s) (hsB : s < 2 ^ B) (hB : B ≤ 2000) (hab : intBits a ≤ 2000) :
    Calls g 1 "_law_log" [.int a, .int b, .int s] fun v => ∃ K : Nat, K ≤ B ∧ lp (a - b) (a + b) s K ≤ 0 ∧ v = .tup [.int (ls (a - b) (a + b) s K), .int (ls (a - b) (a + b) s K + 3 * (K + 1))] := by
  refine Calls_of (n := 0) (ns := [Str.ofString "a", Str.ofString "b", Str.ofString "scale"]) (hd := by rw [hg.p]; exact List.Mem.tail _ (List.Mem.tail _ (List.Mem.tail _ (List.Mem.tail _ (List.Mem.head _))))) ?_ rfl rfl (by decide) rfl rfl rfl ?_
  · intro vs pm cd doc hv
    obtain ⟨x, y, z, rfl⟩ := vs3 hv; rfl
  · intro A L ad qual code
    obtain ⟨K, hK, hKe, hKp⟩ := lp_ends (n := a - b) (m := a + b) (by first | with_reducible assumption | with_reducible exact Int.natCast_nonneg _ | with_reducible exact Int.le_of_lt (by assumption) | omega) (by first | with_reducible assumption | with_reducible exact Int.natCast_nonneg _ | with_reducible exact Int.le_of_lt (by assumption) | omega) (by first | with_reducible assumption | with_reducible exact Int.natCast_nonneg _ | with_reducible exact Int.le_of_lt (by assumption) | omega) hs hsB
    have hbb : intBits b ≤ 2000 := lt_bits (Nat.lt_of_le_of_lt (show b.natAbs ≤ a.natAbs by omega) (bits_lt hab))
    have hnb : intBits (a - b) ≤ 2001 := Nat.le_trans (intBits_sub_le hab hbb) (by decide)
    have hmb : intBits (a + b) ≤ 2001 := Nat.le_trans (intBits_add_le hab hbb) (by decide)
    have hsb : intBits s ≤ 2000 := by
      refine lt_bits (Nat.lt_of_lt_of_le (m := 2 ^ B) ?_ (Nat.pow_le_pow_right (by decide) hB))
      have e : (2 : Int) ^ B = ((2 ^ B : Nat) : Int) := by simp
      omega
    have hlpb : ∀ i, intBits (lp (a - b) (a + b) s i) ≤ 2000 := by
      intro i
      have h0 := (lp_both (n := a - b) (m := a + b) (by first | with_reducible assumption | with_reducible exact Int.natCast_nonneg _ | with_reducible exact Int.le_of_lt (by assumption) | omega) (by first | with_reducible assumption | with_reducible exact Int.natCast_nonneg _ | with_reducible exact Int.le_of_lt (by assumption) | omega) (by first | with_reducible assumption | with_reducible exact Int.natCast_nonneg _ | with_reducible exact Int.le_of_lt (by assumption) | omega) hs i).1
      have h1 := lp_fall (n := a - b) (m := a + b) (by first | with_reducible assumption | with_reducible exact Int.natCast_nonneg _ | with_reducible exact Int.le_of_lt (by assumption) | omega) (by first | with_reducible assumption | with_reducible exact Int.natCast_nonneg _ | with_reducible exact Int.le_of_lt (by assumption) | omega) (by first | with_reducible assumption | with_reducible exact Int.natCast_nonneg _ | with_reducible exact Int.le_of_lt (by assumption) | omega) hs i
      have h3 : lp (a - b) (a + b) s i * 1 ≤ lp (a - b) (a + b) s i * 2 ^ i := Int.mul_le_mul_of_nonneg_left (by have := two_pos i; omega) h0
      exact lt_bits (Nat.lt_of_le_of_lt (show (lp (a - b) (a + b) s i).natAbs ≤ s.natAbs by omega) (bits_lt hsb))
    have hm0 : a + b ≠ 0 := by omega
    repeat walk_at "mw"
    refine Bin_mul (IntMulOk.of_le hsb hnb (by decide)) ?_
    repeat walk_at "mw"
    rw [Int.fdiv_eq_ediv_of_nonneg _ (by first | with_reducible assumption | with_reducible exact Int.natCast_nonneg _ | with_reducible exact Int.le_of_lt (by assumption) | omega)]
    refine ExS_while (fun k S => ∃ i : Nat, i ≤ K ∧ k = K - i ∧ S = stLg (lp (a - b) (a + b) s i) (ls (a - b) (a + b) s i) (2 * (i : Int) + 1) (a - b) (a + b) a b s) (n₀ := K) (S₀ := stLg (lp (a - b) (a + b) s 0) 0 (2 * ((0 : Nat) : Int) + 1) (a - b) (a + b) a b s) (by walk_at "le") ⟨0, Nat.zero_le _, rfl, rfl⟩ ?_
    rintro k S ⟨i, hi, rfl, rfl⟩
    repeat walk_at "mw"
    refine ifD (fun h => ?_) (fun h => ?_)
    · have hiK : i < K := by
        apply Nat.lt_of_le_of_ne hi
        rintro rfl
        omega
      have hlp := hlpb i
      have hk : 2 * (i : Int) + 1 ≠ 0 := by omega
      have hmm : (a + b) * (a + b) ≠ 0 := by
        have := Int.mul_pos (show 0 < a + b by omega) (show 0 < a + b by omega)
        omega
      generalize hX : lp (a - b) (a + b) s i = X at *
      repeat walk_at "mw"
      refine Bin_mul (IntMulOk.of_le hlp hnb (by decide)) ?_
      repeat walk_at "mw"
      refine Bin_mul (IntMulOk.of_le (Nat.le_trans (intBits_mul_le hlp hnb) (show 2000 + 2001 ≤ 5000 by decide)) hnb (by decide)) ?_
      repeat walk_at "mw"
      refine Bin_mul (IntMulOk.of_le hmb hmb (by decide)) ?_
      refine Bin_fdiv hmm ?_
      repeat walk_at "mw"
      rw [Int.fdiv_eq_ediv_of_nonneg _ (show 0 ≤ 2 * (i : Int) + 1 by omega), Int.fdiv_eq_ediv_of_nonneg _ (show 0 ≤ (a + b) * (a + b) from Int.mul_nonneg (by first | with_reducible assumption | with_reducible exact Int.natCast_nonneg _ | with_reducible exact Int.le_of_lt (by assumption) | omega) (by first | with_reducible assumption | with_reducible exact Int.natCast_nonneg _ | with_reducible exact Int.le_of_lt (by assumption) | omega))]
      refine ⟨stLg (lp (a - b) (a + b) s (i + 1)) (ls (a - b) (a + b) s (i + 1)) (2 * ((i + 1 : Nat) : Int) + 1) (a - b) (a + b) a b s, K - (i + 1), ?_, by omega, i + 1, hiK, rfl, rfl⟩
      have e1 : lp (a - b) (a + b) s (i + 1) = X * (a - b) * (a - b) / ((a + b) * (a + b)) := by rw [← hX]; rfl
      have e2 : ls (a - b) (a + b) s (i + 1) = ls (a - b) (a + b) s i + 2 * (X / (2 * (i : Int) + 1)) := by rw [← hX]; rfl
      have e3 : 2 * ((i + 1 : Nat) : Int) + 1 = 2 * (i : Int) + 1 + 2 := by omega
      rw [e1, e2, e3]
      walk_at "le"
    · have hiK : i = K := by
        apply Classical.byContradiction
        intro hne
        exact h (hKp i (by first | with_reducible assumption | with_reducible exact Int.natCast_nonneg _ | with_reducible exact Int.le_of_lt (by assumption) | omega))
      subst hiK
      repeat walk_at "mw"
      rw [Int.fdiv_eq_ediv_of_nonneg _ (by decide), show (2 * (i : Int) + 1) / 2 = i by omega]
      exact ⟨i, hK, hKe, rfl⟩
theorem f_log {g : GX} (hg : GOk g) : ∃ a, FnIs g "_law_log" a := FnIs_any (by rw [hg.p]; decide +kernel)
set_option linter.unusedVariables false
set_option linter.unusedSimpArgs false
theorem pow10_2 (f L : Nat) (h : 10 * f ≤ 3 * L) : (10 : Int) ^ f ≤ 2 ^ L := by
  have h1 : (10 ^ f) ^ 3 ≤ (2 ^ L) ^ 3 := by
    calc (10 ^ f) ^ 3 = 1000 ^ f := by rw [← Nat.pow_mul, Nat.mul_comm, Nat.pow_mul]
      _ ≤ 1024 ^ f := Nat.pow_le_pow_left (by decide) f
      _ = 2 ^ (10 * f) := by rw [Nat.pow_mul]
      _ ≤ 2 ^ (3 * L) := Nat.pow_le_pow_right (by decide) h
      _ = (2 ^ L) ^ 3 := by rw [← Nat.pow_mul, Nat.mul_comm]
  have h2 : 10 ^ f ≤ 2 ^ L := by
    apply Nat.le_of_not_lt
    intro hl
    exact absurd h1 (Nat.not_le.mpr (Nat.pow_lt_pow_left hl (by decide)))
  have e1 : (10 : Int) ^ f = ((10 ^ f : Nat) : Int) := by simp
  have e2 : (2 : Int) ^ L = ((2 ^ L : Nat) : Int) := by simp
  omega
theorem ipow_cast (a : Int) : ∀ n : Nat, ((a ^ n : Int) : Rat) = (a : Rat) ^ n
  | 0 => by first | exact Rat.intCast_add .. | exact Rat.intCast_sub .. | exact Rat.intCast_mul .. | exact Rat.intCast_neg .. | exact_mod_cast rfl
  | n + 1 => by
    rw [Int.pow_succ, Rat.pow_succ, ← ipow_cast a n]
    exact_mod_cast rfl
theorem pow_small {M X : Int} {T : Nat} {τ : Rat} (h0 : 0 ≤ τ) (hX : 0 < X) (hτ : (X : Rat) * τ ≤ 1) (hMX : M ≤ X ^ T) : (M : Rat) * τ ^ T ≤ 1 := by
  have h1 := int_le hMX
  rw [ipow_cast] at h1
  have h2 := q_mul_le h1 (q_pow_nn h0 T)
  have e : (X : Rat) ^ T * τ ^ T = ((X : Rat) * τ) ^ T := by
    clear h1 h2 hMX
    induction T with
    | zero => grind
    | succ T ih => rw [Rat.pow_succ, Rat.pow_succ, Rat.pow_succ, ← ih]; grind
  rw [e] at h2
  have hXp := int_pos hX
  have h3 := q_pow_one (q_mul_nn (by grind) h0) hτ T
  exact Rat.le_trans h2 h3
theorem hw_bits {M u : Int} {T j B : Nat} (hM : 0 < M) (hu : 2 * (u.natAbs : Int) ≤ M) (hB : intBits M ≤ B) (hj : j < T) : intBits (hw M u T j) ≤ B + 3 := by
  have hMp := int_pos hM
  have hya : (u : Rat) ≤ (u.natAbs : Rat) ∧ -(u.natAbs : Rat) ≤ (u : Rat) := by
    have h1 := int_le (show u ≤ (u.natAbs : Int) by omega)
    have h2 := int_le (show -(u.natAbs : Int) ≤ u by omega)
    have c : ((-(u.natAbs : Int) : Int) : Rat) = -(u.natAbs : Rat) := by first | exact Rat.intCast_add .. | exact Rat.intCast_sub .. | exact Rat.intCast_mul .. | exact Rat.intCast_neg .. | exact_mod_cast rfl
    rw [c] at h2
    exact ⟨h1, h2⟩
  have hn2 : 2 * (u.natAbs : Rat) ≤ M := by
    have := int_le hu
    have c : ((2 * (u.natAbs : Int) : Int) : Rat) = 2 * (u.natAbs : Rat) := by first | exact Rat.intCast_add .. | exact Rat.intCast_sub .. | exact Rat.intCast_mul .. | exact Rat.intCast_neg .. | exact_mod_cast rfl
    rw [c] at this; exact this
  have k1 : (u : Rat) / M ≤ 1 / 2 := q_div_le hMp (by grind)
  have k2 : -(1 / 2) ≤ (u : Rat) / M := q_le_div hMp (by grind)
  obtain ⟨w1, w2⟩ := hw_q (T := T) hM (show (0 : Rat) ≤ 1 / 2 by decide +kernel) (by grind) k1 k2 j hj
  obtain ⟨q1, q2⟩ := Qs_abs (show (0 : Rat) ≤ 1 / 2 by decide +kernel) (by grind) k1 k2 (j + 1) (T - j) (by first | with_reducible assumption | with_reducible exact Int.natCast_nonneg _ | with_reducible exact Int.le_of_lt (by assumption) | omega)
  have e2 : (1 : Rat) / (1 - 1 / 2) = 2 := by grind
  rw [e2] at w1 w2 q1 q2
  have m1 := q_mul_le' q1 (show (0 : Rat) ≤ M by first | with_reducible assumption | with_reducible exact Rat.le_of_lt (by assumption) | with_reducible exact nn6 (by assumption) | with_reducible exact nn1 (by assumption) | with_reducible exact nn2 (by assumption) | grind)
  have m2 := q_mul_le' q2 (show (0 : Rat) ≤ M by first | with_reducible assumption | with_reducible exact Rat.le_of_lt (by assumption) | with_reducible exact nn6 (by assumption) | with_reducible exact nn1 (by assumption) | with_reducible exact nn2 (by assumption) | grind)
  have f1 : ((hw M u T j : Int) : Rat) ≤ ((2 * M + 2 : Int) : Rat) := by
    have c : ((2 * M + 2 : Int) : Rat) = 2 * (M : Rat) + 2 := by first | exact Rat.intCast_add .. | exact Rat.intCast_sub .. | exact Rat.intCast_mul .. | exact Rat.intCast_neg .. | exact_mod_cast rfl
    rw [c]; grind
  have f2 : ((-(2 * M + 2) : Int) : Rat) ≤ ((hw M u T j : Int) : Rat) := by
    have c : ((-(2 * M + 2) : Int) : Rat) = -(2 * (M : Rat) + 2) := by first | exact Rat.intCast_add .. | exact Rat.intCast_sub .. | exact Rat.intCast_mul .. | exact Rat.intCast_neg .. | exact_mod_cast rfl
    rw [c]; grind
  have g1 := Rat.intCast_le_intCast.mp f1
  have g2 := Rat.intCast_le_intCast.mp f2
  have hMb := bits_lt hB
  refine lt_bits ?_
  rw [Nat.pow_add]
  omega
theorem figures {M : Int} (hM : 0 < M) : ∃ f : Nat, 0 < f ∧ (10 : Int) ^ (f - 1) ≤ M ∧ M < 10 ^ f := by
  have big : ∀ n : Nat, (n : Int) < 10 ^ n := by
    intro n
    induction n with
    | zero => decide
    | succ n ih => rw [Int.pow_succ]; omega
  have key : ∀ f : Nat, M < 10 ^ f → ∃ f : Nat, 0 < f ∧ (10 : Int) ^ (f - 1) ≤ M ∧ M < 10 ^ f := by
    intro f
    induction f with
    | zero => intro h; rw [show (10 : Int) ^ 0 = 1 from rfl] at h; omega
    | succ f ih =>
      intro h
      by_cases hf : M < 10 ^ f
      · exact ih hf
      · exact ⟨f + 1, by omega, by simpa using hf, h⟩
  have := big M.toNat
  exact key M.toNat (by first | with_reducible assumption | with_reducible exact Int.natCast_nonneg _ | with_reducible exact Int.le_of_lt (by assumption) | omega)
set_option linter.unusedVariables false
set_option linter.unusedSimpArgs false
theorem dn_half {M y : Int} {N L : Nat} (hM : 0 < M) (hL : 0 < L) (h : (y.natAbs : Int) * 2 ^ L < M * 2 ^ N) : 2 * ((dn y (2 ^ N)).natAbs : Int) ≤ M := by
  have hP := two_pos N
  obtain ⟨h1, h2, _, _⟩ := dn_spec (a := y) hP
  have hL2 : (2 : Int) ≤ 2 ^ L := by
    have e : (2 : Int) ^ L = ((2 ^ L : Nat) : Int) := by simp
    have := Nat.pow_le_pow_right (n := 2) (by decide) (show 1 ≤ L from hL)
    rw [e]; omega
  have h3 : (y.natAbs : Int) * 2 ≤ (y.natAbs : Int) * 2 ^ L := Int.mul_le_mul_of_nonneg_left hL2 (Int.natCast_nonneg _)
  have y1 : y ≤ (y.natAbs : Int) := Int.le_natAbs
  have y2 : -(y.natAbs : Int) ≤ y := by omega
  generalize (y.natAbs : Int) * 2 ^ L = nl at *
  generalize (y.natAbs : Int) = n at *
  generalize dn y (2 ^ N) = u at *
  generalize (2 : Int) ^ N = P at *
  have e1 : P * (2 * u) = 2 * (P * u) := by grind
  have e2 : P * (-(2 * u)) = -(2 * (P * u)) := by grind
  have e3 : P * (M + 1) = M * P + P := by grind
  generalize P * u = pu at *
  generalize M * P = mp at *
  have a1 : 2 * u < M + 1 := Int.lt_of_mul_lt_mul_left (a := P) (by rw [e1, e3]; omega) (Int.le_of_lt hP)
  have a2 : -(2 * u) < M + 1 := Int.lt_of_mul_lt_mul_left (a := P) (by rw [e2, e3]; omega) (Int.le_of_lt hP)
  clear h1 h2 h h3 y1 y2 e1 e2 e3 hL2 hP
  omega
theorem rows_T {f L : Nat} (hf : 0 < f) (hL : 0 < L) : ∃ T : Nat, 0 < T ∧ (T : Int) = -((-10 * (f : Int)) / (3 * L)) ∧ 10 * f ≤ 3 * (L * T) := by
  have hL3 : (0 : Int) < 3 * L := by omega
  have hdm := Int.mul_ediv_add_emod (-10 * (f : Int)) (3 * L)
  have hm0 := Int.emod_nonneg (-10 * (f : Int)) (show (3 * (L : Int)) ≠ 0 by omega)
  have hm1 := Int.emod_lt_of_pos (-10 * (f : Int)) hL3
  have hneg : (-10 * (f : Int)) / (3 * L) < 0 := Int.ediv_neg_of_neg_of_pos (by first | with_reducible assumption | with_reducible exact Int.natCast_nonneg _ | with_reducible exact Int.le_of_lt (by assumption) | omega) hL3
  obtain ⟨T, hT⟩ : ∃ T : Nat, (T : Int) = -((-10 * (f : Int)) / (3 * L)) := ⟨(-((-10 * (f : Int)) / (3 * L))).toNat, by omega⟩
  refine ⟨T, by omega, hT, ?_⟩
  have e : (3 * (L : Int)) * ((-10 * (f : Int)) / (3 * L)) = -(3 * ((L : Int) * T)) := by
    rw [show (-10 * (f : Int)) / (3 * L) = -(T : Int) by omega]; grind
  rw [e] at hdm
  have e2 : ((3 * (L * T) : Nat) : Int) = 3 * ((L : Int) * T) := by simp
  omega
-- the numbers of law 11
set_option linter.unusedVariables false
theorem dg_len {M : Int} {f : Nat} (hf : 0 < f) (h1 : (10 : Int) ^ (f - 1) ≤ M) (h2 : M < 10 ^ f) : (Str.ofString (toString M)).length = f := by
  have h0 : 0 ≤ M := Int.le_trans (Int.le_of_lt (Int.pow_pos (by decide))) h1
  have hu := toString_length_le h0 hf h2
  apply Nat.le_antisymm hu
  rw [PyProof.Rows.ofString_len] at hu ⊢
  obtain ⟨n, rfl⟩ : ∃ n : Nat, M = (n : Int) := ⟨M.toNat, by omega⟩
  have e : (toString (n : Int)).length = (Nat.toDigits 10 n).length := by
    show (Nat.repr n).length = _
    simp [Nat.repr]
  rw [e] at hu ⊢
  apply Nat.le_of_not_lt
  intro hlt
  have hle : (Nat.toDigits 10 n).length ≤ f - 1 := by omega
  by_cases hf1 : f - 1 = 0
  · rw [hf1] at hle
    have := PySem.toDigits_len_ge 10 n
    omega
  · have := (Nat.length_toDigits_le_iff (b := 10) (n := n) (k := f - 1) (by decide) (by first | with_reducible assumption | with_reducible exact Int.natCast_nonneg _ | with_reducible exact Int.le_of_lt (by assumption) | omega)).mp hle
    have e1 : (10 : Int) ^ (f - 1) = ((10 ^ (f - 1) : Nat) : Int) := by simp
    omega
set_option maxHeartbeats 4000000
set_option linter.unusedVariables false
set_option exponentiation.threshold 3000
theorem c_ilogN {g : GX} (hg : GOk g) {x M : Int} {L N f T : Nat} (hM : 0 < M) (hMb : intBits M ≤ 1500) (hL : 0 < L) (hL2 : L ≤ 1000) (hN : N ≤ 1000000)
    (hgo : ∀ R, R < N → M * 2 ^ R ≤ ((ys M x R).natAbs : Int) * 2 ^ L) (hstop : ((ys M x N).natAbs : Int) * 2 ^ L < M * 2 ^ N) (hz : ∀ R, R < N → 0 < M + dn (ys M x R) (2 ^ R)) (hb : ∀ R, R ≤ N → intBits (ys M x R) ≤ 60000)
    (hf : 0 < f) (hf1 : (10 : Int) ^ (f - 1) ≤ M) (hf2 : M < 10 ^ f) (hT0 : 0 < T) (hT : (T : Int) = -((-10 * (f : Int)) / (3 * L))) :
    Calls g 2 "_ilog" [.int x, .int M, .int (L : Int)] fun v => v = .int (dn (hw M (dn (ys M x N) (2 ^ N)) T (T - 1) * ys M x N) M) := by
  have hlog : M.natAbs.log2 < 1920 := (Nat.log2_lt (by first | with_reducible assumption | with_reducible exact Int.natCast_nonneg _ | with_reducible exact Int.le_of_lt (by assumption) | omega)).mpr (Nat.lt_of_lt_of_le (bits_lt hMb) (Nat.pow_le_pow_right (by decide) (by decide)))
  refine c_ilog hg (x := x) (N := N) (T := T) hM hlog hL (by first | with_reducible assumption | with_reducible exact Int.natCast_nonneg _ | with_reducible exact Int.le_of_lt (by assumption) | omega) (by first | with_reducible assumption | with_reducible exact Int.natCast_nonneg _ | with_reducible exact Int.le_of_lt (by assumption) | omega) hgo hstop hz (fun R h => Nat.le_trans (hb R h) (by decide)) hT0 (by rw [dg_len hf hf1 hf2]; exact hT) (fun j hj => ?_)
  exact Nat.le_trans (hw_bits hM (dn_half hM hL hstop) hMb hj) (by decide)
set_option maxHeartbeats 1000000
set_option linter.unusedVariables false
set_option linter.unusedSimpArgs false
-- one halving, against the logarithm
theorem Hn_lin (b : Nat) : ∀ j : Nat, 0 < b → (j : Rat) / ((b + j : Nat) : Rat) ≤ Hn (b + j) - Hn b ∧ Hn (b + j) - Hn b ≤ (j : Rat) / (b : Rat)
  | 0, hb => by
    have e : ((0 : Nat) : Rat) = 0 := by grind
    rw [e]
    constructor <;> grind
  | j + 1, hb => by
    obtain ⟨h1, h2⟩ := Hn_lin b j hb
    have eH : Hn (b + (j + 1)) = Hn (b + j) + 1 / (((b + j : Nat) : Rat) + 1) := rfl
    have e : ((j + 1 : Nat) : Rat) = (j : Rat) + 1 := by grind
    have ec : ((b + j : Nat) : Rat) = (b : Rat) + j := by first | exact Rat.intCast_add .. | exact Rat.intCast_sub .. | exact Rat.intCast_mul .. | exact Rat.intCast_neg .. | exact_mod_cast rfl
    have ec2 : ((b + (j + 1) : Nat) : Rat) = (b : Rat) + j + 1 := by
      have : ((b + (j + 1) : Nat) : Rat) = ((b + j : Nat) : Rat) + 1 := by first | exact Rat.intCast_add .. | exact Rat.intCast_sub .. | exact Rat.intCast_mul .. | exact Rat.intCast_neg .. | exact_mod_cast rfl
      rw [this, ec]
    have hbp := nat_pos hb
    have hj : (0 : Rat) ≤ (j : Rat) := by grind
    rw [ec] at h1
    rw [eH, e, ec, ec2]
    constructor
    · have k : ((j : Rat) + 1) / ((b : Rat) + j + 1) ≤ (j : Rat) / ((b : Rat) + j) + 1 / ((b : Rat) + j + 1) := by
        have e1 : ((j : Rat) + 1) / ((b : Rat) + j + 1) = (j : Rat) / ((b : Rat) + j + 1) + 1 / ((b : Rat) + j + 1) := by grind
        have e2 : (j : Rat) / ((b : Rat) + j + 1) ≤ (j : Rat) / ((b : Rat) + j) := by
          refine q_div_le (by grind) ?_
          have : (j : Rat) / ((b : Rat) + j) * ((b : Rat) + j + 1) = j + (j : Rat) / ((b : Rat) + j) := by
            have : (b : Rat) + j ≠ 0 := by grind
            grind
          have := q_div_nn hj (show (0 : Rat) < (b : Rat) + j by grind)
          grind
        grind
      grind
    · have k : 1 / ((b : Rat) + j + 1) ≤ 1 / (b : Rat) := by
        refine q_div_le (by grind) ?_
        have : 1 / (b : Rat) * ((b : Rat) + j + 1) = 1 + (j + 1) / (b : Rat) := by grind
        have := q_div_nn (show (0 : Rat) ≤ (j : Rat) + 1 by grind) hbp
        grind
      have e1 : ((j : Rat) + 1) / (b : Rat) = (j : Rat) / b + 1 / (b : Rat) := by grind
      grind
theorem lgI_lin {N : Nat} (hN : 0 < N) {a b : Int} (ha : 0 < a) (hb : 0 < b) : ((a : Rat) - b) / a ≤ lgI N a b ∧ lgI N a b ≤ ((a : Rat) - b) / b := by
  have key : ∀ {a b : Int}, 0 < b → b ≤ a → ((a : Rat) - b) / a ≤ lgI N a b ∧ lgI N a b ≤ ((a : Rat) - b) / b := by
    intro a b hb hab
    have hNp := nat_pos hN
    have hbp := int_pos hb
    have hap := int_pos (show 0 < a by omega)
    have hle : N * b.toNat ≤ N * a.toNat := Nat.mul_le_mul_left N (by first | with_reducible assumption | with_reducible exact Int.natCast_nonneg _ | with_reducible exact Int.le_of_lt (by assumption) | omega)
    obtain ⟨h1, h2⟩ := Hn_lin (N * b.toNat) (N * a.toNat - N * b.toNat) (Nat.mul_pos hN (by first | with_reducible assumption | with_reducible exact Int.natCast_nonneg _ | with_reducible exact Int.le_of_lt (by assumption) | omega))
    rw [show N * b.toNat + (N * a.toNat - N * b.toNat) = N * a.toNat by omega] at h1 h2
    have c1 : ((N * a.toNat - N * b.toNat : Nat) : Rat) = (N : Rat) * ((a : Rat) - b) := by
      have e : ((N * a.toNat - N * b.toNat : Nat) : Rat) + ((N * b.toNat : Nat) : Rat) = ((N * a.toNat : Nat) : Rat) := by
        have : N * a.toNat - N * b.toNat + N * b.toNat = N * a.toNat := by omega
        exact_mod_cast this
      rw [natCast_mul', natCast_mul', toNat_cast (show 0 ≤ a by omega), toNat_cast (show 0 ≤ b by omega)] at e
      grind
    rw [c1] at h1 h2
    rw [natCast_mul', toNat_cast (show 0 ≤ a by omega)] at h1
    rw [natCast_mul', toNat_cast (show 0 ≤ b by omega)] at h2
    have e1 : (N : Rat) * ((a : Rat) - b) / (N * a) = ((a : Rat) - b) / a := by grind
    have e2 : (N : Rat) * ((a : Rat) - b) / (N * b) = ((a : Rat) - b) / b := by grind
    rw [e1] at h1
    rw [e2] at h2
    exact ⟨h1, h2⟩
  rcases Int.le_total b a with h | h
  · exact key hb h
  · obtain ⟨h1, h2⟩ := key ha h
    have en : lgI N a b = -lgI N b a := by unfold lgI lg; grind
    have hbp := int_pos hb
    have hap := int_pos ha
    rw [en]
    constructor
    · have : ((a : Rat) - b) / a = -(((b : Rat) - a) / a) := by grind
      grind
    · have : ((a : Rat) - b) / b = -(((b : Rat) - a) / b) := by grind
      grind
theorem lgI_add (N : Nat) (a b c : Int) : lgI N a b + lgI N b c = lgI N a c := lg_add ..
theorem lgI_neg (N : Nat) (a b : Int) : lgI N a b = -lgI N b a := by unfold lgI lg; grind
theorem lgI_scale {N : Nat} (hN : 0 < N) {a b c : Int} (ha : 0 < a) (hb : 0 < b) (hc : 0 < c) : lgI N (c * a) (c * b) - lgI N a b ≤ 1 / (N : Rat) ∧ -(1 / (N : Rat)) ≤ lgI N (c * a) (c * b) - lgI N a b := by
  have hN0 : (0 : Rat) ≤ 1 / (N : Rat) := q_div_nn (by grind) (nat_pos hN)
  have key : ∀ {a b : Int}, 0 < b → b ≤ a → lgI N a b ≤ lgI N (c * a) (c * b) ∧ lgI N (c * a) (c * b) ≤ lgI N a b + 1 / (N : Rat) := by
    intro a b hb hab
    have s := lg_scale (N := N) (a := a.toNat) (b := b.toNat) (c := c.toNat) hN (by first | with_reducible assumption | with_reducible exact Int.natCast_nonneg _ | with_reducible exact Int.le_of_lt (by assumption) | omega) (by first | with_reducible assumption | with_reducible exact Int.natCast_nonneg _ | with_reducible exact Int.le_of_lt (by assumption) | omega) (by first | with_reducible assumption | with_reducible exact Int.natCast_nonneg _ | with_reducible exact Int.le_of_lt (by assumption) | omega)
    rw [← Int.toNat_mul (by first | with_reducible assumption | with_reducible exact Int.natCast_nonneg _ | with_reducible exact Int.le_of_lt (by assumption) | omega) (by first | with_reducible assumption | with_reducible exact Int.natCast_nonneg _ | with_reducible exact Int.le_of_lt (by assumption) | omega), ← Int.toNat_mul (by first | with_reducible assumption | with_reducible exact Int.natCast_nonneg _ | with_reducible exact Int.le_of_lt (by assumption) | omega) (by first | with_reducible assumption | with_reducible exact Int.natCast_nonneg _ | with_reducible exact Int.le_of_lt (by assumption) | omega)] at s
    exact s
  rcases Int.le_total b a with h | h
  · obtain ⟨h1, h2⟩ := key hb h
    constructor <;> grind
  · obtain ⟨h1, h2⟩ := key ha h
    rw [lgI_neg N (c * a), lgI_neg N a]
    constructor <;> grind
theorem lg_halve {N : Nat} (hN : 0 < N) {A D A' : Int} (hA : 0 < A) (hD : 0 < D) (hA' : 0 < A') :
    (2 * lgI N A' (2 * D) - lgI N A D) - lgI N (A' * A') (4 * D * A) ≤ 3 / (N : Rat) ∧ -(3 / (N : Rat)) ≤ (2 * lgI N A' (2 * D) - lgI N A D) - lgI N (A' * A') (4 * D * A) := by
  obtain ⟨a1, a2⟩ := lgI_scale hN hA' (show 0 < 2 * D by omega) hA'
  obtain ⟨b1, b2⟩ := lgI_scale hN hA' (show 0 < 2 * D by omega) (show 0 < 2 * D by omega)
  obtain ⟨c1, c2⟩ := lgI_scale hN hA hD (show 0 < 4 * D by omega)
  have e1 : A' * (2 * D) = 2 * D * A' := by grind
  have e2 : 2 * D * (2 * D) = 4 * D * D := by grind
  rw [e1] at a1 a2
  rw [e2] at b1 b2
  have s1 := lgI_add N (A' * A') (2 * D * A') (4 * D * D)
  have s2 := lgI_add N (A' * A') (4 * D * A) (4 * D * D)
  have e3 : (3 : Rat) / N = 3 * (1 / N) := by grind
  rw [e3]
  constructor <;> grind
theorem theta_b {θ X : Rat} (h1 : θ ≤ 1 / 2) (h2 : -(1 / 2) ≤ θ) (hX : 0 ≤ X) : θ * (X + θ) ≤ 1 / 2 * (X + 1 / 2) ∧ -(1 / 2 * (X + 1 / 2)) ≤ θ * (X + θ) := by
  have p1 := q_mul_nn (show 0 ≤ 1 / 2 - θ by grind) hX
  have p2 := q_mul_nn (show 0 ≤ 1 / 2 + θ by grind) hX
  have p3 := q_mul_nn (show 0 ≤ 1 / 2 - θ by grind) (show 0 ≤ 1 / 2 + θ by grind)
  have p4 : 0 ≤ θ * θ := by
    rcases (Rat.le_total : (0 : Rat) ≤ θ ∨ θ ≤ 0) with h | h
    · exact q_mul_nn h h
    · have := q_mul_nn (show 0 ≤ -θ by grind) (show 0 ≤ -θ by grind)
      grind
  constructor <;> grind
theorem step_G {M y : Int} {R : Nat} {h : Rat} (hM : 0 < M) (hA : 0 < 2 ^ R * M + y) (hz : 0 < M + dn y (2 ^ R)) (hh0 : 0 ≤ h) (hh : (1 / 2 : Rat) ≤ h ∨ R = 0) :
    let r : Rat := ((rt (M * (M + dn y (2 ^ R))) : Int) : Rat)
    let D : Rat := ((2 ^ R * M : Int) : Rat)
    let y' : Rat := ((dn (M * y * 2) (M + rt (M * (M + dn y (2 ^ R)))) : Int) : Rat)
    0 < r ∧ 0 < 2 * D + y' ∧ (2 * D + y') * (2 * D + y') - 4 * D * (D + y) ≤ 4 * (y.natAbs : Rat) * D * (r + h * M) / ((M + r) * (M + r)) + (1 / 2) * (4 * D + 2 * (2 * M * y / (M + r)) + 1 / 2) ∧
      -(4 * (y.natAbs : Rat) * D * (r + h * M) / ((M + r) * (M + r)) + (1 / 2) * (4 * D + 2 * (2 * M * y / (M + r)) + 1 / 2)) ≤ (2 * D + y') * (2 * D + y') - 4 * D * (D + y) := by
  have hn : 0 < M * (M + dn y (2 ^ R)) := Int.mul_pos hM hz
  have hrt := rt_spec hn
  have hrp := hrt.pos
  have hr1 := hrt.lo
  have hr2 := hrt.hi
  have hP := two_pos R
  have hDp : 0 < 2 ^ R * M := Int.mul_pos hP hM
  obtain ⟨v1, v2⟩ := dn_q (a := y) hP
  obtain ⟨t1, t2⟩ := dn_q (a := M * y * 2) (b := M + rt (M * (M + dn y (2 ^ R)))) (by first | with_reducible assumption | with_reducible exact Int.natCast_nonneg _ | with_reducible exact Int.le_of_lt (by assumption) | omega)
  have hMr := int_pos hM
  have hPr := int_pos hP
  have hrr := int_pos hrp
  have hDr := int_pos hDp
  have cD : ((2 ^ R * M : Int) : Rat) = (((2 : Int) ^ R : Int) : Rat) * M := by first | exact Rat.intCast_add .. | exact Rat.intCast_sub .. | exact Rat.intCast_mul .. | exact Rat.intCast_neg .. | exact_mod_cast rfl
  have cT : ((M * y * 2 : Int) : Rat) = (M : Rat) * y * 2 := by first | exact Rat.intCast_add .. | exact Rat.intCast_sub .. | exact Rat.intCast_mul .. | exact Rat.intCast_neg .. | exact_mod_cast rfl
  have cS : ((M + rt (M * (M + dn y (2 ^ R))) : Int) : Rat) = (M : Rat) + ((rt (M * (M + dn y (2 ^ R))) : Int) : Rat) := by first | exact Rat.intCast_add .. | exact Rat.intCast_sub .. | exact Rat.intCast_mul .. | exact Rat.intCast_neg .. | exact_mod_cast rfl
  rw [cT, cS] at t1 t2
  -- the root's error
  have k1 := int_le (show M * (M + dn y (2 ^ R)) ≤ rt (M * (M + dn y (2 ^ R))) * (rt (M * (M + dn y (2 ^ R))) + 1) from hr2)
  have k2 := int_le (show rt (M * (M + dn y (2 ^ R))) * (rt (M * (M + dn y (2 ^ R))) - 1) ≤ M * (M + dn y (2 ^ R)) by omega)
  have c1 : ((M * (M + dn y (2 ^ R)) : Int) : Rat) = (M : Rat) * (M + ((dn y (2 ^ R) : Int) : Rat)) := by first | exact Rat.intCast_add .. | exact Rat.intCast_sub .. | exact Rat.intCast_mul .. | exact Rat.intCast_neg .. | exact_mod_cast rfl
  have c2 : ((rt (M * (M + dn y (2 ^ R))) * (rt (M * (M + dn y (2 ^ R))) + 1) : Int) : Rat) = ((rt (M * (M + dn y (2 ^ R))) : Int) : Rat) * (((rt (M * (M + dn y (2 ^ R))) : Int) : Rat) + 1) := by first | exact Rat.intCast_add .. | exact Rat.intCast_sub .. | exact Rat.intCast_mul .. | exact Rat.intCast_neg .. | exact_mod_cast rfl
  have c3 : ((rt (M * (M + dn y (2 ^ R))) * (rt (M * (M + dn y (2 ^ R))) - 1) : Int) : Rat) = ((rt (M * (M + dn y (2 ^ R))) : Int) : Rat) * (((rt (M * (M + dn y (2 ^ R))) : Int) : Rat) - 1) := by first | exact Rat.intCast_add .. | exact Rat.intCast_sub .. | exact Rat.intCast_mul .. | exact Rat.intCast_neg .. | exact_mod_cast rfl
  rw [c1, c2] at k1
  rw [c3, c1] at k2
  have hv : (M : Rat) * ((y : Rat) / (((2 : Int) ^ R : Int) : Rat) - ((dn y (2 ^ R) : Int) : Rat)) ≤ h * M ∧ -(h * M) ≤ (M : Rat) * ((y : Rat) / (((2 : Int) ^ R : Int) : Rat) - ((dn y (2 ^ R) : Int) : Rat)) := by
    rcases hh with hh | hh
    · have m1 := q_mul_le' v1 (show (0 : Rat) ≤ M by first | with_reducible assumption | with_reducible exact Rat.le_of_lt (by assumption) | with_reducible exact nn6 (by assumption) | with_reducible exact nn1 (by assumption) | with_reducible exact nn2 (by assumption) | grind)
      have m2 := q_mul_le' v2 (show (0 : Rat) ≤ M by first | with_reducible assumption | with_reducible exact Rat.le_of_lt (by assumption) | with_reducible exact nn6 (by assumption) | with_reducible exact nn1 (by assumption) | with_reducible exact nn2 (by assumption) | grind)
      have m3 := q_mul_le hh (show (0 : Rat) ≤ M by first | with_reducible assumption | with_reducible exact Rat.le_of_lt (by assumption) | with_reducible exact nn6 (by assumption) | with_reducible exact nn1 (by assumption) | with_reducible exact nn2 (by assumption) | grind)
      constructor <;> grind
    · subst hh
      have e : dn y (2 ^ 0) = y := by have := dn_mul (a := y) (b := 1) (by decide); rwa [Int.one_mul] at this
      rw [e]
      have e1 : (((2 : Int) ^ 0 : Int) : Rat) = 1 := by first | exact Rat.intCast_add .. | exact Rat.intCast_sub .. | exact Rat.intCast_mul .. | exact Rat.intCast_neg .. | exact_mod_cast rfl
      rw [e1]
      have := q_mul_nn hh0 (show (0 : Rat) ≤ M by first | with_reducible assumption | with_reducible exact Rat.le_of_lt (by assumption) | with_reducible exact nn6 (by assumption) | with_reducible exact nn1 (by assumption) | with_reducible exact nn2 (by assumption) | grind)
      constructor <;> grind
  obtain ⟨hv1, hv2⟩ := hv
  have hyn : (y : Rat) ≤ (y.natAbs : Rat) ∧ -(y.natAbs : Rat) ≤ (y : Rat) := by
    have h1 := int_le (show y ≤ (y.natAbs : Int) by omega)
    have h2 := int_le (show -(y.natAbs : Int) ≤ y by omega)
    have c : ((-(y.natAbs : Int) : Int) : Rat) = -(y.natAbs : Rat) := by first | exact Rat.intCast_add .. | exact Rat.intCast_sub .. | exact Rat.intCast_mul .. | exact Rat.intCast_neg .. | exact_mod_cast rfl
    rw [c] at h2
    exact ⟨h1, h2⟩
  obtain ⟨yn1, yn2⟩ := hyn
  -- A >= 1
  have hA1 := int_le (show 1 ≤ 2 ^ R * M + y by omega)
  have cA : ((2 ^ R * M + y : Int) : Rat) = ((2 ^ R * M : Int) : Rat) + y := by first | exact Rat.intCast_add .. | exact Rat.intCast_sub .. | exact Rat.intCast_mul .. | exact Rat.intCast_neg .. | exact_mod_cast rfl
  have c1' : ((1 : Int) : Rat) = 1 := by first | exact Rat.intCast_add .. | exact Rat.intCast_sub .. | exact Rat.intCast_mul .. | exact Rat.intCast_neg .. | exact_mod_cast rfl
  rw [c1', cA] at hA1
  intro r D y'
  refine ⟨hrr, ?_⟩
  have hD' : D = (((2 : Int) ^ R : Int) : Rat) * M := cD
  generalize hrg : ((rt (M * (M + dn y (2 ^ R))) : Int) : Rat) = r₀ at *
  generalize hyg : ((dn (M * y * 2) (M + rt (M * (M + dn y (2 ^ R)))) : Int) : Rat) = y₀ at *
  generalize hDg : ((2 ^ R * M : Int) : Rat) = D₀ at *
  have er : r = r₀ := hrg
  have ey : y' = y₀ := hyg
  have eD : D = D₀ := hDg
  rw [er, ey, eD]
  rw [eD] at hD'
  clear er ey eD
  clear_value r D y'
  generalize ((dn y (2 ^ R) : Int) : Rat) = v at *
  generalize (((2 : Int) ^ R : Int) : Rat) = P at *
  generalize (y.natAbs : Rat) = yn at *
  generalize (M : Rat) = m at *
  generalize (y : Rat) = Y at *
  have hS : 0 < m + r₀ := by grind
  have hSS := Rat.mul_pos hS hS
  -- kappa
  have hk : m * (m + Y / P) - r₀ * r₀ ≤ r₀ + h * m ∧ -(r₀ + h * m) ≤ m * (m + Y / P) - r₀ * r₀ := by constructor <;> grind
  obtain ⟨hk1, hk2⟩ := hk
  have hq : m * Y * 2 / (m + r₀) = 2 * m * Y / (m + r₀) := by grind
  rw [hq] at t1 t2
  -- G(q)
  have hG : 4 * D₀ * (2 * m * Y / (m + r₀) - Y) + (2 * m * Y / (m + r₀)) * (2 * m * Y / (m + r₀)) = 4 * Y * D₀ * (m * (m + Y / P) - r₀ * r₀) / ((m + r₀) * (m + r₀)) := by
    have hS0 : m + r₀ ≠ 0 := by grind
    have hP0 : P ≠ 0 := by grind
    rw [hD']
    clear hk1 hk2 t1 t2 hSS hv1 hv2 k1 k2 v1 v2 hA1 yn1 yn2
    grind
  have hyn0 : 0 ≤ yn := by grind
  have hGb : 4 * Y * D₀ * (m * (m + Y / P) - r₀ * r₀) / ((m + r₀) * (m + r₀)) ≤ 4 * yn * D₀ * (r₀ + h * m) / ((m + r₀) * (m + r₀)) ∧ -(4 * yn * D₀ * (r₀ + h * m) / ((m + r₀) * (m + r₀))) ≤ 4 * Y * D₀ * (m * (m + Y / P) - r₀ * r₀) / ((m + r₀) * (m + r₀)) := by
    generalize m * (m + Y / P) - r₀ * r₀ = κ at *
    have hK : 0 ≤ r₀ + h * m := by have := q_mul_nn hh0 (show 0 ≤ m by first | with_reducible assumption | with_reducible exact Rat.le_of_lt (by assumption) | with_reducible exact nn6 (by assumption) | with_reducible exact nn1 (by assumption) | with_reducible exact nn2 (by assumption) | grind); grind
    have b : Y * κ ≤ yn * (r₀ + h * m) ∧ -(yn * (r₀ + h * m)) ≤ Y * κ := abs_mul (by first | assumption | grind) (by first | assumption | grind) (by first | assumption | grind) (by first | assumption | grind)
    obtain ⟨b1, b2⟩ := b
    have hi : 0 ≤ 1 / ((m + r₀) * (m + r₀)) := q_div_nn (by grind) hSS
    have e1 : 4 * Y * D₀ * κ / ((m + r₀) * (m + r₀)) = 4 * D₀ * (1 / ((m + r₀) * (m + r₀))) * (Y * κ) := by grind
    have e2 : 4 * yn * D₀ * (r₀ + h * m) / ((m + r₀) * (m + r₀)) = 4 * D₀ * (1 / ((m + r₀) * (m + r₀))) * (yn * (r₀ + h * m)) := by grind
    rw [e1, e2]
    have hc : 0 ≤ 4 * D₀ * (1 / ((m + r₀) * (m + r₀))) := q_mul_nn (by grind) hi
    have m1 := q_mul_le' b1 hc
    have m2 := q_mul_le' b2 hc
    constructor <;> grind
  obtain ⟨hGb1, hGb2⟩ := hGb
  rw [← hG] at hGb1 hGb2
  -- q >= 2 Y or q >= 0
  have hq4 : 2 ≤ 4 * D₀ + 2 * (2 * m * Y / (m + r₀)) := by
    have h1 : -(2 * D₀ - 1) ≤ 2 * m * Y / (m + r₀) := by
      refine q_le_div hS ?_
      have h5 := q_mul_le' (show -(D₀ - 1) ≤ Y by grind) (show 0 ≤ 2 * m by first | with_reducible exact n2 (by first | with_reducible assumption | with_reducible exact Rat.le_of_lt (by assumption) | with_reducible exact nn6 (by assumption) | with_reducible exact nn1 (by assumption) | with_reducible exact nn2 (by assumption)) | grind)
      have hD1 : 1 ≤ 2 * D₀ := by
        have h7 : (1 : Rat) ≤ D₀ := by
          have := int_le (show 1 ≤ 2 ^ R * M by omega)
          rw [c1', hDg] at this; exact this
        grind
      have h6 := q_mul_nn (show 0 ≤ 2 * D₀ - 1 by grind) (show 0 ≤ r₀ by first | with_reducible assumption | with_reducible exact Rat.le_of_lt (by assumption) | with_reducible exact nn6 (by assumption) | with_reducible exact nn1 (by assumption) | with_reducible exact nn2 (by assumption) | grind)
      grind
    grind
  generalize hqg : 2 * m * Y / (m + r₀) = q at *
  generalize 4 * yn * D₀ * (r₀ + h * m) / ((m + r₀) * (m + r₀)) = GB at *
  have hth : (2 * D₀ + y₀) * (2 * D₀ + y₀) - 4 * D₀ * (D₀ + Y) = (4 * D₀ * (q - Y) + q * q) + (y₀ - q) * (4 * D₀ + 2 * q + (y₀ - q)) := by grind
  rw [hth]
  generalize hθ : y₀ - q = θ at *
  have hθ1 : θ ≤ 1 / 2 := by grind
  have hθ2 : -(1 / 2) ≤ θ := by grind
  have bθ := theta_b (X := 4 * D₀ + 2 * q) hθ1 hθ2 (by grind)
  obtain ⟨bθ1, bθ2⟩ := bθ
  refine ⟨by grind, ?_, ?_⟩ <;> grind
set_option linter.unusedVariables false
-- the plain law of 07
theorem ys_low {M x : Int} (hM : 0 < M) (hx : 0 < x) : ∀ R : Nat, (2 : Int) ^ R * (1 - 2 * M) < 2 * ys M x R
  | 0 => by show (1 : Int) * (1 - 2 * M) < 2 * (x - M); omega
  | R + 1 => by
    have ih := ys_low hM hx R
    have hP := two_pos R
    have hd := (dn_spec (a := ys M x R) hP).2.1
    have hz : 0 < M + dn (ys M x R) (2 ^ R) := by
      apply Int.not_le.mp; intro h
      have : (2 : Int) ^ R * dn (ys M x R) (2 ^ R) ≤ 2 ^ R * (-M) := Int.mul_le_mul_of_nonneg_left (by first | with_reducible assumption | with_reducible exact Int.natCast_nonneg _ | with_reducible exact Int.le_of_lt (by assumption) | omega) (by first | with_reducible assumption | with_reducible exact Int.natCast_nonneg _ | with_reducible exact Int.le_of_lt (by assumption) | omega)
      have e : (2 : Int) ^ R * (1 - 2 * M) = 2 ^ R + 2 * (2 ^ R * (-M)) := by grind
      rw [e] at ih
      generalize (2 : Int) ^ R * (-M) = u at *
      generalize (2 : Int) ^ R * dn (ys M x R) (2 ^ R) = v at *
      omega
    have hs := (rt_spec (Int.mul_pos hM hz)).pos
    show (2 : Int) ^ (R + 1) * (1 - 2 * M) < 2 * dn (M * ys M x R * 2) (M + rt (M * (M + dn (ys M x R) (2 ^ R))))
    generalize rt (M * (M + dn (ys M x R) (2 ^ R))) = s at *
    generalize ys M x R = y at *
    have hsp := (dn_spec (a := M * y * 2) (b := M + s) (by first | with_reducible assumption | with_reducible exact Int.natCast_nonneg _ | with_reducible exact Int.le_of_lt (by assumption) | omega)).2.1
    generalize dn (M * y * 2) (M + s) = d at *
    rw [Int.pow_succ]
    generalize (2 : Int) ^ R = P at *
    apply Int.not_le.mp; intro hc
    -- d <= P (1 - 2M)
    have hc' : d ≤ P * (1 - 2 * M) := by
      have : P * 2 * (1 - 2 * M) = 2 * (P * (1 - 2 * M)) := by grind
      omega
    have k1 : (M + s) * d ≤ (M + s) * (P * (1 - 2 * M)) := Int.mul_le_mul_of_nonneg_left hc' (by first | with_reducible assumption | with_reducible exact Int.natCast_nonneg _ | with_reducible exact Int.le_of_lt (by assumption) | omega)
    have k2 : M * (P * (1 - 2 * M) + 1) ≤ M * (2 * y) := Int.mul_le_mul_of_nonneg_left (by first | with_reducible assumption | with_reducible exact Int.natCast_nonneg _ | with_reducible exact Int.le_of_lt (by assumption) | omega) (by first | with_reducible assumption | with_reducible exact Int.natCast_nonneg _ | with_reducible exact Int.le_of_lt (by assumption) | omega)
    have k3 : s * (P * (1 - 2 * M)) ≤ s * (-1) := Int.mul_le_mul_of_nonneg_left (by
      have : P * (1 - 2 * M) ≤ P * (-1) := Int.mul_le_mul_of_nonneg_left (by first | with_reducible assumption | with_reducible exact Int.natCast_nonneg _ | with_reducible exact Int.le_of_lt (by assumption) | omega) (by first | with_reducible assumption | with_reducible exact Int.natCast_nonneg _ | with_reducible exact Int.le_of_lt (by assumption) | omega)
      omega) (by first | with_reducible assumption | with_reducible exact Int.natCast_nonneg _ | with_reducible exact Int.le_of_lt (by assumption) | omega)
    have e1 : (M + s) * (P * (1 - 2 * M)) = M * (P * (1 - 2 * M)) + s * (P * (1 - 2 * M)) := by grind
    have e2 : M * (P * (1 - 2 * M) + 1) = M * (P * (1 - 2 * M)) + M := by grind
    have e3 : M * (2 * y) = M * y * 2 := by grind
    rw [e1] at k1
    rw [e2, e3] at k2
    generalize M * y * 2 = v at *
    generalize M * (P * (1 - 2 * M)) = u at *
    generalize s * (P * (1 - 2 * M)) = t at *
    generalize (M + s) * d = q at *
    omega
theorem ys_pos {M x : Int} (hM : 0 < M) (hx : 0 < x) (R : Nat) : 0 < M + dn (ys M x R) (2 ^ R) := by
  have ih := ys_low hM hx R
  have hP := two_pos R
  have hd := (dn_spec (a := ys M x R) hP).2.1
  apply Int.not_le.mp; intro h
  have : (2 : Int) ^ R * dn (ys M x R) (2 ^ R) ≤ 2 ^ R * (-M) := Int.mul_le_mul_of_nonneg_left (by first | with_reducible assumption | with_reducible exact Int.natCast_nonneg _ | with_reducible exact Int.le_of_lt (by assumption) | omega) (by first | with_reducible assumption | with_reducible exact Int.natCast_nonneg _ | with_reducible exact Int.le_of_lt (by assumption) | omega)
  have e : (2 : Int) ^ R * (1 - 2 * M) = 2 ^ R + 2 * (2 ^ R * (-M)) := by grind
  rw [e] at ih
  generalize (2 : Int) ^ R * (-M) = u at *
  generalize (2 : Int) ^ R * dn (ys M x R) (2 ^ R) = v at *
  omega

set_option linter.unusedVariables false
theorem rt_ge {n m : Int} (hm : 0 < m) (h : m * m ≤ n) : m ≤ rt n := by
  have hn : 0 < n := Int.lt_of_lt_of_le (Int.mul_pos hm hm) h
  have r := rt_spec hn
  apply Int.not_lt.mp; intro hl
  have : rt n * (rt n + 1) ≤ (m - 1) * m := Int.mul_le_mul (by first | with_reducible assumption | with_reducible exact Int.natCast_nonneg _ | with_reducible exact Int.le_of_lt (by assumption) | omega) (by first | with_reducible assumption | with_reducible exact Int.natCast_nonneg _ | with_reducible exact Int.le_of_lt (by assumption) | omega) (by have := r.pos; omega) (by first | with_reducible assumption | with_reducible exact Int.natCast_nonneg _ | with_reducible exact Int.le_of_lt (by assumption) | omega)
  have h2 := r.hi
  have e : (m - 1) * m = m * m - m := by rw [Int.sub_mul, Int.one_mul]
  omega
theorem ys_up {M x : Int} (hM : 0 < M) (hx : M ≤ x) : ∀ R : Nat, 0 ≤ ys M x R ∧ ys M x R ≤ x - M
  | 0 => ⟨by show 0 ≤ x - M; omega, Int.le_refl _⟩
  | R + 1 => by
    obtain ⟨i1, i2⟩ := ys_up hM hx R
    have hP := two_pos R
    have hd0 : 0 ≤ dn (ys M x R) (2 ^ R) := by
      have h1 := (dn_spec (a := ys M x R) hP).2.1
      apply Int.not_lt.mp; intro h
      have : (2 : Int) ^ R * dn (ys M x R) (2 ^ R) ≤ 2 ^ R * (-1) := Int.mul_le_mul_of_nonneg_left (by first | with_reducible assumption | with_reducible exact Int.natCast_nonneg _ | with_reducible exact Int.le_of_lt (by assumption) | omega) (by first | with_reducible assumption | with_reducible exact Int.natCast_nonneg _ | with_reducible exact Int.le_of_lt (by assumption) | omega)
      omega
    have hs : M ≤ rt (M * (M + dn (ys M x R) (2 ^ R))) := rt_ge hM (Int.mul_le_mul_of_nonneg_left (by first | with_reducible assumption | with_reducible exact Int.natCast_nonneg _ | with_reducible exact Int.le_of_lt (by assumption) | omega) (by first | with_reducible assumption | with_reducible exact Int.natCast_nonneg _ | with_reducible exact Int.le_of_lt (by assumption) | omega))
    show 0 ≤ dn (M * ys M x R * 2) (M + rt (M * (M + dn (ys M x R) (2 ^ R)))) ∧ dn (M * ys M x R * 2) (M + rt (M * (M + dn (ys M x R) (2 ^ R)))) ≤ x - M
    generalize rt (M * (M + dn (ys M x R) (2 ^ R))) = s at *
    generalize ys M x R = y at *
    obtain ⟨h1, h2, h3, h4⟩ := dn_spec (a := M * y * 2) (b := M + s) (by first | with_reducible assumption | with_reducible exact Int.natCast_nonneg _ | with_reducible exact Int.le_of_lt (by assumption) | omega)
    have hMy : 0 ≤ M * y * 2 := Int.mul_nonneg (Int.mul_nonneg (by first | with_reducible assumption | with_reducible exact Int.natCast_nonneg _ | with_reducible exact Int.le_of_lt (by assumption) | omega) i1) (by decide)
    have hle : M * y * 2 ≤ (M + s) * y := by
      have : (M + M) * y ≤ (M + s) * y := Int.mul_le_mul_of_nonneg_right (by first | with_reducible assumption | with_reducible exact Int.natCast_nonneg _ | with_reducible exact Int.le_of_lt (by assumption) | omega) i1
      have e : M * y * 2 = (M + M) * y := by grind
      omega
    generalize dn (M * y * 2) (M + s) = d at *
    constructor
    · apply Int.not_lt.mp; intro h
      have : (M + s) * d ≤ (M + s) * (-1) := Int.mul_le_mul_of_nonneg_left (by first | with_reducible assumption | with_reducible exact Int.natCast_nonneg _ | with_reducible exact Int.le_of_lt (by assumption) | omega) (by first | with_reducible assumption | with_reducible exact Int.natCast_nonneg _ | with_reducible exact Int.le_of_lt (by assumption) | omega)
      omega
    · refine Int.le_trans ?_ i2
      apply Int.not_lt.mp; intro h
      have : (M + s) * (y + 1) ≤ (M + s) * d := Int.mul_le_mul_of_nonneg_left (by first | with_reducible assumption | with_reducible exact Int.natCast_nonneg _ | with_reducible exact Int.le_of_lt (by assumption) | omega) (by first | with_reducible assumption | with_reducible exact Int.natCast_nonneg _ | with_reducible exact Int.le_of_lt (by assumption) | omega)
      rw [Int.mul_add, Int.mul_one] at this
      generalize (M + s) * y = u at *
      generalize (M + s) * d = v at *
      omega

theorem dn_nonpos {a b : Int} (hb : 0 < b) (h : a ≤ 0) : dn a b ≤ 0 := by
  obtain ⟨h1, h2, _, _⟩ := dn_spec (a := a) hb
  apply Int.not_lt.mp; intro hd
  have : b * 1 ≤ b * dn a b := Int.mul_le_mul_of_nonneg_left (by first | with_reducible assumption | with_reducible exact Int.natCast_nonneg _ | with_reducible exact Int.le_of_lt (by assumption) | omega) (by first | with_reducible assumption | with_reducible exact Int.natCast_nonneg _ | with_reducible exact Int.le_of_lt (by assumption) | omega)
  omega
theorem ys_down {M x : Int} (hM : 0 < M) (hx0 : 0 < x) (hx : x ≤ M) : ∀ R : Nat, ys M x R ≤ 0
  | 0 => by show x - M ≤ 0; omega
  | R + 1 => by
    have i := ys_down hM hx0 hx R
    have hs := (rt_spec (Int.mul_pos hM (ys_pos hM hx0 R))).pos
    show dn (M * ys M x R * 2) (M + rt (M * (M + dn (ys M x R) (2 ^ R)))) ≤ 0
    refine dn_nonpos (by first | with_reducible assumption | with_reducible exact Int.natCast_nonneg _ | with_reducible exact Int.le_of_lt (by assumption) | omega) ?_
    have := Int.mul_nonpos_of_nonneg_of_nonpos (Int.le_of_lt hM) i
    omega
set_option maxHeartbeats 1000000
set_option linter.unusedVariables false
set_option linter.unusedSimpArgs false
noncomputable def Lam (N : Nat) (M y : Int) (R : Nat) : Rat := ((2 ^ R * M : Int) : Rat) * lgI N (2 ^ R * M + y) (2 ^ R * M)
theorem ys_A {M x : Int} (hM : 0 < M) (hx : 0 < x) (R : Nat) : 0 < 2 ^ R * M + ys M x R := by
  have h := ys_low hM hx R
  have hP := two_pos R
  have e : (2 : Int) ^ R * (1 - 2 * M) = 2 ^ R - 2 * (2 ^ R * M) := by grind
  omega
theorem step_Lam {N : Nat} {M x : Int} {R : Nat} {h c : Rat} (hN : 0 < N) (hM : 0 < M) (hx : 0 < x) (hh0 : 0 ≤ h) (hh : (1 / 2 : Rat) ≤ h ∨ R = 0) (hc0 : 0 ≤ c)
    (hc : 4 * ((ys M x R).natAbs : Rat) * ((2 ^ R * M : Int) : Rat) * (((rt (M * (M + dn (ys M x R) (2 ^ R))) : Int) : Rat) + h * M) / (((M : Rat) + ((rt (M * (M + dn (ys M x R) (2 ^ R))) : Int) : Rat)) * ((M : Rat) + ((rt (M * (M + dn (ys M x R) (2 ^ R))) : Int) : Rat))) + (1 / 2) * (4 * ((2 ^ R * M : Int) : Rat) + 2 * (2 * M * ((ys M x R : Int) : Rat) / ((M : Rat) + ((rt (M * (M + dn (ys M x R) (2 ^ R))) : Int) : Rat))) + 1 / 2) ≤ 4 * (((2 ^ R * M : Int) : Rat) + ((ys M x R : Int) : Rat)) * c)
    (hcD : 2 * c ≤ ((2 ^ R * M : Int) : Rat)) :
    Lam N M (ys M x (R + 1)) (R + 1) - Lam N M (ys M x R) R ≤ c + 3 * ((2 ^ R * M : Int) : Rat) / (N : Rat) ∧ -(c + 2 * c * c / ((2 ^ R * M : Int) : Rat) + 3 * ((2 ^ R * M : Int) : Rat) / (N : Rat)) ≤ Lam N M (ys M x (R + 1)) (R + 1) - Lam N M (ys M x R) R := by
  have hA := ys_A hM hx R
  have hP := two_pos R
  have hD : 0 < 2 ^ R * M := Int.mul_pos hP hM
  obtain ⟨g0, g1, g2, g3⟩ := step_G (R := R) (h := h) hM hA (ys_pos hM hx R) hh0 hh
  have ey : ys M x (R + 1) = dn (M * ys M x R * 2) (M + rt (M * (M + dn (ys M x R) (2 ^ R)))) := rfl
  rw [← ey] at g1 g2 g3
  have e2 : (2 : Int) ^ (R + 1) * M = 2 * (2 ^ R * M) := by rw [Int.pow_succ]; grind
  have hA' : 0 < 2 * (2 ^ R * M) + ys M x (R + 1) := by
    have c1 : ((2 * (2 ^ R * M) + ys M x (R + 1) : Int) : Rat) = 2 * ((2 ^ R * M : Int) : Rat) + ((ys M x (R + 1) : Int) : Rat) := by first | exact Rat.intCast_add .. | exact Rat.intCast_sub .. | exact Rat.intCast_mul .. | exact Rat.intCast_neg .. | exact_mod_cast rfl
    have : ((0 : Int) : Rat) < ((2 * (2 ^ R * M) + ys M x (R + 1) : Int) : Rat) := by
      rw [c1]
      have z : ((0 : Int) : Rat) = 0 := by first | exact Rat.intCast_add .. | exact Rat.intCast_sub .. | exact Rat.intCast_mul .. | exact Rat.intCast_neg .. | exact_mod_cast rfl
      rw [z]; exact g1
    exact Rat.intCast_lt_intCast.mp this
  obtain ⟨l1, l2⟩ := lg_halve hN hA hD hA'
  have hAA := Int.mul_pos hA' hA'
  have h4 : 0 < 4 * (2 ^ R * M) * (2 ^ R * M + ys M x R) := Int.mul_pos (by first | with_reducible assumption | with_reducible exact Int.natCast_nonneg _ | with_reducible exact Int.le_of_lt (by assumption) | omega) hA
  obtain ⟨m1, m2⟩ := lgI_lin hN hAA h4
  unfold Lam
  rw [e2]
  have c2 : ((2 * (2 ^ R * M) : Int) : Rat) = 2 * ((2 ^ R * M : Int) : Rat) := by first | exact Rat.intCast_add .. | exact Rat.intCast_sub .. | exact Rat.intCast_mul .. | exact Rat.intCast_neg .. | exact_mod_cast rfl
  have c3 : (((2 * (2 ^ R * M) + ys M x (R + 1)) * (2 * (2 ^ R * M) + ys M x (R + 1)) : Int) : Rat) = (2 * ((2 ^ R * M : Int) : Rat) + ((ys M x (R + 1) : Int) : Rat)) * (2 * ((2 ^ R * M : Int) : Rat) + ((ys M x (R + 1) : Int) : Rat)) := by first | exact Rat.intCast_add .. | exact Rat.intCast_sub .. | exact Rat.intCast_mul .. | exact Rat.intCast_neg .. | exact_mod_cast rfl
  have c4 : ((4 * (2 ^ R * M) * (2 ^ R * M + ys M x R) : Int) : Rat) = 4 * ((2 ^ R * M : Int) : Rat) * (((2 ^ R * M : Int) : Rat) + ((ys M x R : Int) : Rat)) := by first | exact Rat.intCast_add .. | exact Rat.intCast_sub .. | exact Rat.intCast_mul .. | exact Rat.intCast_neg .. | exact_mod_cast rfl
  have c5 := int_pos hA
  have c6 : ((2 ^ R * M + ys M x R : Int) : Rat) = ((2 ^ R * M : Int) : Rat) + ((ys M x R : Int) : Rat) := by first | exact Rat.intCast_add .. | exact Rat.intCast_sub .. | exact Rat.intCast_mul .. | exact Rat.intCast_neg .. | exact_mod_cast rfl
  rw [c6] at c5
  have hDr := int_pos hD
  rw [c2]
  rw [c3, c4] at m1 m2
  generalize lgI N (2 * (2 ^ R * M) + ys M x (R + 1)) (2 * (2 ^ R * M)) = la' at *
  generalize lgI N (2 ^ R * M + ys M x R) (2 ^ R * M) = la at *
  generalize lgI N ((2 * (2 ^ R * M) + ys M x (R + 1)) * (2 * (2 ^ R * M) + ys M x (R + 1))) (4 * (2 ^ R * M) * (2 ^ R * M + ys M x R)) = lq at *
  have hU := Rat.le_trans g2 hc
  have hU' : -(4 * (((2 ^ R * M : Int) : Rat) + ((ys M x R : Int) : Rat)) * c) ≤ (2 * ((2 ^ R * M : Int) : Rat) + ((ys M x (R + 1) : Int) : Rat)) * (2 * ((2 ^ R * M : Int) : Rat) + ((ys M x (R + 1) : Int) : Rat)) - 4 * ((2 ^ R * M : Int) : Rat) * (((2 ^ R * M : Int) : Rat) + ((ys M x R : Int) : Rat)) := by grind
  clear g2 g3 hc
  have hSq := Rat.mul_pos g1 g1
  generalize (2 * ((2 ^ R * M : Int) : Rat) + ((ys M x (R + 1) : Int) : Rat)) * (2 * ((2 ^ R * M : Int) : Rat) + ((ys M x (R + 1) : Int) : Rat)) = Q at *
  generalize ((2 ^ R * M : Int) : Rat) + ((ys M x R : Int) : Rat) = A at *
  generalize ((2 ^ R * M : Int) : Rat) = D at *
  have hN0 : (0 : Rat) < 1 / N := q_div_pos (by grind) (nat_pos hN)
  have e3 : (3 : Rat) / N = 3 * (1 / N) := by grind
  have e3D : 3 * D / (N : Rat) = 3 * (D * (1 / N)) := by grind
  rw [e3] at l1 l2
  rw [e3D]
  generalize (1 : Rat) / N = e at *
  have hDA := Rat.mul_pos hDr c5
  -- from above
  have u1 : D * lq ≤ c := by
    have k : (Q - 4 * D * A) / (4 * D * A) ≤ c / D := by
      refine q_div_le (by grind) ?_
      have : c / D * (4 * D * A) = 4 * A * c := by grind
      grind
    have := q_mul_le' (Rat.le_trans m2 k) (show 0 ≤ D by first | with_reducible assumption | with_reducible exact Rat.le_of_lt (by assumption) | with_reducible exact nn6 (by assumption) | with_reducible exact nn1 (by assumption) | with_reducible exact nn2 (by assumption) | grind)
    have e5 : D * (c / D) = c := by grind
    grind
  -- from below
  have u2 : -(c + 2 * c * c / D) ≤ D * lq := by
    have hq1 : 4 * A * (D - c) ≤ Q := by grind
    have hDc : 0 < D - c := by grind
    have k : -(c / (D - c)) ≤ (Q - 4 * D * A) / Q := by
      refine q_le_div hSq ?_
      have hcc : 0 ≤ c / (D - c) := q_div_nn hc0 hDc
      have h7 := q_mul_le' hq1 hcc
      have e6 : c / (D - c) * (4 * A * (D - c)) = 4 * A * c := by
        have : D - c ≠ 0 := by grind
        grind
      grind
    have h8 := q_mul_le' (Rat.le_trans k m1) (show 0 ≤ D by first | with_reducible assumption | with_reducible exact Rat.le_of_lt (by assumption) | with_reducible exact nn6 (by assumption) | with_reducible exact nn1 (by assumption) | with_reducible exact nn2 (by assumption) | grind)
    have h9 : D * (c / (D - c)) ≤ c + 2 * c * c / D := by
      have e7 : D * (c / (D - c)) = D * c / (D - c) := by grind
      rw [e7]
      refine q_div_le hDc ?_
      have e8 : (c + 2 * c * c / D) * (D - c) = c * D + c * c - 2 * c * c * (c / D) := by grind
      rw [e8]
      have h10 : c / D ≤ 1 / 2 := q_div_le hDr (by grind)
      have h11 := q_mul_le' h10 (show 0 ≤ 2 * c * c by have := q_mul_nn hc0 hc0; grind)
      grind
    grind
  have w1 := q_mul_le' l1 (show 0 ≤ D by first | with_reducible assumption | with_reducible exact Rat.le_of_lt (by assumption) | with_reducible exact nn6 (by assumption) | with_reducible exact nn1 (by assumption) | with_reducible exact nn2 (by assumption) | grind)
  have w2 := q_mul_le' l2 (show 0 ≤ D by first | with_reducible assumption | with_reducible exact Rat.le_of_lt (by assumption) | with_reducible exact nn6 (by assumption) | with_reducible exact nn1 (by assumption) | with_reducible exact nn2 (by assumption) | grind)
  constructor <;> grind
theorem Qs_abs' {t τ : Rat} (h0 : 0 ≤ τ) (h1 : τ < 1) (ht : t ≤ τ) (ht' : -τ ≤ t) : ∀ (n k : Nat), 0 < k → Qs t k n ≤ 1 / (k : Rat) * (1 / (1 - τ)) ∧ -(1 / (k : Rat) * (1 / (1 - τ))) ≤ Qs t k n
  | 0, k, hk => by
    have h2 : (0 : Rat) ≤ 1 / (k : Rat) * (1 / (1 - τ)) := q_mul_nn (q_div_nn (by grind) (nat_pos hk)) (q_div_nn (by grind) (by grind))
    show (0 : Rat) ≤ _ ∧ _ ≤ (0 : Rat)
    constructor <;> grind
  | n + 1, k, hk => by
    obtain ⟨i1, i2⟩ := Qs_abs' h0 h1 ht ht' n (k + 1) (by first | with_reducible assumption | with_reducible exact Int.natCast_nonneg _ | with_reducible exact Int.le_of_lt (by assumption) | omega)
    show 1 / (k : Rat) - t * Qs t (k + 1) n ≤ _ ∧ _ ≤ 1 / (k : Rat) - t * Qs t (k + 1) n
    have hkp := nat_pos hk
    have ek : ((k + 1 : Nat) : Rat) = (k : Rat) + 1 := by grind
    have hk1 : 1 / ((k + 1 : Nat) : Rat) ≤ 1 / (k : Rat) := by
      rw [ek]
      refine q_div_le (by grind) ?_
      have : 1 / (k : Rat) * ((k : Rat) + 1) = 1 + 1 / (k : Rat) := by grind
      have := q_div_nn (show (0 : Rat) ≤ 1 by decide +kernel) hkp
      grind
    have hk0 : 0 ≤ 1 / (k : Rat) := q_div_nn (by grind) hkp
    have hE : (0 : Rat) < 1 / (1 - τ) := q_div_pos (by grind) (by grind)
    have m := q_mul_le hk1 (show 0 ≤ 1 / (1 - τ) by grind)
    have eE : 1 + τ * (1 / (1 - τ)) = 1 / (1 - τ) := by
      have : 1 - τ ≠ 0 := by grind
      grind
    generalize Qs t (k + 1) n = Q at *
    generalize 1 / (1 - τ) = E at *
    generalize 1 / ((k + 1 : Nat) : Rat) = K1 at *
    generalize 1 / (k : Rat) = K0 at *
    have q1 : Q ≤ K0 * E := by grind
    have q2 : -(K0 * E) ≤ Q := by grind
    have hKE := q_mul_nn hk0 (show 0 ≤ E by first | with_reducible assumption | with_reducible exact Rat.le_of_lt (by assumption) | with_reducible exact nn6 (by assumption) | with_reducible exact nn1 (by assumption) | with_reducible exact nn2 (by assumption) | grind)
    generalize hz : K0 * E = Z at *
    have b : t * Q ≤ τ * Z ∧ -(τ * Z) ≤ t * Q := abs_mul (by first | assumption | grind) (by first | assumption | grind) (by first | assumption | grind) (by first | assumption | grind)
    have eZ : K0 + τ * Z = Z := by
      rw [← hz]
      have : K0 + τ * (K0 * E) = K0 * (1 + τ * E) := by grind
      rw [this, eE]
    constructor <;> grind
theorem Qs_lip {t t' τ δ : Rat} (h0 : 0 ≤ τ) (h1 : τ < 1) (ht : t ≤ τ) (ht' : -τ ≤ t) (hu : t' ≤ τ) (hu' : -τ ≤ t') (hδ0 : 0 ≤ δ) (hδ : t - t' ≤ δ) (hδ' : -δ ≤ t - t') : ∀ (n k : Nat), 0 < k →
    Qs t k n - Qs t' k n ≤ δ * (1 / ((k : Rat) + 1) * (1 / ((1 - τ) * (1 - τ)))) ∧ -(δ * (1 / ((k : Rat) + 1) * (1 / ((1 - τ) * (1 - τ))))) ≤ Qs t k n - Qs t' k n
  | 0, k, hk => by
    have hkp := nat_pos hk
    have h2 : (0 : Rat) ≤ δ * (1 / ((k : Rat) + 1) * (1 / ((1 - τ) * (1 - τ)))) := q_mul_nn hδ0 (q_mul_nn (q_div_nn (by grind) (by grind)) (q_div_nn (by grind) (Rat.mul_pos (by grind) (by grind))))
    show (0 : Rat) - 0 ≤ _ ∧ _ ≤ (0 : Rat) - 0
    constructor <;> grind
  | n + 1, k, hk => by
    obtain ⟨i1, i2⟩ := Qs_lip h0 h1 ht ht' hu hu' hδ0 hδ hδ' n (k + 1) (by first | with_reducible assumption | with_reducible exact Int.natCast_nonneg _ | with_reducible exact Int.le_of_lt (by assumption) | omega)
    obtain ⟨a1, a2⟩ := Qs_abs' h0 h1 ht ht' n (k + 1) (by first | with_reducible assumption | with_reducible exact Int.natCast_nonneg _ | with_reducible exact Int.le_of_lt (by assumption) | omega)
    show 1 / (k : Rat) - t * Qs t (k + 1) n - (1 / (k : Rat) - t' * Qs t' (k + 1) n) ≤ _ ∧ _ ≤ 1 / (k : Rat) - t * Qs t (k + 1) n - (1 / (k : Rat) - t' * Qs t' (k + 1) n)
    have hkp := nat_pos hk
    have ek : ((k + 1 : Nat) : Rat) = (k : Rat) + 1 := by grind
    rw [ek] at i1 i2 a1 a2
    have hk2 : 1 / ((k : Rat) + 1 + 1) ≤ 1 / ((k : Rat) + 1) := by
      refine q_div_le (by grind) ?_
      have : 1 / ((k : Rat) + 1) * ((k : Rat) + 1 + 1) = 1 + 1 / ((k : Rat) + 1) := by
        have : (k : Rat) + 1 ≠ 0 := by grind
        grind
      have := q_div_nn (show (0 : Rat) ≤ 1 by decide +kernel) (show (0 : Rat) < (k : Rat) + 1 by grind)
      grind
    have hk0 : 0 ≤ 1 / ((k : Rat) + 1) := q_div_nn (by grind) (by grind)
    have hF0 : (0 : Rat) < 1 / ((1 - τ) * (1 - τ)) := q_div_pos (by grind) (Rat.mul_pos (by grind) (by grind))
    have eF : 1 / (1 - τ) + τ * (1 / ((1 - τ) * (1 - τ))) = 1 / ((1 - τ) * (1 - τ)) := by
      have : 1 - τ ≠ 0 := by grind
      grind
    generalize 1 / ((1 - τ) * (1 - τ)) = F at *
    generalize 1 / (1 - τ) = E at *
    generalize 1 / ((k : Rat) + 1 + 1) = K2 at *
    generalize 1 / ((k : Rat) + 1) = K1 at *
    generalize Qs t (k + 1) n = Q at *
    generalize Qs t' (k + 1) n = Q' at *
    have hm := q_mul_le' (q_mul_le hk2 (show 0 ≤ F by first | with_reducible assumption | with_reducible exact Rat.le_of_lt (by assumption) | with_reducible exact nn6 (by assumption) | with_reducible exact nn1 (by assumption) | with_reducible exact nn2 (by assumption) | grind)) hδ0
    have d1 : Q - Q' ≤ δ * (K1 * F) := by grind
    have d2 : -(δ * (K1 * F)) ≤ Q - Q' := by grind
    have hZ := q_mul_nn hδ0 (q_mul_nn hk0 (show 0 ≤ F by first | with_reducible assumption | with_reducible exact Rat.le_of_lt (by assumption) | with_reducible exact nn6 (by assumption) | with_reducible exact nn1 (by assumption) | with_reducible exact nn2 (by assumption) | grind))
    have b1 : (t - t') * Q ≤ δ * (K1 * E) ∧ -(δ * (K1 * E)) ≤ (t - t') * Q := abs_mul (by first | assumption | grind) (by first | assumption | grind) (by first | assumption | grind) (by first | assumption | grind)
    have b2 : t' * (Q - Q') ≤ τ * (δ * (K1 * F)) ∧ -(τ * (δ * (K1 * F))) ≤ t' * (Q - Q') := abs_mul (by first | assumption | grind) (by first | assumption | grind) (by first | assumption | grind) (by first | assumption | grind)
    have eS : δ * (K1 * E) + τ * (δ * (K1 * F)) = δ * (K1 * F) := by
      have : δ * (K1 * E) + τ * (δ * (K1 * F)) = δ * (K1 * (E + τ * F)) := by grind
      rw [this, eF]
    have ex : 1 / (k : Rat) - t * Q - (1 / (k : Rat) - t' * Q') = -((t - t') * Q) - t' * (Q - Q') := by grind
    rw [ex]
    constructor <;> grind
theorem ser_Lam {N T R : Nat} {M y : Int} {τ : Rat} (hN : 0 < N) (hT : 0 < T) (hM : 0 < M) (h0 : 0 ≤ τ) (h1 : τ < 1) (hy2 : 2 * (y.natAbs : Int) ≤ 2 ^ R * M)
    (hu : ((dn y (2 ^ R) : Int) : Rat) / M ≤ τ) (hu' : -τ ≤ ((dn y (2 ^ R) : Int) : Rat) / M) (ht : (y.natAbs : Rat) / ((2 ^ R * M : Int) : Rat) ≤ τ) (hp : (M : Rat) * ((y.natAbs : Rat) / ((2 ^ R * M : Int) : Rat)) ^ T ≤ 1) :
    ((hw M (dn y (2 ^ R)) T (T - 1) : Int) : Rat) * (y : Rat) / M - Lam N M y R ≤ (y.natAbs : Rat) / M * (1 / 2 + τ / (1 - τ) + 1 / 4 * (1 / ((1 - τ) * (1 - τ))) + 1 / (((T : Rat) + 1) * (1 - τ))) + 4 * ((2 ^ R * M : Int) : Rat) / (N : Rat) ∧
    -((y.natAbs : Rat) / M * (1 / 2 + τ / (1 - τ) + 1 / 4 * (1 / ((1 - τ) * (1 - τ))) + 1 / (((T : Rat) + 1) * (1 - τ))) + 4 * ((2 ^ R * M : Int) : Rat) / (N : Rat)) ≤ ((hw M (dn y (2 ^ R)) T (T - 1) : Int) : Rat) * (y : Rat) / M - Lam N M y R := by
  have hP := two_pos R
  have hD : 0 < 2 ^ R * M := Int.mul_pos hP hM
  have hMp := int_pos hM
  have hDp := int_pos hD
  have hPp := int_pos hP
  obtain ⟨t1, t2⟩ := taylor hN hD hy2 T
  obtain ⟨w1, w2⟩ := hw_last (T := T) hM hT h0 h1 hu hu'
  obtain ⟨v1, v2⟩ := dn_q (a := y) hP
  have cD : ((2 ^ R * M : Int) : Rat) = (((2 : Int) ^ R : Int) : Rat) * M := by first | exact Rat.intCast_add .. | exact Rat.intCast_sub .. | exact Rat.intCast_mul .. | exact Rat.intCast_neg .. | exact_mod_cast rfl
  have hya : (y : Rat) ≤ (y.natAbs : Rat) ∧ -(y.natAbs : Rat) ≤ (y : Rat) := by
    have h1 := int_le (show y ≤ (y.natAbs : Int) by omega)
    have h2 := int_le (show -(y.natAbs : Int) ≤ y by omega)
    have c : ((-(y.natAbs : Int) : Int) : Rat) = -(y.natAbs : Rat) := by first | exact Rat.intCast_add .. | exact Rat.intCast_sub .. | exact Rat.intCast_mul .. | exact Rat.intCast_neg .. | exact_mod_cast rfl
    rw [c] at h2
    exact ⟨h1, h2⟩
  have hn0 : (0 : Rat) ≤ (y.natAbs : Rat) := by grind
  have yt1 : (y : Rat) / ((2 ^ R * M : Int) : Rat) ≤ τ := by
    refine Rat.le_trans (q_div_le hDp ?_) ht
    have : (y.natAbs : Rat) / ((2 ^ R * M : Int) : Rat) * ((2 ^ R * M : Int) : Rat) = (y.natAbs : Rat) := by grind
    grind
  have yt2 : -τ ≤ (y : Rat) / ((2 ^ R * M : Int) : Rat) := by
    refine Rat.le_trans (show -τ ≤ -((y.natAbs : Rat) / ((2 ^ R * M : Int) : Rat)) by grind) (q_le_div hDp ?_)
    have : -((y.natAbs : Rat) / ((2 ^ R * M : Int) : Rat)) * ((2 ^ R * M : Int) : Rat) = -(y.natAbs : Rat) := by grind
    grind
  have τn : (0 : Rat) ≤ (y.natAbs : Rat) / ((2 ^ R * M : Int) : Rat) := q_div_nn hn0 hDp
  -- the two places
  have ed : ((dn y (2 ^ R) : Int) : Rat) / M - (y : Rat) / ((2 ^ R * M : Int) : Rat) = -(((y : Rat) / (((2 : Int) ^ R : Int) : Rat) - ((dn y (2 ^ R) : Int) : Rat)) / M) := by
    rw [cD]
    have : (((2 : Int) ^ R : Int) : Rat) ≠ 0 := by grind
    grind
  have hδ : ((dn y (2 ^ R) : Int) : Rat) / M - (y : Rat) / ((2 ^ R * M : Int) : Rat) ≤ 1 / 2 / M ∧ -(1 / 2 / M) ≤ ((dn y (2 ^ R) : Int) : Rat) / M - (y : Rat) / ((2 ^ R * M : Int) : Rat) := by
    rw [ed]
    have ea : 1 / 2 / (M : Rat) * M = 1 / 2 := by grind
    have eb : -(1 / 2 / (M : Rat)) * M = -(1 / 2) := by grind
    have k1 := q_div_le (a := (y : Rat) / (((2 : Int) ^ R : Int) : Rat) - ((dn y (2 ^ R) : Int) : Rat)) (c := 1 / 2 / M) hMp (by rw [ea]; exact v1)
    have k2 := q_le_div (a := (y : Rat) / (((2 : Int) ^ R : Int) : Rat) - ((dn y (2 ^ R) : Int) : Rat)) (c := -(1 / 2 / M)) hMp (by rw [eb]; exact v2)
    constructor <;> grind
  obtain ⟨q1, q2⟩ := Qs_lip h0 h1 hu hu' yt1 yt2 (q_div_nn (by grind) hMp) hδ.1 hδ.2 T 1 (by decide)
  have e11 : ((1 : Nat) : Rat) + 1 = 2 := by grind
  rw [e11] at q1 q2
  have qo := Qs_one ((y : Rat) / ((2 ^ R * M : Int) : Rat)) T
  have hTr : (0 : Rat) ≤ (T : Rat) := by grind
  -- the tail
  have tb : ((2 ^ R * M : Int) : Rat) * tl T ((y.natAbs : Rat) / ((2 ^ R * M : Int) : Rat)) ≤ (y.natAbs : Rat) / M * (1 / (((T : Rat) + 1) * (1 - τ))) := by
    have e1 : ((2 ^ R * M : Int) : Rat) * tl T ((y.natAbs : Rat) / ((2 ^ R * M : Int) : Rat)) = (y.natAbs : Rat) / M * ((M : Rat) * ((y.natAbs : Rat) / ((2 ^ R * M : Int) : Rat)) ^ T * (1 / (((T : Rat) + 1) * (1 - (y.natAbs : Rat) / ((2 ^ R * M : Int) : Rat))))) := by
      unfold tl
      rw [Rat.pow_succ]
      generalize hX : ((y.natAbs : Rat) / ((2 ^ R * M : Int) : Rat)) ^ T = X at *
      have hden : ((T : Rat) + 1) * (1 - (y.natAbs : Rat) / ((2 ^ R * M : Int) : Rat)) ≠ 0 := by
        have := Rat.mul_pos (show (0 : Rat) < (T : Rat) + 1 by grind) (show 0 < 1 - (y.natAbs : Rat) / ((2 ^ R * M : Int) : Rat) by grind)
        grind
      generalize ((T : Rat) + 1) * (1 - (y.natAbs : Rat) / ((2 ^ R * M : Int) : Rat)) = W at *
      have hDn : ((2 ^ R * M : Int) : Rat) ≠ 0 := by grind
      have hMn : (M : Rat) ≠ 0 := by grind
      generalize ((2 ^ R * M : Int) : Rat) = D at *
      clear t1 t2 w1 w2 v1 v2 q1 q2 qo hδ ed yt1 yt2 hp cD
      grind
    rw [e1]
    have hW : (0 : Rat) < ((T : Rat) + 1) * (1 - τ) := Rat.mul_pos (by grind) (by grind)
    have k : 1 / (((T : Rat) + 1) * (1 - (y.natAbs : Rat) / ((2 ^ R * M : Int) : Rat))) ≤ 1 / (((T : Rat) + 1) * (1 - τ)) := by
      have hle : ((T : Rat) + 1) * (1 - τ) ≤ ((T : Rat) + 1) * (1 - (y.natAbs : Rat) / ((2 ^ R * M : Int) : Rat)) := q_mul_le' (by grind) (by grind)
      refine q_div_le (by grind) ?_
      have : 1 / (((T : Rat) + 1) * (1 - τ)) * (((T : Rat) + 1) * (1 - (y.natAbs : Rat) / ((2 ^ R * M : Int) : Rat))) = (((T : Rat) + 1) * (1 - (y.natAbs : Rat) / ((2 ^ R * M : Int) : Rat))) / (((T : Rat) + 1) * (1 - τ)) := by grind
      rw [this]
      exact q_le_div hW (by grind)
    have hk0 : 0 ≤ 1 / (((T : Rat) + 1) * (1 - (y.natAbs : Rat) / ((2 ^ R * M : Int) : Rat))) := q_div_nn (by grind) (Rat.mul_pos (by grind) (by grind))
    have hpn : 0 ≤ (M : Rat) * ((y.natAbs : Rat) / ((2 ^ R * M : Int) : Rat)) ^ T := q_mul_nn (by grind) (q_pow_nn τn T)
    have s1 := q_mul_le hp hk0
    have s2 := q_mul_le' (Rat.le_trans s1 (show 1 * (1 / (((T : Rat) + 1) * (1 - (y.natAbs : Rat) / ((2 ^ R * M : Int) : Rat)))) ≤ 1 / (((T : Rat) + 1) * (1 - τ)) by grind)) (show 0 ≤ (y.natAbs : Rat) / M from q_div_nn hn0 hMp)
    exact s2
  have e4 : 4 * ((2 ^ R * M : Int) : Rat) / (N : Rat) = ((2 ^ R * M : Int) : Rat) * (4 / N) := by grind
  rw [e4]
  have hm1 := q_mul_le' t1 (show 0 ≤ ((2 ^ R * M : Int) : Rat) by grind)
  have hm2 := q_mul_le' t2 (show 0 ≤ ((2 ^ R * M : Int) : Rat) by grind)
  unfold Lam
  -- y Q(t) = D t Q(t)
  have eyQ : (y : Rat) * Qs ((y : Rat) / ((2 ^ R * M : Int) : Rat)) 1 T = -(((2 ^ R * M : Int) : Rat) * Pw T (-((y : Rat) / ((2 ^ R * M : Int) : Rat)))) := by
    have : (y : Rat) = ((2 ^ R * M : Int) : Rat) * ((y : Rat) / ((2 ^ R * M : Int) : Rat)) := by grind
    calc (y : Rat) * Qs ((y : Rat) / ((2 ^ R * M : Int) : Rat)) 1 T = ((2 ^ R * M : Int) : Rat) * (((y : Rat) / ((2 ^ R * M : Int) : Rat)) * Qs ((y : Rat) / ((2 ^ R * M : Int) : Rat)) 1 T) := by grind
      _ = _ := by rw [qo]; grind
  have hB : (0 : Rat) ≤ 1 / ((1 - τ) * (1 - τ)) := q_div_nn (by grind) (Rat.mul_pos (by grind) (by grind))
  have hV : (0 : Rat) ≤ τ / (1 - τ) := q_div_nn h0 (by grind)
  have hTT : (0 : Rat) ≤ 1 / (((T : Rat) + 1) * (1 - τ)) := q_div_nn (by grind) (Rat.mul_pos (by grind) (by grind))
  have eM1 : (M : Rat) * (1 / 2 / M * (1 / 2 * (1 / ((1 - τ) * (1 - τ))))) = 1 / 4 * (1 / ((1 - τ) * (1 - τ))) := by
    have : (M : Rat) ≠ 0 := by grind
    generalize 1 / ((1 - τ) * (1 - τ)) = F at *
    grind
  have hq1 := q_mul_le' q1 (show 0 ≤ (M : Rat) by first | with_reducible assumption | with_reducible exact Rat.le_of_lt (by assumption) | with_reducible exact nn6 (by assumption) | with_reducible exact nn1 (by assumption) | with_reducible exact nn2 (by assumption) | grind)
  have hq2 := q_mul_le' q2 (show 0 ≤ (M : Rat) by first | with_reducible assumption | with_reducible exact Rat.le_of_lt (by assumption) | with_reducible exact nn6 (by assumption) | with_reducible exact nn1 (by assumption) | with_reducible exact nn2 (by assumption) | grind)
  have eneg : (M : Rat) * -(1 / 2 / M * (1 / 2 * (1 / ((1 - τ) * (1 - τ))))) = -(1 / 4 * (1 / ((1 - τ) * (1 - τ)))) := by rw [← eM1]; grind
  rw [eM1] at hq1
  rw [eneg] at hq2
  generalize 1 / ((1 - τ) * (1 - τ)) = F at *
  generalize τ / (1 - τ) = V at *
  generalize 1 / (((T : Rat) + 1) * (1 - τ)) = TT at *
  generalize ((hw M (dn y (2 ^ R)) T (T - 1) : Int) : Rat) = W at *
  generalize Qs (((dn y (2 ^ R) : Int) : Rat) / M) 1 T = Qu at *
  generalize hQt : Qs ((y : Rat) / ((2 ^ R * M : Int) : Rat)) 1 T = Qt at *
  generalize hPw : Pw T (-((y : Rat) / ((2 ^ R * M : Int) : Rat))) = PP at *
  generalize lgI N (2 ^ R * M + y) (2 ^ R * M) = lam at *
  generalize tl T ((y.natAbs : Rat) / ((2 ^ R * M : Int) : Rat)) = tt at *
  generalize ((2 ^ R * M : Int) : Rat) = D at *
  generalize (4 : Rat) / N = eN at *
  clear qo ed hδ yt1 yt2 τn v1 v2 cD hp ht hu hu' q1 q2 eM1 eneg
  -- the bracket
  have br1 : W - M * Qt ≤ 1 / 2 + V + 1 / 4 * F := by grind
  have br2 : -(1 / 2 + V + 1 / 4 * F) ≤ W - M * Qt := by grind
  have ym : (y : Rat) / M ≤ (y.natAbs : Rat) / M ∧ -((y.natAbs : Rat) / M) ≤ (y : Rat) / M := by
    constructor
    · refine q_div_le hMp ?_
      have : (y.natAbs : Rat) / M * M = (y.natAbs : Rat) := by grind
      grind
    · refine q_le_div hMp ?_
      have : -((y.natAbs : Rat) / M) * M = -(y.natAbs : Rat) := by grind
      grind
  have eW : W * (y : Rat) / M - D * lam = (y : Rat) / M * (W - M * Qt) + ((y : Rat) * Qt - D * lam) := by
    have : (M : Rat) ≠ 0 := by grind
    grind
  rw [eW, eyQ]
  obtain ⟨ym1, ym2⟩ := ym
  generalize (y : Rat) / M = p at *
  generalize (y.natAbs : Rat) / M = pn at *
  have hpn : 0 ≤ pn := by grind
  generalize W - M * Qt = B at *
  generalize hX : 1 / 2 + V + 1 / 4 * F = X at *
  have b : p * B ≤ pn * X ∧ -(pn * X) ≤ p * B := by
    have c1 := q_mul_nn (show 0 ≤ pn - p by first | with_reducible exact sb (by assumption) | with_reducible exact sb (Rat.le_of_lt (by assumption)) | grind) (show 0 ≤ X + B by first | with_reducible exact ad (by assumption) | with_reducible exact ad' (by assumption) | with_reducible exact Rat.add_nonneg (by first | with_reducible assumption | with_reducible exact Rat.le_of_lt (by assumption) | with_reducible exact nn6 (by assumption) | with_reducible exact nn1 (by assumption) | with_reducible exact nn2 (by assumption)) (by first | with_reducible assumption | with_reducible exact Rat.le_of_lt (by assumption) | with_reducible exact nn6 (by assumption) | with_reducible exact nn1 (by assumption) | with_reducible exact nn2 (by assumption)) | grind)
    have c2 := q_mul_nn (show 0 ≤ pn + p by first | with_reducible exact ad (by assumption) | with_reducible exact ad' (by assumption) | with_reducible exact Rat.add_nonneg (by first | with_reducible assumption | with_reducible exact Rat.le_of_lt (by assumption) | with_reducible exact nn6 (by assumption) | with_reducible exact nn1 (by assumption) | with_reducible exact nn2 (by assumption)) (by first | with_reducible assumption | with_reducible exact Rat.le_of_lt (by assumption) | with_reducible exact nn6 (by assumption) | with_reducible exact nn1 (by assumption) | with_reducible exact nn2 (by assumption)) | grind) (show 0 ≤ X - B by first | with_reducible exact sb (by assumption) | with_reducible exact sb (Rat.le_of_lt (by assumption)) | grind)
    have c3 := q_mul_nn (show 0 ≤ pn - p by first | with_reducible exact sb (by assumption) | with_reducible exact sb (Rat.le_of_lt (by assumption)) | grind) (show 0 ≤ X - B by first | with_reducible exact sb (by assumption) | with_reducible exact sb (Rat.le_of_lt (by assumption)) | grind)
    have c4 := q_mul_nn (show 0 ≤ pn + p by first | with_reducible exact ad (by assumption) | with_reducible exact ad' (by assumption) | with_reducible exact Rat.add_nonneg (by first | with_reducible assumption | with_reducible exact Rat.le_of_lt (by assumption) | with_reducible exact nn6 (by assumption) | with_reducible exact nn1 (by assumption) | with_reducible exact nn2 (by assumption)) (by first | with_reducible assumption | with_reducible exact Rat.le_of_lt (by assumption) | with_reducible exact nn6 (by assumption) | with_reducible exact nn1 (by assumption) | with_reducible exact nn2 (by assumption)) | grind) (show 0 ≤ X + B by first | with_reducible exact ad (by assumption) | with_reducible exact ad' (by assumption) | with_reducible exact Rat.add_nonneg (by first | with_reducible assumption | with_reducible exact Rat.le_of_lt (by assumption) | with_reducible exact nn6 (by assumption) | with_reducible exact nn1 (by assumption) | with_reducible exact nn2 (by assumption)) (by first | with_reducible assumption | with_reducible exact Rat.le_of_lt (by assumption) | with_reducible exact nn6 (by assumption) | with_reducible exact nn1 (by assumption) | with_reducible exact nn2 (by assumption)) | grind)
    constructor <;> grind
  obtain ⟨b1, b2⟩ := b
  have eX : pn * (X + TT) = pn * X + pn * TT := by grind
  have ed1 : D * (lam + PP) = D * lam + D * PP := by grind
  have ed2 : D * (tt + eN) = D * tt + D * eN := by grind
  have ed3 : D * -(tt + eN) = -(D * tt + D * eN) := by grind
  rw [ed1, ed2] at hm1
  rw [ed1, ed3] at hm2
  rw [eX]
  constructor <;> grind
set_option linter.unusedVariables false
theorem least {p : Nat → Prop} {B : Nat} (h : p B) : ∃ N, N ≤ B ∧ p N ∧ ∀ R, R < N → ¬ p R := by
  induction B using Nat.strongRecOn with
  | ind B ih =>
    by_cases h' : ∃ R, R < B ∧ p R
    · obtain ⟨R, hR, hp⟩ := h'
      obtain ⟨N, h1, h2, h3⟩ := ih R hR hp
      exact ⟨N, by omega, h2, h3⟩
    · exact ⟨B, Nat.le_refl _, h, fun R hR hp => h' ⟨R, hR, hp⟩⟩
theorem pow2_le {a b : Nat} (h : a ≤ b) : (2 : Int) ^ a ≤ 2 ^ b := by
  have := Nat.pow_le_pow_right (n := 2) (by decide) h
  have e1 : (2 : Int) ^ a = ((2 ^ a : Nat) : Int) := by simp
  have e2 : (2 : Int) ^ b = ((2 ^ b : Nat) : Int) := by simp
  omega
theorem ys_size {M x : Int} (hM : 0 < M) (hx0 : 0 < x) (hx : x ≤ M) (R : Nat) : -ys M x R ≤ M * 2 ^ R := by
  have h := ys_low hM hx0 R
  have e : (2 : Int) ^ R * (1 - 2 * M) = 2 ^ R - 2 * (M * 2 ^ R) := by grind
  rw [e] at h
  have := two_pos R
  omega
set_option maxHeartbeats 1000000
set_option linter.unusedVariables false
set_option linter.unusedSimpArgs false
set_option maxHeartbeats 1000000
set_option linter.unusedVariables false
set_option linter.unusedSimpArgs false
theorem natAbs_q (y : Int) : (y : Rat) ≤ (y.natAbs : Rat) ∧ -(y.natAbs : Rat) ≤ (y : Rat) ∧ (0 : Rat) ≤ (y.natAbs : Rat) := by
  have h1 := int_le (show y ≤ (y.natAbs : Int) by omega)
  have h2 := int_le (show -(y.natAbs : Int) ≤ y by omega)
  have c : ((-(y.natAbs : Int) : Int) : Rat) = -(y.natAbs : Rat) := by first | exact Rat.intCast_add .. | exact Rat.intCast_sub .. | exact Rat.intCast_mul .. | exact Rat.intCast_neg .. | exact_mod_cast rfl
  rw [c] at h2
  exact ⟨h1, h2, by grind⟩
theorem Lam_lin {N : Nat} (hN : 0 < N) {M y : Int} {R : Nat} (hM : 0 < M) (hA : 0 < 2 ^ R * M + y) : Lam N M y R ≤ (y : Rat) ∧ ((2 ^ R * M : Int) : Rat) * (y : Rat) / ((2 ^ R * M + y : Int) : Rat) ≤ Lam N M y R := by
  have hD : 0 < 2 ^ R * M := Int.mul_pos (two_pos R) hM
  obtain ⟨l1, l2⟩ := lgI_lin hN hA hD
  have hDp := int_pos hD
  have hAp := int_pos hA
  have c : ((2 ^ R * M + y : Int) : Rat) = ((2 ^ R * M : Int) : Rat) + y := by first | exact Rat.intCast_add .. | exact Rat.intCast_sub .. | exact Rat.intCast_mul .. | exact Rat.intCast_neg .. | exact_mod_cast rfl
  have m1 := q_mul_le' l1 (show 0 ≤ ((2 ^ R * M : Int) : Rat) by grind)
  have m2 := q_mul_le' l2 (show 0 ≤ ((2 ^ R * M : Int) : Rat) by grind)
  unfold Lam
  rw [c] at m1 m2 hAp ⊢
  generalize lgI N (2 ^ R * M + y) (2 ^ R * M) = la at *
  generalize ((2 ^ R * M : Int) : Rat) = D at *
  constructor
  · have e : D * ((D + (y : Rat) - D) / D) = y := by grind
    rw [e] at m2; exact m2
  · have e : D * ((D + (y : Rat) - D) / (D + y)) = D * (y : Rat) / (D + y) := by grind
    rw [e] at m1; exact m1
set_option maxHeartbeats 1000000
set_option linter.unusedVariables false
set_option linter.unusedSimpArgs false
-- the halvings far from the scale
theorem Hn_mid (b : Nat) : ∀ j : Nat, 2 * (j : Rat) / (2 * (b : Rat) + j + 1) ≤ Hn (b + j) - Hn b
  | 0 => by
    have e : ((0 : Nat) : Rat) = 0 := by grind
    rw [e, Nat.add_zero]
    have hb : (0 : Rat) ≤ (b : Rat) := by grind
    refine q_div_le (by grind) (by grind)
  | j + 1 => by
    have ih := Hn_mid b j
    have eH : Hn (b + (j + 1)) = Hn (b + j) + 1 / (((b + j : Nat) : Rat) + 1) := rfl
    have ec : ((b + j : Nat) : Rat) = (b : Rat) + j := by first | exact Rat.intCast_add .. | exact Rat.intCast_sub .. | exact Rat.intCast_mul .. | exact Rat.intCast_neg .. | exact_mod_cast rfl
    have e : ((j + 1 : Nat) : Rat) = (j : Rat) + 1 := by grind
    rw [eH, ec, e]
    have hb : (0 : Rat) ≤ (b : Rat) := by grind
    have hj : (0 : Rat) ≤ (j : Rat) := by grind
    generalize (b : Rat) = B at *
    generalize (j : Rat) = J at *
    have k : 2 * (J + 1) / (2 * B + (J + 1) + 1) ≤ 2 * J / (2 * B + J + 1) + 1 / (B + J + 1) := by
      refine q_div_le (by grind) ?_
      have h1 : 0 < 2 * B + J + 1 := by grind
      have h2 : 0 < B + J + 1 := by grind
      have h12 := Rat.mul_pos h1 h2
      have e1 : (2 * J / (2 * B + J + 1) + 1 / (B + J + 1)) * (2 * B + (J + 1) + 1) = (2 * J * (B + J + 1) + (2 * B + J + 1)) * (2 * B + J + 2) / ((2 * B + J + 1) * (B + J + 1)) := by
        have : 2 * B + J + 1 ≠ 0 := by grind
        have : B + J + 1 ≠ 0 := by grind
        grind
      rw [e1]
      refine q_le_div h12 ?_
      have := q_mul_nn hj hj
      grind
    grind
theorem lgI_mid {N : Nat} (hN : 0 < N) {a b : Int} (hb : 0 < b) (hab : b ≤ a) : 2 * ((a : Rat) - b) / ((a : Rat) + b) - 1 / (N : Rat) ≤ lgI N a b := by
  have hNp := nat_pos hN
  have hbp := int_pos hb
  have hap := int_pos (show 0 < a by omega)
  have hle : N * b.toNat ≤ N * a.toNat := Nat.mul_le_mul_left N (by first | with_reducible assumption | with_reducible exact Int.natCast_nonneg _ | with_reducible exact Int.le_of_lt (by assumption) | omega)
  have h1 := Hn_mid (N * b.toNat) (N * a.toNat - N * b.toNat)
  rw [show N * b.toNat + (N * a.toNat - N * b.toNat) = N * a.toNat by omega] at h1
  have c1 : ((N * a.toNat - N * b.toNat : Nat) : Rat) = (N : Rat) * ((a : Rat) - b) := by
    have e : ((N * a.toNat - N * b.toNat : Nat) : Rat) + ((N * b.toNat : Nat) : Rat) = ((N * a.toNat : Nat) : Rat) := by
      have : N * a.toNat - N * b.toNat + N * b.toNat = N * a.toNat := by omega
      exact_mod_cast this
    rw [natCast_mul', natCast_mul', toNat_cast (show 0 ≤ a by omega), toNat_cast (show 0 ≤ b by omega)] at e
    grind
  rw [c1, natCast_mul', toNat_cast (show 0 ≤ b by omega)] at h1
  refine Rat.le_trans ?_ h1
  have hab' : (b : Rat) ≤ a := int_le hab
  have hb1 : (1 : Rat) ≤ b := by have := int_le (show 1 ≤ b by omega); exact_mod_cast this
  generalize (a : Rat) = A at *
  generalize (b : Rat) = B at *
  generalize (N : Rat) = n at *
  have hS : 0 < A + B := by grind
  have hnS := Rat.mul_pos hNp hS
  have h2 : 2 * (n * B) + n * (A - B) + 1 = n * (A + B) + 1 := by grind
  rw [h2]
  refine q_le_div (by grind) ?_
  have e1 : (2 * (A - B) / (A + B) - 1 / n) * (n * (A + B) + 1) = 2 * (n * (A - B)) + 2 * (A - B) / (A + B) - (A + B) - 1 / n := by
    have : A + B ≠ 0 := by grind
    have : n ≠ 0 := by grind
    grind
  rw [e1]
  have h3 : 2 * (A - B) / (A + B) ≤ 2 := q_div_le hS (by grind)
  have h4 : 0 ≤ 1 / n := q_div_nn (by grind) hNp
  grind
noncomputable def Er (M x : Int) (R : Nat) (E : Rat) : Prop := ∀ N : Nat, 0 < N →
  Lam N M (ys M x R) R - Lam N M (ys M x 0) 0 ≤ E + 3 * ((2 ^ R * M : Int) : Rat) / (N : Rat) ∧ -(E + 3 * ((2 ^ R * M : Int) : Rat) / (N : Rat)) ≤ Lam N M (ys M x R) R - Lam N M (ys M x 0) 0
theorem Er_zero {M x : Int} (hM : 0 < M) : Er M x 0 0 := fun N hN => by
  have hD := int_pos (show 0 < 2 ^ 0 * M by rw [Int.pow_zero]; omega)
  have := q_div_nn (show (0 : Rat) ≤ 3 * ((2 ^ 0 * M : Int) : Rat) by grind) (nat_pos hN)
  constructor <;> grind
theorem D_two {M : Int} {R : Nat} : ((2 ^ (R + 1) * M : Int) : Rat) = 2 * ((2 ^ R * M : Int) : Rat) := by
  have : (2 : Int) ^ (R + 1) * M = 2 * (2 ^ R * M) := by rw [Int.pow_succ]; grind
  rw [this]; exact_mod_cast rfl
theorem Er.mono {M x : Int} {R : Nat} {E E' : Rat} (h : Er M x R E) (hE : E ≤ E') : Er M x R E' := fun N hN => by
  obtain ⟨h1, h2⟩ := h N hN
  constructor <;> grind
structure Halv (M x : Int) (R : Nat) (m P D y r y' h : Rat) : Prop where
  em : m = (M : Rat)
  eP : P = (((2 : Int) ^ R : Int) : Rat)
  eD : D = ((2 ^ R * M : Int) : Rat)
  ey : y = ((ys M x R : Int) : Rat)
  er : r = ((rt (M * (M + dn (ys M x R) (2 ^ R))) : Int) : Rat)
  ey' : y' = ((ys M x (R + 1) : Int) : Rat)
  hh : (h = 0 ∧ R = 0 ∧ P = 1) ∨ (h = 1 / 2 ∧ 0 < R ∧ 2 ≤ P)
  hm : 0 < m
  hP : 1 ≤ P
  hD : D = P * m
  hA : 1 ≤ D + y
  hr : 0 < r
  lo : r * r - r - h * m ≤ m * (m + y / P)
  hi : m * (m + y / P) ≤ r * r + r + h * m
  up : y' ≤ 2 * m * y / (m + r) + 1 / 2
  dn : 2 * m * y / (m + r) - 1 / 2 ≤ y'
theorem halv {M x : Int} (hM : 0 < M) (hx : 0 < x) (R : Nat) : ∃ m P D y r y' h, Halv M x R m P D y r y' h := by
  have hz := ys_pos hM hx R
  have hn : 0 < M * (M + dn (ys M x R) (2 ^ R)) := Int.mul_pos hM hz
  have hrt := rt_spec hn
  have hrp := hrt.pos
  have hr1 := hrt.lo
  have hr2 := hrt.hi
  have hP := two_pos R
  have hA := ys_A hM hx R
  obtain ⟨v1, v2⟩ := dn_q (a := ys M x R) hP
  obtain ⟨t1, t2⟩ := dn_q (a := M * ys M x R * 2) (b := M + rt (M * (M + dn (ys M x R) (2 ^ R)))) (by first | with_reducible assumption | with_reducible exact Int.natCast_nonneg _ | with_reducible exact Int.le_of_lt (by assumption) | omega)
  have hMr := int_pos hM
  have hPr := int_pos hP
  have hrr := int_pos hrp
  have cD : ((2 ^ R * M : Int) : Rat) = (((2 : Int) ^ R : Int) : Rat) * M := by first | exact Rat.intCast_add .. | exact Rat.intCast_sub .. | exact Rat.intCast_mul .. | exact Rat.intCast_neg .. | exact_mod_cast rfl
  have cT : ((M * ys M x R * 2 : Int) : Rat) = (M : Rat) * ys M x R * 2 := by first | exact Rat.intCast_add .. | exact Rat.intCast_sub .. | exact Rat.intCast_mul .. | exact Rat.intCast_neg .. | exact_mod_cast rfl
  have cS : ((M + rt (M * (M + dn (ys M x R) (2 ^ R))) : Int) : Rat) = (M : Rat) + ((rt (M * (M + dn (ys M x R) (2 ^ R))) : Int) : Rat) := by first | exact Rat.intCast_add .. | exact Rat.intCast_sub .. | exact Rat.intCast_mul .. | exact Rat.intCast_neg .. | exact_mod_cast rfl
  rw [cT, cS] at t1 t2
  have k1 := int_le (show M * (M + dn (ys M x R) (2 ^ R)) ≤ rt (M * (M + dn (ys M x R) (2 ^ R))) * (rt (M * (M + dn (ys M x R) (2 ^ R))) + 1) from hr2)
  have k2 := int_le (show rt (M * (M + dn (ys M x R) (2 ^ R))) * (rt (M * (M + dn (ys M x R) (2 ^ R))) - 1) ≤ M * (M + dn (ys M x R) (2 ^ R)) by omega)
  have c1 : ((M * (M + dn (ys M x R) (2 ^ R)) : Int) : Rat) = (M : Rat) * (M + ((dn (ys M x R) (2 ^ R) : Int) : Rat)) := by first | exact Rat.intCast_add .. | exact Rat.intCast_sub .. | exact Rat.intCast_mul .. | exact Rat.intCast_neg .. | exact_mod_cast rfl
  have c2 : ((rt (M * (M + dn (ys M x R) (2 ^ R))) * (rt (M * (M + dn (ys M x R) (2 ^ R))) + 1) : Int) : Rat) = ((rt (M * (M + dn (ys M x R) (2 ^ R))) : Int) : Rat) * (((rt (M * (M + dn (ys M x R) (2 ^ R))) : Int) : Rat) + 1) := by first | exact Rat.intCast_add .. | exact Rat.intCast_sub .. | exact Rat.intCast_mul .. | exact Rat.intCast_neg .. | exact_mod_cast rfl
  have c3 : ((rt (M * (M + dn (ys M x R) (2 ^ R))) * (rt (M * (M + dn (ys M x R) (2 ^ R))) - 1) : Int) : Rat) = ((rt (M * (M + dn (ys M x R) (2 ^ R))) : Int) : Rat) * (((rt (M * (M + dn (ys M x R) (2 ^ R))) : Int) : Rat) - 1) := by first | exact Rat.intCast_add .. | exact Rat.intCast_sub .. | exact Rat.intCast_mul .. | exact Rat.intCast_neg .. | exact_mod_cast rfl
  rw [c1, c2] at k1
  rw [c3, c1] at k2
  have hA1 := int_le (show 1 ≤ 2 ^ R * M + ys M x R by omega)
  have cA : ((2 ^ R * M + ys M x R : Int) : Rat) = ((2 ^ R * M : Int) : Rat) + ys M x R := by first | exact Rat.intCast_add .. | exact Rat.intCast_sub .. | exact Rat.intCast_mul .. | exact Rat.intCast_neg .. | exact_mod_cast rfl
  have c1' : ((1 : Int) : Rat) = 1 := by first | exact Rat.intCast_add .. | exact Rat.intCast_sub .. | exact Rat.intCast_mul .. | exact Rat.intCast_neg .. | exact_mod_cast rfl
  rw [c1', cA] at hA1
  have hP1 : (1 : Rat) ≤ (((2 : Int) ^ R : Int) : Rat) := by
    have := int_le (show 1 ≤ (2 : Int) ^ R by omega)
    rw [c1'] at this; exact this
  have ey' : ys M x (R + 1) = dn (M * ys M x R * 2) (M + rt (M * (M + dn (ys M x R) (2 ^ R)))) := rfl
  have hq : ∀ Y : Rat, (M : Rat) * Y * 2 / ((M : Rat) + ((rt (M * (M + dn (ys M x R) (2 ^ R))) : Int) : Rat)) = 2 * M * Y / ((M : Rat) + ((rt (M * (M + dn (ys M x R) (2 ^ R))) : Int) : Rat)) := fun Y => by grind
  rw [hq] at t1 t2
  by_cases h0 : R = 0
  · have e1 : (((2 : Int) ^ R : Int) : Rat) = 1 := by rw [h0]; exact_mod_cast rfl
    have e2 : dn (ys M x R) (2 ^ R) = ys M x R := by
      rw [h0]
      have := dn_mul (a := ys M x 0) (b := 1) (by decide); rwa [Int.one_mul] at this
    refine ⟨_, _, _, _, _, _, 0, rfl, rfl, rfl, rfl, rfl, rfl, .inl ⟨rfl, h0, e1⟩, hMr, hP1, cD, hA1, hrr, ?_, ?_, ?_, ?_⟩
    · rw [e1]; rw [e2] at k1 k2 ⊢; grind
    · rw [e1]; rw [e2] at k1 k2 ⊢; grind
    · rw [ey']; grind
    · rw [ey']; grind
  · have hP2 : (2 : Rat) ≤ (((2 : Int) ^ R : Int) : Rat) := by
      have h2 : (2 : Int) ≤ 2 ^ R := by
        have e : (2 : Int) ^ R = ((2 ^ R : Nat) : Int) := by simp
        have := Nat.pow_le_pow_right (n := 2) (by decide) (show 1 ≤ R by omega)
        rw [e]; omega
      have := int_le h2
      have c2 : ((2 : Int) : Rat) = 2 := by first | exact Rat.intCast_add .. | exact Rat.intCast_sub .. | exact Rat.intCast_mul .. | exact Rat.intCast_neg .. | exact_mod_cast rfl
      rw [c2] at this; exact this
    have m1 := q_mul_le' v1 (show (0 : Rat) ≤ M by first | with_reducible assumption | with_reducible exact Rat.le_of_lt (by assumption) | with_reducible exact nn6 (by assumption) | with_reducible exact nn1 (by assumption) | with_reducible exact nn2 (by assumption) | grind)
    have m2 := q_mul_le' v2 (show (0 : Rat) ≤ M by first | with_reducible assumption | with_reducible exact Rat.le_of_lt (by assumption) | with_reducible exact nn6 (by assumption) | with_reducible exact nn1 (by assumption) | with_reducible exact nn2 (by assumption) | grind)
    refine ⟨_, _, _, _, _, _, 1 / 2, rfl, rfl, rfl, rfl, rfl, rfl, .inr ⟨rfl, by omega, hP2⟩, hMr, hP1, cD, hA1, hrr, ?_, ?_, ?_, ?_⟩
    · grind
    · grind
    · rw [ey']; grind
    · rw [ey']; grind
theorem Er_step {M x : Int} {R : Nat} {E c m P D y r y' h yn : Rat} (hM : 0 < M) (hx : 0 < x) (H : Halv M x R m P D y r y' h) (hE : Er M x R E) (hyn : yn = ((ys M x R).natAbs : Rat)) (hc0 : 0 ≤ c)
    (hc : 4 * yn * D * (r + h * m) / ((m + r) * (m + r)) + (1 / 2) * (4 * D + 2 * (2 * m * y / (m + r)) + 1 / 2) ≤ 4 * (D + y) * c) (hcD : 2 * c ≤ D) : Er M x (R + 1) (E + c + 2 * c * c / D) := by
  intro N hN
  have hh0 : 0 ≤ h := by rcases H.hh with ⟨e, _⟩ | ⟨e, _⟩ <;> rw [e] <;> decide +kernel
  have hhh : (1 / 2 : Rat) ≤ h ∨ R = 0 := by
    rcases H.hh with ⟨_, e, _⟩ | ⟨e, _⟩
    · exact .inr e
    · exact .inl (by rw [e]; exact Rat.le_refl)
  rw [hyn, H.em, H.eD, H.ey, H.er] at hc
  rw [H.eD] at hcD
  obtain ⟨s1, s2⟩ := step_Lam (c := c) (h := h) hN hM hx hh0 hhh hc0 hc hcD
  obtain ⟨i1, i2⟩ := hE N hN
  rw [D_two, H.eD]
  have e3 : 3 * (2 * ((2 ^ R * M : Int) : Rat)) / (N : Rat) = 3 * ((2 ^ R * M : Int) : Rat) / (N : Rat) + 3 * ((2 ^ R * M : Int) : Rat) / (N : Rat) := by grind
  rw [e3]
  have hDp := int_pos (show 0 < 2 ^ R * M from Int.mul_pos (two_pos R) hM)
  have hcc : 0 ≤ 2 * c * c / ((2 ^ R * M : Int) : Rat) := q_div_nn (by have := q_mul_nn hc0 hc0; grind) hDp
  constructor <;> grind
set_option maxHeartbeats 1000000
set_option linter.unusedVariables false
set_option linter.unusedSimpArgs false
-- above the scale
theorem q_cancel {a b c : Rat} (hc : 0 < c) (h : a * c ≤ b * c) : a ≤ b := by
  have h1 := q_div_le (a := a * c) hc h
  have e : a * c / c = a := by grind
  rw [e] at h1; exact h1
theorem up_U {M x C : Int} {R : Nat} {E lam m P D y r y' h : Rat} (hM : 0 < M) (hx : M ≤ x) (H : Halv M x R m P D y r y' h) (hE : Er M x R E) (hl : ∀ N : Nat, 0 < N → lgI N x M ≤ lam + (C : Rat) / (N : Rat)) :
    2 * D * y ≤ (2 * D + y) * (m * lam + E) := by
  have hD0 : 0 < 2 ^ R * M := Int.mul_pos (two_pos R) hM
  have hy0 := (ys_up hM hx R).1
  have hDp := int_pos hD0
  have hyp : (0 : Rat) ≤ ((ys M x R : Int) : Rat) := by have := int_le hy0; exact_mod_cast this
  rw [← H.eD] at hDp
  rw [← H.ey] at hyp
  have hmp := H.hm
  have key : 2 * D * y / (2 * D + y) ≤ m * lam + E := by
    refine q_arch (C := M * C + 4 * (2 ^ R * M)) fun N hN => ?_
    have hNp := nat_pos hN
    obtain ⟨e1, _⟩ := hE N hN
    have g := lgI_mid hN hD0 (show 2 ^ R * M ≤ 2 ^ R * M + ys M x R by omega)
    have g0 := hl N hN
    have cA : ((2 ^ R * M + ys M x R : Int) : Rat) = D + y := by rw [H.eD, H.ey]; exact_mod_cast rfl
    have cC : ((M * C + 4 * (2 ^ R * M) : Int) : Rat) = m * C + 4 * D := by rw [H.em, H.eD]; exact_mod_cast rfl
    have e0 : Lam N M (ys M x 0) 0 = m * lgI N x M := by
      unfold Lam
      have a1 : (2 : Int) ^ 0 * M = M := by rw [Int.pow_zero, Int.one_mul]
      have a2 : M + ys M x 0 = x := by show M + (x - M) = x; omega
      rw [a1, a2, H.em]
    have eR : Lam N M (ys M x R) R = D * lgI N (2 ^ R * M + ys M x R) (2 ^ R * M) := by unfold Lam; rw [H.eD]
    rw [e0, eR, ← H.eD] at e1
    rw [cA, ← H.eD] at g
    rw [cC]
    have g1 := q_mul_le' g (show 0 ≤ D by first | with_reducible assumption | with_reducible exact Rat.le_of_lt (by assumption) | with_reducible exact nn6 (by assumption) | with_reducible exact nn1 (by assumption) | with_reducible exact nn2 (by assumption) | grind)
    have g2 := q_mul_le' g0 (show 0 ≤ m by first | with_reducible assumption | with_reducible exact Rat.le_of_lt (by assumption) | with_reducible exact nn6 (by assumption) | with_reducible exact nn1 (by assumption) | with_reducible exact nn2 (by assumption) | grind)
    generalize lgI N (2 ^ R * M + ys M x R) (2 ^ R * M) = la at *
    generalize lgI N x M = l0 at *
    generalize (N : Rat) = n at *
    have k1 : D * (2 * (D + y - D) / (D + y + D) - 1 / n) = 2 * D * y / (2 * D + y) - D / n := by
      have : 2 * D + y ≠ 0 := by grind
      have : D + y + D = 2 * D + y := by grind
      rw [this]
      grind
    rw [k1] at g1
    have k2 : (m * (C : Rat) + 4 * D) / n = m * ((C : Rat) / n) + 4 * D / n := by grind
    have k3 : m * (lam + (C : Rat) / n) = m * lam + m * ((C : Rat) / n) := by grind
    rw [k2]
    rw [k3] at g2
    grind
  have hS : 0 < 2 * D + y := by grind
  have := q_mul_le key (show 0 ≤ 2 * D + y by grind)
  have e : 2 * D * y / (2 * D + y) * (2 * D + y) = 2 * D * y := by grind
  rw [e] at this
  grind
theorem cost_up {m D y r h W Z a b mu : Rat} (hm : 1000000 ≤ m) (hD : m ≤ D) (hy : 0 ≤ y) (hW : 1 ≤ W) (hr : W * m ≤ r) (hZ : 1 ≤ Z) (hA : Z * D ≤ D + y) (hh0 : 0 ≤ h) (hh : h ≤ 1 / 2)
    (ha : W + Z ≤ 2 * Z * (1 + W) * a) (hb : (Z + 1) * (W + 1 / 2) ≤ 2 * Z * ((1 + W) * (1 + W)) * b) (hU : 2 * D * y ≤ (2 * D + y) * (m * mu)) (hmu : 0 ≤ mu) :
    4 * y * D * (r + h * m) / ((m + r) * (m + r)) + 1 / 2 * (4 * D + 2 * (2 * m * y / (m + r)) + 1 / 2) ≤ 4 * (D + y) * (a + b * mu + 1 / 1000000) := by
  have hWm : 1 * m ≤ W * m := q_mul_le hW (by grind)
  have hS : 0 < m + r := by grind
  have hSS := Rat.mul_pos hS hS
  have hAp : 0 < D + y := by grind
  -- the root's error
  have t1 : 4 * y * D * (r + h * m) / ((m + r) * (m + r)) ≤ 4 * (D + y) * (b * mu) := by
    refine q_div_le hSS ?_
    have hV : 0 < (1 + W) * (1 + W) := Rat.mul_pos (by grind) (by grind)
    have hc : 0 < 2 * Z * ((1 + W) * (1 + W)) * m := Rat.mul_pos (Rat.mul_pos (by grind) hV) (by grind)
    refine q_cancel hc ?_
    -- y D Z
    have p1 : 2 * (y * D * Z) ≤ (D + y) * (Z + 1) * (m * mu) := by
      have s1 : (2 * D + y) * Z ≤ (D + y) * (Z + 1) := by grind
      have s2 := q_mul_le s1 (show 0 ≤ m * mu from q_mul_nn (by grind) hmu)
      have s3 := q_mul_le hU (show 0 ≤ Z by first | with_reducible assumption | with_reducible exact Rat.le_of_lt (by assumption) | with_reducible exact nn6 (by assumption) | with_reducible exact nn1 (by assumption) | with_reducible exact nn2 (by assumption) | grind)
      grind
    have p2 : (r + h * m) * ((1 + W) * (1 + W)) * m ≤ (W + 1 / 2) * ((m + r) * (m + r)) := by
      obtain ⟨s, hs⟩ : ∃ s, s = r - W * m := ⟨_, rfl⟩
      have hs0 : 0 ≤ s := by grind
      have er : r = W * m + s := by grind
      have q1 := q_mul_nn (q_mul_nn hs0 (show 0 ≤ m by first | with_reducible assumption | with_reducible exact Rat.le_of_lt (by assumption) | with_reducible exact nn6 (by assumption) | with_reducible exact nn1 (by assumption) | with_reducible exact nn2 (by assumption) | grind)) (q_mul_nn (show 0 ≤ 1 + W by first | with_reducible exact n1p (by first | with_reducible assumption | with_reducible exact Rat.le_of_lt (by assumption) | with_reducible exact nn6 (by assumption) | with_reducible exact nn1 (by assumption) | with_reducible exact nn2 (by assumption)) | grind) (show 0 ≤ W by first | with_reducible assumption | with_reducible exact Rat.le_of_lt (by assumption) | with_reducible exact nn6 (by assumption) | with_reducible exact nn1 (by assumption) | with_reducible exact nn2 (by assumption) | grind))
      have q2 := q_mul_nn (show 0 ≤ W + 1 / 2 by grind) (q_mul_nn hs0 hs0)
      have q3 := q_mul_nn (show 0 ≤ 1 / 2 - h by grind) (q_mul_nn (show 0 ≤ (1 + W) * (1 + W) by grind) (q_mul_nn (show 0 ≤ m by first | with_reducible assumption | with_reducible exact Rat.le_of_lt (by assumption) | with_reducible exact nn6 (by assumption) | with_reducible exact nn1 (by assumption) | with_reducible exact nn2 (by assumption) | grind) (show 0 ≤ m by first | with_reducible assumption | with_reducible exact Rat.le_of_lt (by assumption) | with_reducible exact nn6 (by assumption) | with_reducible exact nn1 (by assumption) | with_reducible exact nn2 (by assumption) | grind)))
      rw [er]
      clear hU hb ha p1 hr hs er hSS hS hc hA
      grind
    have y0 : 0 ≤ 2 * (y * D * Z) := by
      have := q_mul_nn (q_mul_nn hy (show 0 ≤ D by first | with_reducible assumption | with_reducible exact Rat.le_of_lt (by assumption) | with_reducible exact nn6 (by assumption) | with_reducible exact nn1 (by assumption) | with_reducible exact nn2 (by assumption) | grind)) (show 0 ≤ Z by first | with_reducible assumption | with_reducible exact Rat.le_of_lt (by assumption) | with_reducible exact nn6 (by assumption) | with_reducible exact nn1 (by assumption) | with_reducible exact nn2 (by assumption) | grind)
      grind
    have r0 : 0 ≤ (W + 1 / 2) * ((m + r) * (m + r)) := q_mul_nn (by grind) (by grind)
    have p3 := q_mul_le' p2 y0
    have p4 := q_mul_le p1 r0
    have p5 := q_mul_le hb (q_mul_nn (q_mul_nn (show 0 ≤ D + y by first | with_reducible exact ad (by assumption) | with_reducible exact ad' (by assumption) | with_reducible exact Rat.add_nonneg (by first | with_reducible assumption | with_reducible exact Rat.le_of_lt (by assumption) | with_reducible exact nn6 (by assumption) | with_reducible exact nn1 (by assumption) | with_reducible exact nn2 (by assumption)) (by first | with_reducible assumption | with_reducible exact Rat.le_of_lt (by assumption) | with_reducible exact nn6 (by assumption) | with_reducible exact nn1 (by assumption) | with_reducible exact nn2 (by assumption)) | grind) (q_mul_nn (show 0 ≤ m by first | with_reducible assumption | with_reducible exact Rat.le_of_lt (by assumption) | with_reducible exact nn6 (by assumption) | with_reducible exact nn1 (by assumption) | with_reducible exact nn2 (by assumption) | grind) hmu)) (show 0 ≤ (m + r) * (m + r) by grind))
    clear hU hb ha p1 p2 hr
    grind
  -- the last rounding
  have t2 : 2 * m * y / (m + r) ≤ 2 * (D + y) * (2 * a) - 2 * D := by
    refine q_div_le hS ?_
    have hk : 0 < Z * (1 + W) := Rat.mul_pos (by grind) (by grind)
    refine q_cancel hk ?_
    have s1 := q_mul_le' ha (show 0 ≤ 2 * (D + y) by grind)
    have s2 := q_mul_le' hA (show 0 ≤ W by first | with_reducible assumption | with_reducible exact Rat.le_of_lt (by assumption) | with_reducible exact nn6 (by assumption) | with_reducible exact nn1 (by assumption) | with_reducible exact nn2 (by assumption) | grind)
    have s3 : 2 * Z * y + 2 * D * (Z * (1 + W)) ≤ 2 * (D + y) * (2 * Z * (1 + W) * a) := by grind
    have hrm : (1 + W) * m ≤ m + r := by grind
    have s4 := q_mul_le hrm (show 0 ≤ 2 * Z * y by have := q_mul_nn (show 0 ≤ Z by first | with_reducible assumption | with_reducible exact Rat.le_of_lt (by assumption) | with_reducible exact nn6 (by assumption) | with_reducible exact nn1 (by assumption) | with_reducible exact nn2 (by assumption) | grind) hy; grind)
    have s5 := q_mul_le s3 (show 0 ≤ m + r by first | with_reducible exact ad (by assumption) | with_reducible exact ad' (by assumption) | with_reducible exact Rat.add_nonneg (by first | with_reducible assumption | with_reducible exact Rat.le_of_lt (by assumption) | with_reducible exact nn6 (by assumption) | with_reducible exact nn1 (by assumption) | with_reducible exact nn2 (by assumption)) (by first | with_reducible assumption | with_reducible exact Rat.le_of_lt (by assumption) | with_reducible exact nn6 (by assumption) | with_reducible exact nn1 (by assumption) | with_reducible exact nn2 (by assumption)) | grind)
    clear hU hb ha hr s1 s2 s3 t1
    grind
  have t3 : 1 / 4 ≤ 4 * (D + y) * (1 / 1000000) := by grind
  grind
theorem w_low {m D y r P h W Z : Rat} (hm : 1000000 ≤ m) (hP : 1 ≤ P) (hD : D = P * m) (hr : 0 < r) (hW : 0 ≤ W) (hA : Z * D ≤ D + y) (hi : m * (m + y / P) ≤ r * r + r + h * m) (hh : h ≤ 1 / 2) (hZ : W * W + (W + 1) / 1000000 ≤ Z) : W * m ≤ r := by
  apply Rat.not_lt.mp
  intro hlt
  have hyP : (Z - 1) * m ≤ y / P := by
    refine q_le_div (by grind) ?_
    rw [hD] at hA
    grind
  have h1 := q_mul_le' hyP (show 0 ≤ m by first | with_reducible assumption | with_reducible exact Rat.le_of_lt (by assumption) | with_reducible exact nn6 (by assumption) | with_reducible exact nn1 (by assumption) | with_reducible exact nn2 (by assumption) | grind)
  have h2 : r * r ≤ W * m * (W * m) := by
    have a := q_mul_le (show r ≤ W * m by grind) (show 0 ≤ r by first | with_reducible assumption | with_reducible exact Rat.le_of_lt (by assumption) | with_reducible exact nn6 (by assumption) | with_reducible exact nn1 (by assumption) | with_reducible exact nn2 (by assumption) | grind)
    have b := q_mul_le' (show r ≤ W * m by grind) (show 0 ≤ W * m from q_mul_nn hW (by grind))
    grind
  have h3 := q_mul_le hZ (show 0 ≤ m * m from q_mul_nn (by grind) (by grind))
  have h4 := q_mul_le' hm (show 0 ≤ (W + 1) * m from q_mul_nn (by grind) (by grind))
  have h5 := q_mul_le hh (show 0 ≤ m by first | with_reducible assumption | with_reducible exact Rat.le_of_lt (by assumption) | with_reducible exact nn6 (by assumption) | with_reducible exact nn1 (by assumption) | with_reducible exact nn2 (by assumption) | grind)
  clear hA hD hyP
  grind
theorem z_next {m D y r y' P h Z Z' : Rat} (hm : 1000000 ≤ m) (hP : 1 ≤ P) (hD : D = P * m) (hr : 0 < r) (hh0 : 0 ≤ h) (hh : h ≤ 1 / 2) (hA : D + y < Z * D) (hlo : r * r - r - h * m ≤ m * (m + y / P)) (hhi : m * (m + y / P) ≤ r * r + r + h * m)
    (hup : y' ≤ 2 * m * y / (m + r) + 1 / 2) (hZ' : 2 ≤ Z') (hZ : Z + (5 * Z' + 1) / 1000000 ≤ Z' * Z') : 2 * D + y' < Z' * (2 * D) := by
  have hS : 0 < m + r := by grind
  have ePy : y = P * (y / P) := by grind
  -- r + 2 <= Z' m
  have hr2 : r + 2 ≤ Z' * m := by
    apply Rat.not_lt.mp
    intro hlt
    have hyP : y / P ≤ (Z - 1) * m := by
      refine q_div_le (by grind) ?_
      rw [hD] at hA
      grind
    have h1 := q_mul_le' hyP (show 0 ≤ m by first | with_reducible assumption | with_reducible exact Rat.le_of_lt (by assumption) | with_reducible exact nn6 (by assumption) | with_reducible exact nn1 (by assumption) | with_reducible exact nn2 (by assumption) | grind)
    have hZm : 2 * m ≤ Z' * m := q_mul_le hZ' (by grind)
    have h2 := q_mul_nn (show 0 ≤ r - (Z' * m - 2) by grind) (show 0 ≤ r - 1 by grind)
    have h2' := q_mul_nn (show 0 ≤ r - (Z' * m - 2) by grind) (show 0 ≤ Z' * m - 2 by grind)
    have h3 := q_mul_le hZ (show 0 ≤ m * m from q_mul_nn (by grind) (by grind))
    have h4 := q_mul_le' hm (show 0 ≤ (5 * Z' + 1) * m from q_mul_nn (by grind) (by grind))
    have h5 := q_mul_le hh (show 0 ≤ m by first | with_reducible assumption | with_reducible exact Rat.le_of_lt (by assumption) | with_reducible exact nn6 (by assumption) | with_reducible exact nn1 (by assumption) | with_reducible exact nn2 (by assumption) | grind)
    clear hA hD hyP hup hhi ePy
    grind
  have h6 : 2 * m * y / (m + r) ≤ 2 * P * (r - m + 1) := by
    refine q_div_le hS ?_
    have e1 : 2 * m * y = 2 * P * (m * (y / P)) := by grind
    rw [e1]
    have h7 : m * (y / P) ≤ (r - m + 1) * (m + r) := by
      have h5 := q_mul_le hh (show 0 ≤ m by first | with_reducible assumption | with_reducible exact Rat.le_of_lt (by assumption) | with_reducible exact nn6 (by assumption) | with_reducible exact nn1 (by assumption) | with_reducible exact nn2 (by assumption) | grind)
      grind
    have := q_mul_le' h7 (show 0 ≤ 2 * P by first | with_reducible exact n2 (by first | with_reducible assumption | with_reducible exact Rat.le_of_lt (by assumption) | with_reducible exact nn6 (by assumption) | with_reducible exact nn1 (by assumption) | with_reducible exact nn2 (by assumption)) | grind)
    grind
  have h8 := q_mul_le' hr2 (show 0 ≤ 2 * P by first | with_reducible exact n2 (by first | with_reducible assumption | with_reducible exact Rat.le_of_lt (by assumption) | with_reducible exact nn6 (by assumption) | with_reducible exact nn1 (by assumption) | with_reducible exact nn2 (by assumption)) | grind)
  rw [hD]
  clear hlo hhi hA ePy
  grind
set_option maxHeartbeats 1000000
set_option linter.unusedVariables false
set_option linter.unusedSimpArgs false
structure Up (M x : Int) (lam : Rat) (C : Int) : Prop where
  M6 : 1000000 ≤ M
  hx : M ≤ x
  l0 : 0 ≤ lam
  l200 : lam ≤ 200
  hl : ∀ N : Nat, 0 < N → lgI N x M ≤ lam + (C : Rat) / (N : Rat)
theorem dn_nonneg {a b : Int} (hb : 0 < b) (h : 0 ≤ a) : 0 ≤ dn a b := by
  unfold dn
  have := Int.ediv_nonneg h (show 0 ≤ b by omega)
  split <;> omega
theorem natAbs_up {y : Int} (h : 0 ≤ y) : (y : Rat) = (y.natAbs : Rat) := by
  have : ((y.natAbs : Int) : Rat) = (y : Rat) := by rw [show (y.natAbs : Int) = y by omega]
  rw [← this]; exact_mod_cast rfl
theorem M6_q {M : Int} (h : 1000000 ≤ M) : (1000000 : Rat) ≤ M := by
  have := int_le h
  have c : ((1000000 : Int) : Rat) = 1000000 := rfl
  rw [c] at this; exact this
theorem up_step {M x C : Int} {R : Nat} {E lam Z W a b : Rat} (K : Up M x lam C) (hE : Er M x R E) (hE0 : 0 ≤ E) (hE1 : E ≤ 48 * (1 / 2 + 3 / 8 * lam)) (hW : 1 ≤ W) (hZ : 1 ≤ Z)
    (hWZ : W * W + (W + 1) / 1000000 ≤ Z ∨ W = 1) (hA : Z * ((2 ^ R * M : Int) : Rat) ≤ ((2 ^ R * M : Int) : Rat) + ((ys M x R : Int) : Rat))
    (ha : W + Z ≤ 2 * Z * (1 + W) * a) (hb : (Z + 1) * (W + 1 / 2) ≤ 2 * Z * ((1 + W) * (1 + W)) * b) (ha0 : 0 ≤ a) (hb0 : 0 ≤ b) (ha1 : a ≤ 1 / 2) (hb1 : b ≤ 3 / 8) :
    Er M x (R + 1) (E + a + b * lam + (1 / 2 + 3 / 8 * lam) / 5000) := by
  have hM6 := K.M6
  have hM : 0 < M := by omega
  have hx := K.hx
  obtain ⟨m, P, D, y, r, y', h, H⟩ := halv hM (show 0 < x by omega) R
  have hy0 := (ys_up hM hx R).1
  have hm : 1000000 ≤ m := by rw [H.em]; exact M6_q hM6
  have hDm : m ≤ D := by
    rw [H.hD]
    have := q_mul_le H.hP (show 0 ≤ m by first | with_reducible assumption | with_reducible exact Rat.le_of_lt (by assumption) | with_reducible exact nn6 (by assumption) | with_reducible exact nn1 (by assumption) | with_reducible exact nn2 (by assumption) | grind)
    grind
  have hyq : 0 ≤ y := by rw [H.ey]; have := int_le hy0; exact_mod_cast this
  have hh : 0 ≤ h ∧ h ≤ 1 / 2 := by rcases H.hh with ⟨e, _⟩ | ⟨e, _⟩ <;> rw [e] <;> constructor <;> decide +kernel
  rw [← H.eD, ← H.ey] at hA
  have hr : W * m ≤ r := by
    rcases hWZ with hWZ | hWZ
    · exact w_low hm H.hP H.hD H.hr (by grind) hA H.hi hh.2 hWZ
    · rw [hWZ, H.em, H.er]
      have : M ≤ rt (M * (M + dn (ys M x R) (2 ^ R))) := rt_ge hM (Int.mul_le_mul_of_nonneg_left (by have := dn_nonneg (two_pos R) hy0; omega) (by first | with_reducible assumption | with_reducible exact Int.natCast_nonneg _ | with_reducible exact Int.le_of_lt (by assumption) | omega))
      have := int_le this
      grind
  have hU := up_U hM hx H hE K.hl
  have hmp : 0 < m := by grind
  obtain ⟨ep, hep⟩ : ∃ ep, ep = E / m := ⟨_, rfl⟩
  have hepm : m * ep = E := by rw [hep]; grind
  have hep0 : 0 ≤ ep := by rw [hep]; exact q_div_nn hE0 hmp
  have hl0 := K.l0
  have hl2 := K.l200
  have hep1 : ep ≤ 48 * (1 / 2 + 3 / 8 * lam) / 1000000 := by
    rw [hep]
    refine q_div_le hmp ?_
    have := q_mul_le' hm (show 0 ≤ 48 * (1 / 2 + 3 / 8 * lam) / 1000000 by grind)
    grind
  have hU2 : 2 * D * y ≤ (2 * D + y) * (m * (lam + ep)) := by
    have e : m * (lam + ep) = m * lam + E := by grind
    rw [e]; exact hU
  have hcost := cost_up (mu := lam + ep) hm hDm hyq hW hr hZ hA hh.1 hh.2 ha hb hU2 (by grind)
  have hyn : y = ((ys M x R).natAbs : Rat) := by rw [H.ey]; exact natAbs_up hy0
  have hbe : b * ep ≤ 3 / 8 * (48 * (1 / 2 + 3 / 8 * lam) / 1000000) := by
    have s1 := q_mul_le hb1 hep0
    have s2 := q_mul_le' hep1 (show (0 : Rat) ≤ 3 / 8 by decide +kernel)
    grind
  have hbl := q_mul_le hb1 hl0
  have hbe0 := q_mul_nn hb0 hep0
  have hbl0 := q_mul_nn hb0 hl0
  obtain ⟨c, hc⟩ : ∃ c, c = a + b * (lam + ep) + 1 / 1000000 := ⟨_, rfl⟩
  have ec : c = a + b * lam + b * ep + 1 / 1000000 := by rw [hc]; grind
  have hc0 : 0 ≤ c := by grind
  have hc1 : c ≤ a + b * lam + 20 * (1 / 2 + 3 / 8 * lam) / 1000000 := by grind
  have hc2 : c ≤ 101 / 100 * (1 / 2 + 3 / 8 * lam) := by grind
  have hc3 : c ≤ 77 := by grind
  rw [← hc] at hcost
  have hfin := Er_step hM (show 0 < x by omega) H hE hyn hc0 hcost (by grind)
  refine hfin.mono ?_
  have hcc : 2 * c * c / D ≤ 180 * (1 / 2 + 3 / 8 * lam) / 1000000 := by
    refine q_div_le (by grind) ?_
    have s1 := q_mul_le hc3 hc0
    have s2 := q_mul_le' (show (1000000 : Rat) ≤ D by grind) (show 0 ≤ 180 * (1 / 2 + 3 / 8 * lam) / 1000000 by grind)
    grind
  grind
-- the stages above twice the scale
noncomputable def Zt : Nat → Rat
  | 0 => 2
  | 1 => 399 / 100
  | 2 => 159 / 10
  | 3 => 252
  | 4 => 63500
  | 5 => 4032000000
  | 6 => 16000000000000000000
  | 7 => 250000000000000000000000000000000000000
  | _ => 60000000000000000000000000000000000000000000000000000000000000000000000000000
noncomputable def Wt : Nat → Rat
  | 0 => 1414 / 1000
  | 1 => 1997 / 1000
  | 2 => 3987 / 1000
  | 3 => 1587 / 100
  | 4 => 251
  | 5 => 63000
  | 6 => 3900000000
  | _ => 15000000000000000000
noncomputable def Aa : Nat → Rat
  | 0 => 354 / 1000
  | 1 => 251 / 1000
  | 2 => 126 / 1000
  | 3 => 32 / 1000
  | 4 => 2 / 1000
  | _ => 1 / 1000
noncomputable def Ab : Nat → Rat
  | 0 => 2464 / 10000
  | 1 => 1739 / 10000
  | 2 => 959 / 10000
  | 3 => 289 / 10000
  | 4 => 20 / 10000
  | _ => 1 / 10000
theorem tab_all : ∀ j : Fin 8, 1 ≤ Wt j ∧ 2 ≤ Zt j ∧ Wt j * Wt j + (Wt j + 1) / 1000000 ≤ Zt j ∧ Wt j + Zt j ≤ 2 * Zt j * (1 + Wt j) * Aa j
  ∧ (Zt j + 1) * (Wt j + 1 / 2) ≤ 2 * Zt j * ((1 + Wt j) * (1 + Wt j)) * Ab j ∧ 0 ≤ Aa j ∧ 0 ≤ Ab j ∧ Aa j ≤ 1 / 2 ∧ Ab j ≤ 3 / 8 ∧ Zt (j + 1) + (5 * Zt j + 1) / 1000000 ≤ Zt j * Zt j := by decide +kernel
noncomputable def SA : Nat → Rat
  | 0 => 0
  | j + 1 => SA j + Aa j
noncomputable def SB : Nat → Rat
  | 0 => 0
  | j + 1 => SB j + Ab j
theorem up_big {M x C : Int} {lam : Rat} (K : Up M x lam C) : ∀ (j : Nat), j ≤ 8 → ∀ (R : Nat) (E : Rat), Er M x R E → 0 ≤ E → E + SA j + SB j * lam + (j : Rat) * ((1 / 2 + 3 / 8 * lam) / 5000) ≤ 48 * (1 / 2 + 3 / 8 * lam) →
    ((2 ^ R * M : Int) : Rat) + ((ys M x R : Int) : Rat) < Zt j * ((2 ^ R * M : Int) : Rat) →
    ∃ R0, R ≤ R0 ∧ R0 ≤ R + j ∧ ys M x R0 < 2 ^ R0 * M ∧ Er M x R0 (E + SA j + SB j * lam + (j : Rat) * ((1 / 2 + 3 / 8 * lam) / 5000)) ∧ ∀ R', R ≤ R' → R' < R0 → 2 ^ R' * M ≤ ys M x R'
  | 0, _, R, E, hE, hE0, hE1, hz => by
    have e : ((0 : Nat) : Rat) = 0 := rfl
    refine ⟨R, Nat.le_refl _, Nat.le_refl _, ?_, hE.mono (by show E ≤ E + 0 + 0 * lam + _; rw [e]; grind), fun R' h1 h2 => by omega⟩
    have hz' : ((2 ^ R * M : Int) : Rat) + ((ys M x R : Int) : Rat) < 2 * ((2 ^ R * M : Int) : Rat) := hz
    exact Rat.intCast_lt_intCast.mp (show ((ys M x R : Int) : Rat) < ((2 ^ R * M : Int) : Rat) by grind)
  | j + 1, hj, R, E, hE, hE0, hE1, hz => by
    refine Classical.byContradiction fun hG => ?_
    have ej : ((j + 1 : Nat) : Rat) = (j : Rat) + 1 := by grind
    have hj0 : (0 : Rat) ≤ (j : Rat) := by grind
    have hl0 := K.l0
    have hM6 := K.M6
    have hM : 0 < M := by omega
    have hx := K.hx
    have T := tab_all ⟨j, by omega⟩
    have eA : SA (j + 1) = SA j + Aa j := rfl
    have eB : SB (j + 1) = SB j + Ab j := rfl
    have hbl := q_mul_nn T.2.2.2.2.2.2.1 hl0
    by_cases hlt : ((2 ^ R * M : Int) : Rat) + ((ys M x R : Int) : Rat) < Zt j * ((2 ^ R * M : Int) : Rat)
    · obtain ⟨R0, h1, h2, h3, h4, h5⟩ := up_big K j (by first | with_reducible assumption | with_reducible exact Int.natCast_nonneg _ | with_reducible exact Int.le_of_lt (by assumption) | omega) R E hE hE0 (by rw [eA, eB, ej] at hE1; grind) hlt
      exact hG ⟨R0, h1, by omega, h3, h4.mono (by rw [eA, eB, ej]; grind), h5⟩
    · have hge : Zt j * ((2 ^ R * M : Int) : Rat) ≤ ((2 ^ R * M : Int) : Rat) + ((ys M x R : Int) : Rat) := Rat.not_lt.mp hlt
      obtain ⟨m, P, D, y, r, y', h, H⟩ := halv hM (show 0 < x by omega) R
      have hm : 1000000 ≤ m := by rw [H.em]; exact M6_q hM6
      have hSAB : 0 ≤ SA j + SB j * lam := by
        have nn : ∀ i : Fin 9, 0 ≤ SA i ∧ 0 ≤ SB i := by decide +kernel
        obtain ⟨a1, a2⟩ := nn ⟨j, by omega⟩
        have := q_mul_nn a2 hl0
        grind
      have hB0 : 0 ≤ (1 / 2 + 3 / 8 * lam) / 5000 := by grind
      have hjB := q_mul_nn hj0 hB0
      rw [eA, eB, ej] at hE1
      have hst := up_step (Z := Zt j) (W := Wt j) (a := Aa j) (b := Ab j) K hE hE0 (by grind) T.1 (by grind) (.inl T.2.2.1) hge T.2.2.2.1 T.2.2.2.2.1 T.2.2.2.2.2.1 T.2.2.2.2.2.2.1 T.2.2.2.2.2.2.2.1 T.2.2.2.2.2.2.2.2.1
      have hh : 0 ≤ h ∧ h ≤ 1 / 2 := by rcases H.hh with ⟨e, _⟩ | ⟨e, _⟩ <;> rw [e] <;> constructor <;> decide +kernel
      have hz2 : D + y < Zt (j + 1) * D := by rw [H.eD, H.ey]; exact hz
      have hzn := z_next hm H.hP H.hD H.hr hh.1 hh.2 hz2 H.lo H.hi H.up T.2.1 T.2.2.2.2.2.2.2.2.2
      rw [H.eD, H.ey', ← D_two] at hzn
      obtain ⟨R0, h1, h2, h3, h4, h5⟩ := up_big K j (by first | with_reducible assumption | with_reducible exact Int.natCast_nonneg _ | with_reducible exact Int.le_of_lt (by assumption) | omega) (R + 1) _ hst (by grind) (by grind) hzn
      refine hG ⟨R0, by omega, by omega, h3, h4.mono (by rw [eA, eB, ej]; grind), fun R' a1 a2 => ?_⟩
      by_cases hR : R' = R
      · subst hR
        have hDp := int_pos (show 0 < 2 ^ R' * M from Int.mul_pos (two_pos R') hM)
        have := q_mul_le T.2.1 (show 0 ≤ ((2 ^ R' * M : Int) : Rat) by grind)
        exact Rat.intCast_le_intCast.mp (show ((2 ^ R' * M : Int) : Rat) ≤ ((ys M x R' : Int) : Rat) by grind)
      · exact h5 R' (by first | with_reducible assumption | with_reducible exact Int.natCast_nonneg _ | with_reducible exact Int.le_of_lt (by assumption) | omega) a2
theorem up_small {M x C : Int} {lam E : Rat} {R : Nat} (K : Up M x lam C) (hE : Er M x R E) (hE0 : 0 ≤ E) : ∀ k : Nat, E + (k : Rat) * ((1 / 2 + 3 / 8 * lam) + (1 / 2 + 3 / 8 * lam) / 5000) ≤ 48 * (1 / 2 + 3 / 8 * lam) →
    Er M x (R + k) (E + (k : Rat) * ((1 / 2 + 3 / 8 * lam) + (1 / 2 + 3 / 8 * lam) / 5000))
  | 0, _ => by
    have e : ((0 : Nat) : Rat) = 0 := by grind
    exact hE.mono (by rw [e]; grind)
  | k + 1, hk => by
    have ek : ((k + 1 : Nat) : Rat) = (k : Rat) + 1 := by grind
    have hk0 : (0 : Rat) ≤ (k : Rat) := by grind
    have hl0 := K.l0
    have hM6 := K.M6
    have hM : 0 < M := by omega
    have hx := K.hx
    rw [ek] at hk ⊢
    have hB := q_mul_nn hk0 (show 0 ≤ (1 / 2 + 3 / 8 * lam) + (1 / 2 + 3 / 8 * lam) / 5000 by grind)
    have ih := up_small K hE hE0 k (by grind)
    have hy0 := (ys_up hM hx (R + k)).1
    have hyq : (0 : Rat) ≤ ((ys M x (R + k) : Int) : Rat) := by have := int_le hy0; exact_mod_cast this
    have hst := up_step (Z := 1) (W := 1) (a := 1 / 2) (b := 3 / 8) K ih (by grind) (by grind) (by grind) (by grind) (.inr rfl) (by grind) (by grind) (by grind) (by grind) (by grind) (by grind) (by grind)
    exact Er.mono (R := R + k + 1) hst (by grind)
theorem ys_dec {M x : Int} (hM : 0 < M) (hx : M ≤ x) (R : Nat) : ys M x (R + 1) ≤ ys M x R := by
  obtain ⟨m, P, D, y, r, y', h, H⟩ := halv hM (show 0 < x by omega) R
  have hy0 := (ys_up hM hx R).1
  have hyq : 0 ≤ y := by rw [H.ey]; have := int_le hy0; exact_mod_cast this
  have hr : m ≤ r := by
    rw [H.em, H.er]
    exact int_le (rt_ge hM (Int.mul_le_mul_of_nonneg_left (by have := dn_nonneg (two_pos R) hy0; omega) (by first | with_reducible assumption | with_reducible exact Int.natCast_nonneg _ | with_reducible exact Int.le_of_lt (by assumption) | omega)))
  have hm := H.hm
  have h1 : 2 * m * y / (m + r) ≤ y := by
    refine q_div_le (by grind) ?_
    have := q_mul_le' hr hyq
    grind
  have h2 := H.up
  have h3 : y' < y + 1 := by grind
  rw [H.ey, H.ey'] at h3
  have h4 : ((ys M x (R + 1) : Int) : Rat) < ((ys M x R + 1 : Int) : Rat) := by
    have c : ((ys M x R + 1 : Int) : Rat) = ((ys M x R : Int) : Rat) + 1 := by first | exact Rat.intCast_add .. | exact Rat.intCast_sub .. | exact Rat.intCast_mul .. | exact Rat.intCast_neg .. | exact_mod_cast rfl
    rw [c]; exact h3
  have := Rat.intCast_lt_intCast.mp h4
  omega
theorem ys_dec' {M x : Int} (hM : 0 < M) (hx : M ≤ x) (R : Nat) : ∀ k : Nat, ys M x (R + k) ≤ ys M x R
  | 0 => Int.le_refl _
  | k + 1 => Int.le_trans (ys_dec hM hx (R + k)) (ys_dec' hM hx R k)
theorem up_end {M x C : Int} {lam : Rat} {L : Nat} (K : Up M x lam C) (hx2 : x < 2 ^ 201 * M) (hL : L ≤ 40) :
    ∃ R, R ≤ 48 ∧ (∀ R', R' < R → M * 2 ^ R' ≤ ((ys M x R').natAbs : Int) * 2 ^ L) ∧ ((ys M x R).natAbs : Int) * 2 ^ L < M * 2 ^ R ∧
      Er M x R (77 / 100 + 55 / 100 * lam + (L : Rat) * (1 / 2 + 3 / 8 * lam) + (1 / 2 + 3 / 8 * lam) / 100) := by
  have hM6 := K.M6
  have hM : 0 < M := by omega
  have hx := K.hx
  have hl0 := K.l0
  have e8 : ((8 : Nat) : Rat) = 8 := by first | exact Rat.intCast_add .. | exact Rat.intCast_sub .. | exact Rat.intCast_mul .. | exact Rat.intCast_neg .. | exact_mod_cast rfl
  have sA : SA 8 = 768 / 1000 := by decide +kernel
  have sB : SB 8 = 5474 / 10000 := by decide +kernel
  have hMr := int_pos hM
  obtain ⟨R0, _, h2, h3, h4, h5⟩ := up_big K 8 (Nat.le_refl _) 0 0 (Er_zero hM) Rat.le_refl (by rw [sA, sB, e8]; grind) (by
    have a1 : (2 : Int) ^ 0 * M = M := by rw [Int.pow_zero, Int.one_mul]
    rw [a1]
    have a2 : ((ys M x 0 : Int) : Rat) = (x : Rat) - M := by show ((x - M : Int) : Rat) = _; exact_mod_cast rfl
    rw [a2]
    have a3 : (x : Rat) < ((2 ^ 201 * M : Int) : Rat) := Rat.intCast_lt_intCast.mpr hx2
    have a4 : ((2 ^ 201 * M : Int) : Rat) = (((2 : Int) ^ 201 : Int) : Rat) * M := by rw [Rat.intCast_mul]
    have a5 : (((2 : Int) ^ 201 : Int) : Rat) ≤ Zt 8 := by decide +kernel
    have a6 := q_mul_le a5 (show (0 : Rat) ≤ M by first | with_reducible assumption | with_reducible exact Rat.le_of_lt (by assumption) | with_reducible exact nn6 (by assumption) | with_reducible exact nn1 (by assumption) | with_reducible exact nn2 (by assumption) | grind)
    generalize Zt 8 = z8 at *
    generalize (((2 : Int) ^ 201 : Int) : Rat) = p at *
    grind)
  rw [sA, sB, e8] at h4
  have hB0 : 0 ≤ (1 / 2 + 3 / 8 * lam) := by grind
  -- the end
  have hend : ((ys M x (R0 + L)).natAbs : Int) * 2 ^ L < M * 2 ^ (R0 + L) := by
    have u1 := ys_dec' hM hx R0 L
    have u2 := (ys_up hM hx (R0 + L)).1
    have e : M * 2 ^ (R0 + L) = 2 ^ R0 * M * 2 ^ L := by rw [Int.pow_add]; grind
    rw [e, show ((ys M x (R0 + L)).natAbs : Int) = ys M x (R0 + L) by omega]
    exact Int.mul_lt_mul_of_pos_right (by first | with_reducible assumption | with_reducible exact Int.natCast_nonneg _ | with_reducible exact Int.le_of_lt (by assumption) | omega) (two_pos L)
  obtain ⟨R, r1, r2, r3⟩ := least (p := fun R => ((ys M x R).natAbs : Int) * 2 ^ L < M * 2 ^ R) hend
  have hR0 : R0 ≤ R := by
    apply Nat.le_of_not_lt
    intro hlt
    have u := h5 R (by first | with_reducible assumption | with_reducible exact Int.natCast_nonneg _ | with_reducible exact Int.le_of_lt (by assumption) | omega) hlt
    have u2 := (ys_up hM hx R).1
    have r2' : ((ys M x R).natAbs : Int) * 2 ^ L < M * 2 ^ R := r2
    have hXL := two_pos L
    have : ys M x R * 1 ≤ ys M x R * 2 ^ L := Int.mul_le_mul_of_nonneg_left (by first | with_reducible assumption | with_reducible exact Int.natCast_nonneg _ | with_reducible exact Int.le_of_lt (by assumption) | omega) u2
    rw [show ((ys M x R).natAbs : Int) = ys M x R by omega, Int.mul_comm M] at r2'
    omega
  obtain ⟨k, hk⟩ : ∃ k, R = R0 + k := ⟨R - R0, by omega⟩
  have hkL : k ≤ L := by omega
  have hkq := nat_le hkL
  have hLq : (L : Rat) ≤ 40 := by
    have := nat_le hL
    have e : ((40 : Nat) : Rat) = 40 := by first | exact Rat.intCast_add .. | exact Rat.intCast_sub .. | exact Rat.intCast_mul .. | exact Rat.intCast_neg .. | exact_mod_cast rfl
    rw [e] at this; exact this
  have hk0 : (0 : Rat) ≤ (k : Rat) := by grind
  have m1 := q_mul_le hkq hB0
  have m2 := q_mul_le hLq hB0
  have hE := up_small K h4 (by grind) k (by grind)
  subst hk
  exact ⟨R0 + k, by omega, fun R' h' => Int.not_lt.mp (r3 R' h'), r2, hE.mono (by grind)⟩
set_option maxHeartbeats 1000000
set_option linter.unusedVariables false
set_option linter.unusedSimpArgs false
noncomputable def cfq (τ : Rat) (T : Nat) : Rat := 1 / 2 + τ / (1 - τ) + 1 / 4 * (1 / ((1 - τ) * (1 - τ))) + 1 / (((T : Rat) + 1) * (1 - τ))
theorem q_inv_le {a b : Rat} (ha : 0 < a) (h : a ≤ b) : 1 / b ≤ 1 / a := by
  refine q_div_le (by grind) ?_
  have e : 1 / a * b = b / a := by grind
  rw [e]
  exact q_le_div ha (by grind)
theorem cfq_le {τ t : Rat} {T T' : Nat} (h0 : 0 ≤ τ) (h1 : τ ≤ t) (h2 : t < 1) (hT : T' ≤ T) : cfq τ T ≤ cfq t T' := by
  unfold cfq
  have hTq := nat_le hT
  have hT0 : (0 : Rat) ≤ (T' : Rat) := by grind
  have a1 : 1 / (1 - τ) ≤ 1 / (1 - t) := q_inv_le (by grind) (by grind)
  have hp : 0 < (1 - t) * (1 - t) := Rat.mul_pos (by grind) (by grind)
  have a2 : 1 / ((1 - τ) * (1 - τ)) ≤ 1 / ((1 - t) * (1 - t)) := q_inv_le hp (by
    have := q_mul_le (show 1 - t ≤ 1 - τ by grind) (show 0 ≤ 1 - t by first | with_reducible exact n1s (by assumption) | grind)
    have := q_mul_le' (show 1 - t ≤ 1 - τ by grind) (show 0 ≤ 1 - τ by first | with_reducible exact n1s (by assumption) | grind)
    grind)
  have hp3 : 0 < ((T' : Rat) + 1) * (1 - t) := Rat.mul_pos (by grind) (by grind)
  have a3 : 1 / (((T : Rat) + 1) * (1 - τ)) ≤ 1 / (((T' : Rat) + 1) * (1 - t)) := q_inv_le hp3 (by
    have := q_mul_le (show (T' : Rat) + 1 ≤ (T : Rat) + 1 by grind) (show 0 ≤ 1 - t by first | with_reducible exact n1s (by assumption) | grind)
    have := q_mul_le' (show 1 - t ≤ 1 - τ by grind) (show 0 ≤ (T : Rat) + 1 by grind)
    grind)
  have n1 : 1 - τ ≠ 0 := by grind
  have n2 : 1 - t ≠ 0 := by grind
  have e1 : τ / (1 - τ) = 1 / (1 - τ) - 1 := by clear a1 a2 a3; grind
  have e2 : t / (1 - t) = 1 / (1 - t) - 1 := by clear a1 a2 a3; grind
  rw [e1, e2]
  grind
theorem cf_cases {L T : Nat} (hL : 3 ≤ L) (hT0 : 0 < T) (hLT : 70 ≤ 3 * (L * T)) : cfq (1 / (((2 : Int) ^ L : Int) : Rat) + 1 / 2000000) T * (1 + 1 / 2 * (1 / (((2 : Int) ^ L : Int) : Rat))) ≤ 12501 / 10000 := by
  have key : ∀ (L0 T0 : Nat) (X0 : Int), L0 ≤ L → T0 ≤ T → X0 = 2 ^ L0 → 8 ≤ X0 → cfq (1 / (X0 : Rat) + 1 / 2000000) T0 * (1 + 1 / 2 * (1 / (X0 : Rat))) ≤ 12501 / 10000 →
      cfq (1 / (((2 : Int) ^ L : Int) : Rat) + 1 / 2000000) T * (1 + 1 / 2 * (1 / (((2 : Int) ^ L : Int) : Rat))) ≤ 12501 / 10000 := by
    intro L0 T0 X0 hL0 hT0 hX h8 h
    have h8q : (8 : Rat) ≤ X0 := by have := int_le h8; exact_mod_cast this
    have hX' := int_le (pow2_le hL0)
    rw [← hX] at hX'
    have hi : 1 / (((2 : Int) ^ L : Int) : Rat) ≤ 1 / (X0 : Rat) := q_inv_le (by grind) hX'
    have hi0 : 0 ≤ 1 / (((2 : Int) ^ L : Int) : Rat) := q_div_nn (by grind) (int_pos (two_pos L))
    have hi8 : 1 / (X0 : Rat) ≤ 1 / 8 := q_inv_le (by grind) h8q
    generalize 1 / (((2 : Int) ^ L : Int) : Rat) = a at *
    generalize 1 / (X0 : Rat) = b at *
    have c1 := cfq_le (τ := a + 1 / 2000000) (t := b + 1 / 2000000) (T := T) (T' := T0) (by grind) (by grind) (by grind) hT0
    have c0 : 0 ≤ cfq (b + 1 / 2000000) T0 := by
      unfold cfq
      have p1 : 0 ≤ (b + 1 / 2000000) / (1 - (b + 1 / 2000000)) := q_div_nn (by grind) (by grind)
      have p2 : 0 ≤ 1 / ((1 - (b + 1 / 2000000)) * (1 - (b + 1 / 2000000))) := q_div_nn (by grind) (Rat.mul_pos (by grind) (by grind))
      have p3 : 0 ≤ 1 / (((T0 : Rat) + 1) * (1 - (b + 1 / 2000000))) := q_div_nn (by grind) (Rat.mul_pos (by grind) (by grind))
      grind
    have m1 := q_mul_le c1 (show 0 ≤ 1 + 1 / 2 * a by grind)
    have m2 := q_mul_le' (show 1 + 1 / 2 * a ≤ 1 + 1 / 2 * b by grind) c0
    grind
  by_cases h3 : L = 3
  · subst h3
    exact key 3 8 8 (by first | with_reducible assumption | with_reducible exact Int.natCast_nonneg _ | with_reducible exact Int.le_of_lt (by assumption) | omega) (by first | with_reducible assumption | with_reducible exact Int.natCast_nonneg _ | with_reducible exact Int.le_of_lt (by assumption) | omega) rfl (by decide) (by decide +kernel)
  by_cases h6 : L ≤ 6
  · have hT4 : 4 ≤ T := by
      apply Nat.le_of_not_lt; intro h
      have : L * T ≤ 6 * 3 := Nat.mul_le_mul h6 (by first | with_reducible assumption | with_reducible exact Int.natCast_nonneg _ | with_reducible exact Int.le_of_lt (by assumption) | omega)
      omega
    exact key 4 4 16 (by first | with_reducible assumption | with_reducible exact Int.natCast_nonneg _ | with_reducible exact Int.le_of_lt (by assumption) | omega) hT4 rfl (by decide) (by decide +kernel)
  by_cases h23 : L ≤ 23
  · have hT2 : 2 ≤ T := by
      apply Nat.le_of_not_lt; intro h
      have : L * T ≤ 23 * 1 := Nat.mul_le_mul h23 (by first | with_reducible assumption | with_reducible exact Int.natCast_nonneg _ | with_reducible exact Int.le_of_lt (by assumption) | omega)
      omega
    exact key 7 2 128 (by first | with_reducible assumption | with_reducible exact Int.natCast_nonneg _ | with_reducible exact Int.le_of_lt (by assumption) | omega) hT2 rfl (by decide) (by decide +kernel)
  · exact key 24 1 16777216 (by first | with_reducible assumption | with_reducible exact Int.natCast_nonneg _ | with_reducible exact Int.le_of_lt (by assumption) | omega) hT0 rfl (by decide) (by decide +kernel)
theorem ser10 {M y : Int} {L R T len : Nat} (hM : 1000000 ≤ M) (hL : 3 ≤ L) (hstop : (y.natAbs : Int) * 2 ^ L < M * 2 ^ R) (hT0 : 0 < T) (hlen : M < 10 ^ len) (hT : 10 * len ≤ 3 * (L * T)) :
    ∃ cf : Rat, 0 ≤ cf ∧ cf * (1 + 1 / 2 * (1 / (((2 : Int) ^ L : Int) : Rat))) ≤ 12501 / 10000 ∧ ∀ N : Nat, 0 < N →
    ((hw M (dn y (2 ^ R)) T (T - 1) : Int) : Rat) * (y : Rat) / M - Lam N M y R ≤ (y.natAbs : Rat) / M * cf + 4 * ((2 ^ R * M : Int) : Rat) / (N : Rat) ∧ -((y.natAbs : Rat) / M * cf + 4 * ((2 ^ R * M : Int) : Rat) / (N : Rat)) ≤ ((hw M (dn y (2 ^ R)) T (T - 1) : Int) : Rat) * (y : Rat) / M - Lam N M y R := by
  have hM0 : 0 < M := by omega
  have hP := two_pos R
  have hX := two_pos L
  have hD : 0 < 2 ^ R * M := Int.mul_pos hP hM0
  have hMr := int_pos hM0
  have hDr := int_pos hD
  have hPr := int_pos hP
  have hXr := int_pos hX
  have hMPc : M * 2 ^ R = 2 ^ R * M := Int.mul_comm ..
  have hX8 : (8 : Int) ≤ 2 ^ L := by have := pow2_le hL; omega
  have h10 := pow10_2 len (L * T) hT
  have hlen7 : 7 ≤ len := by
    apply Nat.le_of_not_lt
    intro hlt
    have h1 : (10 : Int) ^ len ≤ 10 ^ 6 := by
      have e : ∀ n : Nat, (10 : Int) ^ n = ((10 ^ n : Nat) : Int) := fun n => by simp
      rw [e, e]; exact Int.ofNat_le.mpr (Nat.pow_le_pow_right (by decide) (by first | with_reducible assumption | with_reducible exact Int.natCast_nonneg _ | with_reducible exact Int.le_of_lt (by assumption) | omega))
    have h2 : (10 : Int) ^ 6 = 1000000 := by decide
    omega
  have hyn := natAbs_q y
  have τ0 : (0 : Rat) ≤ (y.natAbs : Rat) / ((2 ^ R * M : Int) : Rat) := q_div_nn hyn.2.2 hDr
  have τX : (((2 : Int) ^ L : Int) : Rat) * ((y.natAbs : Rat) / ((2 ^ R * M : Int) : Rat)) ≤ 1 := by
    have h1 := int_le (show (y.natAbs : Int) * 2 ^ L ≤ 2 ^ R * M by omega)
    have c : (((y.natAbs : Int) * 2 ^ L : Int) : Rat) = (y.natAbs : Rat) * (((2 : Int) ^ L : Int) : Rat) := by first | exact Rat.intCast_add .. | exact Rat.intCast_sub .. | exact Rat.intCast_mul .. | exact Rat.intCast_neg .. | exact_mod_cast rfl
    rw [c] at h1
    have e : (((2 : Int) ^ L : Int) : Rat) * ((y.natAbs : Rat) / ((2 ^ R * M : Int) : Rat)) = (y.natAbs : Rat) * (((2 : Int) ^ L : Int) : Rat) / ((2 ^ R * M : Int) : Rat) := by grind
    rw [e]
    exact q_div_le hDr (by grind)
  have hMX : M ≤ (2 ^ L) ^ T := by rw [← Int.pow_mul]; omega
  have hp := pow_small τ0 hX τX hMX
  have hX8q : (8 : Rat) ≤ (((2 : Int) ^ L : Int) : Rat) := by have := int_le hX8; exact_mod_cast this
  have hi8 : 1 / (((2 : Int) ^ L : Int) : Rat) ≤ 1 / 8 := q_inv_le (by grind) hX8q
  have hi0 : 0 ≤ 1 / (((2 : Int) ^ L : Int) : Rat) := q_div_nn (by grind) hXr
  have ht0 : (y.natAbs : Rat) / ((2 ^ R * M : Int) : Rat) ≤ 1 / (((2 : Int) ^ L : Int) : Rat) := q_le_div hXr (by grind)
  have h8y : 2 * (y.natAbs : Int) ≤ 2 ^ R * M := by
    have : (y.natAbs : Int) * 8 ≤ (y.natAbs : Int) * 2 ^ L := Int.mul_le_mul_of_nonneg_left hX8 (by first | with_reducible assumption | with_reducible exact Int.natCast_nonneg _ | with_reducible exact Int.le_of_lt (by assumption) | omega)
    omega
  -- the yshift
  obtain ⟨v1, v2⟩ := dn_q (a := y) hP
  have cD : ((2 ^ R * M : Int) : Rat) = (((2 : Int) ^ R : Int) : Rat) * M := by first | exact Rat.intCast_add .. | exact Rat.intCast_sub .. | exact Rat.intCast_mul .. | exact Rat.intCast_neg .. | exact_mod_cast rfl
  have hMq := M6_q hM
  have eyd : (y : Rat) / (((2 : Int) ^ R : Int) : Rat) / M = (y : Rat) / ((2 ^ R * M : Int) : Rat) := by rw [cD]; grind
  have hy1 : (y : Rat) / ((2 ^ R * M : Int) : Rat) ≤ (y.natAbs : Rat) / ((2 ^ R * M : Int) : Rat) := by
    refine q_div_le hDr ?_
    have : (y.natAbs : Rat) / ((2 ^ R * M : Int) : Rat) * ((2 ^ R * M : Int) : Rat) = (y.natAbs : Rat) := by grind
    grind
  have hy2 : -((y.natAbs : Rat) / ((2 ^ R * M : Int) : Rat)) ≤ (y : Rat) / ((2 ^ R * M : Int) : Rat) := by
    refine q_le_div hDr ?_
    have : -((y.natAbs : Rat) / ((2 ^ R * M : Int) : Rat)) * ((2 ^ R * M : Int) : Rat) = -(y.natAbs : Rat) := by grind
    grind
  have hhalf : 1 / 2 / (M : Rat) ≤ 1 / 2000000 := q_div_le hMr (by grind)
  have hdm : ∀ d q : Rat, q - d ≤ 1 / 2 → -(1 / 2) ≤ q - d → d / M ≤ q / M + 1 / 2 / M ∧ q / M - 1 / 2 / M ≤ d / M := by
    intro d q h1 h2
    constructor
    · refine q_div_le hMr ?_
      have : (q / M + 1 / 2 / M) * M = q + 1 / 2 := by grind
      grind
    · refine q_le_div hMr ?_
      have : (q / M - 1 / 2 / M) * M = q - 1 / 2 := by grind
      grind
  obtain ⟨d1, d2⟩ := hdm _ _ v1 v2
  rw [eyd] at d1 d2
  have hcases := cf_cases hL hT0 (show 70 ≤ 3 * (L * T) by omega)
  have hser := fun N hN => ser_Lam (N := N) (T := T) (R := R) (M := M) (y := y) (τ := 1 / (((2 : Int) ^ L : Int) : Rat) + 1 / 2000000) hN hT0 hM0 (by grind) (by grind) h8y (by grind) (by grind) (by grind) hp
  refine ⟨_, ?_, hcases, hser⟩
  unfold cfq
  generalize 1 / (((2 : Int) ^ L : Int) : Rat) = b at *
  have p1 : 0 ≤ (b + 1 / 2000000) / (1 - (b + 1 / 2000000)) := q_div_nn (by grind) (by grind)
  have p2 : 0 ≤ 1 / ((1 - (b + 1 / 2000000)) * (1 - (b + 1 / 2000000))) := q_div_nn (by grind) (Rat.mul_pos (by grind) (by grind))
  have p3 : 0 ≤ 1 / (((T : Rat) + 1) * (1 - (b + 1 / 2000000))) := q_div_nn (by grind) (Rat.mul_pos (by grind) (by grind))
  clear hser hcases d1 d2 hy1 hy2 hp τX
  grind
theorem above10 {M x C : Int} {lam : Rat} {L T len : Nat} (K : Up M x lam C) (hx2 : x < 2 ^ 201 * M) (hL3 : 3 ≤ L) (hL : L ≤ 40) (hT0 : 0 < T) (hlen : M < 10 ^ len) (hT : 10 * len ≤ 3 * (L * T)) :
    ∃ R, R ≤ 48 ∧ (∀ R', R' < R → M * 2 ^ R' ≤ ((ys M x R').natAbs : Int) * 2 ^ L) ∧ ((ys M x R).natAbs : Int) * 2 ^ L < M * 2 ^ R ∧
      ∀ N : Nat, 0 < N → ((dn (hw M (dn (ys M x R) (2 ^ R)) T (T - 1) * ys M x R) M : Int) : Rat) - M * lgI N x M ≤ ((L : Rat) + 5) * (1 / 2 + 3 / 8 * lam) - 1 / 100 + 7 * ((2 ^ R * M : Int) : Rat) / (N : Rat) ∧
        -(((L : Rat) + 5) * (1 / 2 + 3 / 8 * lam) - 1 / 100 + 7 * ((2 ^ R * M : Int) : Rat) / (N : Rat)) ≤ ((dn (hw M (dn (ys M x R) (2 ^ R)) T (T - 1) * ys M x R) M : Int) : Rat) - M * lgI N x M := by
  have hM6 := K.M6
  have hM : 0 < M := by omega
  have hx := K.hx
  have hl0 := K.l0
  refine Classical.byContradiction fun hG => ?_
  obtain ⟨R, hR, hgo, hstop, hE⟩ := up_end K hx2 hL
  refine hG ⟨R, hR, hgo, hstop, fun N hN => ?_⟩
  obtain ⟨cf, cf0, cf1, hser⟩ := ser10 hM6 hL3 hstop hT0 hlen hT
  obtain ⟨s1, s2⟩ := hser N hN
  obtain ⟨e1, e2⟩ := hE N hN
  obtain ⟨m, P, D, y, r, y', h, H⟩ := halv hM (show 0 < x by omega) R
  have hU := up_U hM hx H hE K.hl
  have hy0 := (ys_up hM hx R).1
  have hyn : y = ((ys M x R).natAbs : Rat) := by rw [H.ey]; exact natAbs_up hy0
  have hyq : 0 ≤ y := by rw [H.ey]; have := int_le hy0; exact_mod_cast this
  have hm : 1000000 ≤ m := by rw [H.em]; exact M6_q hM6
  obtain ⟨d1, d2⟩ := dn_q (a := hw M (dn (ys M x R) (2 ^ R)) T (T - 1) * ys M x R) hM
  have cW : ((hw M (dn (ys M x R) (2 ^ R)) T (T - 1) * ys M x R : Int) : Rat) = ((hw M (dn (ys M x R) (2 ^ R)) T (T - 1) : Int) : Rat) * ((ys M x R : Int) : Rat) := by rw [Rat.intCast_mul]
  rw [cW] at d1 d2
  have e0 : Lam N M (ys M x 0) 0 = m * lgI N x M := by
    unfold Lam
    have a1 : (2 : Int) ^ 0 * M = M := by rw [Int.pow_zero, Int.one_mul]
    have a2 : M + ys M x 0 = x := by show M + (x - M) = x; omega
    rw [a1, a2, H.em]
  rw [e0] at e1 e2
  rw [← hyn, ← H.eD, ← H.em] at s1 s2
  rw [← H.eD] at e1 e2
  rw [← H.em] at d1 d2
  rw [← H.em, ← H.eD]
  have hXr := int_pos (two_pos L)
  -- y / m
  have hDp : 0 < D := by rw [H.eD]; exact int_pos (Int.mul_pos (two_pos R) hM)
  have hyD : y * (((2 : Int) ^ L : Int) : Rat) ≤ D := by
    have h1 := int_le (show ((ys M x R).natAbs : Int) * 2 ^ L ≤ 2 ^ R * M by rw [Int.mul_comm (2 ^ R)]; omega)
    have c : ((((ys M x R).natAbs : Int) * 2 ^ L : Int) : Rat) = ((ys M x R).natAbs : Rat) * (((2 : Int) ^ L : Int) : Rat) := by first | exact Rat.intCast_add .. | exact Rat.intCast_sub .. | exact Rat.intCast_mul .. | exact Rat.intCast_neg .. | exact_mod_cast rfl
    rw [c, ← hyn, ← H.eD] at h1
    exact h1
  have hLq : (L : Rat) ≤ 40 := by
    have := nat_le hL
    have e : ((40 : Nat) : Rat) = 40 := by first | exact Rat.intCast_add .. | exact Rat.intCast_sub .. | exact Rat.intCast_mul .. | exact Rat.intCast_neg .. | exact_mod_cast rfl
    rw [e] at this; exact this
  have hL0 : (3 : Rat) ≤ (L : Rat) := by
    have := nat_le hL3
    have e : ((3 : Nat) : Rat) = 3 := by first | exact Rat.intCast_add .. | exact Rat.intCast_sub .. | exact Rat.intCast_mul .. | exact Rat.intCast_neg .. | exact_mod_cast rfl
    rw [e] at this; exact this
  obtain ⟨iX, hiX⟩ : ∃ iX, iX = 1 / (((2 : Int) ^ L : Int) : Rat) := ⟨_, rfl⟩
  have hi0 : 0 ≤ iX := by rw [hiX]; exact q_div_nn (by grind) hXr
  have hyiX : y ≤ D * iX := by
    have : D * iX = D / (((2 : Int) ^ L : Int) : Rat) := by rw [hiX]; grind
    rw [this]; exact q_le_div hXr hyD
  rw [← hiX] at cf1
  generalize hEE : 77 / 100 + 55 / 100 * lam + (L : Rat) * (1 / 2 + 3 / 8 * lam) + (1 / 2 + 3 / 8 * lam) / 100 = E at *
  have hB0 : 0 ≤ 1 / 2 + 3 / 8 * lam := by grind
  have hLB := q_mul_le hLq hB0
  have hLB0 := q_mul_nn (show 0 ≤ (L : Rat) by grind) hB0
  have hE0 : 0 ≤ E := by grind
  have hE1 : E ≤ 48 * (1 / 2 + 3 / 8 * lam) := by grind
  -- y <= (m lam + E) (1 + iX / 2)
  have hT0' : 0 ≤ m * lam + E := by have := q_mul_nn (show 0 ≤ m by first | with_reducible assumption | with_reducible exact Rat.le_of_lt (by assumption) | with_reducible exact nn6 (by assumption) | with_reducible exact nn1 (by assumption) | with_reducible exact nn2 (by assumption) | grind) hl0; grind
  have hy1 : y ≤ (m * lam + E) * (1 + 1 / 2 * iX) := by
    refine q_cancel (c := 2 * D) (by grind) ?_
    have k := q_mul_le' hyiX hT0'
    grind
  have hy2 : y / m ≤ (lam + 48 * (1 / 2 + 3 / 8 * lam) / 1000000) * (1 + 1 / 2 * iX) := by
    refine q_div_le (by grind) ?_
    have k1 := q_mul_le' hm (show 0 ≤ 48 * (1 / 2 + 3 / 8 * lam) / 1000000 by grind)
    have k2 : m * lam + E ≤ (lam + 48 * (1 / 2 + 3 / 8 * lam) / 1000000) * m := by grind
    have k3 := q_mul_le k2 (show 0 ≤ 1 + 1 / 2 * iX by grind)
    grind
  have hcost : y / m * cf ≤ (lam + 48 * (1 / 2 + 3 / 8 * lam) / 1000000) * (12501 / 10000) := by
    have k1 := q_mul_le hy2 cf0
    have k2 := q_mul_le' cf1 (show 0 ≤ lam + 48 * (1 / 2 + 3 / 8 * lam) / 1000000 by grind)
    grind
  clear hy2 hy1 hU hyiX hyD hser cf1
  generalize ((dn (hw M (dn (ys M x R) (2 ^ R)) T (T - 1) * ys M x R) M : Int) : Rat) = told at *
  generalize ((hw M (dn (ys M x R) (2 ^ R)) T (T - 1) : Int) : Rat) * ((ys M x R : Int) : Rat) / m = wy at *
  generalize Lam N M (ys M x R) R = la at *
  generalize m * lgI N x M = l0 at *
  generalize y / m * cf = q at *
  have e7 : 7 * D / (N : Rat) = 3 * D / (N : Rat) + 4 * D / (N : Rat) := by grind
  rw [e7]
  generalize 3 * D / (N : Rat) = n3 at *
  generalize 4 * D / (N : Rat) = n4 at *
  have eB : ((L : Rat) + 5) * (1 / 2 + 3 / 8 * lam) = (L : Rat) * (1 / 2 + 3 / 8 * lam) + 5 * (1 / 2 + 3 / 8 * lam) := by grind
  rw [eB]
  generalize (L : Rat) * (1 / 2 + 3 / 8 * lam) = LB at *
  clear hyn hm H hE e0 cW
  constructor <;> grind
set_option maxHeartbeats 1000000
set_option linter.unusedVariables false
set_option linter.unusedSimpArgs false
-- below the scale: what a halving costs, against (u + 1/2)(1/z - 1)
theorem pot_w {z w e : Rat} (he0 : 0 < e) (he : e ≤ 1 / 1000000) (hz0 : 990 * e ≤ z) (hw0 : 0 < w) (h2 : z ≤ w * w + (w + 1 / 2) * e) : 31400 * e ≤ w := by
  apply Rat.not_lt.mp
  intro hlt
  have a1 := q_mul_le (show w ≤ 31400 * e by grind) (show 0 ≤ w by first | with_reducible assumption | with_reducible exact Rat.le_of_lt (by assumption) | with_reducible exact nn6 (by assumption) | with_reducible exact nn1 (by assumption) | with_reducible exact nn2 (by assumption) | grind)
  have a2 := q_mul_le' (show w ≤ 31400 * e by grind) (show 0 ≤ 31400 * e by grind)
  have a3 := q_mul_le he (show 0 ≤ e by first | with_reducible assumption | with_reducible exact Rat.le_of_lt (by assumption) | with_reducible exact nn6 (by assumption) | with_reducible exact nn1 (by assumption) | with_reducible exact nn2 (by assumption) | grind)
  have a4 := q_mul_le (show w ≤ 1 / 10 by grind) (show 0 ≤ e by first | with_reducible assumption | with_reducible exact Rat.le_of_lt (by assumption) | with_reducible exact nn6 (by assumption) | with_reducible exact nn1 (by assumption) | with_reducible exact nn2 (by assumption) | grind)
  grind
theorem pot_zt {z w e zt : Rat} (he0 : 0 < e) (hw0 : 0 < w) (hz0 : 0 < z) (hz1 : z ≤ 1) (h1 : w * w - (w + 1 / 2) * e ≤ z) (h2 : z ≤ w * w + (w + 1 / 2) * e) (hzt : zt * (1 + w) = w + z) :
    0 < zt ∧ zt ≤ 1 ∧ w - zt ≤ e ∧ -e ≤ w - zt ∧ 1 - z = (1 - zt) * (1 + w) ∧ z ≤ zt * zt + e * (1 - zt) ∧ zt * zt - e * (1 - zt) ≤ z := by
  have hw1 : 0 < 1 + w := by grind
  have k0 : 0 < zt := by
    have : (w + z) / (1 + w) = zt := by rw [← hzt]; grind
    rw [← this]; exact q_div_pos (by grind) hw1
  have k1 : zt ≤ 1 := q_cancel hw1 (by grind)
  have k2 : w - zt ≤ e := q_cancel hw1 (by
    have := q_mul_nn (show 0 ≤ e by first | with_reducible assumption | with_reducible exact Rat.le_of_lt (by assumption) | with_reducible exact nn6 (by assumption) | with_reducible exact nn1 (by assumption) | with_reducible exact nn2 (by assumption) | grind) (show (0 : Rat) ≤ 1 / 2 by decide +kernel)
    grind)
  have k3 : -e ≤ w - zt := q_cancel hw1 (by
    have := q_mul_nn (show 0 ≤ e by first | with_reducible assumption | with_reducible exact Rat.le_of_lt (by assumption) | with_reducible exact nn6 (by assumption) | with_reducible exact nn1 (by assumption) | with_reducible exact nn2 (by assumption) | grind) (show (0 : Rat) ≤ 1 / 2 by decide +kernel)
    grind)
  have m1 := q_mul_le k2 (show 0 ≤ 1 - zt by first | with_reducible exact n1s (by assumption) | grind)
  have m2 := q_mul_le k3 (show 0 ≤ 1 - zt by first | with_reducible exact n1s (by assumption) | grind)
  exact ⟨k0, k1, k2, k3, by grind, by grind, by grind⟩
theorem pot_next {P z e zt z' : Rat} (hP : 2 ≤ P) (he0 : 0 < e) (he : e ≤ 1 / 1000000) (k1 : zt ≤ 1) (hzt : 31000 * e ≤ zt) (hz0 : 0 < z) (k6 : z ≤ zt * zt + e * (1 - zt)) (hz' : zt - e / (4 * P) ≤ z') (hz'1 : z' ≤ 1) :
    z * ((2 * P * (1 - z') + 1 / 2) * (1 / z' - 1)) ≤ 2 * P * (1 - zt) * (1 - zt) * (zt + 1 / 30000 * (1 - zt)) + (1 - zt) * zt / 2 + 1 / 60000 * (1 - zt) * (1 - zt) + 5 * e := by
  obtain ⟨n, hn⟩ : ∃ n, n = e / (4 * P) := ⟨_, rfl⟩
  have hP4 : 0 < 4 * P := by grind
  have hn0 : 0 < n := by rw [hn]; exact q_div_pos he0 hP4
  have hPn : 4 * (P * n) = e := by rw [hn]; grind
  have hn8 : n ≤ e / 8 := by rw [hn]; exact q_div_le hP4 (by have := q_mul_le' hP (show 0 ≤ e by first | with_reducible assumption | with_reducible exact Rat.le_of_lt (by assumption) | with_reducible exact nn6 (by assumption) | with_reducible exact nn1 (by assumption) | with_reducible exact nn2 (by assumption) | grind); grind)
  rw [← hn] at hz'
  clear hn
  have hz'0 : 0 < z' := by grind
  -- z / z'
  have hk : z / z' ≤ zt + 1 / 30000 * (1 - zt) + 2 * n := by
    refine q_div_le hz'0 ?_
    have hK0 : 0 ≤ zt + 1 / 30000 * (1 - zt) + 2 * n := by grind
    have a := q_mul_le' hz' hK0
    have b1 := q_mul_le (show 30000 * e ≤ zt - n by grind) (show 0 ≤ 1 - zt by first | with_reducible exact n1s (by assumption) | grind)
    have b2 := q_mul_nn (show 0 ≤ n by first | with_reducible assumption | with_reducible exact Rat.le_of_lt (by assumption) | with_reducible exact nn6 (by assumption) | with_reducible exact nn1 (by assumption) | with_reducible exact nn2 (by assumption) | grind) (show 0 ≤ zt - 2 * n by grind)
    grind
  have hk0 : 0 ≤ z / z' := q_div_nn (by grind) hz'0
  have e1 : z * ((2 * P * (1 - z') + 1 / 2) * (1 / z' - 1)) = (2 * P * (1 - z') + 1 / 2) * (1 - z') * (z / z') := by grind
  rw [e1]
  generalize z / z' = k at *
  obtain ⟨b, hb⟩ : ∃ b, b = 1 - zt := ⟨_, rfl⟩
  rw [← hb] at hk ⊢
  have hb0 : 0 ≤ b := by grind
  have hb1 : b ≤ 1 := by grind
  obtain ⟨d, hd⟩ : ∃ d, d = 1 - z' := ⟨_, rfl⟩
  rw [← hd]
  have hd0 : 0 ≤ d := by grind
  have hdb : d ≤ b + n := by grind
  have s1 : (2 * P * d + 1 / 2) * d ≤ (2 * P * (b + n) + 1 / 2) * (b + n) := by
    have c1 := q_mul_le' hdb (show 0 ≤ 2 * P by first | with_reducible exact n2 (by first | with_reducible assumption | with_reducible exact Rat.le_of_lt (by assumption) | with_reducible exact nn6 (by assumption) | with_reducible exact nn1 (by assumption) | with_reducible exact nn2 (by assumption)) | grind)
    have c2 := q_mul_le (show 2 * P * d + 1 / 2 ≤ 2 * P * (b + n) + 1 / 2 by grind) hd0
    have c3 := q_mul_le' hdb (show 0 ≤ 2 * P * (b + n) + 1 / 2 by have := q_mul_nn (show 0 ≤ 2 * P by first | with_reducible exact n2 (by first | with_reducible assumption | with_reducible exact Rat.le_of_lt (by assumption) | with_reducible exact nn6 (by assumption) | with_reducible exact nn1 (by assumption) | with_reducible exact nn2 (by assumption)) | grind) (show 0 ≤ b + n by first | with_reducible exact ad (by assumption) | with_reducible exact ad' (by assumption) | with_reducible exact Rat.add_nonneg (by first | with_reducible assumption | with_reducible exact Rat.le_of_lt (by assumption) | with_reducible exact nn6 (by assumption) | with_reducible exact nn1 (by assumption) | with_reducible exact nn2 (by assumption)) (by first | with_reducible assumption | with_reducible exact Rat.le_of_lt (by assumption) | with_reducible exact nn6 (by assumption) | with_reducible exact nn1 (by assumption) | with_reducible exact nn2 (by assumption)) | grind); grind)
    grind
  have t0 : 0 ≤ (2 * P * (b + n) + 1 / 2) * (b + n) := q_mul_nn (by have := q_mul_nn (show 0 ≤ 2 * P by first | with_reducible exact n2 (by first | with_reducible assumption | with_reducible exact Rat.le_of_lt (by assumption) | with_reducible exact nn6 (by assumption) | with_reducible exact nn1 (by assumption) | with_reducible exact nn2 (by assumption)) | grind) (show 0 ≤ b + n by first | with_reducible exact ad (by assumption) | with_reducible exact ad' (by assumption) | with_reducible exact Rat.add_nonneg (by first | with_reducible assumption | with_reducible exact Rat.le_of_lt (by assumption) | with_reducible exact nn6 (by assumption) | with_reducible exact nn1 (by assumption) | with_reducible exact nn2 (by assumption)) (by first | with_reducible assumption | with_reducible exact Rat.le_of_lt (by assumption) | with_reducible exact nn6 (by assumption) | with_reducible exact nn1 (by assumption) | with_reducible exact nn2 (by assumption)) | grind); grind) (by grind)
  have s2 := q_mul_le s1 hk0
  have s3 := q_mul_le' hk t0
  have s4 := Rat.le_trans s2 s3
  refine Rat.le_trans s4 ?_
  -- the small parts
  have ex : (2 * P * (b + n) + 1 / 2) * (b + n) = 2 * P * b * b + (e * b + e * n / 2 + b / 2 + n / 2) := by
    have : 2 * P * (b + n) * (b + n) = 2 * P * b * b + 4 * (P * n) * b + 4 * (P * n) * n / 2 := by grind
    rw [hPn] at this
    grind
  rw [ex]
  obtain ⟨K, hK⟩ : ∃ K, K = zt + 1 / 30000 * b := ⟨_, rfl⟩
  rw [← hK]
  have hK1 : K ≤ 1 := by grind
  have hK0 : 0 ≤ K := by grind
  have f1 : 2 * P * b * b * (2 * n) ≤ e := by
    have : 2 * P * b * b * (2 * n) = 4 * (P * n) * (b * b) := by grind
    rw [this, hPn]
    have h1 := q_mul_le hb1 hb0
    have h2 := q_mul_le' (show b * b ≤ 1 by grind) (show 0 ≤ e by first | with_reducible assumption | with_reducible exact Rat.le_of_lt (by assumption) | with_reducible exact nn6 (by assumption) | with_reducible exact nn1 (by assumption) | with_reducible exact nn2 (by assumption) | grind)
    grind
  have f2 : (e * b + e * n / 2 + n / 2) * (K + 2 * n) ≤ 2 * e := by
    have h1 := q_mul_le' hb1 (show 0 ≤ e by first | with_reducible assumption | with_reducible exact Rat.le_of_lt (by assumption) | with_reducible exact nn6 (by assumption) | with_reducible exact nn1 (by assumption) | with_reducible exact nn2 (by assumption) | grind)
    have h2 := q_mul_le' (show n ≤ 1 by grind) (show 0 ≤ e by first | with_reducible assumption | with_reducible exact Rat.le_of_lt (by assumption) | with_reducible exact nn6 (by assumption) | with_reducible exact nn1 (by assumption) | with_reducible exact nn2 (by assumption) | grind)
    have h3 := q_mul_nn (show 0 ≤ e by first | with_reducible assumption | with_reducible exact Rat.le_of_lt (by assumption) | with_reducible exact nn6 (by assumption) | with_reducible exact nn1 (by assumption) | with_reducible exact nn2 (by assumption) | grind) hb0
    have h4 := q_mul_nn (show 0 ≤ e by first | with_reducible assumption | with_reducible exact Rat.le_of_lt (by assumption) | with_reducible exact nn6 (by assumption) | with_reducible exact nn1 (by assumption) | with_reducible exact nn2 (by assumption) | grind) (show 0 ≤ n by first | with_reducible assumption | with_reducible exact Rat.le_of_lt (by assumption) | with_reducible exact nn6 (by assumption) | with_reducible exact nn1 (by assumption) | with_reducible exact nn2 (by assumption) | grind)
    have h5 := q_mul_le' (show K + 2 * n ≤ 11 / 10 by grind) (show 0 ≤ e * b + e * n / 2 + n / 2 by grind)
    grind
  have f3 : b / 2 * (K + 2 * n) ≤ b * zt / 2 + 1 / 60000 * b * b + e := by
    have h1 := q_mul_le hb1 (show 0 ≤ n by first | with_reducible assumption | with_reducible exact Rat.le_of_lt (by assumption) | with_reducible exact nn6 (by assumption) | with_reducible exact nn1 (by assumption) | with_reducible exact nn2 (by assumption) | grind)
    rw [hK]
    grind
  clear s1 s2 s3 s4 hk ex t0 hK hz' k6 hzt e1
  grind
theorem pot_step {P z w e z' zt κ γ g : Rat} (hP : 2 ≤ P) (he0 : 0 < e) (he : e ≤ 1 / 1000000) (hz0 : 990 * e ≤ z) (hz1 : z ≤ 1) (hw0 : 0 < w) (h1 : w * w - (w + 1 / 2) * e ≤ z) (h2 : z ≤ w * w + (w + 1 / 2) * e) (hzt : zt * (1 + w) = w + z)
    (hz' : zt - e / (4 * P) ≤ z') (hz'1 : z' ≤ 1) (hk1 : 1 ≤ κ) (hk2 : κ ≤ 2)
    (hPp : κ * (w + 1 / 2) + 2 * (1 + w) * (1 - zt) * (zt + 1 / 30000 * (1 - zt)) ≤ (1 + w) * (1 + w) * (1 + w) * (1 - zt) + γ * ((1 + w) * (1 + w)) * z)
    (hcp : κ * zt / 2 + (1 - zt) * zt / 2 + 1 / 60000 * (1 - zt) * (1 - zt) + 6 * e ≤ (1 - z) / 2 + g * z) :
    κ * (P * (1 - z) * (w + 1 / 2) / ((1 + w) * (1 + w) * z) + (w + z) / (2 * z * (1 + w)) + e / (16 * P * z)) + (2 * P * (1 - z') + 1 / 2) * (1 / z' - 1) ≤ (P * (1 - z) + 1 / 2) * (1 / z - 1) + g + γ * (P * (1 - z)) := by
  have hzp : 0 < z := by grind
  obtain ⟨k0, k1, k2, k3, k4, k5, k6⟩ := pot_zt he0 hw0 hzp hz1 h1 h2 hzt
  have hw := pot_w he0 he hz0 hw0 h2
  have hn := pot_next hP he0 he k1 (by grind) hzp k5 hz' hz'1
  have hw1 : 0 < 1 + w := by grind
  obtain ⟨b, hb⟩ : ∃ b, b = 1 - zt := ⟨_, rfl⟩
  rw [← hb] at hn hPp hcp k4 k5 k6
  have hb0 : 0 ≤ b := by grind
  obtain ⟨X, hX⟩ : ∃ X, X = P * b * (w + 1 / 2) / (1 + w) := ⟨_, rfl⟩
  have hX1 : X * (1 + w) = P * b * (w + 1 / 2) := by rw [hX]; grind
  -- c z
  have cz : (P * (1 - z) * (w + 1 / 2) / ((1 + w) * (1 + w) * z) + (w + z) / (2 * z * (1 + w)) + e / (16 * P * z)) * z = X + zt / 2 + e / (16 * P) := by
    have n1 : 1 + w ≠ 0 := by grind
    have n2 : z ≠ 0 := by grind
    have n3 : P ≠ 0 := by grind
    have a1 : P * (1 - z) * (w + 1 / 2) / ((1 + w) * (1 + w) * z) * z = X := by
      rw [hX, k4]
      clear hn hPp hcp h1 h2 hX hX1 k5 k6 hz' k4
      grind
    have a2 : (w + z) / (2 * z * (1 + w)) * z = zt / 2 := by
      rw [← hzt]
      clear hn hPp hcp h1 h2 hX hX1 k5 k6 hz' k4 hzt a1
      grind
    have a3 : e / (16 * P * z) * z = e / (16 * P) := by
      clear hn hPp hcp h1 h2 hX hX1 k5 k6 hz' k4 hzt a1 a2
      grind
    rw [← a1, ← a2, ← a3]
    grind
  have hPe : e / (16 * P) ≤ e / 32 := q_div_le (by grind) (by have := q_mul_le' hP (show 0 ≤ e by first | with_reducible assumption | with_reducible exact Rat.le_of_lt (by assumption) | with_reducible exact nn6 (by assumption) | with_reducible exact nn1 (by assumption) | with_reducible exact nn2 (by assumption) | grind); grind)
  have hPe0 : 0 ≤ e / (16 * P) := q_div_nn (by grind) (by grind)
  -- the P part
  have hPb : κ * X + 2 * P * b * b * (zt + 1 / 30000 * b) ≤ P * (1 - z) * (1 - z) + γ * (P * (1 - z)) * z := by
    refine q_cancel hw1 ?_
    have m := q_mul_le' hPp (show 0 ≤ P * b from q_mul_nn (by grind) hb0)
    have e1 : (κ * X + 2 * P * b * b * (zt + 1 / 30000 * b)) * (1 + w) = P * b * (κ * (w + 1 / 2) + 2 * (1 + w) * b * (zt + 1 / 30000 * b)) := by
      have : κ * X * (1 + w) = κ * (P * b * (w + 1 / 2)) := by rw [← hX1]; grind
      grind
    have e2 : (P * (1 - z) * (1 - z) + γ * (P * (1 - z)) * z) * (1 + w) = P * b * ((1 + w) * (1 + w) * (1 + w) * b + γ * ((1 + w) * (1 + w)) * z) := by
      rw [k4]
      clear hn hPp hcp h1 h2 hX hX1 k5 k6 hz' k4 hzt cz m e1
      grind
    rw [e1, e2]; exact m
  refine q_cancel hzp ?_
  have e3 : ((P * (1 - z) + 1 / 2) * (1 / z - 1) + g + γ * (P * (1 - z))) * z = P * (1 - z) * (1 - z) + (1 - z) / 2 + g * z + γ * (P * (1 - z)) * z := by
    have n2 : z ≠ 0 := by grind
    clear hn hPp hcp h1 h2 hX hX1 k5 k6 hz' k4 hzt cz hPb
    grind
  rw [e3]
  generalize hc : P * (1 - z) * (w + 1 / 2) / ((1 + w) * (1 + w) * z) + (w + z) / (2 * z * (1 + w)) + e / (16 * P * z) = c at *
  generalize hp : (2 * P * (1 - z') + 1 / 2) * (1 / z' - 1) = p' at *
  have m2 := q_mul_le hk2 hPe0
  have e4 : (κ * c + p') * z = κ * (c * z) + z * p' := by grind
  rw [e4, cz]
  clear hPp hX hX1 hc hp e3 e4 k4 k5 k6 hzt h1 h2
  grind
set_option maxHeartbeats 1000000
set_option linter.unusedVariables false
set_option linter.unusedSimpArgs false
theorem q_sq (a : Rat) : 0 ≤ a * a := by
  rcases (Rat.le_total : (0 : Rat) ≤ a ∨ a ≤ 0) with h | h
  · exact q_mul_nn h h
  · have := q_mul_nn (show 0 ≤ -a by grind) (show 0 ≤ -a by grind)
    grind
theorem pot_cube {w e zt : Rat} (he0 : 0 < e) (he : e ≤ 1 / 1000000) (k0 : 0 < zt) (k1 : zt ≤ 1) (k2 : w - zt ≤ e) (k3 : -e ≤ w - zt) :
    (1 + zt) * (1 + zt) - 4 * e ≤ (1 + w) * (1 + w) ∧ (1 + zt) * (1 + zt) * (1 + zt) - 12 * e ≤ (1 + w) * (1 + w) * (1 + w) := by
  have a1 : (1 + zt) * (1 + zt) - 4 * e ≤ (1 + w) * (1 + w) := by
    have h := q_mul_nn (show 0 ≤ w - zt + e by grind) (show 0 ≤ 2 + zt + w by grind)
    have h2 := q_mul_le' (show 2 + zt + w ≤ 4 + e by grind) (show 0 ≤ e by first | with_reducible assumption | with_reducible exact Rat.le_of_lt (by assumption) | with_reducible exact nn6 (by assumption) | with_reducible exact nn1 (by assumption) | with_reducible exact nn2 (by assumption) | grind)
    have h3 := q_mul_le (show 2 * zt ≤ 2 by grind) (show 0 ≤ e by first | with_reducible assumption | with_reducible exact Rat.le_of_lt (by assumption) | with_reducible exact nn6 (by assumption) | with_reducible exact nn1 (by assumption) | with_reducible exact nn2 (by assumption) | grind)
    have h4 := q_mul_nn (show 0 ≤ w - zt + e by grind) (show 0 ≤ 2 + 2 * zt - e by grind)
    have h5 := q_sq e
    have h6 := q_mul_le' (show zt ≤ 1 by grind) (show 0 ≤ e by first | with_reducible assumption | with_reducible exact Rat.le_of_lt (by assumption) | with_reducible exact nn6 (by assumption) | with_reducible exact nn1 (by assumption) | with_reducible exact nn2 (by assumption) | grind)
    have h7 := q_sq (w - zt)
    grind
  refine ⟨a1, ?_⟩
  have b1 := q_mul_le a1 (show 0 ≤ 1 + w by first | with_reducible exact n1p (by first | with_reducible assumption | with_reducible exact Rat.le_of_lt (by assumption) | with_reducible exact nn6 (by assumption) | with_reducible exact nn1 (by assumption) | with_reducible exact nn2 (by assumption)) | grind)
  have b2 := q_mul_le' (show 1 + zt - e ≤ 1 + w by grind) (show 0 ≤ (1 + zt) * (1 + zt) - 4 * e by have := q_mul_nn (show 0 ≤ zt by first | with_reducible assumption | with_reducible exact Rat.le_of_lt (by assumption) | with_reducible exact nn6 (by assumption) | with_reducible exact nn1 (by assumption) | with_reducible exact nn2 (by assumption) | grind) (show 0 ≤ zt by first | with_reducible assumption | with_reducible exact Rat.le_of_lt (by assumption) | with_reducible exact nn6 (by assumption) | with_reducible exact nn1 (by assumption) | with_reducible exact nn2 (by assumption) | grind); grind)
  have b3 := q_mul_le' (show zt ≤ 1 by grind) (show 0 ≤ e by first | with_reducible assumption | with_reducible exact Rat.le_of_lt (by assumption) | with_reducible exact nn6 (by assumption) | with_reducible exact nn1 (by assumption) | with_reducible exact nn2 (by assumption) | grind)
  have b4 := q_mul_nn (show 0 ≤ e by first | with_reducible assumption | with_reducible exact Rat.le_of_lt (by assumption) | with_reducible exact nn6 (by assumption) | with_reducible exact nn1 (by assumption) | with_reducible exact nn2 (by assumption) | grind) (q_mul_nn (show 0 ≤ 1 - zt by first | with_reducible exact n1s (by assumption) | grind) (show 0 ≤ 1 + zt by first | with_reducible exact n1p (by first | with_reducible assumption | with_reducible exact Rat.le_of_lt (by assumption) | with_reducible exact nn6 (by assumption) | with_reducible exact nn1 (by assumption) | with_reducible exact nn2 (by assumption)) | grind))
  have b5 := q_mul_nn (show 0 ≤ e by first | with_reducible assumption | with_reducible exact Rat.le_of_lt (by assumption) | with_reducible exact nn6 (by assumption) | with_reducible exact nn1 (by assumption) | with_reducible exact nn2 (by assumption) | grind) (show 0 ≤ e by first | with_reducible assumption | with_reducible exact Rat.le_of_lt (by assumption) | with_reducible exact nn6 (by assumption) | with_reducible exact nn1 (by assumption) | with_reducible exact nn2 (by assumption) | grind)
  grind
theorem pot_far {P z w e z' zt : Rat} (hP : 2 ≤ P) (he0 : 0 < e) (he : e ≤ 1 / 1000000) (hz0 : 990 * e ≤ z) (hz1 : z ≤ 81 / 400) (hw0 : 0 < w) (h1 : w * w - (w + 1 / 2) * e ≤ z) (h2 : z ≤ w * w + (w + 1 / 2) * e) (hzt : zt * (1 + w) = w + z)
    (hz' : zt - e / (4 * P) ≤ z') (hz'1 : z' ≤ 1) :
    1002 / 1000 * (P * (1 - z) * (w + 1 / 2) / ((1 + w) * (1 + w) * z) + (w + z) / (2 * z * (1 + w)) + e / (16 * P * z)) + (2 * P * (1 - z') + 1 / 2) * (1 / z' - 1) ≤ (P * (1 - z) + 1 / 2) * (1 / z - 1) := by
  have hzp : 0 < z := by grind
  obtain ⟨k0, k1, k2, k3, k4, k5, k6⟩ := pot_zt he0 hw0 hzp (by grind) h1 h2 hzt
  obtain ⟨c1, c2⟩ := pot_cube he0 he k0 k1 k2 k3
  have hzt1 : zt ≤ 4502 / 10000 := by
    apply Rat.not_lt.mp; intro hlt
    have a1 := q_mul_le (show 4502 / 10000 ≤ zt by grind) (show (0 : Rat) ≤ 4502 / 10000 by decide +kernel)
    have a2 := q_mul_le' (show 4502 / 10000 ≤ zt by grind) (show (0 : Rat) ≤ zt by first | with_reducible assumption | with_reducible exact Rat.le_of_lt (by assumption) | with_reducible exact nn6 (by assumption) | with_reducible exact nn1 (by assumption) | with_reducible exact nn2 (by assumption) | grind)
    have a3 := q_mul_nn (show 0 ≤ e by first | with_reducible assumption | with_reducible exact Rat.le_of_lt (by assumption) | with_reducible exact nn6 (by assumption) | with_reducible exact nn1 (by assumption) | with_reducible exact nn2 (by assumption) | grind) (show 0 ≤ zt by first | with_reducible assumption | with_reducible exact Rat.le_of_lt (by assumption) | with_reducible exact nn6 (by assumption) | with_reducible exact nn1 (by assumption) | with_reducible exact nn2 (by assumption) | grind)
    grind
  have hq2 : zt * zt ≤ 20269 / 100000 := by
    have a1 := q_mul_le hzt1 (show 0 ≤ zt by first | with_reducible assumption | with_reducible exact Rat.le_of_lt (by assumption) | with_reducible exact nn6 (by assumption) | with_reducible exact nn1 (by assumption) | with_reducible exact nn2 (by assumption) | grind)
    grind
  have hq4 : zt * zt * (zt * zt) ≤ 411 / 10000 := by
    have a1 := q_mul_le hq2 (show 0 ≤ zt * zt from q_sq zt)
    grind
  have hb0 : 0 ≤ 1 - zt := by grind
  have hres := pot_step (κ := 1002 / 1000) (γ := 0) (g := 0) hP he0 he hz0 (by grind) hw0 h1 h2 hzt hz' hz'1 (by grind) (by grind) ?_ ?_
  · grind
  · have d1 := q_mul_le c2 hb0
    have hK0 : 0 ≤ zt + 1 / 30000 * (1 - zt) := by grind
    have d2 := q_mul_le' (show 1 + w ≤ 1 + zt + e by grind) (q_mul_nn hb0 hK0)
    have d3 := q_mul_nn (show 0 ≤ e by first | with_reducible assumption | with_reducible exact Rat.le_of_lt (by assumption) | with_reducible exact nn6 (by assumption) | with_reducible exact nn1 (by assumption) | with_reducible exact nn2 (by assumption) | grind) (show 0 ≤ 1 - (1 - zt) * (zt + 1 / 30000 * (1 - zt)) by
      have := q_mul_le' (show zt + 1 / 30000 * (1 - zt) ≤ 1 by grind) hb0
      grind)
    have d4 := q_mul_nn (show 0 ≤ e by first | with_reducible assumption | with_reducible exact Rat.le_of_lt (by assumption) | with_reducible exact nn6 (by assumption) | with_reducible exact nn1 (by assumption) | with_reducible exact nn2 (by assumption) | grind) (show 0 ≤ zt by first | with_reducible assumption | with_reducible exact Rat.le_of_lt (by assumption) | with_reducible exact nn6 (by assumption) | with_reducible exact nn1 (by assumption) | with_reducible exact nn2 (by assumption) | grind)
    have d5 : (1 + zt) * ((1 - zt) * (1 - zt)) ≤ 1 := by
      have := q_mul_nn (show 0 ≤ zt by first | with_reducible assumption | with_reducible exact Rat.le_of_lt (by assumption) | with_reducible exact nn6 (by assumption) | with_reducible exact nn1 (by assumption) | with_reducible exact nn2 (by assumption) | grind) hb0
      have := q_mul_nn (q_mul_nn (show 0 ≤ zt by first | with_reducible assumption | with_reducible exact Rat.le_of_lt (by assumption) | with_reducible exact nn6 (by assumption) | with_reducible exact nn1 (by assumption) | with_reducible exact nn2 (by assumption) | grind) hb0) (show 0 ≤ 1 + zt by first | with_reducible exact n1p (by first | with_reducible assumption | with_reducible exact Rat.le_of_lt (by assumption) | with_reducible exact nn6 (by assumption) | with_reducible exact nn1 (by assumption) | with_reducible exact nn2 (by assumption)) | grind)
      grind
    clear hz' h1 h2 hzt k4 k5 k6 c1 c2
    grind
  · have d4 := q_mul_nn (show 0 ≤ e by first | with_reducible assumption | with_reducible exact Rat.le_of_lt (by assumption) | with_reducible exact nn6 (by assumption) | with_reducible exact nn1 (by assumption) | with_reducible exact nn2 (by assumption) | grind) (show 0 ≤ zt by first | with_reducible assumption | with_reducible exact Rat.le_of_lt (by assumption) | with_reducible exact nn6 (by assumption) | with_reducible exact nn1 (by assumption) | with_reducible exact nn2 (by assumption) | grind)
    clear hz' h1 h2 hzt k4 c1 c2
    grind
theorem pot_G {t : Rat} (h0 : 0 ≤ t) : 0 ≤ 2 - 4 * t - t * t + 5 * (t * t * t) := by
  have a1 := q_mul_nn h0 (q_sq (t - 59 / 100))
  have a2 := q_sq (t - 586 / 1000)
  grind
theorem pot_near {P z w e z' zt : Rat} (hP : 2 ≤ P) (he0 : 0 < e) (he : e ≤ 1 / 1000000) (hz0 : 81 / 400 ≤ z) (hz1 : z ≤ 1) (hw0 : 0 < w) (h1 : w * w - (w + 1 / 2) * e ≤ z) (h2 : z ≤ w * w + (w + 1 / 2) * e) (hzt : zt * (1 + w) = w + z)
    (hz' : zt - e / (4 * P) ≤ z') (hz'1 : z' ≤ 1) :
    10001 / 10000 * (P * (1 - z) * (w + 1 / 2) / ((1 + w) * (1 + w) * z) + (w + z) / (2 * z * (1 + w)) + e / (16 * P * z)) + (2 * P * (1 - z') + 1 / 2) * (1 / z' - 1) ≤ (P * (1 - z) + 1 / 2) * (1 / z - 1) + 1001 / 2000 + 3003 / 8000 * (P * (1 - z)) := by
  have hzp : 0 < z := by grind
  obtain ⟨k0, k1, k2, k3, k4, k5, k6⟩ := pot_zt he0 hw0 hzp (by grind) h1 h2 hzt
  obtain ⟨c1, c2⟩ := pot_cube he0 he k0 k1 k2 k3
  have hb0 : 0 ≤ 1 - zt := by grind
  have hG := q_mul_nn (pot_G (show 0 ≤ zt by first | with_reducible assumption | with_reducible exact Rat.le_of_lt (by assumption) | with_reducible exact nn6 (by assumption) | with_reducible exact nn1 (by assumption) | with_reducible exact nn2 (by assumption) | grind)) hb0
  refine pot_step (κ := 10001 / 10000) (γ := 3003 / 8000) (g := 1001 / 2000) hP he0 he (by grind) (by grind) hw0 h1 h2 hzt hz' hz'1 (by grind) (by grind) ?_ ?_
  · have d1 := q_mul_le c2 hb0
    have hK0 : 0 ≤ zt + 1 / 30000 * (1 - zt) := by grind
    have d2 := q_mul_le' (show 1 + w ≤ 1 + zt + e by grind) (q_mul_nn hb0 hK0)
    have d3 := q_mul_nn (show 0 ≤ e by first | with_reducible assumption | with_reducible exact Rat.le_of_lt (by assumption) | with_reducible exact nn6 (by assumption) | with_reducible exact nn1 (by assumption) | with_reducible exact nn2 (by assumption) | grind) (show 0 ≤ 1 - (1 - zt) * (zt + 1 / 30000 * (1 - zt)) by
      have := q_mul_le' (show zt + 1 / 30000 * (1 - zt) ≤ 1 by grind) hb0
      grind)
    have d4 := q_mul_nn (show 0 ≤ e by first | with_reducible assumption | with_reducible exact Rat.le_of_lt (by assumption) | with_reducible exact nn6 (by assumption) | with_reducible exact nn1 (by assumption) | with_reducible exact nn2 (by assumption) | grind) (show 0 ≤ zt by first | with_reducible assumption | with_reducible exact Rat.le_of_lt (by assumption) | with_reducible exact nn6 (by assumption) | with_reducible exact nn1 (by assumption) | with_reducible exact nn2 (by assumption) | grind)
    have d5 : (1 + zt) * ((1 - zt) * (1 - zt)) ≤ 2 * (1 - zt) := by
      have := q_mul_nn (q_mul_nn (show 0 ≤ zt by first | with_reducible assumption | with_reducible exact Rat.le_of_lt (by assumption) | with_reducible exact nn6 (by assumption) | with_reducible exact nn1 (by assumption) | with_reducible exact nn2 (by assumption) | grind) hb0) (show 0 ≤ 1 + zt by first | with_reducible exact n1p (by first | with_reducible assumption | with_reducible exact Rat.le_of_lt (by assumption) | with_reducible exact nn6 (by assumption) | with_reducible exact nn1 (by assumption) | with_reducible exact nn2 (by assumption)) | grind)
      have := q_mul_nn hb0 hb0
      have := q_mul_nn (show 0 ≤ zt by first | with_reducible assumption | with_reducible exact Rat.le_of_lt (by assumption) | with_reducible exact nn6 (by assumption) | with_reducible exact nn1 (by assumption) | with_reducible exact nn2 (by assumption) | grind) hb0
      grind
    -- the square times z
    have s1 := q_mul_le c1 (show 0 ≤ z by first | with_reducible assumption | with_reducible exact Rat.le_of_lt (by assumption) | with_reducible exact nn6 (by assumption) | with_reducible exact nn1 (by assumption) | with_reducible exact nn2 (by assumption) | grind)
    have s2 := q_mul_le' k6 (show 0 ≤ (1 + zt) * (1 + zt) from q_sq _)
    have s3 := q_mul_le' hz1 (show 0 ≤ 4 * e by first | with_reducible exact n4 (by first | with_reducible assumption | with_reducible exact Rat.le_of_lt (by assumption) | with_reducible exact nn6 (by assumption) | with_reducible exact nn1 (by assumption) | with_reducible exact nn2 (by assumption)) | grind)
    have s4 := q_mul_le' (show (1 + zt) * (1 + zt) * (1 - zt) ≤ 2 by
      have a1 := q_sq zt
      have a2 := q_mul_nn hb0 (q_mul_nn hb0 (show 0 ≤ 1 + zt by first | with_reducible exact n1p (by first | with_reducible assumption | with_reducible exact Rat.le_of_lt (by assumption) | with_reducible exact nn6 (by assumption) | with_reducible exact nn1 (by assumption) | with_reducible exact nn2 (by assumption)) | grind))
      clear hG d1 d2 d3 d5 hz' h1 h2 hzt k4 k5 c2 s1 s2 s3
      grind) (show 0 ≤ e by first | with_reducible assumption | with_reducible exact Rat.le_of_lt (by assumption) | with_reducible exact nn6 (by assumption) | with_reducible exact nn1 (by assumption) | with_reducible exact nn2 (by assumption) | grind)
    have s5 : (1 + zt) * (1 + zt) * (zt * zt) - 6 * e ≤ (1 + w) * (1 + w) * z := by
      clear hG d1 d2 d3 d5 hz' h1 h2 hzt k4 k5 c2
      grind
    -- two ways
    have hfin : 1 / 4000 ≤ (1 - zt) / 5 + 3 / 8000 * ((1 + zt) * (1 + zt) * (zt * zt)) := by
      by_cases hb : zt ≤ 9 / 10
      · have := q_mul_nn (q_sq (1 + zt)) (q_sq zt)
        grind
      · have a1 := q_mul_le' (show 9 / 10 ≤ zt by grind) (show (0 : Rat) ≤ 9 / 10 by decide +kernel)
        have a2 := q_mul_le (show 9 / 10 ≤ zt by grind) (show (0 : Rat) ≤ zt by first | with_reducible assumption | with_reducible exact Rat.le_of_lt (by assumption) | with_reducible exact nn6 (by assumption) | with_reducible exact nn1 (by assumption) | with_reducible exact nn2 (by assumption) | grind)
        have a3 := q_mul_le' (show 81 / 100 ≤ zt * zt by grind) (q_sq (1 + zt))
        have a4 := q_sq zt
        grind
    clear hz' h1 h2 hzt k4 k5 k6 c1 c2 s1 s2 s3 s4
    grind
  · have d4 := q_mul_nn (show 0 ≤ e by first | with_reducible assumption | with_reducible exact Rat.le_of_lt (by assumption) | with_reducible exact nn6 (by assumption) | with_reducible exact nn1 (by assumption) | with_reducible exact nn2 (by assumption) | grind) (show 0 ≤ zt by first | with_reducible assumption | with_reducible exact Rat.le_of_lt (by assumption) | with_reducible exact nn6 (by assumption) | with_reducible exact nn1 (by assumption) | with_reducible exact nn2 (by assumption) | grind)
    have d5 := q_sq (1 - zt)
    clear hz' h1 h2 hzt k4 c1 c2 hG
    grind
set_option maxHeartbeats 1000000
set_option linter.unusedVariables false
set_option linter.unusedSimpArgs false
theorem first_q {m x s r A : Rat} (hm : 1000000 ≤ m) (hx1 : 1 ≤ x) (hx5 : x ≤ 4 ∨ 5 ≤ x) (hxm : x ≤ m) (hs1 : 1 ≤ s) (hs : m ≤ s * s * x) (hs2 : (s - 1) * (s - 1) * x ≤ m) (hr : 0 < r) (lo : r * r - r ≤ m * x) (hi : m * x ≤ r * r + r)
    (hA1 : A ≤ 2 * m) (hA : 2 * m * (r + x) / (m + r) - 1 / 2 ≤ A) (hA2 : A ≤ 2 * m * (r + x) / (m + r) + 1 / 2) :
    ∃ c, 0 ≤ c ∧ 2 * c ≤ m ∧ 4 * (m - x) * m * r / ((m + r) * (m + r)) + (2 * m * (r + x) / (m + r) + 1 / 4) ≤ 4 * x * c ∧
      c + 2 * c * c / m + (5 / 2 * (2 * m / A) - 9 / 2 + A / m) ≤ 4 * s + 11 / 10 ∧ 1980 ≤ A := by
  have hS : 0 < m + r := by grind
  have hSS := Rat.mul_pos hS hS
  -- F1
  have sx0 : 0 ≤ s * x := q_mul_nn (by grind) (by grind)
  have F1 : 1000 ≤ s * x := by
    apply Rat.not_lt.mp; intro hlt
    have a1 := q_mul_le (show s * x ≤ 1000 by grind) sx0
    have a2 := q_mul_le hs (show 0 ≤ x by first | with_reducible assumption | with_reducible exact Rat.le_of_lt (by assumption) | with_reducible exact nn6 (by assumption) | with_reducible exact nn1 (by assumption) | with_reducible exact nn2 (by assumption) | grind)
    have a3 := q_mul_le' hx1 (show 0 ≤ m by first | with_reducible assumption | with_reducible exact Rat.le_of_lt (by assumption) | with_reducible exact nn6 (by assumption) | with_reducible exact nn1 (by assumption) | with_reducible exact nn2 (by assumption) | grind)
    grind
  have F2 : r ≤ s * x + 3 / 5 := by
    apply Rat.not_lt.mp; intro hlt
    have a1 := q_mul_nn (show 0 ≤ r - (s * x + 3 / 5) by grind) (show 0 ≤ r + s * x + 3 / 5 - 1 by grind)
    have a2 := q_mul_le hs (show 0 ≤ x by first | with_reducible assumption | with_reducible exact Rat.le_of_lt (by assumption) | with_reducible exact nn6 (by assumption) | with_reducible exact nn1 (by assumption) | with_reducible exact nn2 (by assumption) | grind)
    grind
  have F3 : m ≤ s * (r + 1 / 2) := by
    apply Rat.not_lt.mp; intro hlt
    have b0 : 0 ≤ s * (r + 1 / 2) := q_mul_nn (by grind) (by grind)
    have a1 := q_mul_le (show s * (r + 1 / 2) ≤ m by grind) b0
    have a2 := q_mul_le' (show s * (r + 1 / 2) ≤ m by grind) (show 0 ≤ m by first | with_reducible assumption | with_reducible exact Rat.le_of_lt (by assumption) | with_reducible exact nn6 (by assumption) | with_reducible exact nn1 (by assumption) | with_reducible exact nn2 (by assumption) | grind)
    have a3 := q_mul_le' hi (show 0 ≤ s * s from q_sq s)
    have a4 := q_mul_le' hs (show 0 ≤ m by first | with_reducible assumption | with_reducible exact Rat.le_of_lt (by assumption) | with_reducible exact nn6 (by assumption) | with_reducible exact nn1 (by assumption) | with_reducible exact nn2 (by assumption) | grind)
    have a5 := q_mul_le' hs1 (show 0 ≤ s by first | with_reducible assumption | with_reducible exact Rat.le_of_lt (by assumption) | with_reducible exact nn6 (by assumption) | with_reducible exact nn1 (by assumption) | with_reducible exact nn2 (by assumption) | grind)
    grind
  have rm : r ≤ m + 1 := by
    apply Rat.not_lt.mp; intro hlt
    have a1 := q_mul_nn (show 0 ≤ r - (m + 1) by grind) (show 0 ≤ r + m by first | with_reducible exact ad (by assumption) | with_reducible exact ad' (by assumption) | with_reducible exact Rat.add_nonneg (by first | with_reducible assumption | with_reducible exact Rat.le_of_lt (by assumption) | with_reducible exact nn6 (by assumption) | with_reducible exact nn1 (by assumption) | with_reducible exact nn2 (by assumption)) (by first | with_reducible assumption | with_reducible exact Rat.le_of_lt (by assumption) | with_reducible exact nn6 (by assumption) | with_reducible exact nn1 (by assumption) | with_reducible exact nn2 (by assumption)) | grind)
    have a2 := q_mul_le' hxm (show 0 ≤ m by first | with_reducible assumption | with_reducible exact Rat.le_of_lt (by assumption) | with_reducible exact nn6 (by assumption) | with_reducible exact nn1 (by assumption) | with_reducible exact nn2 (by assumption) | grind)
    grind
  have sq1 : (s - 1) * (s - 1) ≤ m := by
    have := q_mul_le' hx1 (q_sq (s - 1))
    grind
  have F4 : s - 1 ≤ m / 992 := by
    apply Rat.not_lt.mp; intro hlt
    have a1 := q_mul_le (show m / 992 ≤ s - 1 by grind) (show 0 ≤ m / 992 by grind)
    have a2 := q_mul_le' (show m / 992 ≤ s - 1 by grind) (show 0 ≤ s - 1 by grind)
    have a3 := q_mul_le hm (show 0 ≤ m by first | with_reducible assumption | with_reducible exact Rat.le_of_lt (by assumption) | with_reducible exact nn6 (by assumption) | with_reducible exact nn1 (by assumption) | with_reducible exact nn2 (by assumption) | grind)
    grind
  have near4 : x ≤ 4 → 500 ≤ s ∧ r ≤ m / 400 := by
    intro hx4
    refine ⟨Rat.not_lt.mp fun hlt => ?_, Rat.not_lt.mp fun hlt => ?_⟩
    · have a1 := q_mul_le (show s ≤ 500 from Rat.le_of_lt hlt) (show 0 ≤ s by first | with_reducible assumption | with_reducible exact Rat.le_of_lt (by assumption) | with_reducible exact nn6 (by assumption) | with_reducible exact nn1 (by assumption) | with_reducible exact nn2 (by assumption) | grind)
      have a2 := q_mul_le' hx4 (q_sq s)
      grind
    · have a1 := q_mul_nn (show 0 ≤ r - m / 400 by grind) (show 0 ≤ r + m / 400 - 1 by grind)
      have a2 := q_mul_le' hx4 (show 0 ≤ m by first | with_reducible assumption | with_reducible exact Rat.le_of_lt (by assumption) | with_reducible exact nn6 (by assumption) | with_reducible exact nn1 (by assumption) | with_reducible exact nn2 (by assumption) | grind)
      have a3 := q_mul_le hm (show 0 ≤ m by first | with_reducible assumption | with_reducible exact Rat.le_of_lt (by assumption) | with_reducible exact nn6 (by assumption) | with_reducible exact nn1 (by assumption) | with_reducible exact nn2 (by assumption) | grind)
      grind
  -- the two parts of A (s + 4/5) >= 2 m
  have F5 : 2 * m ≤ A * (s + 4 / 5) := by
    have key : 2 * m * (m + r) ≤ 2 * m * ((r + x) * (s + 4 / 5)) - 1 / 2 * (m + r) * (s + 4 / 5) := by
      have g1 : m + r - s / 2 - 3 / 5 + 4 / 5 * r + 4 / 5 * x ≤ (r + x) * (s + 4 / 5) := by grind
      have g2 := q_mul_le' g1 (show 0 ≤ 2 * m by first | with_reducible exact n2 (by first | with_reducible assumption | with_reducible exact Rat.le_of_lt (by assumption) | with_reducible exact nn6 (by assumption) | with_reducible exact nn1 (by assumption) | with_reducible exact nn2 (by assumption)) | grind)
      have g3 : 1 / 2 * (m + r) * (s + 4 / 5) ≤ 2 * m * (4 / 5 * r + 4 / 5 * x - s / 2 - 3 / 5) := by
        rcases hx5 with hx4 | hx5
        · -- x <= 4
          obtain ⟨s500, r400⟩ := near4 hx4
          have m996 : 996 / 1000 * s ≤ r + 1 / 2 := by
            refine q_cancel (c := s) (by grind) ?_
            have a1 := q_mul_nn (show 0 ≤ s - 500 by grind) (show 0 ≤ s by first | with_reducible assumption | with_reducible exact Rat.le_of_lt (by assumption) | with_reducible exact nn6 (by assumption) | with_reducible exact nn1 (by assumption) | with_reducible exact nn2 (by assumption) | grind)
            have a2 := q_mul_le' hx1 (q_sq (s - 1))
            grind
          have h1 := q_mul_le' (show 1502 / 1000 * s + 2 ≤ 8 / 5 * r + 8 / 5 * x by grind) (show 0 ≤ m by first | with_reducible assumption | with_reducible exact Rat.le_of_lt (by assumption) | with_reducible exact nn6 (by assumption) | with_reducible exact nn1 (by assumption) | with_reducible exact nn2 (by assumption) | grind)
          have h2 := q_mul_le (show m + r ≤ 401 / 400 * m by grind) (show 0 ≤ s + 4 / 5 by grind)
          have h3 := q_mul_nn (show 0 ≤ m by first | with_reducible assumption | with_reducible exact Rat.le_of_lt (by assumption) | with_reducible exact nn6 (by assumption) | with_reducible exact nn1 (by assumption) | with_reducible exact nn2 (by assumption) | grind) (show 0 ≤ s - 500 by grind)
          grind
        · have m4 : s * x ≤ 4 * (r + 1 / 2) := by
            refine q_cancel (c := s) (by grind) ?_
            have : s * x * s ≤ 4 * m := by
              by_cases h2 : 2 ≤ s
              · have a1 := q_mul_nn (show 0 ≤ s - 2 by grind) (show 0 ≤ 3 * s - 2 by grind)
                have a2 := q_mul_nn a1 (show 0 ≤ x by first | with_reducible assumption | with_reducible exact Rat.le_of_lt (by assumption) | with_reducible exact nn6 (by assumption) | with_reducible exact nn1 (by assumption) | with_reducible exact nn2 (by assumption) | grind)
                grind
              · have a1 := q_mul_nn (show 0 ≤ 2 - s by grind) (show 0 ≤ 2 + s by grind)
                have a2 := q_mul_nn a1 (show 0 ≤ x by first | with_reducible assumption | with_reducible exact Rat.le_of_lt (by assumption) | with_reducible exact nn6 (by assumption) | with_reducible exact nn1 (by assumption) | with_reducible exact nn2 (by assumption) | grind)
                grind
            grind
          have sx5 := q_mul_le' hx5 (show 0 ≤ s by first | with_reducible assumption | with_reducible exact Rat.le_of_lt (by assumption) | with_reducible exact nn6 (by assumption) | with_reducible exact nn1 (by assumption) | with_reducible exact nn2 (by assumption) | grind)
          have h1 := q_mul_le' (show 2 * s + 72 / 10 ≤ 8 / 5 * r + 8 / 5 * x by grind) (show 0 ≤ m by first | with_reducible assumption | with_reducible exact Rat.le_of_lt (by assumption) | with_reducible exact nn6 (by assumption) | with_reducible exact nn1 (by assumption) | with_reducible exact nn2 (by assumption) | grind)
          have h2 := q_mul_le (show m + r ≤ 2 * m + 1 by grind) (show 0 ≤ s + 4 / 5 by grind)
          grind
      grind
    have e1 : A * (s + 4 / 5) = A * (s + 4 / 5) := rfl
    have h1 := q_mul_le hA (show 0 ≤ s + 4 / 5 by grind)
    refine Rat.le_trans ?_ h1
    refine q_cancel hS ?_
    have e2 : (2 * m * (r + x) / (m + r) - 1 / 2) * (s + 4 / 5) * (m + r) = 2 * m * ((r + x) * (s + 4 / 5)) - 1 / 2 * (m + r) * (s + 4 / 5) := by grind
    rw [e2]; exact key
  have F6 : 1980 ≤ A := by
    apply Rat.not_lt.mp; intro hlt
    have a1 := q_mul_le (show A ≤ 1980 by grind) (show 0 ≤ s + 4 / 5 by grind)
    grind
  have hAp : 0 < A := by grind
  have hiA : 2 * m / A ≤ s + 4 / 5 := q_div_le hAp (by grind)
  -- the last rounding
  have p2 : 2 * m * (r + x) / (m + r) ≤ 2 * r + 2 * r / (m + r) := by
    refine q_div_le hS ?_
    have e : (2 * r + 2 * r / (m + r)) * (m + r) = 2 * r * (m + r) + 2 * r := by grind
    rw [e]; grind
  rcases hx5 with hx4 | hx5
  · obtain ⟨s500, r400⟩ := near4 hx4
    have r200 : 2 * r / (m + r) ≤ 1 / 200 := q_div_le hS (by grind)
    refine ⟨3 / 2 * s - 1, by grind, by grind, ?_, ?_, F6⟩
    · have p1 : 4 * (m - x) * m * r / ((m + r) * (m + r)) ≤ 4 * (r - 198 / 100 * x) := by
        refine q_div_le hSS ?_
        have a1 := q_mul_le' (show r ≤ m / 400 by grind) (q_mul_nn (show 0 ≤ m by first | with_reducible assumption | with_reducible exact Rat.le_of_lt (by assumption) | with_reducible exact nn6 (by assumption) | with_reducible exact nn1 (by assumption) | with_reducible exact nn2 (by assumption) | grind) (show 0 ≤ x by first | with_reducible assumption | with_reducible exact Rat.le_of_lt (by assumption) | with_reducible exact nn6 (by assumption) | with_reducible exact nn1 (by assumption) | with_reducible exact nn2 (by assumption) | grind))
        have a2 := q_mul_le' (show r ≤ m / 400 by grind) (show 0 ≤ m by first | with_reducible assumption | with_reducible exact Rat.le_of_lt (by assumption) | with_reducible exact nn6 (by assumption) | with_reducible exact nn1 (by assumption) | with_reducible exact nn2 (by assumption) | grind)
        have a3 := q_mul_le' hx1 (q_sq m)
        have a4 := q_mul_le' (show r ≤ m / 400 by grind) (show 0 ≤ r * x from q_mul_nn (by grind) (by grind))
        have a5 := q_mul_le' hi (show 0 ≤ m by first | with_reducible assumption | with_reducible exact Rat.le_of_lt (by assumption) | with_reducible exact nn6 (by assumption) | with_reducible exact nn1 (by assumption) | with_reducible exact nn2 (by assumption) | grind)
        have a6 := q_mul_nn (q_sq r) (show 0 ≤ r by first | with_reducible assumption | with_reducible exact Rat.le_of_lt (by assumption) | with_reducible exact nn6 (by assumption) | with_reducible exact nn1 (by assumption) | with_reducible exact nn2 (by assumption) | grind)
        have a7 := q_mul_nn (q_mul_nn (show 0 ≤ m by first | with_reducible assumption | with_reducible exact Rat.le_of_lt (by assumption) | with_reducible exact nn6 (by assumption) | with_reducible exact nn1 (by assumption) | with_reducible exact nn2 (by assumption) | grind) (show 0 ≤ r by first | with_reducible assumption | with_reducible exact Rat.le_of_lt (by assumption) | with_reducible exact nn6 (by assumption) | with_reducible exact nn1 (by assumption) | with_reducible exact nn2 (by assumption) | grind)) (show 0 ≤ x by first | with_reducible assumption | with_reducible exact Rat.le_of_lt (by assumption) | with_reducible exact nn6 (by assumption) | with_reducible exact nn1 (by assumption) | with_reducible exact nn2 (by assumption) | grind)
        clear F5 hiA p2 hA hA2 hs hs2 F3 F4
        grind
      grind
    · have Am : A / m ≤ 51 / 10000 := by
        refine q_div_le (by grind) ?_
        have : 2 * m * (r + x) / (m + r) ≤ 2 * (r + x) := q_div_le hS (by
          have := q_mul_nn (show 0 ≤ r + x by first | with_reducible exact ad (by assumption) | with_reducible exact ad' (by assumption) | with_reducible exact Rat.add_nonneg (by first | with_reducible assumption | with_reducible exact Rat.le_of_lt (by assumption) | with_reducible exact nn6 (by assumption) | with_reducible exact nn1 (by assumption) | with_reducible exact nn2 (by assumption)) (by first | with_reducible assumption | with_reducible exact Rat.le_of_lt (by assumption) | with_reducible exact nn6 (by assumption) | with_reducible exact nn1 (by assumption) | with_reducible exact nn2 (by assumption)) | grind) (show 0 ≤ r by first | with_reducible assumption | with_reducible exact Rat.le_of_lt (by assumption) | with_reducible exact nn6 (by assumption) | with_reducible exact nn1 (by assumption) | with_reducible exact nn2 (by assumption) | grind)
          grind)
        grind
      have cc : 2 * (3 / 2 * s - 1) * (3 / 2 * s - 1) / m ≤ 4504 / 1000 := by
        refine q_div_le (by grind) ?_
        grind
      grind
  · refine ⟨3 / 2 * s + 3 / 10, by grind, by grind, ?_, ?_, F6⟩
    · have p1 : 4 * (m - x) * m * r / ((m + r) * (m + r)) ≤ 4 * r := by
        refine q_div_le hSS ?_
        have a1 := q_mul_nn (q_mul_nn (show 0 ≤ x by first | with_reducible assumption | with_reducible exact Rat.le_of_lt (by assumption) | with_reducible exact nn6 (by assumption) | with_reducible exact nn1 (by assumption) | with_reducible exact nn2 (by assumption) | grind) (show 0 ≤ m by first | with_reducible assumption | with_reducible exact Rat.le_of_lt (by assumption) | with_reducible exact nn6 (by assumption) | with_reducible exact nn1 (by assumption) | with_reducible exact nn2 (by assumption) | grind)) (show 0 ≤ r by first | with_reducible assumption | with_reducible exact Rat.le_of_lt (by assumption) | with_reducible exact nn6 (by assumption) | with_reducible exact nn1 (by assumption) | with_reducible exact nn2 (by assumption) | grind)
        have a2 := q_mul_nn (q_mul_nn (show 0 ≤ r by first | with_reducible assumption | with_reducible exact Rat.le_of_lt (by assumption) | with_reducible exact nn6 (by assumption) | with_reducible exact nn1 (by assumption) | with_reducible exact nn2 (by assumption) | grind) (show 0 ≤ m by first | with_reducible assumption | with_reducible exact Rat.le_of_lt (by assumption) | with_reducible exact nn6 (by assumption) | with_reducible exact nn1 (by assumption) | with_reducible exact nn2 (by assumption) | grind)) (show 0 ≤ r by first | with_reducible assumption | with_reducible exact Rat.le_of_lt (by assumption) | with_reducible exact nn6 (by assumption) | with_reducible exact nn1 (by assumption) | with_reducible exact nn2 (by assumption) | grind)
        have a3 := q_mul_nn (q_sq r) (show 0 ≤ r by first | with_reducible assumption | with_reducible exact Rat.le_of_lt (by assumption) | with_reducible exact nn6 (by assumption) | with_reducible exact nn1 (by assumption) | with_reducible exact nn2 (by assumption) | grind)
        clear F5 hiA p2 hA hA2 hs hs2 F3 F4
        grind
      have r2 : 2 * r / (m + r) ≤ 2 := q_div_le hS (by grind)
      grind
    · have Am : A / m ≤ 2 := q_div_le (by grind) (by grind)
      have sq5 : (s - 1) * (s - 1) * 5 ≤ m := by
        have := q_mul_le' hx5 (q_sq (s - 1))
        grind
      have cc : 2 * (3 / 2 * s + 3 / 10) * (3 / 2 * s + 3 / 10) / m ≤ 95 / 100 := by
        refine q_div_le (by grind) ?_
        grind
      grind
set_option maxHeartbeats 1000000
set_option linter.unusedVariables false
set_option linter.unusedSimpArgs false
structure Dn (M x s C : Int) (lam : Rat) : Prop where
  M6 : 1000000 ≤ M
  x0 : 0 < x
  hx : x ≤ M
  s1 : 1 ≤ s
  hs : M ≤ s * s * x
  hs2 : (s - 1) * (s - 1) * x ≤ M
  l0 : 0 ≤ lam
  l200 : lam ≤ 200
  hl : ∀ N : Nat, 0 < N → lgI N M x ≤ lam + (C : Rat) / (N : Rat)
noncomputable def zq (M x : Int) (R : Nat) : Rat := (((2 ^ R * M : Int) : Rat) + ((ys M x R : Int) : Rat)) / ((2 ^ R * M : Int) : Rat)
noncomputable def Pq (R : Nat) : Rat := (((2 : Int) ^ R : Int) : Rat)
noncomputable def pot (M x : Int) (R : Nat) : Rat := (Pq R * (1 - zq M x R) + 1 / 2) * (1 / zq M x R - 1)
theorem q_dm {a b : Rat} (h : b ≠ 0) : a / b * b = a := by grind
theorem q_cost {P m z w V : Rat} (hm : m ≠ 0) (hz : z ≠ 0) (hV : V ≠ 0) : 4 * (-(P * m * (z - 1))) * (P * m) * (w * m + 1 / 2 * m) / (m * m * V) = 4 * (P * m) * z * (P * (1 - z) * (w + 1 / 2) / (V * z)) := by
  have nz : ∀ a b : Rat, a ≠ 0 → b ≠ 0 → a * b ≠ 0 := fun a b ha hb h => (Rat.mul_eq_zero.mp h).elim ha hb
  have h1 := nz _ _ (nz _ _ hm hm) hV
  have h2 := nz _ _ hV hz
  grind
theorem Pq_two (R : Nat) : Pq (R + 1) = 2 * Pq R := by
  unfold Pq
  have : (2 : Int) ^ (R + 1) = 2 * 2 ^ R := by rw [Int.pow_succ]; omega
  rw [this]; exact_mod_cast rfl
theorem natAbs_dn {y : Int} (h : y ≤ 0) : -(y : Rat) = (y.natAbs : Rat) := by
  have : ((y.natAbs : Int) : Rat) = ((-y : Int) : Rat) := by rw [show (y.natAbs : Int) = -y by omega]
  have c : ((-y : Int) : Rat) = -(y : Rat) := by first | exact Rat.intCast_add .. | exact Rat.intCast_sub .. | exact Rat.intCast_mul .. | exact Rat.intCast_neg .. | exact_mod_cast rfl
  rw [← c, ← this]; exact_mod_cast rfl
theorem zq_le {M x : Int} (hM : 0 < M) (hx0 : 0 < x) (hx : x ≤ M) (R : Nat) : zq M x R ≤ 1 := by
  unfold zq
  refine q_div_le (int_pos (Int.mul_pos (two_pos R) hM)) ?_
  have := int_le (ys_down hM hx0 hx R)
  have z : ((0 : Int) : Rat) = 0 := by first | exact Rat.intCast_add .. | exact Rat.intCast_sub .. | exact Rat.intCast_mul .. | exact Rat.intCast_neg .. | exact_mod_cast rfl
  rw [z] at this
  grind
theorem dn_first {M x s C : Int} {lam : Rat} (K : Dn M x s C lam) : ∃ E, 0 ≤ E ∧ Er M x 1 E ∧ E + pot M x 1 ≤ 4 * (s : Rat) + 11 / 10 ∧ 990 ≤ (M : Rat) * zq M x 1 := by
  have hM6 := K.M6
  have hM : 0 < M := by omega
  have hx0 := K.x0
  have hx := K.hx
  obtain ⟨m, P, D, y, r, y', h, H⟩ := halv hM hx0 0
  obtain ⟨eh, eP⟩ : h = 0 ∧ P = 1 := by
    rcases H.hh with ⟨a, _, b⟩ | ⟨_, b, _⟩
    · exact ⟨a, b⟩
    · omega
  have hm : 1000000 ≤ m := by rw [H.em]; exact M6_q hM6
  have eD : D = m := by rw [H.hD, eP]; grind
  have ey : y = (x : Rat) - m := by rw [H.ey, H.em]; show ((x - M : Int) : Rat) = _; exact_mod_cast rfl
  have xq1 : (1 : Rat) ≤ x := by have := int_le (show 1 ≤ x by omega); exact_mod_cast this
  have xqm : (x : Rat) ≤ m := by rw [H.em]; exact int_le hx
  have sq1 : (1 : Rat) ≤ s := by have := int_le K.s1; exact_mod_cast this
  have sqs : m ≤ (s : Rat) * s * x := by
    rw [H.em]
    have := int_le K.hs
    rw [Rat.intCast_mul, Rat.intCast_mul] at this; exact this
  have sqs2 : ((s : Rat) - 1) * ((s : Rat) - 1) * x ≤ m := by
    rw [H.em]
    have := int_le K.hs2
    have c : ((s - 1 : Int) : Rat) = (s : Rat) - 1 := by first | exact Rat.intCast_add .. | exact Rat.intCast_sub .. | exact Rat.intCast_mul .. | exact Rat.intCast_neg .. | exact_mod_cast rfl
    rw [Rat.intCast_mul, Rat.intCast_mul, c] at this; exact this
  have x5 : (x : Rat) ≤ 4 ∨ 5 ≤ (x : Rat) := by
    rcases (show x ≤ 4 ∨ 5 ≤ x by omega) with h | h
    · left; have := int_le h; exact_mod_cast this
    · right; have := int_le h; exact_mod_cast this
  have hr := H.hr
  have lo := H.lo
  have hi := H.hi
  have up := H.up
  have dn' := H.dn
  have e1 : m + y / P = x := by rw [eP, ey]; grind
  rw [e1, eh] at lo hi
  have hS : 0 < m + r := by grind
  have e2 : 2 * m * y / (m + r) = 2 * m * ((r : Rat) + x) / (m + r) - 2 * m := by rw [ey]; grind
  rw [e2] at up dn'
  have y'0 : y' ≤ 0 := by rw [H.ey']; have := int_le (ys_down hM hx0 hx 1); exact_mod_cast this
  obtain ⟨c, c0, c1, c2, c3, c4⟩ := first_q (A := 2 * m + y') hm xq1 x5 xqm sq1 sqs sqs2 hr (by grind) (by grind) (by grind) (by grind) (by grind)
  have hyn : m - (x : Rat) = ((ys M x 0).natAbs : Rat) := by
    rw [← natAbs_dn (ys_down hM hx0 hx 0), ← H.ey, ey]; grind
  have hst := Er_step hM hx0 H (Er_zero hM) hyn c0 (by
    rw [e2, eD, eh, show m + y = (x : Rat) by rw [ey]; grind]
    have e3 : r + 0 * m = r := by grind
    rw [e3]
    grind) (by rw [eD]; exact c1)
  rw [eD] at hst
  have D1 : ((2 ^ 1 * M : Int) : Rat) = 2 * m := by
    rw [H.em]
    have : (2 : Int) ^ 1 * M = 2 * M := by rw [Int.pow_one]
    rw [this]; exact_mod_cast rfl
  have ez : zq M x 1 = (2 * m + y') / (2 * m) := by unfold zq; rw [D1, H.ey']
  have eP1 : Pq 1 = 2 := by unfold Pq; rw [Int.pow_one]; exact_mod_cast rfl
  have hAp : 0 < 2 * m + y' := by grind
  refine ⟨0 + c + 2 * c * c / m, ?_, hst, ?_, ?_⟩
  · have := q_div_nn (show 0 ≤ 2 * c * c by have := q_sq c; grind) (show 0 < m by grind)
    grind
  · unfold pot
    rw [ez, eP1]
    generalize 2 * m + y' = A at *
    have e5 : (2 * (1 - A / (2 * m)) + 1 / 2) * (1 / (A / (2 * m)) - 1) = 5 / 2 * (2 * m / A) - 9 / 2 + A / m := by
      have n1 : A ≠ 0 := by grind
      have n2 : m ≠ 0 := by grind
      clear c2 c3 hst up dn' lo hi sqs sqs2
      grind
    rw [e5]
    grind
  · rw [ez, ← H.em]
    have : m * ((2 * m + y') / (2 * m)) = (2 * m + y') / 2 := by grind
    rw [this]; grind
structure DnN (M x : Int) (R : Nat) (P z w e zt z' c : Rat) : Prop where
  eP : P = Pq R
  ez : z = zq M x R
  ez' : z' = zq M x (R + 1)
  hP : 2 ≤ P
  he0 : 0 < e
  he : e ≤ 1 / 1000000
  hme : (M : Rat) * e = 1
  hz0 : 0 < z
  hz1 : z ≤ 1
  hw0 : 0 < w
  lo : w * w - (w + 1 / 2) * e ≤ z
  hi : z ≤ w * w + (w + 1 / 2) * e
  hzt : zt * (1 + w) = w + z
  hz' : zt - e / (4 * P) ≤ z'
  hz'1 : z' ≤ 1
  hc : c = P * (1 - z) * (w + 1 / 2) / ((1 + w) * (1 + w) * z) + (w + z) / (2 * z * (1 + w)) + e / (16 * P * z)
  hu : -((ys M x R : Int) : Rat) = P * (1 - z) * M
  go : ∀ E κ : Rat, Er M x R E → 0 ≤ c → 2 * c * e ≤ κ * P → κ ≤ 1 → 0 ≤ κ → Er M x (R + 1) (E + (1 + κ) * c)
theorem dn_norm {M x : Int} {R : Nat} (hM6 : 1000000 ≤ M) (hx0 : 0 < x) (hx : x ≤ M) (hR : 0 < R) : ∃ P z w e zt z' c, DnN M x R P z w e zt z' c := by
  have hM : 0 < M := by omega
  obtain ⟨m, P, D, y, r, y', h, H⟩ := halv hM hx0 R
  obtain ⟨eh, hP2⟩ : h = 1 / 2 ∧ 2 ≤ P := by
    rcases H.hh with ⟨_, a, _⟩ | ⟨a, _, b⟩
    · omega
    · exact ⟨a, b⟩
  have hm : 1000000 ≤ m := by rw [H.em]; exact M6_q hM6
  have hmp : 0 < m := by grind
  have hDp : 0 < D := by rw [H.hD]; exact Rat.mul_pos (by grind) hmp
  have y0 : y ≤ 0 := by rw [H.ey]; have := int_le (ys_down hM hx0 hx R); exact_mod_cast this
  have y'0 : y' ≤ 0 := by rw [H.ey']; have := int_le (ys_down hM hx0 hx (R + 1)); exact_mod_cast this
  obtain ⟨z, hz⟩ : ∃ z, z = (D + y) / D := ⟨_, rfl⟩
  obtain ⟨w, hw⟩ : ∃ w, w = r / m := ⟨_, rfl⟩
  obtain ⟨e, he⟩ : ∃ e, e = 1 / m := ⟨_, rfl⟩
  have hme : m * e = 1 := by rw [he]; grind
  have he0 : 0 < e := by rw [he]; exact q_div_pos (by grind) hmp
  have he6 : e ≤ 1 / 1000000 := by rw [he]; exact q_inv_le (by grind) hm
  have eD := H.hD
  have eA : D + y = D * z := by rw [hz]; grind
  have ey : y = P * m * (z - 1) := by rw [← eD]; grind
  have er : r = w * m := by rw [hw]; grind
  have hz0 : 0 < z := by rw [hz]; exact q_div_pos (by have := H.hA; grind) hDp
  have hz1 : z ≤ 1 := by rw [hz]; exact q_div_le hDp (by grind)
  have hw0 : 0 < w := by rw [hw]; exact q_div_pos H.hr hmp
  have yP : m + y / P = m * z := by rw [ey]; grind
  have lo := H.lo
  have hi := H.hi
  rw [yP, eh, er] at lo hi
  have hmm : 0 < m * m := Rat.mul_pos hmp hmp
  have lo' : w * w - (w + 1 / 2) * e ≤ z := by
    refine q_cancel hmm ?_
    have : (w * w - (w + 1 / 2) * e) * (m * m) = w * m * (w * m) - (w + 1 / 2) * m * (m * e) := by grind
    rw [this, hme]; grind
  have hi' : z ≤ w * w + (w + 1 / 2) * e := by
    refine q_cancel hmm ?_
    have : (w * w + (w + 1 / 2) * e) * (m * m) = w * m * (w * m) + (w + 1 / 2) * m * (m * e) := by grind
    rw [this, hme]; grind
  have hw1 : 0 < 1 + w := by grind
  obtain ⟨zt, hzt⟩ : ∃ zt, zt = (w + z) / (1 + w) := ⟨_, rfl⟩
  have hzt' : zt * (1 + w) = w + z := by rw [hzt]; exact q_dm (by grind)
  obtain ⟨z', hz'⟩ : ∃ z', z' = (2 * D + y') / (2 * D) := ⟨_, rfl⟩
  have hq : 2 * m * y / (m + r) = 2 * D * (zt - 1) := by
    rw [ey, er, eD, hzt]
    have n1 : 1 + w ≠ 0 := by grind
    have n2 : m ≠ 0 := by grind
    have n3 : m + w * m ≠ 0 := by have := Rat.mul_pos hmp hw1; grind
    clear lo hi lo' hi' hz hz' hw hzt hzt' er ey eA yP
    grind
  have dn' := H.dn
  rw [hq] at dn'
  have z'lo : zt - e / (4 * P) ≤ z' := by
    rw [hz']
    refine q_le_div (by grind) ?_
    have : (zt - e / (4 * P)) * (2 * D) = 2 * D * zt - (m * e) / 2 := by
      rw [eD]
      have n : P ≠ 0 := by grind
      clear lo hi lo' hi' hz hz' hw hzt hzt' er ey eA yP hq dn' eD he hme hmm
      grind
    rw [this, hme]; grind
  have z'1 : z' ≤ 1 := by rw [hz']; exact q_div_le (by grind) (by grind)
  obtain ⟨c, hc⟩ : ∃ c, c = P * (1 - z) * (w + 1 / 2) / ((1 + w) * (1 + w) * z) + (w + z) / (2 * z * (1 + w)) + e / (16 * P * z) := ⟨_, rfl⟩
  refine ⟨P, z, w, e, zt, z', c, ⟨H.eP, ?_, ?_, hP2, he0, he6, by rw [← H.em]; exact hme, hz0, hz1, hw0, lo', hi', hzt', z'lo, z'1, hc, ?_, ?_⟩⟩
  · rw [hz]; unfold zq; rw [H.eD, H.ey]
  · rw [hz']; unfold zq; rw [D_two, H.eD, H.ey']
  · rw [← H.ey, ← H.em, ey]; grind
  · intro E κ hE c0 hk hk1 hk0
    have hyn : -y = ((ys M x R).natAbs : Rat) := by rw [H.ey]; exact natAbs_dn (ys_down hM hx0 hx R)
    have hcost : 4 * (-y) * D * (r + h * m) / ((m + r) * (m + r)) + (1 / 2) * (4 * D + 2 * (2 * m * y / (m + r)) + 1 / 2) = 4 * (D + y) * c := by
      have n1 : 1 + w ≠ 0 := by grind
      have n2 : m ≠ 0 := by grind
      have n3 : z ≠ 0 := by grind
      have n4 : P ≠ 0 := by grind
      have a1 : 4 * (-y) * D * (r + h * m) / ((m + r) * (m + r)) = 4 * D * z * (P * (1 - z) * (w + 1 / 2) / ((1 + w) * (1 + w) * z)) := by
        rw [eh, ey, er, eD]
        have k : (m + w * m) * (m + w * m) = m * m * ((1 + w) * (1 + w)) := by grind
        have nn : (1 + w) * (1 + w) ≠ 0 := by have := Rat.mul_pos hw1 hw1; grind
        rw [k]
        exact q_cost n2 n3 nn
      have a2 : (1 / 2) * (4 * D + 2 * (2 * D * (zt - 1)) + 1 / 2) = 4 * D * z * ((w + z) / (2 * z * (1 + w))) + 1 / 4 := by
        rw [← hzt']
        clear lo hi lo' hi' hz hz' hw hzt hzt' er ey eA yP hq dn' z'lo hc hyn a1
        grind
      have a3 : 4 * D * z * (e / (16 * P * z)) = 1 / 4 := by
        rw [eD]
        have : 4 * (P * m) * z * (e / (16 * P * z)) = m * e / 4 := by
          clear lo hi lo' hi' hz hz' hw hzt hzt' er ey eA yP hq dn' z'lo hc hyn a1 a2
          grind
        rw [this, hme]
      rw [hq, a1, a2, eA, hc]
      grind
    have hcD : 2 * c ≤ κ * D := by
      rw [eD]
      have := q_mul_le' hk (show 0 ≤ m by first | with_reducible assumption | with_reducible exact Rat.le_of_lt (by assumption) | with_reducible exact nn6 (by assumption) | with_reducible exact nn1 (by assumption) | with_reducible exact nn2 (by assumption) | grind)
      have e9 : m * (2 * c * e) = 2 * c * (m * e) := by grind
      rw [e9, hme] at this
      grind
    have hst := Er_step hM hx0 H hE hyn c0 (by rw [hcost]; exact Rat.le_refl) (by have := q_mul_le hk1 (show 0 ≤ D by first | with_reducible assumption | with_reducible exact Rat.le_of_lt (by assumption) | with_reducible exact nn6 (by assumption) | with_reducible exact nn1 (by assumption) | with_reducible exact nn2 (by assumption) | grind); grind)
    refine hst.mono ?_
    have : 2 * c * c / D ≤ κ * c := by
      refine q_div_le hDp ?_
      have := q_mul_le hcD c0
      grind
    grind
set_option maxHeartbeats 1000000
set_option linter.unusedVariables false
set_option linter.unusedSimpArgs false
theorem c_le {P z w e zt c β : Rat} (hP : 2 ≤ P) (he0 : 0 < e) (hz0 : 0 < z) (hz1 : z ≤ 1) (hw0 : 0 < w) (hzt : zt * (1 + w) = w + z) (hzt0 : e ≤ zt) (hzt1 : zt ≤ 1) (hβ : w + 1 / 2 ≤ β * (1 + w)) (hβ2 : 1 / 2 ≤ β)
    (hc : c = P * (1 - z) * (w + 1 / 2) / ((1 + w) * (1 + w) * z) + (w + z) / (2 * z * (1 + w)) + e / (16 * P * z)) : 0 ≤ c ∧ c * z ≤ β * P := by
  have hw1 : 0 < 1 + w := by grind
  have hww := Rat.mul_pos hw1 hw1
  have hwz := Rat.mul_pos hww hz0
  constructor
  · rw [hc]
    have a1 : 0 ≤ P * (1 - z) * (w + 1 / 2) / ((1 + w) * (1 + w) * z) := q_div_nn (q_mul_nn (q_mul_nn (by grind) (by grind)) (by grind)) hwz
    have a2 : 0 ≤ (w + z) / (2 * z * (1 + w)) := q_div_nn (by grind) (Rat.mul_pos (by grind) hw1)
    have a3 : 0 ≤ e / (16 * P * z) := q_div_nn (by grind) (Rat.mul_pos (by grind) hz0)
    grind
  · have k4 : 1 - z = (1 - zt) * (1 + w) := by grind
    have n1 : 1 + w ≠ 0 := by grind
    have n2 : z ≠ 0 := by grind
    have n3 : P ≠ 0 := by grind
    have a1 : P * (1 - z) * (w + 1 / 2) / ((1 + w) * (1 + w) * z) * z = P * (1 - zt) * (w + 1 / 2) / (1 + w) := by
      rw [k4]
      clear hc hzt hβ k4
      grind
    have a2 : (w + z) / (2 * z * (1 + w)) * z = zt / 2 := by
      rw [← hzt]
      clear hc hzt hβ k4 a1
      grind
    have a3 : e / (16 * P * z) * z = e / (16 * P) := by
      clear hc hzt hβ k4 a1 a2
      grind
    have e1 : c * z = P * (1 - zt) * (w + 1 / 2) / (1 + w) + zt / 2 + e / (16 * P) := by
      rw [← a1, ← a2, ← a3, hc]
      grind
    rw [e1]
    have b1 : P * (1 - zt) * (w + 1 / 2) / (1 + w) ≤ P * (1 - zt) * β := by
      refine q_div_le hw1 ?_
      have := q_mul_le' hβ (show 0 ≤ P * (1 - zt) from q_mul_nn (by grind) (by grind))
      grind
    have b2 : e / (16 * P) ≤ e / 32 := q_div_le (by grind) (by have := q_mul_le' hP (show 0 ≤ e by first | with_reducible assumption | with_reducible exact Rat.le_of_lt (by assumption) | with_reducible exact nn6 (by assumption) | with_reducible exact nn1 (by assumption) | with_reducible exact nn2 (by assumption) | grind); grind)
    have b3 := q_mul_nn (show 0 ≤ β - 1 / 2 by grind) (q_mul_nn (show 0 ≤ P by first | with_reducible assumption | with_reducible exact Rat.le_of_lt (by assumption) | with_reducible exact nn6 (by assumption) | with_reducible exact nn1 (by assumption) | with_reducible exact nn2 (by assumption) | grind) (show 0 ≤ zt by first | with_reducible assumption | with_reducible exact Rat.le_of_lt (by assumption) | with_reducible exact nn6 (by assumption) | with_reducible exact nn1 (by assumption) | with_reducible exact nn2 (by assumption) | grind))
    have b4 := q_mul_le hP (show 0 ≤ zt by first | with_reducible assumption | with_reducible exact Rat.le_of_lt (by assumption) | with_reducible exact nn6 (by assumption) | with_reducible exact nn1 (by assumption) | with_reducible exact nn2 (by assumption) | grind)
    clear hc a1 a2 a3 e1 k4 hzt hβ
    grind
theorem pot_nn {M x : Int} (hM : 0 < M) (hx0 : 0 < x) (hx : x ≤ M) (R : Nat) : 0 ≤ pot M x R := by
  have h1 := zq_le hM hx0 hx R
  have h0 : 0 < zq M x R := by
    unfold zq
    refine q_div_pos ?_ (int_pos (Int.mul_pos (two_pos R) hM))
    have := int_pos (ys_A hM hx0 R)
    have c : ((2 ^ R * M + ys M x R : Int) : Rat) = ((2 ^ R * M : Int) : Rat) + ((ys M x R : Int) : Rat) := by first | exact Rat.intCast_add .. | exact Rat.intCast_sub .. | exact Rat.intCast_mul .. | exact Rat.intCast_neg .. | exact_mod_cast rfl
    rw [c] at this; exact this
  have hP : 0 < Pq R := int_pos (two_pos R)
  unfold pot
  refine q_mul_nn ?_ ?_
  · have := q_mul_nn (show 0 ≤ Pq R by grind) (show 0 ≤ 1 - zq M x R by grind)
    grind
  · have : 1 ≤ 1 / zq M x R := q_le_div h0 (by grind)
    grind
theorem far_step {M x : Int} {R : Nat} {E : Rat} (hM6 : 1000000 ≤ M) (hx0 : 0 < x) (hx : x ≤ M) (hR : 0 < R) (hE : Er M x R E) (h990 : 990 ≤ (M : Rat) * zq M x R) (hz : zq M x R ≤ 81 / 400) :
    ∃ E', Er M x (R + 1) E' ∧ E ≤ E' ∧ E' + pot M x (R + 1) ≤ E + pot M x R ∧ 990 ≤ (M : Rat) * zq M x (R + 1) ∧ 2 * zq M x R ≤ zq M x (R + 1) := by
  obtain ⟨P, z, w, e, zt, z', c, H⟩ := dn_norm hM6 hx0 hx hR
  have hP := H.hP
  have he0 := H.he0
  have he := H.he
  have hz0 := H.hz0
  have hz1 := H.hz1
  have hw0 := H.hw0
  have lo := H.lo
  have hi := H.hi
  have hMq := M6_q hM6
  rw [← H.ez] at h990 hz
  have hz990 : 990 * e ≤ z := by
    have h := q_mul_le h990 (show 0 ≤ e by first | with_reducible assumption | with_reducible exact Rat.le_of_lt (by assumption) | with_reducible exact nn6 (by assumption) | with_reducible exact nn1 (by assumption) | with_reducible exact nn2 (by assumption) | grind)
    have : (M : Rat) * z * e = (M * e) * z := by grind
    rw [this, H.hme] at h
    grind
  obtain ⟨k0, k1, k2, k3, k4, k5, k6⟩ := pot_zt he0 hw0 hz0 hz1 lo hi H.hzt
  have hw := pot_w he0 he hz990 hw0 hi
  have hw1 : w ≤ 1 / 2 := by
    apply Rat.not_lt.mp; intro hlt
    have a1 := q_mul_nn (show 0 ≤ w - 1 / 2 by grind) (show 0 ≤ w + 1 / 2 by grind)
    have a2 := q_mul_nn (show 0 ≤ w by first | with_reducible assumption | with_reducible exact Rat.le_of_lt (by assumption) | with_reducible exact nn6 (by assumption) | with_reducible exact nn1 (by assumption) | with_reducible exact nn2 (by assumption) | grind) (show 0 ≤ 1 / 1000000 - e by grind)
    grind
  obtain ⟨c0, c1⟩ := c_le (β := 7 / 10) hP he0 hz0 hz1 hw0 H.hzt (by grind) k1 (by grind) (by grind) H.hc
  have hce : 2 * c * e ≤ 2 / 1000 * P := by
    refine q_cancel hz0 ?_
    have a1 := q_mul_le c1 (show 0 ≤ 2 * e by first | with_reducible exact n2 (by first | with_reducible assumption | with_reducible exact Rat.le_of_lt (by assumption) | with_reducible exact nn6 (by assumption) | with_reducible exact nn1 (by assumption) | with_reducible exact nn2 (by assumption)) | grind)
    have a2 := q_mul_le hz990 (show 0 ≤ P by first | with_reducible assumption | with_reducible exact Rat.le_of_lt (by assumption) | with_reducible exact nn6 (by assumption) | with_reducible exact nn1 (by assumption) | with_reducible exact nn2 (by assumption) | grind)
    have a3 := q_mul_nn (show 0 ≤ e by first | with_reducible assumption | with_reducible exact Rat.le_of_lt (by assumption) | with_reducible exact nn6 (by assumption) | with_reducible exact nn1 (by assumption) | with_reducible exact nn2 (by assumption) | grind) (show 0 ≤ P by first | with_reducible assumption | with_reducible exact Rat.le_of_lt (by assumption) | with_reducible exact nn6 (by assumption) | with_reducible exact nn1 (by assumption) | with_reducible exact nn2 (by assumption) | grind)
    grind
  have hgo := H.go E (2 / 1000) hE c0 hce (by grind) (by grind)
  have hf := pot_far hP he0 he hz990 hz hw0 lo hi H.hzt H.hz' H.hz'1
  rw [← H.hc] at hf
  have hP4 : e / (4 * P) ≤ e / 8 := q_div_le (by grind) (by have := q_mul_le' hP (show 0 ≤ e by first | with_reducible assumption | with_reducible exact Rat.le_of_lt (by assumption) | with_reducible exact nn6 (by assumption) | with_reducible exact nn1 (by assumption) | with_reducible exact nn2 (by assumption) | grind); grind)
  have hz' := H.hz'
  have hz'2 : 31000 * e ≤ z' := by grind
  refine ⟨_, hgo, by grind, ?_, ?_, ?_⟩
  · unfold pot
    rw [Pq_two, ← H.eP, ← H.ez, ← H.ez']
    grind
  · rw [← H.ez']
    have h := q_mul_le' hz'2 (show 0 ≤ (M : Rat) by first | with_reducible assumption | with_reducible exact Rat.le_of_lt (by assumption) | with_reducible exact nn6 (by assumption) | with_reducible exact nn1 (by assumption) | with_reducible exact nn2 (by assumption) | grind)
    have e1 : (M : Rat) * (31000 * e) = 31000 * (M * e) := by grind
    rw [e1, H.hme] at h
    grind
  · rw [← H.ez, ← H.ez']
    have hw2 : 21 / 10 * z ≤ w := by
      apply Rat.not_lt.mp; intro hlt
      have a1 := q_mul_le (show w ≤ 21 / 10 * z by grind) (show 0 ≤ w by first | with_reducible assumption | with_reducible exact Rat.le_of_lt (by assumption) | with_reducible exact nn6 (by assumption) | with_reducible exact nn1 (by assumption) | with_reducible exact nn2 (by assumption) | grind)
      have a2 := q_mul_le' (show w ≤ 21 / 10 * z by grind) (show 0 ≤ 21 / 10 * z by grind)
      have a3 := q_mul_le hz (show 0 ≤ z by first | with_reducible assumption | with_reducible exact Rat.le_of_lt (by assumption) | with_reducible exact nn6 (by assumption) | with_reducible exact nn1 (by assumption) | with_reducible exact nn2 (by assumption) | grind)
      have a4 := q_mul_le hw1 (show 0 ≤ e by first | with_reducible assumption | with_reducible exact Rat.le_of_lt (by assumption) | with_reducible exact nn6 (by assumption) | with_reducible exact nn1 (by assumption) | with_reducible exact nn2 (by assumption) | grind)
      grind
    grind
theorem near_step {M x : Int} {R : Nat} {E : Rat} (hM6 : 1000000 ≤ M) (hx0 : 0 < x) (hx : x ≤ M) (hR : 0 < R) (hE : Er M x R E) (hz : 81 / 400 ≤ zq M x R) :
    ∃ E', Er M x (R + 1) E' ∧ E ≤ E' ∧ E' + pot M x (R + 1) ≤ E + pot M x R + 1001 / 2000 + 3003 / 8000 * (-((ys M x R : Int) : Rat) / M) ∧ 81 / 400 ≤ zq M x (R + 1) := by
  obtain ⟨P, z, w, e, zt, z', c, H⟩ := dn_norm hM6 hx0 hx hR
  have hP := H.hP
  have he0 := H.he0
  have he := H.he
  have hz0 := H.hz0
  have hz1 := H.hz1
  have hw0 := H.hw0
  have lo := H.lo
  have hi := H.hi
  have hMq := M6_q hM6
  rw [← H.ez] at hz
  obtain ⟨k0, k1, k2, k3, k4, k5, k6⟩ := pot_zt he0 hw0 hz0 hz1 lo hi H.hzt
  have hzt : 44 / 100 ≤ zt := by
    apply Rat.not_lt.mp; intro hlt
    have a1 := q_mul_nn (show 0 ≤ 44 / 100 - zt by grind) (show 0 ≤ zt + 44 / 100 by grind)
    have a2 := q_mul_nn (show 0 ≤ e by first | with_reducible assumption | with_reducible exact Rat.le_of_lt (by assumption) | with_reducible exact nn6 (by assumption) | with_reducible exact nn1 (by assumption) | with_reducible exact nn2 (by assumption) | grind) (show 0 ≤ zt by first | with_reducible assumption | with_reducible exact Rat.le_of_lt (by assumption) | with_reducible exact nn6 (by assumption) | with_reducible exact nn1 (by assumption) | with_reducible exact nn2 (by assumption) | grind)
    grind
  obtain ⟨c0, c1⟩ := c_le (β := 1) hP he0 hz0 hz1 hw0 H.hzt (by grind) k1 (by grind) (by grind) H.hc
  have hce : 2 * c * e ≤ 1 / 10000 * P := by
    refine q_cancel hz0 ?_
    have a1 := q_mul_le c1 (show 0 ≤ 2 * e by first | with_reducible exact n2 (by first | with_reducible assumption | with_reducible exact Rat.le_of_lt (by assumption) | with_reducible exact nn6 (by assumption) | with_reducible exact nn1 (by assumption) | with_reducible exact nn2 (by assumption)) | grind)
    have a2 := q_mul_le' (show 20000 * e ≤ z by grind) (show 0 ≤ P by first | with_reducible assumption | with_reducible exact Rat.le_of_lt (by assumption) | with_reducible exact nn6 (by assumption) | with_reducible exact nn1 (by assumption) | with_reducible exact nn2 (by assumption) | grind)
    have a3 := q_mul_nn (show 0 ≤ e by first | with_reducible assumption | with_reducible exact Rat.le_of_lt (by assumption) | with_reducible exact nn6 (by assumption) | with_reducible exact nn1 (by assumption) | with_reducible exact nn2 (by assumption) | grind) (show 0 ≤ P by first | with_reducible assumption | with_reducible exact Rat.le_of_lt (by assumption) | with_reducible exact nn6 (by assumption) | with_reducible exact nn1 (by assumption) | with_reducible exact nn2 (by assumption) | grind)
    grind
  have hgo := H.go E (1 / 10000) hE c0 hce (by grind) (by grind)
  have hf := pot_near hP he0 he hz hz1 hw0 lo hi H.hzt H.hz' H.hz'1
  rw [← H.hc] at hf
  have hP4 : e / (4 * P) ≤ e / 8 := q_div_le (by grind) (by have := q_mul_le' hP (show 0 ≤ e by first | with_reducible assumption | with_reducible exact Rat.le_of_lt (by assumption) | with_reducible exact nn6 (by assumption) | with_reducible exact nn1 (by assumption) | with_reducible exact nn2 (by assumption) | grind); grind)
  have hz' := H.hz'
  have eu : -((ys M x R : Int) : Rat) / M = P * (1 - z) := by rw [H.hu]; grind
  refine ⟨_, hgo, by grind, ?_, by rw [← H.ez']; grind⟩
  rw [eu]
  unfold pot
  rw [Pq_two, ← H.eP, ← H.ez, ← H.ez']
  grind
theorem dn_u {M x s C : Int} {R : Nat} {E lam : Rat} (K : Dn M x s C lam) (hE : Er M x R E) : -((ys M x R : Int) : Rat) ≤ M * lam + E := by
  have hM6 := K.M6
  have hM : 0 < M := by omega
  have hx0 := K.x0
  have hMr := int_pos hM
  refine q_arch (C := M * C + 3 * (2 ^ R * M)) fun N hN => ?_
  obtain ⟨_, e2⟩ := hE N hN
  obtain ⟨a1, _⟩ := Lam_lin hN hM (ys_A hM hx0 R)
  have g0 := q_mul_le' (K.hl N hN) (show (0 : Rat) ≤ M by first | with_reducible assumption | with_reducible exact Rat.le_of_lt (by assumption) | with_reducible exact nn6 (by assumption) | with_reducible exact nn1 (by assumption) | with_reducible exact nn2 (by assumption) | grind)
  have e0 : Lam N M (ys M x 0) 0 = -(M * lgI N M x) := by
    unfold Lam
    have b1 : (2 : Int) ^ 0 * M = M := by rw [Int.pow_zero, Int.one_mul]
    have b2 : M + ys M x 0 = x := by show M + (x - M) = x; omega
    rw [b1, b2, lgI_neg N x M]; grind
  rw [e0] at e2
  have cC : ((M * C + 3 * (2 ^ R * M) : Int) : Rat) = (M : Rat) * C + 3 * ((2 ^ R * M : Int) : Rat) := by first | exact Rat.intCast_add .. | exact Rat.intCast_sub .. | exact Rat.intCast_mul .. | exact Rat.intCast_neg .. | exact_mod_cast rfl
  rw [cC]
  have k2 : ((M : Rat) * C + 3 * ((2 ^ R * M : Int) : Rat)) / (N : Rat) = M * ((C : Rat) / N) + 3 * ((2 ^ R * M : Int) : Rat) / (N : Rat) := by grind
  rw [k2]
  grind
theorem far_all {M x : Int} (hM6 : 1000000 ≤ M) (hx0 : 0 < x) (hx : x ≤ M) : ∀ (k R : Nat) (E : Rat), 0 < R → Er M x R E → 990 ≤ (M : Rat) * zq M x R → 81 / 400 ≤ zq M x R * Pq k →
    ∃ R1 E1, R ≤ R1 ∧ R1 ≤ R + k ∧ Er M x R1 E1 ∧ E ≤ E1 ∧ E1 + pot M x R1 ≤ E + pot M x R ∧ 81 / 400 ≤ zq M x R1 ∧ ∀ R', R ≤ R' → R' < R1 → zq M x R' ≤ 81 / 400
  | 0, R, E, hR, hE, h990, hk => by
    have : Pq 0 = 1 := by unfold Pq; rw [Int.pow_zero]; exact_mod_cast rfl
    rw [this] at hk
    exact ⟨R, E, Nat.le_refl _, Nat.le_refl _, hE, Rat.le_refl, Rat.le_refl, by grind, fun R' h1 h2 => by omega⟩
  | k + 1, R, E, hR, hE, h990, hk => by
    by_cases hz : zq M x R ≤ 81 / 400
    · obtain ⟨E', f1, f2, f3, f4, f5⟩ := far_step hM6 hx0 hx hR hE h990 hz
      have hPk : 0 < Pq k := int_pos (two_pos k)
      have hk' : 81 / 400 ≤ zq M x (R + 1) * Pq k := by
        rw [Pq_two] at hk
        have := q_mul_le f5 (show 0 ≤ Pq k by grind)
        grind
      obtain ⟨R1, E1, g1, g2, g3, g4, g5, g6, g7⟩ := far_all hM6 hx0 hx k (R + 1) E' (by first | with_reducible assumption | with_reducible exact Int.natCast_nonneg _ | with_reducible exact Int.le_of_lt (by assumption) | omega) f1 f4 hk'
      refine ⟨R1, E1, by omega, by omega, g3, by grind, by grind, g6, fun R' h1 h2 => ?_⟩
      by_cases hRR : R' = R
      · rw [hRR]; exact hz
      · exact g7 R' (by first | with_reducible assumption | with_reducible exact Int.natCast_nonneg _ | with_reducible exact Int.le_of_lt (by assumption) | omega) h2
    · exact ⟨R, E, Nat.le_refl _, by omega, hE, Rat.le_refl, Rat.le_refl, by grind, fun R' h1 h2 => by omega⟩
theorem s_le {M x s C : Int} {lam : Rat} (K : Dn M x s C lam) : 4 * (s : Rat) + 11 / 10 ≤ 41 / 10000 * M := by
  have hMq := M6_q K.M6
  have xq1 : (1 : Rat) ≤ x := by have := int_le (show 1 ≤ x by have := K.x0; omega); exact_mod_cast this
  have sq1 : (1 : Rat) ≤ s := by have := int_le K.s1; exact_mod_cast this
  have sqs2 : ((s : Rat) - 1) * ((s : Rat) - 1) * x ≤ M := by
    have := int_le K.hs2
    have c : ((s - 1 : Int) : Rat) = (s : Rat) - 1 := by first | exact Rat.intCast_add .. | exact Rat.intCast_sub .. | exact Rat.intCast_mul .. | exact Rat.intCast_neg .. | exact_mod_cast rfl
    rw [Rat.intCast_mul, Rat.intCast_mul, c] at this; exact this
  have h1 : ((s : Rat) - 1) * ((s : Rat) - 1) ≤ M := by
    have := q_mul_le' xq1 (q_sq ((s : Rat) - 1))
    grind
  have F4 : (s : Rat) - 1 ≤ M / 992 := by
    apply Rat.not_lt.mp; intro hlt
    have a1 := q_mul_le (show (M : Rat) / 992 ≤ s - 1 by grind) (show 0 ≤ (M : Rat) / 992 by grind)
    have a2 := q_mul_le' (show (M : Rat) / 992 ≤ s - 1 by grind) (show 0 ≤ (s : Rat) - 1 by grind)
    have a3 := q_mul_le hMq (show 0 ≤ (M : Rat) by first | with_reducible assumption | with_reducible exact Rat.le_of_lt (by assumption) | with_reducible exact nn6 (by assumption) | with_reducible exact nn1 (by assumption) | with_reducible exact nn2 (by assumption) | grind)
    grind
  grind
theorem near_all {M x s C : Int} {lam E1 : Rat} {R1 : Nat} (K : Dn M x s C lam) (hR1 : 0 < R1) (hE1 : Er M x R1 E1) (hp1 : E1 + pot M x R1 ≤ 4 * (s : Rat) + 11 / 10) (hz1 : 81 / 400 ≤ zq M x R1) : ∀ k : Nat, k ≤ 42 →
    ∃ E, Er M x (R1 + k) E ∧ E1 ≤ E ∧ E + pot M x (R1 + k) ≤ 4 * (s : Rat) + 11 / 10 + (k : Rat) * (1006 / 1000 * (1 / 2 + 3 / 8 * lam)) ∧ 81 / 400 ≤ zq M x (R1 + k)
  | 0, _ => by
    have e : ((0 : Nat) : Rat) = 0 := by grind
    exact ⟨E1, hE1, Rat.le_refl, by rw [e]; grind, hz1⟩
  | k + 1, hk => by
    obtain ⟨E, i1, i2, i3, i4⟩ := near_all K hR1 hE1 hp1 hz1 k (by first | with_reducible assumption | with_reducible exact Int.natCast_nonneg _ | with_reducible exact Int.le_of_lt (by assumption) | omega)
    have hM6 := K.M6
    have hM : 0 < M := by omega
    have hx0 := K.x0
    have hx := K.hx
    have hl0 := K.l0
    have hMq := M6_q hM6
    obtain ⟨E', f1, f2, f3, f4⟩ := near_step hM6 hx0 hx (show 0 < R1 + k by omega) i1 i4
    have ek : ((k + 1 : Nat) : Rat) = (k : Rat) + 1 := by grind
    have hpn := pot_nn hM hx0 hx (R1 + k)
    have hsl := s_le K
    have hkq : (k : Rat) ≤ 42 := by
      have := nat_le (show k ≤ 42 by omega)
      have e : ((42 : Nat) : Rat) = 42 := by first | exact Rat.intCast_add .. | exact Rat.intCast_sub .. | exact Rat.intCast_mul .. | exact Rat.intCast_neg .. | exact_mod_cast rfl
      rw [e] at this; exact this
    have hB0 : 0 ≤ 1006 / 1000 * (1 / 2 + 3 / 8 * lam) := by grind
    have hkB := q_mul_le hkq hB0
    have hu := dn_u K i1
    have hu2 : -((ys M x (R1 + k) : Int) : Rat) / M ≤ lam + 41 / 10000 + 43 / 1000000 * (1 / 2 + 3 / 8 * lam) := by
      refine q_div_le (by grind) ?_
      have := q_mul_le' hMq (show 0 ≤ 43 / 1000000 * (1 / 2 + 3 / 8 * lam) by grind)
      grind
    exact ⟨E', f1, by grind, by rw [ek]; show E' + pot M x (R1 + k + 1) ≤ _; grind, f4⟩
set_option maxHeartbeats 1000000
set_option linter.unusedVariables false
set_option linter.unusedSimpArgs false
theorem dn_far {M x : Int} {R R1 : Nat} {E E1 : Rat} (hM : 0 < M) (hx0 : 0 < x) (hE : Er M x R E) (hE1 : Er M x R1 E1) (hz1 : 81 / 400 ≤ zq M x R1) :
    -((ys M x R : Int) : Rat) ≤ 319 / 81 * ((2 ^ R1 * M : Int) : Rat) + E + E1 := by
  have hMr := int_pos hM
  refine q_arch (C := 3 * (2 ^ R * M) + 3 * (2 ^ R1 * M)) fun N hN => ?_
  obtain ⟨_, e2⟩ := hE N hN
  obtain ⟨e3, _⟩ := hE1 N hN
  obtain ⟨a1, _⟩ := Lam_lin hN hM (ys_A hM hx0 R)
  obtain ⟨_, a2⟩ := Lam_lin hN hM (ys_A hM hx0 R1)
  have hD1 := int_pos (show 0 < 2 ^ R1 * M from Int.mul_pos (two_pos R1) hM)
  have hA1 := int_pos (ys_A hM hx0 R1)
  have cA : ((2 ^ R1 * M + ys M x R1 : Int) : Rat) = ((2 ^ R1 * M : Int) : Rat) + ((ys M x R1 : Int) : Rat) := by first | exact Rat.intCast_add .. | exact Rat.intCast_sub .. | exact Rat.intCast_mul .. | exact Rat.intCast_neg .. | exact_mod_cast rfl
  rw [cA] at a2 hA1
  have hz : 81 / 400 * ((2 ^ R1 * M : Int) : Rat) ≤ ((2 ^ R1 * M : Int) : Rat) + ((ys M x R1 : Int) : Rat) := by
    unfold zq at hz1
    have := q_mul_le hz1 (show 0 ≤ ((2 ^ R1 * M : Int) : Rat) by grind)
    rw [q_dm (by grind)] at this
    exact this
  have cC : ((3 * (2 ^ R * M) + 3 * (2 ^ R1 * M) : Int) : Rat) = 3 * ((2 ^ R * M : Int) : Rat) + 3 * ((2 ^ R1 * M : Int) : Rat) := by first | exact Rat.intCast_add .. | exact Rat.intCast_sub .. | exact Rat.intCast_mul .. | exact Rat.intCast_neg .. | exact_mod_cast rfl
  rw [cC]
  generalize ((2 ^ R1 * M : Int) : Rat) = D1 at *
  generalize ((ys M x R1 : Int) : Rat) = y1 at *
  generalize ((2 ^ R * M : Int) : Rat) = D at *
  have h3 : -(319 / 81 * D1) ≤ D1 * y1 / (D1 + y1) := by
    refine q_le_div hA1 ?_
    have := q_mul_le' hz (show 0 ≤ D1 by first | with_reducible assumption | with_reducible exact Rat.le_of_lt (by assumption) | with_reducible exact nn6 (by assumption) | with_reducible exact nn1 (by assumption) | with_reducible exact nn2 (by assumption) | grind)
    grind
  have k2 : (3 * D + 3 * D1) / (N : Rat) = 3 * D / (N : Rat) + 3 * D1 / (N : Rat) := by grind
  rw [k2]
  grind
theorem far_no {y Z D : Int} (hy : y ≤ 0) (h3 : D ≤ 2 * -y) (h4 : -y * 8 ≤ Z) (r : Z < D) : False := by omega
theorem dn_end {M x s C : Int} {lam : Rat} {L : Nat} (K : Dn M x s C lam) (hMb : M < 2 ^ 133) (hL3 : 3 ≤ L) (hL : L ≤ 40) :
    ∃ R, R ≤ 180 ∧ (∀ R', R' < R → M * 2 ^ R' ≤ ((ys M x R').natAbs : Int) * 2 ^ L) ∧ ((ys M x R).natAbs : Int) * 2 ^ L < M * 2 ^ R ∧
      Er M x R (4 * (s : Rat) + 11 / 10 + ((L : Rat) + 2) * (1006 / 1000 * (1 / 2 + 3 / 8 * lam))) := by
  have hM6 := K.M6
  have hM : 0 < M := by omega
  have hx0 := K.x0
  have hx := K.hx
  have hl0 := K.l0
  have hl2 := K.l200
  have hMq := M6_q hM6
  have hsl := s_le K
  have sq1 : (1 : Rat) ≤ s := by have := int_le K.s1; exact_mod_cast this
  have hLq : (L : Rat) ≤ 40 := by
    have := nat_le hL
    have e : ((40 : Nat) : Rat) = 40 := by first | exact Rat.intCast_add .. | exact Rat.intCast_sub .. | exact Rat.intCast_mul .. | exact Rat.intCast_neg .. | exact_mod_cast rfl
    rw [e] at this; exact this
  have hL0 : (0 : Rat) ≤ (L : Rat) := by grind
  have hB0 : 0 ≤ 1006 / 1000 * (1 / 2 + 3 / 8 * lam) := by grind
  have hX8 : (8 : Int) ≤ 2 ^ L := by have := pow2_le hL3; omega
  obtain ⟨E0, f0, f1, f2, f3⟩ := dn_first K
  obtain ⟨R1, E1, g1, g2, g3, g4, g5, g6, g7⟩ := far_all hM6 hx0 hx 133 1 E0 (by decide) f1 f3 (by
    have hp : (M : Rat) ≤ Pq 133 := by unfold Pq; exact int_le (by first | with_reducible assumption | with_reducible exact Int.natCast_nonneg _ | with_reducible exact Int.le_of_lt (by assumption) | omega)
    have hz0 : 0 ≤ zq M x 1 := by
      apply Rat.not_lt.mp; intro hlt
      have := q_mul_nn (show 0 ≤ (M : Rat) by first | with_reducible assumption | with_reducible exact Rat.le_of_lt (by assumption) | with_reducible exact nn6 (by assumption) | with_reducible exact nn1 (by assumption) | with_reducible exact nn2 (by assumption) | grind) (show 0 ≤ -zq M x 1 by grind)
      grind
    have := q_mul_le' hp hz0
    grind)
  have hp1 : E1 + pot M x R1 ≤ 4 * (s : Rat) + 11 / 10 := by grind
  have hpn : ∀ R, 0 ≤ pot M x R := pot_nn hM hx0 hx
  -- the last possible end
  obtain ⟨E2, n1, n2, n3, n4⟩ := near_all K (by first | with_reducible assumption | with_reducible exact Int.natCast_nonneg _ | with_reducible exact Int.le_of_lt (by assumption) | omega) g3 hp1 g6 (L + 2) (by first | with_reducible assumption | with_reducible exact Int.natCast_nonneg _ | with_reducible exact Int.le_of_lt (by assumption) | omega)
  have eL : ((L + 2 : Nat) : Rat) = (L : Rat) + 2 := by first | exact Rat.intCast_add .. | exact Rat.intCast_sub .. | exact Rat.intCast_mul .. | exact Rat.intCast_neg .. | exact_mod_cast rfl
  rw [eL] at n3
  have hend : ((ys M x (R1 + (L + 2))).natAbs : Int) * 2 ^ L < M * 2 ^ (R1 + (L + 2)) := by
    have hd := dn_far hM hx0 n1 g3 g6
    have y0 := ys_down hM hx0 hx (R1 + (L + 2))
    have q1 := hpn (R1 + (L + 2))
    have q2 := hpn R1
    have hD1 : 2 * (M : Rat) ≤ ((2 ^ R1 * M : Int) : Rat) := by
      have h2 : (2 : Int) ≤ 2 ^ R1 := by have := pow2_le (show 1 ≤ R1 by omega); omega
      have := int_le (show 2 * M ≤ 2 ^ R1 * M from Int.mul_le_mul_of_nonneg_right h2 (by first | with_reducible assumption | with_reducible exact Int.natCast_nonneg _ | with_reducible exact Int.le_of_lt (by assumption) | omega))
      have c1 : ((2 * M : Int) : Rat) = 2 * (M : Rat) := by first | exact Rat.intCast_add .. | exact Rat.intCast_sub .. | exact Rat.intCast_mul .. | exact Rat.intCast_neg .. | exact_mod_cast rfl
      rw [c1] at this; exact this
    have hLB := q_mul_le (show (L : Rat) + 2 ≤ 42 by grind) hB0
    have hlt : ((-ys M x (R1 + (L + 2)) : Int) : Rat) < ((4 * (2 ^ R1 * M) : Int) : Rat) := by
      have c1 : ((-ys M x (R1 + (L + 2)) : Int) : Rat) = -((ys M x (R1 + (L + 2)) : Int) : Rat) := by first | exact Rat.intCast_add .. | exact Rat.intCast_sub .. | exact Rat.intCast_mul .. | exact Rat.intCast_neg .. | exact_mod_cast rfl
      have c2 : ((4 * (2 ^ R1 * M) : Int) : Rat) = 4 * ((2 ^ R1 * M : Int) : Rat) := by first | exact Rat.intCast_add .. | exact Rat.intCast_sub .. | exact Rat.intCast_mul .. | exact Rat.intCast_neg .. | exact_mod_cast rfl
      rw [c1, c2]
      grind
    have hlt' := Rat.intCast_lt_intCast.mp hlt
    have e : M * 2 ^ (R1 + (L + 2)) = 4 * (2 ^ R1 * M) * 2 ^ L := by rw [Int.pow_add, Int.pow_add]; grind
    rw [e, Int.ofNat_natAbs_of_nonpos y0]
    exact Int.mul_lt_mul_of_pos_right hlt' (two_pos L)
  obtain ⟨R, r1, r2, r3⟩ := least (p := fun R => ((ys M x R).natAbs : Int) * 2 ^ L < M * 2 ^ R) hend
  refine ⟨R, by omega, fun R' h' => Int.not_lt.mp (r3 R' h'), r2, ?_⟩
  by_cases hR0 : R = 0
  · subst hR0
    refine (Er_zero hM).mono ?_
    have := q_mul_nn (show 0 ≤ (L : Rat) + 2 by grind) hB0
    grind
  have hR1 : R1 ≤ R := by
    apply Nat.le_of_not_lt
    intro hlt
    have hz := g7 R (by first | with_reducible assumption | with_reducible exact Int.natCast_nonneg _ | with_reducible exact Int.le_of_lt (by assumption) | omega) hlt
    have y0 := ys_down hM hx0 hx R
    have r2' : ((ys M x R).natAbs : Int) * 2 ^ L < M * 2 ^ R := r2
    have hD := int_pos (show 0 < 2 ^ R * M from Int.mul_pos (two_pos R) hM)
    unfold zq at hz
    have h1 := q_mul_le hz (show 0 ≤ ((2 ^ R * M : Int) : Rat) by grind)
    rw [q_dm (by grind)] at h1
    have h2 : ((2 ^ R * M : Int) : Rat) ≤ ((2 * -ys M x R : Int) : Rat) := by
      have c1 : ((2 * -ys M x R : Int) : Rat) = 2 * -((ys M x R : Int) : Rat) := by first | exact Rat.intCast_add .. | exact Rat.intCast_sub .. | exact Rat.intCast_mul .. | exact Rat.intCast_neg .. | exact_mod_cast rfl
      rw [c1]; grind
    have h3 := Rat.intCast_le_intCast.mp h2
    have h4 : ((ys M x R).natAbs : Int) * 8 ≤ ((ys M x R).natAbs : Int) * 2 ^ L := Int.mul_le_mul_of_nonneg_left hX8 (by first | with_reducible assumption | with_reducible exact Int.natCast_nonneg _ | with_reducible exact Int.le_of_lt (by assumption) | omega)
    rw [Int.mul_comm M] at r2'
    rw [Int.ofNat_natAbs_of_nonpos y0] at h4 r2'
    exact far_no y0 h3 h4 r2'
  obtain ⟨k, hk⟩ : ∃ k, R = R1 + k := ⟨R - R1, by omega⟩
  obtain ⟨E, m1, m2, m3, m4⟩ := near_all K (by first | with_reducible assumption | with_reducible exact Int.natCast_nonneg _ | with_reducible exact Int.le_of_lt (by assumption) | omega) g3 hp1 g6 k (by first | with_reducible assumption | with_reducible exact Int.natCast_nonneg _ | with_reducible exact Int.le_of_lt (by assumption) | omega)
  subst hk
  refine m1.mono ?_
  have hkq := nat_le (show k ≤ L + 2 by omega)
  rw [eL] at hkq
  have := q_mul_le hkq hB0
  have := hpn (R1 + k)
  grind
theorem below10 {M x s C : Int} {lam : Rat} {L T len : Nat} (K : Dn M x s C lam) (hMb : M < 2 ^ 133) (hL3 : 3 ≤ L) (hL : L ≤ 40) (hT0 : 0 < T) (hlen : M < 10 ^ len) (hT : 10 * len ≤ 3 * (L * T)) :
    ∃ R, R ≤ 180 ∧ (∀ R', R' < R → M * 2 ^ R' ≤ ((ys M x R').natAbs : Int) * 2 ^ L) ∧ ((ys M x R).natAbs : Int) * 2 ^ L < M * 2 ^ R ∧
      ∀ N : Nat, 0 < N → -((dn (hw M (dn (ys M x R) (2 ^ R)) T (T - 1) * ys M x R) M : Int) : Rat) - M * lgI N M x ≤ ((L : Rat) + 6) * (1 / 2 + 3 / 8 * lam) + 4 * s - 1 / 100 + 7 * ((2 ^ R * M : Int) : Rat) / (N : Rat) ∧
        -(((L : Rat) + 6) * (1 / 2 + 3 / 8 * lam) + 4 * s - 1 / 100 + 7 * ((2 ^ R * M : Int) : Rat) / (N : Rat)) ≤ -((dn (hw M (dn (ys M x R) (2 ^ R)) T (T - 1) * ys M x R) M : Int) : Rat) - M * lgI N M x := by
  have hM6 := K.M6
  have hM : 0 < M := by omega
  have hx0 := K.x0
  have hx := K.hx
  have hl0 := K.l0
  have hMq := M6_q hM6
  have hMr := int_pos hM
  have hsl := s_le K
  refine Classical.byContradiction fun hG => ?_
  obtain ⟨R, hR, hgo, hstop, hE⟩ := dn_end K hMb hL3 hL
  refine hG ⟨R, hR, hgo, hstop, fun N hN => ?_⟩
  obtain ⟨cf, cf0, cf1, hser⟩ := ser10 hM6 hL3 hstop hT0 hlen hT
  obtain ⟨s1, s2⟩ := hser N hN
  obtain ⟨e1, e2⟩ := hE N hN
  have hu := dn_u K hE
  have y0 := ys_down hM hx0 hx R
  rw [← natAbs_dn y0] at s1 s2
  obtain ⟨d1, d2⟩ := dn_q (a := hw M (dn (ys M x R) (2 ^ R)) T (T - 1) * ys M x R) hM
  have cW : ((hw M (dn (ys M x R) (2 ^ R)) T (T - 1) * ys M x R : Int) : Rat) = ((hw M (dn (ys M x R) (2 ^ R)) T (T - 1) : Int) : Rat) * ((ys M x R : Int) : Rat) := by rw [Rat.intCast_mul]
  rw [cW] at d1 d2
  have e0 : Lam N M (ys M x 0) 0 = -(M * lgI N M x) := by
    unfold Lam
    have b1 : (2 : Int) ^ 0 * M = M := by rw [Int.pow_zero, Int.one_mul]
    have b2 : M + ys M x 0 = x := by show M + (x - M) = x; omega
    rw [b1, b2, lgI_neg N x M]; grind
  rw [e0] at e1 e2
  have hXr := int_pos (two_pos L)
  obtain ⟨iX, hiX⟩ : ∃ iX, iX = 1 / (((2 : Int) ^ L : Int) : Rat) := ⟨_, rfl⟩
  have hi0 : 0 ≤ iX := by rw [hiX]; exact q_div_nn (by grind) hXr
  rw [← hiX] at cf1
  have hcf : cf ≤ 12501 / 10000 := by
    have := q_mul_nn cf0 hi0
    grind
  have hLq : (L : Rat) ≤ 40 := by
    have := nat_le hL
    have e : ((40 : Nat) : Rat) = 40 := by first | exact Rat.intCast_add .. | exact Rat.intCast_sub .. | exact Rat.intCast_mul .. | exact Rat.intCast_neg .. | exact_mod_cast rfl
    rw [e] at this; exact this
  have hB0 : 0 ≤ 1 / 2 + 3 / 8 * lam := by grind
  have hLB := q_mul_le hLq hB0
  have yq0 : 0 ≤ -((ys M x R : Int) : Rat) := by have := int_le y0; have z : ((0 : Int) : Rat) = 0 := by first | exact Rat.intCast_add .. | exact Rat.intCast_sub .. | exact Rat.intCast_mul .. | exact Rat.intCast_neg .. | exact_mod_cast rfl
                                                 rw [z] at this; grind
  have hyM0 : 0 ≤ -((ys M x R : Int) : Rat) / M := q_div_nn yq0 hMr
  have hyM : -((ys M x R : Int) : Rat) / M ≤ lam + 41 / 10000 + 43 / 1000000 * (1 / 2 + 3 / 8 * lam) := by
    refine q_div_le hMr ?_
    have := q_mul_le' hMq (show 0 ≤ 43 / 1000000 * (1 / 2 + 3 / 8 * lam) by grind)
    grind
  have hcost : -((ys M x R : Int) : Rat) / M * cf ≤ (lam + 41 / 10000 + 43 / 1000000 * (1 / 2 + 3 / 8 * lam)) * (12501 / 10000) := by
    have k1 := q_mul_le hyM cf0
    have k2 := q_mul_le' hcf (show 0 ≤ lam + 41 / 10000 + 43 / 1000000 * (1 / 2 + 3 / 8 * lam) by grind)
    grind
  clear hser cf1 hyM hu yq0 hsl
  generalize ((dn (hw M (dn (ys M x R) (2 ^ R)) T (T - 1) * ys M x R) M : Int) : Rat) = told at *
  generalize ((hw M (dn (ys M x R) (2 ^ R)) T (T - 1) : Int) : Rat) * ((ys M x R : Int) : Rat) / M = wy at *
  generalize Lam N M (ys M x R) R = la at *
  generalize (M : Rat) * lgI N M x = l0 at *
  generalize -((ys M x R : Int) : Rat) / M * cf = q at *
  have e7 : 7 * ((2 ^ R * M : Int) : Rat) / (N : Rat) = 3 * ((2 ^ R * M : Int) : Rat) / (N : Rat) + 4 * ((2 ^ R * M : Int) : Rat) / (N : Rat) := by grind
  rw [e7]
  generalize 3 * ((2 ^ R * M : Int) : Rat) / (N : Rat) = n3 at *
  generalize 4 * ((2 ^ R * M : Int) : Rat) / (N : Rat) = n4 at *
  have eB : ((L : Rat) + 6) * (1 / 2 + 3 / 8 * lam) = (L : Rat) * (1 / 2 + 3 / 8 * lam) + 6 * (1 / 2 + 3 / 8 * lam) := by grind
  have eB2 : ((L : Rat) + 2) * (1006 / 1000 * (1 / 2 + 3 / 8 * lam)) = 1006 / 1000 * ((L : Rat) * (1 / 2 + 3 / 8 * lam)) + 2012 / 1000 * (1 / 2 + 3 / 8 * lam) := by grind
  rw [eB]
  rw [eB2] at e1 e2
  generalize (L : Rat) * (1 / 2 + 3 / 8 * lam) = LB at *
  clear hE e0 cW hyM0 cf0 hcf eB eB2 e7
  constructor <;> grind
set_option maxHeartbeats 1000000
set_option linter.unusedVariables false
set_option linter.unusedSimpArgs false
-- the law's own logarithm and its room
theorem lg_pow2 {N : Nat} (hN : 0 < N) {b : Int} (hb : 0 < b) : ∀ e : Nat, lgI N (b * 2 ^ e) b - (e : Rat) * lgI N 2 1 ≤ (e : Rat) / N ∧ -((e : Rat) / N) ≤ lgI N (b * 2 ^ e) b - (e : Rat) * lgI N 2 1
  | 0 => by
    have e0 : ((0 : Nat) : Rat) = 0 := by grind
    rw [e0, Int.pow_zero, Int.mul_one]
    have : lgI N b b = 0 := by unfold lgI lg; grind
    rw [this]
    constructor <;> grind
  | e + 1 => by
    obtain ⟨i1, i2⟩ := lg_pow2 hN hb e
    have hc : 0 < b * 2 ^ e := Int.mul_pos hb (two_pos e)
    obtain ⟨s1, s2⟩ := lgI_scale hN (show (0 : Int) < 2 by decide) (show (0 : Int) < 1 by decide) hc
    have e1 : b * 2 ^ e * 2 = b * 2 ^ (e + 1) := by rw [Int.pow_succ, Int.mul_assoc]
    rw [e1, Int.mul_one] at s1 s2
    have a := lgI_add N (b * 2 ^ (e + 1)) (b * 2 ^ e) b
    have ee : ((e + 1 : Nat) : Rat) = (e : Rat) + 1 := by grind
    have en : ((e : Rat) + 1) / N = (e : Rat) / N + 1 / N := by grind
    rw [ee, en]
    constructor <;> grind
theorem lg2_le {N : Nat} (hN : 0 < N) : lgI N 2 1 ≤ 5 / 6 + 1 / (N : Rat) := by
  obtain ⟨_, s2⟩ := lgI_scale hN (show (0 : Int) < 2 by decide) (show (0 : Int) < 1 by decide) (show (0 : Int) < 2 by decide)
  have a := lgI_add N 4 3 2
  have h1 := (lgI_lin hN (show (0 : Int) < 4 by decide) (show (0 : Int) < 3 by decide)).2
  have h2 := (lgI_lin hN (show (0 : Int) < 3 by decide) (show (0 : Int) < 2 by decide)).2
  have c4 : ((4 : Int) : Rat) = 4 := by first | exact Rat.intCast_add .. | exact Rat.intCast_sub .. | exact Rat.intCast_mul .. | exact Rat.intCast_neg .. | exact_mod_cast rfl
  have c3 : ((3 : Int) : Rat) = 3 := by first | exact Rat.intCast_add .. | exact Rat.intCast_sub .. | exact Rat.intCast_mul .. | exact Rat.intCast_neg .. | exact_mod_cast rfl
  have c2 : ((2 : Int) : Rat) = 2 := by first | exact Rat.intCast_add .. | exact Rat.intCast_sub .. | exact Rat.intCast_mul .. | exact Rat.intCast_neg .. | exact_mod_cast rfl
  rw [c4, c3] at h1
  rw [c3, c2] at h2
  rw [show (2 : Int) * 2 = 4 by decide, show (2 : Int) * 1 = 2 by decide] at s2
  grind
noncomputable def farLow (a b s : Int) (e K1 K2 : Nat) : Int := ls (a - b * 2 ^ e) (a + b * 2 ^ e) s K1 + e * ls (2 - 1) (2 + 1) s K2
noncomputable def farHigh (a b s : Int) (e K1 K2 : Nat) : Int := ls (a - b * 2 ^ e) (a + b * 2 ^ e) s K1 + 3 * (K1 + 1) + e * (ls (2 - 1) (2 + 1) s K2 + 3 * (K2 + 1))
structure Far (a b s : Int) (e K1 K2 : Nat) : Prop where
  hb : 0 < b
  h1 : b * 2 ^ e ≤ a
  h2 : a ≤ 2 * (b * 2 ^ e)
  hs : 0 ≤ s
  k1 : lp (a - b * 2 ^ e) (a + b * 2 ^ e) s K1 ≤ 0
  k2 : lp (2 - 1) (2 + 1) s K2 ≤ 0
theorem far_log {a b s : Int} {e K1 K2 : Nat} (H : Far a b s e K1 K2) {N : Nat} (hN : 0 < N) :
    ((farLow a b s e K1 K2 : Int) : Rat) ≤ s * (lgI N a b + ((12 + 13 * e : Int) : Rat) / (N : Rat)) ∧ (s : Rat) * (lgI N a b - ((12 + 13 * e : Int) : Rat) / (N : Rat)) ≤ ((farHigh a b s e K1 K2 : Int) : Rat) := by
  have hc : 0 < b * 2 ^ e := Int.mul_pos H.hb (two_pos e)
  obtain ⟨a1, a2⟩ := ls_log hN hc H.h1 H.h2 H.hs H.k1
  obtain ⟨b1, b2⟩ := ls_log hN (show (0 : Int) < 1 by decide) (show (1 : Int) ≤ 2 by decide) (show (2 : Int) ≤ 2 * 1 by decide) H.hs H.k2
  obtain ⟨p1, p2⟩ := lg_pow2 hN H.hb e
  have ad := lgI_add N a (b * 2 ^ e) b
  have hsr : (0 : Rat) ≤ s := by have := int_le H.hs; exact_mod_cast this
  have he0 : (0 : Rat) ≤ (e : Rat) := by grind
  unfold farLow farHigh
  have c1 : ((ls (a - b * 2 ^ e) (a + b * 2 ^ e) s K1 + e * ls (2 - 1) (2 + 1) s K2 : Int) : Rat) = ((ls (a - b * 2 ^ e) (a + b * 2 ^ e) s K1 : Int) : Rat) + (e : Rat) * ((ls (2 - 1) (2 + 1) s K2 : Int) : Rat) := by first | exact Rat.intCast_add .. | exact Rat.intCast_sub .. | exact Rat.intCast_mul .. | exact Rat.intCast_neg .. | exact_mod_cast rfl
  have c2 : ((ls (a - b * 2 ^ e) (a + b * 2 ^ e) s K1 + 3 * (K1 + 1) + e * (ls (2 - 1) (2 + 1) s K2 + 3 * (K2 + 1)) : Int) : Rat) = ((ls (a - b * 2 ^ e) (a + b * 2 ^ e) s K1 : Int) : Rat) + 3 * ((K1 : Rat) + 1) + (e : Rat) * (((ls (2 - 1) (2 + 1) s K2 : Int) : Rat) + 3 * ((K2 : Rat) + 1)) := by first | exact Rat.intCast_add .. | exact Rat.intCast_sub .. | exact Rat.intCast_mul .. | exact Rat.intCast_neg .. | exact_mod_cast rfl
  have c3 : ((12 + 13 * e : Int) : Rat) = 12 + 13 * (e : Rat) := by first | exact Rat.intCast_add .. | exact Rat.intCast_sub .. | exact Rat.intCast_mul .. | exact Rat.intCast_neg .. | exact_mod_cast rfl
  rw [c1, c2, c3]
  have eb1 := q_mul_le' b1 he0
  have eb2 := q_mul_le' b2 he0
  have sp1 := q_mul_le' p1 hsr
  have sp2 := q_mul_le' p2 hsr
  generalize ((ls (a - b * 2 ^ e) (a + b * 2 ^ e) s K1 : Int) : Rat) = l1 at *
  generalize ((ls (2 - 1) (2 + 1) s K2 : Int) : Rat) = l2 at *
  generalize lgI N a (b * 2 ^ e) = x1 at *
  generalize lgI N (b * 2 ^ e) b = x2 at *
  generalize lgI N 2 1 = x3 at *
  rw [← ad]
  have ex : (12 + 13 * (e : Rat)) / (N : Rat) = 12 / (N : Rat) + 12 * ((e : Rat) / N) + (e : Rat) / N := by grind
  have ey : (e : Rat) * (12 / (N : Rat)) = 12 * ((e : Rat) / N) := by grind
  rw [ex]
  have e1 : (e : Rat) * (s * (x3 + 12 / (N : Rat))) = s * (e * x3) + s * (12 * ((e : Rat) / N)) := by rw [← ey]; grind
  have e2 : (e : Rat) * (s * (x3 - 12 / (N : Rat))) = s * (e * x3) - s * (12 * ((e : Rat) / N)) := by rw [← ey]; grind
  rw [e1] at eb1
  rw [e2] at eb2
  generalize (e : Rat) / N = q at *
  generalize 12 / (N : Rat) = t at *
  generalize (e : Rat) * x3 = ex3 at *
  clear p1 p2 b1 b2 ad ex ey e1 e2
  constructor <;> grind
theorem far_gap {a b s : Int} {e K1 K2 : Nat} (he : e ≤ 200) (h1 : K1 ≤ 200) (h2 : K2 ≤ 200) : farHigh a b s e K1 K2 - farLow a b s e K1 K2 ≤ 121203 := by
  unfold farHigh farLow
  have e1 : ls (a - b * 2 ^ e) (a + b * 2 ^ e) s K1 + 3 * ((K1 : Int) + 1) + (e : Int) * (ls (2 - 1) (2 + 1) s K2 + 3 * ((K2 : Int) + 1)) - (ls (a - b * 2 ^ e) (a + b * 2 ^ e) s K1 + (e : Int) * ls (2 - 1) (2 + 1) s K2) = 3 * ((K1 : Int) + 1) + (e : Int) * (3 * ((K2 : Int) + 1)) := by grind
  rw [e1]
  have : (e : Int) * (3 * ((K2 : Int) + 1)) ≤ 200 * (3 * ((K2 : Int) + 1)) := Int.mul_le_mul_of_nonneg_right (by first | with_reducible assumption | with_reducible exact Int.natCast_nonneg _ | with_reducible exact Int.le_of_lt (by assumption) | omega) (by first | with_reducible assumption | with_reducible exact Int.natCast_nonneg _ | with_reducible exact Int.le_of_lt (by assumption) | omega)
  omega
theorem far_use {a b M : Int} {e K1 K2 : Nat} (hM : 1000000 ≤ M) (H : Far a b (M * 1073741824) e K1 K2) (he : e ≤ 200) (h1 : K1 ≤ 200) (h2 : K2 ≤ 200) :
    (0 : Rat) ≤ ((farHigh a b (M * 1073741824) e K1 K2 : Int) : Rat) / ((M * 1073741824 : Int) : Rat) ∧ ((farHigh a b (M * 1073741824) e K1 K2 : Int) : Rat) / ((M * 1073741824 : Int) : Rat) ≤ 200 ∧
    ∀ N : Nat, 0 < N → lgI N a b ≤ ((farHigh a b (M * 1073741824) e K1 K2 : Int) : Rat) / ((M * 1073741824 : Int) : Rat) + ((12 + 13 * e : Int) : Rat) / (N : Rat) := by
  have hs : 0 < M * 1073741824 := by omega
  have hsp := int_pos hs
  have hs15 : (1000000000000 : Rat) ≤ ((M * 1073741824 : Int) : Rat) := by
    have := int_le (show (1000000000000 : Int) ≤ M * 1073741824 by omega)
    have c : ((1000000000000 : Int) : Rat) = 1000000000000 := rfl
    rw [c] at this; exact this
  have gap := int_le (far_gap (a := a) (b := b) (s := M * 1073741824) he h1 h2)
  have cg : ((farHigh a b (M * 1073741824) e K1 K2 - farLow a b (M * 1073741824) e K1 K2 : Int) : Rat) = ((farHigh a b (M * 1073741824) e K1 K2 : Int) : Rat) - ((farLow a b (M * 1073741824) e K1 K2 : Int) : Rat) := Rat.intCast_sub ..
  have cg2 : ((121203 : Int) : Rat) = 121203 := rfl
  rw [cg, cg2] at gap
  have key := fun N hN => far_log H (N := N) hN
  have hba : b ≤ a := by
    have := H.h1
    have hP := two_pos e
    have : b * 1 ≤ b * 2 ^ e := Int.mul_le_mul_of_nonneg_left (by first | with_reducible assumption | with_reducible exact Int.natCast_nonneg _ | with_reducible exact Int.le_of_lt (by assumption) | omega) (by have := H.hb; omega)
    omega
  have hc : 0 < b * 2 ^ e := Int.mul_pos H.hb (two_pos e)
  have heq : (e : Rat) ≤ 200 := by
    have := nat_le he
    have e : ((200 : Nat) : Rat) = 200 := by first | exact Rat.intCast_add .. | exact Rat.intCast_sub .. | exact Rat.intCast_mul .. | exact Rat.intCast_neg .. | exact_mod_cast rfl
    rw [e] at this; exact this
  have he0 : (0 : Rat) ≤ (e : Rat) := by grind
  have hl0 : (0 : Rat) ≤ ((farHigh a b (M * 1073741824) e K1 K2 : Int) : Rat) := by
    refine q_arch (C := M * 1073741824 * (12 + 13 * e)) fun N hN => ?_
    obtain ⟨_, k⟩ := key N hN
    have nn : 0 ≤ lgI N a b := lg_nn (by first | with_reducible assumption | with_reducible exact Int.natCast_nonneg _ | with_reducible exact Int.le_of_lt (by assumption) | omega)
    have m := q_mul_nn (show 0 ≤ ((M * 1073741824 : Int) : Rat) by grind) nn
    have c : ((M * 1073741824 * (12 + 13 * e) : Int) : Rat) = ((M * 1073741824 : Int) : Rat) * ((12 + 13 * e : Int) : Rat) := Rat.intCast_mul ..
    rw [c]
    have e1 : ((M * 1073741824 : Int) : Rat) * ((12 + 13 * e : Int) : Rat) / (N : Rat) = ((M * 1073741824 : Int) : Rat) * (((12 + 13 * e : Int) : Rat) / (N : Rat)) := by grind
    rw [e1]
    grind
  refine ⟨q_div_nn hl0 hsp, ?_, fun N hN => ?_⟩
  · refine q_div_le hsp ?_
    have hlow : ((farLow a b (M * 1073741824) e K1 K2 : Int) : Rat) ≤ ((M * 1073741824 : Int) : Rat) * (1 + 5 / 6 * (e : Rat)) := by
      refine q_arch (C := M * 1073741824 * (12 + 13 * e) + M * 1073741824 * (2 * e)) fun N hN => ?_
      obtain ⟨k, _⟩ := key N hN
      have ad := lgI_add N a (b * 2 ^ e) b
      obtain ⟨p1, _⟩ := lg_pow2 hN H.hb e
      have l2 := q_mul_le' (lg2_le hN) he0
      have l1 := (lgI_lin hN (show 0 < a by have := H.hb; omega) hc).2
      have l1' : lgI N a (b * 2 ^ e) ≤ 1 := by
        refine Rat.le_trans l1 (q_div_le (int_pos hc) ?_)
        have := int_le H.h2
        have c2 : ((2 * (b * 2 ^ e) : Int) : Rat) = 2 * ((b * 2 ^ e : Int) : Rat) := by first | exact Rat.intCast_add .. | exact Rat.intCast_sub .. | exact Rat.intCast_mul .. | exact Rat.intCast_neg .. | exact_mod_cast rfl
        rw [c2] at this
        grind
      have hlg : lgI N a b ≤ 1 + 5 / 6 * (e : Rat) + 2 * ((e : Rat) / N) := by
        have e3 : (e : Rat) * (5 / 6 + 1 / (N : Rat)) = 5 / 6 * (e : Rat) + (e : Rat) / N := by grind
        rw [e3] at l2
        grind
      have m := q_mul_le' hlg (show 0 ≤ ((M * 1073741824 : Int) : Rat) by grind)
      have c : ((M * 1073741824 * (12 + 13 * e) + M * 1073741824 * (2 * e) : Int) : Rat) = ((M * 1073741824 : Int) : Rat) * ((12 + 13 * e : Int) : Rat) + ((M * 1073741824 : Int) : Rat) * (2 * (e : Rat)) := by
        have c5 : ((2 * (e : Int) : Int) : Rat) = 2 * (e : Rat) := by first | exact Rat.intCast_add .. | exact Rat.intCast_sub .. | exact Rat.intCast_mul .. | exact Rat.intCast_neg .. | exact_mod_cast rfl
        rw [Rat.intCast_add, Rat.intCast_mul, Rat.intCast_mul (M * 1073741824) (2 * e), c5]
      rw [c]
      generalize ((M * 1073741824 : Int) : Rat) = U at *
      generalize ((12 + 13 * e : Int) : Rat) = V at *
      have e1 : (U * V + U * (2 * (e : Rat))) / (N : Rat) = U * (V / (N : Rat)) + U * (2 * ((e : Rat) / N)) := by grind
      rw [e1]
      grind
    have := q_mul_le' (show 1 + 5 / 6 * (e : Rat) ≤ 168 by grind) (show 0 ≤ ((M * 1073741824 : Int) : Rat) by grind)
    grind
  · obtain ⟨_, k⟩ := key N hN
    have := q_le_div (a := ((farHigh a b (M * 1073741824) e K1 K2 : Int) : Rat)) (c := lgI N a b - ((12 + 13 * e : Int) : Rat) / (N : Rat)) hsp (by grind)
    grind
theorem check10 {M told low high s4 C D : Int} {n : Nat} {lgf : Nat → Rat} (hM : 1000000 ≤ M) (hn : n ≤ 46) (hgap : high - low ≤ 121203)
    (hlo : ∀ N : Nat, 0 < N → (low : Rat) ≤ ((M * 1073741824 : Int) : Rat) * (lgf N + (C : Rat) / (N : Rat))) (hhi : ∀ N : Nat, 0 < N → ((M * 1073741824 : Int) : Rat) * (lgf N - (C : Rat) / (N : Rat)) ≤ (high : Rat))
    (ht : ∀ N : Nat, 0 < N → (told : Rat) - M * lgf N ≤ (n : Rat) * (1 / 2 + 3 / 8 * ((high : Rat) / ((M * 1073741824 : Int) : Rat))) + s4 - 1 / 100 + 7 * (D : Rat) / (N : Rat) ∧
      -((n : Rat) * (1 / 2 + 3 / 8 * ((high : Rat) / ((M * 1073741824 : Int) : Rat))) + s4 - 1 / 100 + 7 * (D : Rat) / (N : Rat)) ≤ (told : Rat) - M * lgf N) :
    8 * M * (1073741824 * told - low) ≤ n * (4 * (M * 1073741824) + 3 * low) + 8 * s4 * (M * 1073741824) ∧ 8 * M * (high - 1073741824 * told) ≤ n * (4 * (M * 1073741824) + 3 * low) + 8 * s4 * (M * 1073741824) := by
  have hM0 : 0 < M := by omega
  have hMq := M6_q hM
  have hMr := int_pos hM0
  have hU : ((M * 1073741824 : Int) : Rat) = (M : Rat) * 1073741824 := by rw [Rat.intCast_mul]; rfl
  rw [hU] at hlo hhi ht
  have gap := int_le hgap
  have cg : ((high - low : Int) : Rat) = (high : Rat) - low := by first | exact Rat.intCast_add .. | exact Rat.intCast_sub .. | exact Rat.intCast_mul .. | exact Rat.intCast_neg .. | exact_mod_cast rfl
  have cg2 : ((121203 : Int) : Rat) = 121203 := rfl
  rw [cg, cg2] at gap
  have hnq : (n : Rat) ≤ 46 := by
    have := nat_le hn
    have e : ((46 : Nat) : Rat) = 46 := by first | exact Rat.intCast_add .. | exact Rat.intCast_sub .. | exact Rat.intCast_mul .. | exact Rat.intCast_neg .. | exact_mod_cast rfl
    rw [e] at this; exact this
  have hn0 : (0 : Rat) ≤ (n : Rat) := by grind
  obtain ⟨lam, hlam⟩ : ∃ lam, lam = (high : Rat) / ((M : Rat) * 1073741824) := ⟨_, rfl⟩
  have hlm : (M : Rat) * lam * 1073741824 = high := by
    rw [hlam]
    have : (M : Rat) ≠ 0 := by grind
    grind
  rw [← hlam] at ht
  have up : (told : Rat) * 1073741824 ≤ high + 1073741824 * ((n : Rat) * (1 / 2 + 3 / 8 * lam) + s4 - 1 / 100) := by
    have h : (told : Rat) ≤ M * lam + ((n : Rat) * (1 / 2 + 3 / 8 * lam) + s4 - 1 / 100) := by
      refine q_arch (C := M * C + 7 * D) fun N hN => ?_
      obtain ⟨t1, _⟩ := ht N hN
      have h1 := hhi N hN
      have c : ((M * C + 7 * D : Int) : Rat) = (M : Rat) * C + 7 * (D : Rat) := by first | exact Rat.intCast_add .. | exact Rat.intCast_sub .. | exact Rat.intCast_mul .. | exact Rat.intCast_neg .. | exact_mod_cast rfl
      rw [c]
      have e1 : ((M : Rat) * C + 7 * (D : Rat)) / (N : Rat) = M * ((C : Rat) / N) + 7 * (D : Rat) / (N : Rat) := by grind
      rw [e1]
      have h2 : (M : Rat) * (lgf N - (C : Rat) / N) ≤ M * lam := by
        refine q_cancel (c := 1073741824) (by grind) ?_
        grind
      grind
    have := q_mul_le h (show (0 : Rat) ≤ 1073741824 by decide +kernel)
    grind
  have dn' : (low : Rat) - 1073741824 * ((n : Rat) * (1 / 2 + 3 / 8 * lam) + s4 - 1 / 100) ≤ (told : Rat) * 1073741824 := by
    have h : (low : Rat) / 1073741824 ≤ told + ((n : Rat) * (1 / 2 + 3 / 8 * lam) + s4 - 1 / 100) := by
      refine q_arch (C := M * C + 7 * D) fun N hN => ?_
      obtain ⟨_, t2⟩ := ht N hN
      have h1 := hlo N hN
      have c : ((M * C + 7 * D : Int) : Rat) = (M : Rat) * C + 7 * (D : Rat) := by first | exact Rat.intCast_add .. | exact Rat.intCast_sub .. | exact Rat.intCast_mul .. | exact Rat.intCast_neg .. | exact_mod_cast rfl
      rw [c]
      have e1 : ((M : Rat) * C + 7 * (D : Rat)) / (N : Rat) = M * ((C : Rat) / N) + 7 * (D : Rat) / (N : Rat) := by grind
      rw [e1]
      have h2 : (low : Rat) / 1073741824 ≤ M * (lgf N + (C : Rat) / N) := by
        refine q_div_le (by grind) ?_
        grind
      grind
    have := q_mul_le h (show (0 : Rat) ≤ 1073741824 by decide +kernel)
    grind
  -- the room, in full
  have e5 : (M : Rat) * 1073741824 * ((n : Rat) * (3 / 8 * lam)) = (n : Rat) * (3 / 8 * high) := by rw [← hlm]; grind
  have g1 := q_mul_le' gap (show (0 : Rat) ≤ M by first | with_reducible assumption | with_reducible exact Rat.le_of_lt (by assumption) | with_reducible exact nn6 (by assumption) | with_reducible exact nn1 (by assumption) | with_reducible exact nn2 (by assumption) | grind)
  have g2 := q_mul_le' gap hn0
  have g3 := q_mul_le hnq (show (0 : Rat) ≤ 121203 by decide +kernel)
  have m1 := q_mul_le' up (show (0 : Rat) ≤ 8 * M by grind)
  have m2 := q_mul_le' dn' (show (0 : Rat) ≤ 8 * M by grind)
  have k : ((1073741824 : Int) : Rat) = 1073741824 := rfl
  have k8 : ((8 : Int) : Rat) = 8 := rfl
  have k4 : ((4 : Int) : Rat) = 4 := rfl
  have k3 : ((3 : Int) : Rat) = 3 := rfl
  have kn : (((n : Nat) : Int) : Rat) = (n : Rat) := by first | exact Rat.intCast_add .. | exact Rat.intCast_sub .. | exact Rat.intCast_mul .. | exact Rat.intCast_neg .. | exact_mod_cast rfl
  have cR : ((n * (4 * (M * 1073741824) + 3 * low) + 8 * s4 * (M * 1073741824) : Int) : Rat) = (n : Rat) * (4 * ((M : Rat) * 1073741824) + 3 * low) + 8 * (s4 : Rat) * ((M : Rat) * 1073741824) := by
    simp only [Rat.intCast_add, Rat.intCast_mul, k, k8, k4, k3, kn]
  have cL : ((8 * M * (1073741824 * told - low) : Int) : Rat) = 8 * (M : Rat) * (1073741824 * (told : Rat) - low) := by
    simp only [Rat.intCast_sub, Rat.intCast_mul, k, k8]
  have cH : ((8 * M * (high - 1073741824 * told) : Int) : Rat) = 8 * (M : Rat) * ((high : Rat) - 1073741824 * (told : Rat)) := by
    simp only [Rat.intCast_sub, Rat.intCast_mul, k, k8]
  constructor
  · refine Rat.intCast_le_intCast.mp ?_
    rw [cL, cR]
    clear up dn' m2 hlo hhi ht hlam hlm cL cH cR hU
    grind
  · refine Rat.intCast_le_intCast.mp ?_
    rw [cH, cR]
    clear up dn' m1 hlo hhi ht hlam hlm cL cH cR hU
    grind
set_option maxHeartbeats 1000000
set_option linter.unusedVariables false
set_option linter.unusedSimpArgs false
theorem stop_uniq {M x : Int} {L R R' : Nat} (g : ∀ q, q < R → M * 2 ^ q ≤ ((ys M x q).natAbs : Int) * 2 ^ L) (s : ((ys M x R).natAbs : Int) * 2 ^ L < M * 2 ^ R)
    (g' : ∀ q, q < R' → M * 2 ^ q ≤ ((ys M x q).natAbs : Int) * 2 ^ L) (s' : ((ys M x R').natAbs : Int) * 2 ^ L < M * 2 ^ R') : R = R' := by
  rcases Nat.lt_trichotomy R R' with h | h | h
  · have := g' R h; omega
  · exact h
  · have := g R' h; omega
theorem bits_ge {a : Int} (ha : 0 < a) : (2 : Int) ^ (intBits a - 1) ≤ a ∧ a < 2 ^ intBits a ∧ 1 ≤ intBits a := by
  have e : ∀ n : Nat, (2 : Int) ^ n = ((2 ^ n : Nat) : Int) := fun n => by simp
  have h1 : 1 ≤ intBits a := by
    apply Nat.le_of_not_lt; intro h
    have := bits_lt (x := a) (m := 0) (by first | with_reducible assumption | with_reducible exact Int.natCast_nonneg _ | with_reducible exact Int.le_of_lt (by assumption) | omega)
    simp at this; omega
  have h2 := bits_lt (x := a) (m := intBits a) (Nat.le_refl _)
  have h3 : 2 ^ (intBits a - 1) ≤ a.natAbs := by
    apply Nat.le_of_not_lt; intro h
    have := lt_bits h
    omega
  rw [e, e]
  exact ⟨by omega, by omega, h1⟩
theorem far_e {a b : Int} {U : Nat} (hb : 0 < b) (hba : b ≤ a) (hU : a < 2 ^ U * b) :
    ∃ E : Nat, (intBits a : Int) - (intBits b : Int) = (E : Int) ∧ E ≤ U ∧ a ≤ 2 * (b * 2 ^ E) ∧ (a < b * 2 ^ E → ∃ E' : Nat, E = E' + 1 ∧ b * 2 ^ E' ≤ a ∧ a ≤ 2 * (b * 2 ^ E')) := by
  obtain ⟨a1, a2, a3⟩ := bits_ge (show 0 < a by omega)
  obtain ⟨b1, b2, b3⟩ := bits_ge hb
  have hm : ∀ {m n : Nat}, (2 : Int) ^ m < 2 ^ n → m < n := fun {m n} h => by
    have e : ∀ n : Nat, (2 : Int) ^ n = ((2 ^ n : Nat) : Int) := fun n => by simp
    rw [e, e] at h
    exact (Nat.pow_lt_pow_iff_right (by decide)).mp (Int.ofNat_lt.mp h)
  have hqp : intBits b - 1 < intBits a := hm (by first | with_reducible assumption | with_reducible exact Int.natCast_nonneg _ | with_reducible exact Int.le_of_lt (by assumption) | omega)
  have hpU : intBits a - 1 < U + intBits b := hm (by
    rw [Int.pow_add]
    have : (2 : Int) ^ U * b < 2 ^ U * 2 ^ intBits b := Int.mul_lt_mul_of_pos_left b2 (two_pos U)
    omega)
  obtain ⟨E, hE⟩ : ∃ E : Nat, intBits a = intBits b + E := ⟨intBits a - intBits b, by omega⟩
  have hP := two_pos E
  have k1 : (2 : Int) ^ intBits a = 2 * (2 ^ (intBits b - 1) * 2 ^ E) := by
    rw [← Int.pow_add, show intBits a = (intBits b - 1 + E) + 1 by omega, Int.pow_succ]; omega
  have k2 : (2 : Int) ^ (intBits b - 1) * 2 ^ E ≤ b * 2 ^ E := Int.mul_le_mul_of_nonneg_right b1 (by first | with_reducible assumption | with_reducible exact Int.natCast_nonneg _ | with_reducible exact Int.le_of_lt (by assumption) | omega)
  refine ⟨E, by omega, by omega, by omega, fun hlt => ?_⟩
  have hE0 : E ≠ 0 := by
    rintro rfl
    rw [Int.pow_zero, Int.mul_one] at hlt
    omega
  obtain ⟨E', rfl⟩ : ∃ E', E = E' + 1 := ⟨E - 1, by omega⟩
  have e3 : b * 2 ^ (E' + 1) = 2 * (b * 2 ^ E') := by rw [Int.pow_succ]; grind
  refine ⟨E', rfl, ?_, by omega⟩
  have k3 : b * 2 ^ (E' + 1) ≤ 2 ^ intBits b * 2 ^ (E' + 1) := Int.mul_le_mul_of_nonneg_right (by first | with_reducible assumption | with_reducible exact Int.natCast_nonneg _ | with_reducible exact Int.le_of_lt (by assumption) | omega) (by first | with_reducible assumption | with_reducible exact Int.natCast_nonneg _ | with_reducible exact Int.le_of_lt (by assumption) | omega)
  have k4 : (2 : Int) ^ intBits b * 2 ^ (E' + 1) = 2 * 2 ^ (intBits a - 1) := by
    rw [← Int.pow_add, show intBits b + (E' + 1) = (intBits a - 1) + 1 by omega, Int.pow_succ]; omega
  omega
theorem far_exists {a b s : Int} {U : Nat} (hb : 0 < b) (hba : b ≤ a) (hU : a < 2 ^ U * b) (hU2 : U ≤ 200) (hs : 0 ≤ s) (hsB : s < 2 ^ 200) : ∃ e K1 K2 : Nat, e ≤ 200 ∧ K1 ≤ 200 ∧ K2 ≤ 200 ∧ Far a b s e K1 K2 := by
  obtain ⟨E, hE1, hE2, hE3, hE4⟩ := far_e hb hba hU
  obtain ⟨e, he, g1, g2⟩ : ∃ e : Nat, e ≤ 200 ∧ b * 2 ^ e ≤ a ∧ a ≤ 2 * (b * 2 ^ e) := by
    by_cases h : a < b * 2 ^ E
    · obtain ⟨E', rfl, g1, g2⟩ := hE4 h
      exact ⟨E', by omega, g1, g2⟩
    · exact ⟨E, by omega, by omega, hE3⟩
  have hc : 0 < b * 2 ^ e := Int.mul_pos hb (two_pos e)
  obtain ⟨K1, k1, k1', _⟩ := lp_ends (n := a - b * 2 ^ e) (m := a + b * 2 ^ e) (scale := s) (B := 200) (by first | with_reducible assumption | with_reducible exact Int.natCast_nonneg _ | with_reducible exact Int.le_of_lt (by assumption) | omega) (by first | with_reducible assumption | with_reducible exact Int.natCast_nonneg _ | with_reducible exact Int.le_of_lt (by assumption) | omega) (by first | with_reducible assumption | with_reducible exact Int.natCast_nonneg _ | with_reducible exact Int.le_of_lt (by assumption) | omega) hs hsB
  obtain ⟨K2, k2, k2', _⟩ := lp_ends (n := 2 - 1) (m := 2 + 1) (scale := s) (B := 200) (by decide) (by decide) (by decide) hs hsB
  exact ⟨e, K1, K2, he, k1, k2, ⟨hb, g1, g2, hs, k1', k2'⟩⟩
theorem unit_lt {M : Int} (hMb : M < 2 ^ 133) : M * 1073741824 < 2 ^ 200 := by
  have e1 : (2 : Int) ^ 133 * 1073741824 = 2 ^ 163 := by decide
  have e2 : (2 : Int) ^ 163 < 2 ^ 200 := by decide
  omega
theorem above_law {M x : Int} {L f T : Nat} (hM : 1000000 ≤ M) (hMb : M < 2 ^ 133) (hx : M ≤ x) (hx2 : x < 2 ^ 200 * M) (hL3 : 3 ≤ L) (hL : L ≤ 40) (hT0 : 0 < T) (hf : M < 10 ^ f) (hT : 10 * f ≤ 3 * (L * T)) :
    ∃ R, R ≤ 48 ∧ (∀ R', R' < R → M * 2 ^ R' ≤ ((ys M x R').natAbs : Int) * 2 ^ L) ∧ ((ys M x R).natAbs : Int) * 2 ^ L < M * 2 ^ R ∧
      ∀ e K1 K2 : Nat, e ≤ 200 → K1 ≤ 200 → K2 ≤ 200 → Far x M (M * 1073741824) e K1 K2 →
        8 * M * (1073741824 * dn (hw M (dn (ys M x R) (2 ^ R)) T (T - 1) * ys M x R) M - farLow x M (M * 1073741824) e K1 K2) ≤ ((L : Int) + 5) * (4 * (M * 1073741824) + 3 * farLow x M (M * 1073741824) e K1 K2) + 0 * (M * 1073741824) ∧
        8 * M * (farHigh x M (M * 1073741824) e K1 K2 - 1073741824 * dn (hw M (dn (ys M x R) (2 ^ R)) T (T - 1) * ys M x R) M) ≤ ((L : Int) + 5) * (4 * (M * 1073741824) + 3 * farLow x M (M * 1073741824) e K1 K2) + 0 * (M * 1073741824) := by
  have hM0 : 0 < M := by omega
  have hx201 : x < 2 ^ 201 * M := by
    have e : (2 : Int) ^ 201 * M = 2 * (2 ^ 200 * M) := by rw [Int.pow_succ]; grind
    omega
  have base : ∀ e K1 K2 : Nat, e ≤ 200 → K1 ≤ 200 → K2 ≤ 200 → Far x M (M * 1073741824) e K1 K2 → Up M x (((farHigh x M (M * 1073741824) e K1 K2 : Int) : Rat) / ((M * 1073741824 : Int) : Rat)) (12 + 13 * e) := by
    intro e K1 K2 he h1 h2 H
    obtain ⟨u1, u2, u3⟩ := far_use hM H he h1 h2
    exact ⟨hM, hx, u1, u2, u3⟩
  refine Classical.byContradiction fun hG => ?_
  obtain ⟨e, K1, K2, he, hk1, hk2, H⟩ := far_exists (U := 200) hM0 hx hx2 (Nat.le_refl _) (show 0 ≤ M * 1073741824 by omega) (unit_lt hMb)
  obtain ⟨R, hR, hgo, hstop, _⟩ := above10 (base e K1 K2 he hk1 hk2 H) hx201 hL3 hL hT0 hf hT
  refine hG ⟨R, hR, hgo, hstop, fun e K1 K2 he h1 h2 H => Classical.byContradiction fun hG2 => ?_⟩
  obtain ⟨R', _, hgo', hstop', hN⟩ := above10 (base e K1 K2 he h1 h2 H) hx201 hL3 hL hT0 hf hT
  obtain rfl := stop_uniq hgo hstop hgo' hstop'
  have key := check10 (told := dn (hw M (dn (ys M x R) (2 ^ R)) T (T - 1) * ys M x R) M) (s4 := 0) (C := 12 + 13 * e) (D := 2 ^ R * M) (n := L + 5) (lgf := fun N => lgI N x M) hM (by first | with_reducible assumption | with_reducible exact Int.natCast_nonneg _ | with_reducible exact Int.le_of_lt (by assumption) | omega) (far_gap he h1 h2) (fun N hN => (far_log H hN).1) (fun N hN => (far_log H hN).2) (fun N hNp => by
    obtain ⟨t1, t2⟩ := hN N hNp
    have c : ((L + 5 : Nat) : Rat) = (L : Rat) + 5 := by first | exact Rat.intCast_add .. | exact Rat.intCast_sub .. | exact Rat.intCast_mul .. | exact Rat.intCast_neg .. | exact_mod_cast rfl
    have c0 : ((0 : Int) : Rat) = 0 := by first | exact Rat.intCast_add .. | exact Rat.intCast_sub .. | exact Rat.intCast_mul .. | exact Rat.intCast_neg .. | exact_mod_cast rfl
    rw [c, c0]
    constructor
    · refine Rat.le_trans t1 ?_
      generalize ((L : Rat) + 5) * (1 / 2 + 3 / 8 * (((farHigh x M (M * 1073741824) e K1 K2 : Int) : Rat) / ((M * 1073741824 : Int) : Rat))) = B
      generalize 7 * ((2 ^ R * M : Int) : Rat) / (N : Rat) = q
      grind
    · refine Rat.le_trans ?_ t2
      generalize ((L : Rat) + 5) * (1 / 2 + 3 / 8 * (((farHigh x M (M * 1073741824) e K1 K2 : Int) : Rat) / ((M * 1073741824 : Int) : Rat))) = B
      generalize 7 * ((2 ^ R * M : Int) : Rat) / (N : Rat) = q
      grind)
  have e1 : ((L + 5 : Nat) : Int) = (L : Int) + 5 := by omega
  have e2 : (8 : Int) * 0 * (M * 1073741824) = 0 * (M * 1073741824) := by omega
  rw [e1, e2] at key
  exact hG2 key
theorem below_law {M x s : Int} {L f T : Nat} (hM : 1000000 ≤ M) (hMb : M < 2 ^ 133) (hx0 : 0 < x) (hx : x ≤ M) (hs1 : 1 ≤ s) (hs : M ≤ s * s * x) (hs2 : (s - 1) * (s - 1) * x ≤ M) (hL3 : 3 ≤ L) (hL : L ≤ 40) (hT0 : 0 < T) (hf : M < 10 ^ f) (hT : 10 * f ≤ 3 * (L * T)) :
    ∃ R, R ≤ 180 ∧ (∀ R', R' < R → M * 2 ^ R' ≤ ((ys M x R').natAbs : Int) * 2 ^ L) ∧ ((ys M x R).natAbs : Int) * 2 ^ L < M * 2 ^ R ∧
      ∀ e K1 K2 : Nat, e ≤ 200 → K1 ≤ 200 → K2 ≤ 200 → Far M x (M * 1073741824) e K1 K2 →
        8 * M * (1073741824 * -dn (hw M (dn (ys M x R) (2 ^ R)) T (T - 1) * ys M x R) M - farLow M x (M * 1073741824) e K1 K2) ≤ ((L : Int) + 6) * (4 * (M * 1073741824) + 3 * farLow M x (M * 1073741824) e K1 K2) + 32 * s * (M * 1073741824) ∧
        8 * M * (farHigh M x (M * 1073741824) e K1 K2 - 1073741824 * -dn (hw M (dn (ys M x R) (2 ^ R)) T (T - 1) * ys M x R) M) ≤ ((L : Int) + 6) * (4 * (M * 1073741824) + 3 * farLow M x (M * 1073741824) e K1 K2) + 32 * s * (M * 1073741824) := by
  have hM0 : 0 < M := by omega
  have base : ∀ e K1 K2 : Nat, e ≤ 200 → K1 ≤ 200 → K2 ≤ 200 → Far M x (M * 1073741824) e K1 K2 → Dn M x s (12 + 13 * e) (((farHigh M x (M * 1073741824) e K1 K2 : Int) : Rat) / ((M * 1073741824 : Int) : Rat)) := by
    intro e K1 K2 he h1 h2 H
    obtain ⟨u1, u2, u3⟩ := far_use hM H he h1 h2
    exact ⟨hM, hx0, hx, hs1, hs, hs2, u1, u2, u3⟩
  have hU : M < 2 ^ 133 * x := by
    have : (2 : Int) ^ 133 * 1 ≤ 2 ^ 133 * x := Int.mul_le_mul_of_nonneg_left (by first | with_reducible assumption | with_reducible exact Int.natCast_nonneg _ | with_reducible exact Int.le_of_lt (by assumption) | omega) (by decide)
    omega
  refine Classical.byContradiction fun hG => ?_
  obtain ⟨e, K1, K2, he, hk1, hk2, H⟩ := far_exists (U := 133) hx0 hx hU (by decide) (show 0 ≤ M * 1073741824 by omega) (unit_lt hMb)
  obtain ⟨R, hR, hgo, hstop, _⟩ := below10 (base e K1 K2 he hk1 hk2 H) hMb hL3 hL hT0 hf hT
  refine hG ⟨R, hR, hgo, hstop, fun e K1 K2 he h1 h2 H => Classical.byContradiction fun hG2 => ?_⟩
  obtain ⟨R', _, hgo', hstop', hN⟩ := below10 (base e K1 K2 he h1 h2 H) hMb hL3 hL hT0 hf hT
  obtain rfl := stop_uniq hgo hstop hgo' hstop'
  have key := check10 (told := -dn (hw M (dn (ys M x R) (2 ^ R)) T (T - 1) * ys M x R) M) (s4 := 4 * s) (C := 12 + 13 * e) (D := 2 ^ R * M) (n := L + 6) (lgf := fun N => lgI N M x) hM (by first | with_reducible assumption | with_reducible exact Int.natCast_nonneg _ | with_reducible exact Int.le_of_lt (by assumption) | omega) (far_gap he h1 h2) (fun N hN => (far_log H hN).1) (fun N hN => (far_log H hN).2) (fun N hNp => by
    obtain ⟨t1, t2⟩ := hN N hNp
    have c : ((L + 6 : Nat) : Rat) = (L : Rat) + 6 := by first | exact Rat.intCast_add .. | exact Rat.intCast_sub .. | exact Rat.intCast_mul .. | exact Rat.intCast_neg .. | exact_mod_cast rfl
    have c4 : ((4 * s : Int) : Rat) = 4 * (s : Rat) := by first | exact Rat.intCast_add .. | exact Rat.intCast_sub .. | exact Rat.intCast_mul .. | exact Rat.intCast_neg .. | exact_mod_cast rfl
    have cn : ((-dn (hw M (dn (ys M x R) (2 ^ R)) T (T - 1) * ys M x R) M : Int) : Rat) = -((dn (hw M (dn (ys M x R) (2 ^ R)) T (T - 1) * ys M x R) M : Int) : Rat) := Rat.intCast_neg ..
    rw [c, c4, cn]
    exact ⟨t1, t2⟩)
  have e1 : ((L + 6 : Nat) : Int) = (L : Int) + 6 := by omega
  have e2 : (8 : Int) * (4 * s) * (M * 1073741824) = 32 * s * (M * 1073741824) := by grind
  rw [e1, e2] at key
  exact hG2 key
set_option maxHeartbeats 4000000
set_option linter.unusedVariables false

structure FrOk (l : List Env) (h : Heap) : Prop where
  ok : ∀ env ∈ l, env.scope.kind ≠ .module ∧ ∃ L o es ep, env.frame = some L ∧ h.get? L = some o ∧ o.data = .dict es ep
theorem FrOk.st {l : List Env} {h h' : Heap} (x : FrOk l h) (k : StIn h h') : FrOk l h' := ⟨fun env he => let ⟨h1, L, o, es, ep, h2, h3, h4⟩ := x.ok env he; ⟨h1, L, o, es, ep, h2, k _ _ h3, h4⟩⟩
noncomputable abbrev frs (l : List Env) : List Addr := l.filterMap (·.frame)
theorem FrOk.fun {l : List Env} {h : Heap} (x : FrOk l h) : h.FunFrames (hideAll h (frs l)) l := by
  have key : ∀ l' : List Env, (∀ env ∈ l', env ∈ l) → h.FunFrames (hideAll h (frs l)) l' := by
    intro l'
    induction l' with
    | nil => intro _; trivial
    | cons env r ih =>
      intro hs
      obtain ⟨h1, L, o, es, ep, h2, h3, h4⟩ := x.ok env (hs env List.mem_cons_self)
      exact ⟨h1, ⟨L, o, h2, hideAll_none _ (List.mem_filterMap.mpr ⟨env, hs env List.mem_cons_self, h2⟩), h3, fun vs q => by rw [h4] at q; cases q⟩, ih fun e he => hs e (List.mem_cons_of_mem _ he)⟩
  exact key l fun _ h => h

structure Thrown (h₀ : Heap) (l : List Env) (X : String) (msg : Str) (e t : Addr) (u : Tok) (base h' : Heap) : Prop where
  bas : ∀ b o, h₀.get? b = some o → b ∉ frs l → base.get? b = some o
  fly : Heap.FlyingW base l e (.type X) (.ref t) h'
  tup : h'.TupAt t [.str msg u]
  up : h₀.UpToSlots h'

structure RaisesV (g : GX) (n : Nat) (f : Value) (args : List AV) (X : String) (msg : Str) : Prop where
  go : ∀ (A : Around) (l : List Env) (Xs : List Addr) (s : Shared) (vs : List Value) (Q : Value → Shared → Prop) (E : Value → Shared → Prop), A.frames = some l → Room A n → FrOk l s.heap → PG g s.heap → XIn Xs s.heap → RelVs Xs s.heap args vs →
    (∀ e t u base h' tk, Thrown s.heap l X msg e t u base h' → E (.ref e) { s with heap := h', toks := tk }) → wpAny (model g.prog g.w) A (call f vs) Q E s
noncomputable def Raises (g : GX) (n : Nat) (f : Str) (args : List AV) (X : String) (msg : Str) : Prop := ∃ a, FnIs g f a ∧ RaisesV g n (.ref a) args X msg

structure ExR (C : CX) (S : AS) (st : List Stmt) (X : String) (msg : Str) : Prop where
  go : C.Ok → ∀ (s₀ : Shared) (X₀ : List Addr) (β : Option Addr) (s : Shared) (Q : Flow → Shared → Prop) (E : Value → Shared → Prop), PG C.g s₀.heap → FS C s₀ X₀ β S s →
    (∀ e u h₁ h' tk, FS C s₀ X₀ β S { s with heap := h₁, toks := tk } → Heap.MadeExc h₁ h' e X [.str msg u] → E (.ref e) { s with heap := h', toks := tk }) →
    wpAny (model C.g.prog C.g.w) C.A (execs st C.env) Q E s

theorem boot_VE : bootBuiltins "ValueError" = some (.type "ValueError") := by decide +kernel
theorem ExR_raise {C : CX} {S : AS} {np cp pos kp : Pos} {k₀ : Nat} {msg : Str} {rest : List Stmt} (hx : C.env.kindOf "ValueError" = some .globalImplicit) :
    ExR C S (.Raise (some (.Call (.Name "ValueError" np) [.Constant (.str msg) k₀ kp] [] cp)) none pos :: rest) "ValueError" msg := by
  refine ⟨fun ok s₀ X₀ β s Q E p F k => ?_⟩
  refine wpAny_execs_cons (Raise_madeB PySem.F.excCall_ValueError PySem.F.excRaise_ValueError ok.room.hh ?_ rfl rfl)
  have p' := p.st F.keep
  refine Calls.Name_function_global ok.kind hx (Calls.loadGlobal_builtin (by rw [ok.glob]; exact p'.top.g) (C.g.nob _ (by decide)) (by rw [ok.blt]; exact p'.top.b) ((p'.top.builtins _ (by decide)).trans boot_VE) ?_) (by decide)
  refine ⟨rfl, ?_⟩
  refine (Evs_cons (C := C) (S := S) (Φ := fun l => l = [.str msg]) (Ev_const_str (Evs_nil rfl))).go ok cp _ s _ E p' F.xinh F.relS fun avs vs h₁ t₁ st₁ r hl e => ?_
  subst e
  obtain ⟨v, r', rfl, ⟨u, rfl⟩, rfl⟩ := r
  refine ⟨by rw [sizeLine_eq]; exact (show (1 : Nat) ≤ _ by decide), fun h' e hm => ?_⟩
  exact k e u h₁ h' t₁ (F.st st₁) hm
theorem ExR_if {C : CX} {S : AS} {t : Expr} {a b rest : List Stmt} {pos : Pos} {X : String} {msg : Str} (h : Tst C S t fun c => c = true) (ha : ExR C S a X msg) : ExR C S (.If t a b pos :: rest) X msg := by
  refine ⟨fun ok s₀ X₀ β s Q E p F k => ?_⟩
  refine wpAny_execs_cons (wpAny_If (h.go ok _ s _ _ (p.st F.keep) F.xinh F.relS fun c h₁ t₁ st₁ φ => ?_))
  subst φ
  exact ha.go ok s₀ X₀ β _ _ E p (F.st st₁) fun e u h₂ h' tk F' hm => k e u h₂ h' tk F' hm

theorem Raises_of {g : GX} {n : Nat} {f : Str} {params : Arguments} {pos : Pos} {ns : List Str} {body : List Stmt} {scope : Scope} {args : List AV} {X : String} {msg : Str}
    (hd : (⟨f, params, body, scope, pos⟩ : DefRec) ∈ recsOf g.p)
    (hbind : ∀ (vs : List Value) (pm cd doc : Value), vs.length = args.length → bindArgs (Calls.docDef f params body scope pm cd doc) ⟨vs, []⟩ = pure (ns.zip vs))
    (hlen : ns.length = args.length) (hp : parsOk ns scope = true) (hnd : ns.Nodup) (hk : scope.kind = .function) (hgen : scope.isGenerator = false) (hco : scope.isCoroutine = false)
    (hbody : ∀ (A : Around) (L a : Addr) (qual : Str) (code : Value), ExR ⟨g, A, newEnv scope L mainGlobals (cellsFrom (L + 1) scope.names []) qual (some a) code none builtinsNs, n⟩ ⟨ns.zip args, none⟩ body X msg) : Raises g (n + 1) f args X msg := by
  obtain ⟨h, T, _⟩ := g.inh
  obtain ⟨a, o, pm, code, doc, h1, _⟩ := T.fn _ hd
  have at_ : ∀ h, PG g h → ∃ o pm code doc, h.get? a = some o ∧ o.data = .func (Calls.docDef f params body scope pm code doc) ∧ h.CodeRec code f := by
    intro h p
    obtain ⟨a', o, pm, code, doc, h1', h2, h3, h4⟩ := p.top.fn _ hd
    rw [h1] at h1'; cases h1'
    exact ⟨o, pm, code, doc, h2, h3, h4⟩
  refine ⟨a, ⟨h1, fun h p => let ⟨o, pm, code, doc, q1, q2, _⟩ := at_ h p; ⟨o, _, q1, q2⟩⟩, ⟨fun A l Xs s vs Q E hfr ro fo p xi rv k => ?_⟩⟩
  refine enter_def (fun h p => let ⟨o, pm, code, doc, q1, q2, q3⟩ := at_ h p; ⟨o, _, q1, q2, q3, rfl, rfl, rfl, rfl, rfl, fun vs _ _ hv => .of_eq (hbind vs pm code doc hv)⟩) hlen hp hnd hk hgen hco hfr ro p xi rv fun L qual code C hC ok hLn h₁ tk₁ F => ?_
  subst hC
  refine (hbody _ L a qual code).go ok s Xs none _ _ _ p F fun e u h₂ h' tk F' hm => ?_
  have keep : StIn s.heap h₂ := F'.keep
  have fo₂ : FrOk (newEnv scope L mainGlobals (cellsFrom (L + 1) scope.names []) qual (some a) code none builtinsNs :: l) h₂ := ⟨fun env he => by
    rcases List.mem_cons.mp he with rfl | he
    · obtain ⟨m, cm, c⟩ := F'.call
      obtain ⟨o', es, ep, ho', hd', _⟩ := c.toInCall.ns
      exact ⟨by show scope.kind ≠ .module; rw [hk]; decide, L, o', es, ep, rfl, ho', hd'⟩
    · exact (fo.st keep).ok env he⟩
  refine wpAny_leaves_madeW (h := h₂) (env := newEnv scope L mainGlobals (cellsFrom (L + 1) scope.names []) qual (some a) code none builtinsNs) (L := L) (outer := l) (base := hideAll h₂ (frs (newEnv scope L mainGlobals (cellsFrom (L + 1) scope.names []) qual (some a) code none builtinsNs :: l))) (Around.frames_deeper hfr) rfl (fun b o' q => of_hideAll _ q) fo₂.fun hm.of fun h'' t x1 x2 x3 x4 => ?_
  refine k e t u _ h'' tk ⟨fun b o' q nb => hideAll_get _ (keep b o' q) fun hmem => ?_, x1, x2, ((Heap.UpToSlots.of_keeps keep).trans (Heap.UpToSlots.of_keeps hm.keeps)).trans x4⟩
  rcases List.mem_cons.mp (show b ∈ L :: frs l from hmem) with rfl | hmem
  · rw [hLn] at q; cases q
  · exact nb hmem

theorem try_go {C : CX} {S : AS} {s₀ s : Shared} {X₀ : List Addr} {β : Option Addr} {l : List Env} {h₀ : Heap} {f n msg : Str} {fp cpos epos np hpos tpos : Pos} {args : List Expr} {more suite : List Stmt} {b₀ : Stmt} {fl : Flow} {nn : Nat} {Q : Flow → Shared → Prop} {E : Value → Shared → Prop}
    (ok : C.Ok) (hfr : C.A.frames = some (C.env :: l)) (fo : FrOk (C.env :: l) s.heap) (hLf : C.env.frame = some C.env.locals) (p₀ : PG C.g h₀) (k₀ : StIn h₀ s.heap) (hn₀ : ∀ b ∈ frs (C.env :: l), h₀.get? b = none)
    (F : FS C s₀ X₀ β S s) (p : PG C.g s₀.heap) (hn : nn ≤ C.n) (hx : C.env.kindOf f = some .globalImplicit) (hv : C.env.kindOf "ValueError" = some .globalImplicit) (hlo : C.env.kindOf n = some .local) (hg : ∃ a, FnIs C.g f a)
    (hargs : Evs C S args fun avs => Raises C.g nn f avs "ValueError" msg)
    (hsuite : ∀ (A' : Around) (s' : Shared) (e t : Addr) (u : Tok) (m : Str → Option Value) (Q' : Flow → Shared → Prop) (E' : Value → Shared → Prop), A'.units = C.A.units → PG C.g s'.heap → s'.heap.Ns C.env.locals m → m n = some (.ref e) → s'.heap.ExcAt e "ValueError" (.ref t) → s'.heap.TupAt t [.str msg u] →
      (∀ tk, Q' fl { s' with toks := tk }) → wpAny (model C.g.prog C.g.w) A' (execs (b₀ :: suite) C.env) Q' E' s')
    (k : ∀ h' tk v m, s.heap.Ns C.env.locals m → h'.Ns C.env.locals (fun x => if x = n then v else m x) → (∀ b o, s.heap.get? b = some o → b ∉ frs (C.env :: l) → h'.get? b = some o) → (∀ b o, b ≠ C.env.locals → s.heap.get? b = some o → (∀ vs, o.data ≠ .fields vs) → ∃ sl, h'.get? b = some { o with slots := sl }) →
      Q fl { s with heap := h', toks := tk })
    (ha : ∃ x r, starEach args C.env = (false, x) :: r ∧ (starEach args C.env).any (·.1) = false := by exact ⟨_, _, rfl, rfl⟩)
    (hint : interactive C.env = false := by rfl) (hsw : swapsWith (.Call (.Name f fp) args [] cpos) none epos.line C.env = pure false := by rfl)
    (hd : (f == ("__debug__" : Str)) = false := by decide) :
    wpAny (model C.g.prog C.g.w) C.A (exec (.Try (.Expr (.Call (.Name f fp) args [] cpos) epos :: more) [.ExceptHandler (some (.Name "ValueError" np)) (some n) (b₀ :: suite) hpos] [] [] tpos) C.env) Q E s := by
  refine wpAny_Try_except (wpAny_execs_cons (wpAny_Expr ?_ hint hsw))
  obtain ⟨x, r, he, hany⟩ := ha
  obtain ⟨a, hfa, hfo⟩ := hg
  have p1 := p.st F.keep
  refine wpAny_Call_Name_kw ?_
  refine Calls.Name_function_global ok.kind hx (Calls.loadGlobal_global (by rw [ok.glob]; exact p1.top.g) hfa ?_) hd
  have hb' : ∃ x' r', backTo cpos (starEach args C.env) = (false, x') :: r' := by rw [he]; exact ⟨_, _, rfl⟩
  obtain ⟨x', r', hb'⟩ := hb'
  obtain ⟨o, fd, ho, hd⟩ := hfo _ p1
  refine Calls.callWith_function (o := o) (fd := fd) ?_
  rw [hb']
  refine Calls.evalArgs_plain ?_
  rw [← hb']
  refine hargs.go ok cpos _ s _ _ p1 F.xinh F.relS fun avs vs h₁ t₁ st₁ ra _ hc => ?_
  obtain ⟨a', ⟨hfa', _⟩, hc⟩ := hc
  rw [hfa] at hfa'
  cases hfa'
  refine ⟨⟨st₁ _ _ ho, hd⟩, hc.go C.A (C.env :: l) _ _ vs _ _ hfr (ok.room.le hn) (fo.st st₁) (p1.st st₁) (F.xinh.st st₁) ra fun e t u base h' tk T => ?_⟩
  refine wpAny_looks_onW hfr hLf T.fly fun h₄ hheld₄ hsm₄ => ?_
  refine wpAny_landsW hheld₄ fun h₅ hfl₅ hsm₅ => ?_
  have stay : ∀ {h : Heap}, base.StaysIn h → StIn h₀ h := fun {h} hb b o q => hb b o (T.bas b o (st₁ b o (k₀ b o q)) fun hm => by rw [hn₀ b hm] at q; cases q)
  have p5 := p₀.st (stay hfl₅.1)
  obtain ⟨ob, hob, hobc⟩ := hfl₅.there
  refine wpAny_handleBy_builtin_as (X := "ValueError") (T := "ValueError") (b := true) (by rw [isSubtype_type]; kernel_rfl) (by rw [isSubtype_type]; kernel_rfl) (by rw [isSubtype_type]; kernel_rfl) ?_
  refine Calls.Name_function_global ok.kind hv (Calls.loadGlobal_builtin (by rw [ok.glob]; exact p5.top.g) (C.g.nob _ (by decide)) (by rw [ok.blt]; exact p5.top.b) ((p5.top.builtins _ (by decide)).trans boot_VE) ?_) (by decide)
  refine ⟨rfl, ⟨ob, hob, hobc⟩, ?_⟩
  rw [if_pos rfl]
  refine lands_againW hfl₅ fun h₆ hfl₆ hsm₆ => ?_
  obtain ⟨m, cm, c⟩ := F.call
  have up₆ : h₁.UpToSlots h₆ := ((T.up.trans hsm₄).trans hsm₅).trans hsm₆
  have ns₆ : h₆.Ns C.env.locals m := up₆.ns (c.toInCall.ns.keeps st₁)
  obtain ⟨oe, ws, hoe, hoec, hoed, hoe0⟩ := hfl₆.first
  have tup₆ := ((T.tup.of_slots hsm₄).of_slots hsm₅).of_slots hsm₆
  obtain ⟨ot, nt, hot, hotc, hotd⟩ := tup₆
  refine wpAny_storeName_local hlo ns₆ (fun h₇ hn₇ hs₇ => ?_) (by rw [ok.kind]; rfl)
  have neL : e ≠ C.env.locals := by
    rintro rfl
    obtain ⟨o', es, ep, ho', hd', _⟩ := ns₆
    rw [hoe] at ho'; cases ho'; rw [hoed] at hd'; cases hd'
  have ntL : t ≠ C.env.locals := by
    rintro rfl
    obtain ⟨o', es, ep, ho', hd', _⟩ := ns₆
    rw [hot] at ho'; cases ho'; rw [hotd] at hd'; cases hd'
  have hLn₀ : h₀.get? C.env.locals = none := hn₀ _ (List.mem_filterMap.mpr ⟨C.env, List.mem_cons_self, hLf⟩)
  have p7 : PG C.g h₇ := p₀.st fun b o q => hs₇.extBut b o (by rintro rfl; rw [hLn₀] at q; cases q) (stay hfl₆.1 b o q)
  refine hsuite _ _ e t u _ _ _ (by rfl) p7 hn₇ (if_pos rfl) ⟨oe, ws, hs₇.extBut _ _ neL hoe, hoec, hoed, hoe0⟩ ⟨ot, nt, hs₇.extBut _ _ ntL hot, hotc, hotd⟩ fun tk₇ => ?_
  refine wpAny_nameGoes_keeps hlo hn₇ (by rw [ok.kind]; rfl) fun h₈ v hn₈ hs₈ => ?_
  refine k h₈ _ v m c.toInCall.ns ?_ ?_ ?_
  · obtain ⟨o', es, ep, ho', hd', hk', hm'⟩ := hn₈
    exact ⟨o', es, ep, ho', hd', hk', fun x => by rw [hm' x]; by_cases hx : x = n <;> simp [hx]⟩
  · intro b o q nb
    have hbL : b ≠ C.env.locals := by
      rintro rfl; exact nb (List.mem_filterMap.mpr ⟨C.env, List.mem_cons_self, hLf⟩)
    exact hs₈.extBut _ _ hbL (hs₇.extBut _ _ hbL (hfl₆.1 _ _ (T.bas _ _ (st₁ _ _ q) nb)))
  · intro b o hbL q hnf
    obtain ⟨sl, hs⟩ := up₆ b o (st₁ _ _ q) hnf
    exact ⟨sl, hs₈.extBut _ _ hbL (hs₇.extBut _ _ hbL hs)⟩
set_option maxHeartbeats 4000000
set_option linter.unusedVariables false
variable {C : CX} {S : AS} {Ψ : AFl → AS → Prop}

noncomputable def OutA (C : CX) : Prop := C.A.frames = some [C.env] ∧ C.env.frame = some C.env.locals
theorem FS.frok {s₀ s : Shared} {X₀ : List Addr} {β : Option Addr} (F : FS C s₀ X₀ β S s) (ok : C.Ok) (hf : C.env.frame = some C.env.locals) : FrOk [C.env] s.heap := ⟨fun env he => by
  obtain rfl := List.mem_singleton.mp he
  obtain ⟨m, o, es, ep, ho, hd, _⟩ := F.ffr.loc
  exact ⟨by rw [ok.kind]; decide, _, o, es, ep, hf, ho, hd⟩⟩

structure LawBody (g : GX) (n : Nat) (nl : List Int) (params : Arguments) (pos : Pos) (ns : List Str) (body : List Stmt) (scope : Scope) : Prop where
  hd : (⟨Str.ofString "law", params, body, scope, pos⟩ : DefRec) ∈ recsOf g.p
  hbind : ∀ (vs : List Value) (pm cd doc : Value), vs.length = 1 → bindArgs (Calls.docDef (Str.ofString "law") params body scope pm cd doc) ⟨vs, []⟩ = pure (ns.zip vs)
  hlen : ns.length = 1
  hp : parsOk ns scope = true
  hnd : ns.Nodup
  hk : scope.kind = .function
  hgen : scope.isGenerator = false
  hco : scope.isCoroutine = false
  hbody : ∀ (A : Around) (L a : Addr) (qual : Str) (code : Value), OutA ⟨g, A, newEnv scope L mainGlobals (cellsFrom (L + 1) scope.names []) qual (some a) code none builtinsNs, n⟩ → Ex ⟨g, A, newEnv scope L mainGlobals (cellsFrom (L + 1) scope.names []) qual (some a) code none builtinsNs, n⟩ ⟨ns.zip [.lst (IL nl)], none⟩ body fun fl _ => match fl with
      | .ret v => v = .bool true
      | _ => False
noncomputable def LawIs (g : GX) (n : Nat) (nl : List Int) : Prop := ∃ params pos ns body scope, LawBody g n nl params pos ns body scope
theorem law_goA {l : OpenLaw} {g : GX} {cl : Str → Option Addr} {mean : ExcName → Option Value} {args : List WData} {s₁ : Shared} {fa la : Addr} {vs : List Value} {nl : List Int} {n : Nat} (hpr : g.prog = l.row.prog) (p : PG g s₁.heap) (hg : s₁.gens = #[])
    (hf : g.mg "law" = some (.ref fa)) (hL : s₁.heap.IsList la vs.toArray) (hI : IntsAre vs nl) (hn : n ≤ 400)
    (hLB : LawIs g n nl) :
    wpAny (model l.row.prog g.w) callerA (call (.ref fa) [.ref la]) (fun v s' => GoodWG l.row.claim cl mean args s₁ (.ok (.ret v)) s') (fun e s' => GoodWG l.row.claim cl mean args s₁ (.error e) s') s₁ := by
  obtain ⟨params, pos, ns, body, scope, hd, hbind, hlen, hp, hnd, hk, hgen, hco, hbody⟩ := hLB
  rw [← hpr]
  obtain ⟨a', o, pm, code, doc, h1', ho, hd', hcd⟩ := p.top.fn _ hd
  have h1'' : g.mg "law" = some (.ref a') := h1'
  rw [hf] at h1''; cases h1''
  have rv : RelVs [] s₁.heap [.lst (IL nl)] [.ref la] := ⟨_, _, rfl, ⟨la, vs, rfl, by simp, hL, RelVs.of_ints hI⟩, rfl⟩
  have hb := hbind [.ref la] pm code doc rfl
  have hzip1 : ∀ x ∈ ns.zip [Value.ref la], x.1 ∈ ns := fun x hx => (List.of_mem_zip (a := x.1) (b := x.2) hx).1
  have hmapz : (ns.zip [Value.ref la]).map (·.1) = ns := by
    rw [List.map_fst_zip]; simp; omega
  have hfr : callerA.frames = some [] := rfl
  refine wpAny_call (codeAny_call_cells (by decide) ho hd' p.top.nolimit hcd rfl hb rfl (fun x hx => parsOk_spec hp _ (hzip1 x hx)) (fun s₂ ic => ?_) hco hgen hk)
  generalize hL' : s₁.heap.objs.size = L at ic
  have henv : callEnvC (Calls.docDef (Str.ofString "law") params body scope pm code doc) L fa = newEnv scope L mainGlobals (cellsFrom (L + 1) scope.names []) (Str.ofString "law" ++ ".<locals>.") (some fa) code none builtinsNs := rfl
  rw [henv] at ic ⊢
  generalize Str.ofString "law" ++ ".<locals>." = qual at *
  obtain ⟨h₁, tk₁, hs₁⟩ := ic.toInCall.same
  subst hs₁
  have st₁ : StIn s₁.heap h₁ := ic.toInCall.keep
  let C : CX := ⟨g, callerA.deeper (newEnv scope L mainGlobals (cellsFrom (L + 1) scope.names []) qual (some fa) code none builtinsNs), newEnv scope L mainGlobals (cellsFrom (L + 1) scope.names []) qual (some fa) code none builtinsNs, n⟩
  have ok : C.Ok := by
    refine ⟨⟨rfl, ?_, ?_, ⟨_, Around.frames_deeper hfr⟩⟩, hk, rfl, rfl, ⟨_, [], Around.frames_deeper hfr, hgen, hco, rfl, rfl⟩⟩
    · show 1 + 300 + 1 + n + 110 < 1000; omega
    · show 4 + 3 + 16 * n + 100 < 9900; omega
  have FS1 : FS C s₁ [] none ⟨ns.zip [.lst (IL nl)], none⟩ { s₁ with heap := h₁, toks := tk₁ } := by
    refine ⟨⟨_, _, ic⟩, ?_, trivial, fun _ h => nomatch h⟩
    intro x av e
    obtain ⟨v, hv, rx⟩ := lookup_zip (rv.st st₁) e
    refine ⟨v, ?_, by simpa using rx⟩
    have hxn : x ∈ ns := hzip1 (x, v) (mem_of_lookup hv)
    rcases parsOk_spec hp (L + 1) hxn with h1 | ⟨h1, h2⟩
    · exact .inl ⟨h1, _, ic.toInCall.ns, bindL_spec _ _ x v (by rw [hmapz]; exact hnd) hv h1⟩
    · obtain ⟨c, hc⟩ := Option.isSome_iff_exists.mp h2
      refine .inr ⟨.inl h1, c, hc, ?_⟩
      have := ic.cell x c hc
      rw [bindC_spec _ _ x v (by rw [hmapz]; exact hnd) hv h1] at this
      exact this
  refine wpAny_mono ((hbody C.A L fa qual code ⟨Around.frames_deeper hfr, rfl⟩).go ok s₁ [] none _ _ p FS1 fun afl fl S' β' h' tk F' fk bv rf ψ => ?_) (fun _ _ x => x) fun _ _ x => x.elim
  have keep : StIn s₁.heap h' := F'.keep
  cases afl with
  | ret av =>
    obtain ⟨v, rfl, rv'⟩ := rf
    subst ψ
    obtain rfl : v = .bool true := rv'
    exact law_end keep rfl hg
  | next => exact ψ.elim
  | brk => exact ψ.elim
  | cont => exact ψ.elim
set_option maxHeartbeats 4000000
set_option linter.unusedVariables false
variable {C : CX} {S : AS} {Ψ : AFl → AS → Prop}

theorem Thrown.weak {h₀ h₁ base h' : Heap} {l : List Env} {X : String} {msg : Str} {e t : Addr} {u : Tok} (T : Thrown h₁ l X msg e t u base h') (k : StIn h₀ h₁) : Thrown h₀ l X msg e t u base h' :=
  ⟨fun b o q nb => T.bas b o (k b o q) nb, T.fly, T.tup, (Heap.UpToSlots.of_keeps k).trans T.up⟩

structure EvT (C : CX) (S : AS) (e : Expr) (X : String) (msg : Str) : Prop where
  go : C.Ok → ∀ (l : List Env) (Xs : List Addr) (s : Shared) (Q : Value → Shared → Prop) (E : Value → Shared → Prop), C.A.frames = some (C.env :: l) → FrOk (C.env :: l) s.heap → PG C.g s.heap → XIn Xs s.heap → RelS C.env Xs s.heap S →
    (∀ e t u base h' tk, Thrown s.heap (C.env :: l) X msg e t u base h' → E (.ref e) { s with heap := h', toks := tk }) → wpAny (model C.g.prog C.g.w) C.A (eval e C.env) Q E s
structure EvsT (C : CX) (S : AS) (es : List Expr) (X : String) (msg : Str) : Prop where
  go : C.Ok → ∀ (pos : Pos) (l : List Env) (Xs : List Addr) (s : Shared) (Q : List Value → Shared → Prop) (E : Value → Shared → Prop), C.A.frames = some (C.env :: l) → FrOk (C.env :: l) s.heap → PG C.g s.heap → XIn Xs s.heap → RelS C.env Xs s.heap S →
    (∀ e t u base h' tk, Thrown s.heap (C.env :: l) X msg e t u base h' → E (.ref e) { s with heap := h', toks := tk }) → wpAny (model C.g.prog C.g.w) C.A (spliced (backTo pos (starEach es C.env))) Q E s
variable {X : String} {msg : Str}

theorem EvsT_here {e : Expr} {es : List Expr} (h : EvT C S e X msg) (he : starEach (e :: es) C.env = (false, eval e C.env) :: starEach es C.env := by rfl) : EvsT C S (e :: es) X msg :=
  ⟨fun ok pos l Xs s Q E hfr fo p xi rs k => wpAny_items_cons (h.go ok l Xs s _ E hfr fo p xi rs k) he⟩
theorem EvsT_then {e : Expr} {es : List Expr} (h : Ev C S e fun _ => EvsT C S es X msg) (he : starEach (e :: es) C.env = (false, eval e C.env) :: starEach es C.env := by rfl) : EvsT C S (e :: es) X msg := by
  refine ⟨fun ok pos l Xs s Q E hfr fo p xi rs k => ?_⟩
  refine wpAny_items_cons (h.go ok Xs s _ E p xi rs fun a va h₁ t₁ st₁ ra hb => ?_) he
  exact hb.go ok pos l Xs _ _ E hfr (fo.st st₁) (p.st st₁) (xi.st st₁) (rs.st st₁) fun e t u base h' tk T => k e t u base h' tk (T.weak st₁)
theorem EvT_binR {a b : Expr} {op : Operator} {pos : Pos} (h : Ev C S a fun _ => EvT C S b X msg) : EvT C S (.BinOp a op b pos) X msg := by
  refine ⟨fun ok l Xs s Q E hfr fo p xi rs k => ?_⟩
  refine wpAny_BinOp (h.go ok Xs s _ E p xi rs fun a va h₁ t₁ st₁ ra hb => ?_)
  exact hb.go ok l Xs _ _ E hfr (fo.st st₁) (p.st st₁) (xi.st st₁) (rs.st st₁) fun e t u base h' tk T => k e t u base h' tk (T.weak st₁)
theorem EvT_args {f : Str} {fp pos : Pos} {args : List Expr} (hx : C.env.kindOf f = some .globalImplicit) (h : EvsT C S args X msg)
    (ha : ∃ x r, starEach args C.env = (false, x) :: r ∧ (starEach args C.env).any (·.1) = false := by exact ⟨_, _, rfl, rfl⟩)
    (hg : ∃ a, FnIs C.g f a) (hd : (f == ("__debug__" : Str)) = false := by decide) : EvT C S (.Call (.Name f fp) args [] pos) X msg := by
  refine ⟨fun ok l Xs s Q E hfr fo p xi rs k => ?_⟩
  obtain ⟨x, r, he, hany⟩ := ha
  obtain ⟨a, hfa, hfo⟩ := hg
  refine wpAny_Call_Name_kw ?_
  refine Calls.Name_function_global ok.kind hx (Calls.loadGlobal_global (by rw [ok.glob]; exact p.top.g) hfa ?_) hd
  have hb' : ∃ x' r', backTo pos (starEach args C.env) = (false, x') :: r' := by rw [he]; exact ⟨_, _, rfl⟩
  obtain ⟨x', r', hb'⟩ := hb'
  obtain ⟨o, fd, ho, hd⟩ := hfo _ p
  refine Calls.callWith_function (o := o) (fd := fd) ?_
  rw [hb']
  refine Calls.evalArgs_plain ?_
  rw [← hb']
  exact h.go ok pos l Xs s _ E hfr fo p xi rs k
theorem EvT_call {f : Str} {fp pos : Pos} {args : List Expr} {n : Nat} (hx : C.env.kindOf f = some .globalImplicit) (h : Evs C S args fun avs => Raises C.g n f avs X msg) (hn : n ≤ C.n)
    (ha : ∃ x r, starEach args C.env = (false, x) :: r ∧ (starEach args C.env).any (·.1) = false := by exact ⟨_, _, rfl, rfl⟩)
    (hg : ∃ a, FnIs C.g f a) (hd : (f == ("__debug__" : Str)) = false := by decide) : EvT C S (.Call (.Name f fp) args [] pos) X msg := by
  refine ⟨fun ok l Xs s Q E hfr fo p xi rs k => ?_⟩
  obtain ⟨x, r, he, hany⟩ := ha
  obtain ⟨a, hfa, hfo⟩ := hg
  refine wpAny_Call_Name_kw ?_
  refine Calls.Name_function_global ok.kind hx (Calls.loadGlobal_global (by rw [ok.glob]; exact p.top.g) hfa ?_) hd
  have hb' : ∃ x' r', backTo pos (starEach args C.env) = (false, x') :: r' := by rw [he]; exact ⟨_, _, rfl⟩
  obtain ⟨x', r', hb'⟩ := hb'
  obtain ⟨o, fd, ho, hd⟩ := hfo _ p
  refine Calls.callWith_function (o := o) (fd := fd) ?_
  rw [hb']
  refine Calls.evalArgs_plain ?_
  rw [← hb']
  refine h.go ok pos Xs s _ E p xi rs fun avs vs h₁ t₁ st₁ ra _ hc => ?_
  obtain ⟨a', ⟨hfa', _⟩, hc⟩ := hc
  rw [hfa] at hfa'
  cases hfa'
  exact ⟨⟨st₁ _ _ ho, hd⟩, hc.go C.A (C.env :: l) Xs _ vs Q E hfr (ok.room.le hn) (fo.st st₁) (p.st st₁) (xi.st st₁) ra fun e t u base h' tk T => k e t u base h' tk (T.weak st₁)⟩

structure ThrownH (h₀ : Heap) (l : List Env) (X : String) (msg : Str) (e t : Addr) (u : Tok) (L : Addr) (base h' : Heap) : Prop where
  bas : ∀ b o, h₀.get? b = some o → b ∉ frs l → base.get? b = some o
  held : Heap.HeldW base l e (.type X) (.ref t) L h'
  tup : h'.TupAt t [.str msg u]
  up : h₀.UpToSlots h'
theorem FS.frokL {s₀ s : Shared} {X₀ : List Addr} {β : Option Addr} {l : List Env} (F : FS C s₀ X₀ β S s) (ok : C.Ok) (hf : C.env.frame = some C.env.locals) (fo : FrOk l s₀.heap) : FrOk (C.env :: l) s.heap := ⟨fun env he => by
  rcases List.mem_cons.mp he with rfl | he
  · obtain ⟨m, o, es, ep, ho, hd, _⟩ := F.ffr.loc
    exact ⟨by rw [ok.kind]; decide, _, o, es, ep, hf, ho, hd⟩
  · exact (fo.st F.keep).ok env he⟩
theorem came_back {M : Model} {A : Around} {env : Env} {E : Value → Shared → Prop} {s : Shared} {base : Heap} {l : List Env} {e L : Addr} {cls a0 : Value} (hf : env.frame = some L) (hh : Heap.HeldW base l e cls a0 L s.heap)
    (k : ∀ h', Heap.HeldW base l e cls a0 L h' → s.heap.UpToSlots h' → E (.ref e) { s with heap := h' }) : cameBackBy M A env E (.ref e) s := by
  obtain ⟨f1, f2, f3, oe, vs, T, oT, ts, he, hcls, hd, h1, hnT, hTe, hT, hdT, h3⟩ := hh
  have hsz3 : 3 < ts.size := (Array.getElem?_eq_some_iff.mp h3).1
  unfold cameBackBy
  refine wpAny_bind (wpAny_field he hd h1 ?_)
  rw [if_neg (show ¬ ((Value.ref T == Value.none) = true) from by simp)]
  rw [hf]
  unfold setFlight
  refine wpAny_bind (wpAny_field he hd h1 ?_)
  rw [if_pos (show (Value.ref T != Value.none) = true from by simp)]
  have other : ∀ (f : Obj → Obj) b, b ≠ T → (s.heap.update T f).get? b = s.heap.get? b := fun f b hb => Heap.get?_update_other _ _ (Ne.symm hb)
  have noRec : ∀ b o, s.heap.get? b = some o → (∀ vs, o.data ≠ .fields vs) → b ≠ T := fun b o hb hnf q => by
    rw [q, hT] at hb; injection hb with hb; subst hb; exact hnf ts hdT
  refine wpAny_setField hT hdT hsz3 (k _ ⟨fun b o hbo => (other _ b fun q => by rw [q, hnT] at hbo; cases hbo).trans (f1 b o hbo), f2, f3.of_keeps fun b o hb hnf => ⟨o, (other _ b (noRec b o hb hnf)).trans hb, rfl⟩, ?_⟩ fun b o hb hnf => ⟨o.slots, (other _ b (noRec b o hb hnf)).trans hb⟩)
  exact ⟨oe, vs, T, _, _, (other _ e (Ne.symm hTe)).trans he, hcls, hd, h1, hnT, hTe, Heap.get?_update_self _ hT (Obj.isFreed_of_fields (Obj.data_mapFields hdT _)), Obj.data_mapFields hdT _, by simp [hsz3]⟩
theorem leaves_held {M : Model} {A : Around} {E : Value → Shared → Prop} {s : Shared} {base : Heap} {env : Env} {outer : List Env} {L e : Addr} {cls a0 : Value} {Q : Unit → Shared → Prop} (hf : env.frame = some L)
    (hh : Heap.HeldW base (env :: outer) e cls a0 L s.heap) (hQ : ∀ h', Heap.FlyingW base outer e cls a0 h' → s.heap.UpToSlots h' → Q () { s with heap := h' }) : wpAny M A (leaving env (.ref e)) Q E s := by
  unfold leaving
  refine wpAny_bind (wpAny_noteFrame_againW hf hh.2.2.2 ?_)
  refine wpAny_landsW hh fun h' hfl hup => ?_
  obtain ⟨k1, k2, ⟨_, _, k3⟩, k4⟩ := hfl
  exact hQ h' ⟨k1, k2, k3, k4⟩ hup

structure ExH (C : CX) (S : AS) (st : List Stmt) (X : String) (msg : Str) : Prop where
  go : C.Ok → ∀ (l : List Env) (s₀ : Shared) (X₀ : List Addr) (β : Option Addr) (s : Shared) (Q : Flow → Shared → Prop) (E : Value → Shared → Prop), C.A.frames = some (C.env :: l) → C.env.frame = some C.env.locals → FrOk l s₀.heap → PG C.g s₀.heap → FS C s₀ X₀ β S s →
    (∀ e t u base h' tk, ThrownH s₀.heap (C.env :: l) X msg e t u C.env.locals base h' → E (.ref e) { s with heap := h', toks := tk }) → wpAny (model C.g.prog C.g.w) C.A (execs st C.env) Q E s
theorem ExH_cons {st : Stmt} {rest : List Stmt} (h : ExS C S st fun fl S' => match fl with | .next => ExH C S' rest X msg | _ => False) : ExH C S (st :: rest) X msg := by
  refine ⟨fun ok l s₀ X₀ β s Q E hfr hf fo p F k => ?_⟩
  refine wpAny_execs_cons (wpAny_mono (h.go ok s₀ X₀ β s _ p F fun afl fl S' β' h' tk F' fk bv rf ψ => ?_) (fun _ _ x => x) fun _ _ x => x.elim)
  cases afl with
  | next =>
    obtain rfl : fl = .next := rf
    exact ψ.go ok l s₀ X₀ β' _ Q E hfr hf fo p F' k
  | brk => exact ψ.elim
  | cont => exact ψ.elim
  | ret v => exact ψ.elim
theorem ExH_while {t e : Expr} {x : Str} {px pos pos' : Pos} {brest rest : List Stmt} (ht : Tst C S t fun b => b = true) (he : EvT C S e X msg)
    (hs : swapsWith e (some (.Name x px)) pos'.line C.env = pure false := by rfl) : ExH C S (.While t (.Assign [.Name x px] e pos' :: brest) [] pos :: rest) X msg := by
  refine ⟨fun ok l s₀ X₀ β s Q E hfr hf fo p F k => ?_⟩
  refine wpAny_execs_cons (wpAny_While (codeAny_whileLoop (fun n s' => s' = s) ?_ 0 rfl))
  rintro n s' rfl
  refine wpAny_mono (ht.go ok _ s' _ (fun _ _ => False) (p.st F.keep) F.xinh F.relS fun b h₁ t₁ st₁ φ => ?_) (fun _ _ x => x) fun _ _ x => x.elim
  subst φ
  have F₁ := F.st (tk := t₁) st₁
  refine wpAny_execs_cons (wpAny_Assign_Name (he.go ok l _ _ _ _ hfr (F₁.frokL ok hf fo) ((p.st F.keep).st st₁) F₁.xinh F₁.relS fun e t u base h' tk T => ?_) hs)
  refine wpAny_looks_onW hfr hf T.fly fun h₄ hheld₄ hup₄ => ?_
  refine came_back hf hheld₄ fun h₅ hheld₅ hup₅ => ?_
  refine k e t u base h₅ tk ⟨fun b o q nb => T.bas b o (F₁.keep b o q) nb, hheld₅, (T.tup.of_slots hup₄).of_slots hup₅, (((Heap.UpToSlots.of_keeps F₁.keep).trans T.up).trans hup₄).trans hup₅⟩

theorem RaisesV_ofB {g : GX} {n : Nat} {a : Addr} {ns : List Str} {body : List Stmt} {scope : Scope} {args : List AV}
    (hfd : ∀ h, PG g h → ∃ o d, h.get? a = some o ∧ o.data = .func d ∧ h.CodeRec d.code d.qualname ∧ d.body = .stmts body ∧ d.scope = scope ∧ d.closure = [] ∧ d.globals = mainGlobals ∧ d.builtins = builtinsNs ∧
      ∀ (vs : List Value) (s : Shared), s.heap = h → vs.length = args.length → BindsTo s d ⟨vs, []⟩ (ns.zip vs))
    (hlen : ns.length = args.length) (hp : parsOk ns scope = true) (hnd : ns.Nodup) (hk : scope.kind = .function) (hgen : scope.isGenerator = false) (hco : scope.isCoroutine = false)
    (hbody : ∀ (A : Around) (L : Addr) (qual : Str) (code : Value), ExH ⟨g, A, newEnv scope L mainGlobals (cellsFrom (L + 1) scope.names []) qual (some a) code none builtinsNs, n⟩ ⟨ns.zip args, none⟩ body X msg) : RaisesV g (n + 1) (.ref a) args X msg := by
  refine ⟨fun A l Xs s vs Q E hfr ro fo p xi rv k => ?_⟩
  refine enter_def hfd hlen hp hnd hk hgen hco hfr ro p xi rv fun L qual code C hC ok hLn h₁ tk₁ F => ?_
  subst hC
  refine (hbody _ L qual code).go ok l s Xs none _ _ _ (Around.frames_deeper hfr) rfl fo p F fun e t u base h' tk T => ?_
  refine leaves_held (L := L) (outer := l) (base := base) rfl T.held fun h'' x1 x2 => ?_
  refine k e t u base h'' tk ⟨fun b o' q nb => T.bas b o' q fun hmem => ?_, x1, T.tup.of_slots x2, T.up.trans x2⟩
  rcases List.mem_cons.mp (show b ∈ L :: frs l from hmem) with rfl | hmem
  · rw [hLn] at q; cases q
  · exact nb hmem

theorem ExS_tryO {f n msg : Str} {fp cpos epos np hpos tpos : Pos} {args : List Expr} {more suite : List Stmt} {b₀ : Stmt} {nn : Nat} (hO : OutA C) (hn : nn ≤ C.n) (hx : C.env.kindOf f = some .globalImplicit) (hv : C.env.kindOf "ValueError" = some .globalImplicit) (hlo : C.env.kindOf n = some .local) (hg : ∃ a, FnIs C.g f a)
    (hargs : Evs C S args fun avs => Raises C.g nn f avs "ValueError" msg) (hS : S.vs.lookup n = none) (ho : S.own = none)
    (hsuite : C.Ok → ∀ (A' : Around) (s' : Shared) (e t : Addr) (u : Tok) (m : Str → Option Value) (Q' : Flow → Shared → Prop) (E' : Value → Shared → Prop), A'.units = C.A.units → PG C.g s'.heap → s'.heap.Ns C.env.locals m → m n = some (.ref e) → s'.heap.ExcAt e "ValueError" (.ref t) → s'.heap.TupAt t [.str msg u] →
      (∀ tk, Q' .next { s' with toks := tk }) → wpAny (model C.g.prog C.g.w) A' (execs (b₀ :: suite) C.env) Q' E' s')
    (hψ : Ψ .next S)
    (ha : ∃ x r, starEach args C.env = (false, x) :: r ∧ (starEach args C.env).any (·.1) = false := by exact ⟨_, _, rfl, rfl⟩)
    (hint : interactive C.env = false := by rfl) (hsw : swapsWith (.Call (.Name f fp) args [] cpos) none epos.line C.env = pure false := by rfl)
    (hd : (f == ("__debug__" : Str)) = false := by decide) :
    ExS C S (.Try (.Expr (.Call (.Name f fp) args [] cpos) epos :: more) [.ExceptHandler (some (.Name "ValueError" np)) (some n) (b₀ :: suite) hpos] [] [] tpos) Ψ := by
  refine ⟨fun ok s₀ X₀ β s Q p F k => ?_⟩
  have hLn : s₀.heap.get? C.env.locals = none := by
    obtain ⟨m, cm, c⟩ := F.call
    cases e : s₀.heap.get? C.env.locals with
    | none => rfl
    | some o' => exact absurd (Heap.lt_size e) (Nat.not_lt.mpr c.toInCall.fresh)
  have hfrs : frs (C.env :: []) = [C.env.locals] := by simp [frs, hO.2]
  refine try_go (l := []) (h₀ := s₀.heap) ok hO.1 (F.frok ok hO.2) hO.2 p F.keep (fun b hb => ?_) F p hn hx hv hlo hg hargs (hsuite ok) (fun h' tk v m hm hm' hoff hup => ?_) ha hint hsw hd
  · rw [hfrs] at hb
    rw [List.mem_singleton.mp hb]; exact hLn
  have off : ∀ b o, b ≠ C.env.locals → s.heap.get? b = some o → h'.get? b = some o := fun b o hb e => hoff b o e (by rw [hfrs]; simpa using hb)
  obtain ⟨m₀, cm, c⟩ := F.call
  have em : m₀ = m := Ns.uniq c.toInCall.ns hm
  subst em
  have nv : ∀ o, s.heap.get? C.env.locals = some o → ¬ isVal o := by
    intro o e hv
    obtain ⟨m, o', es, ep, ho', hd, _⟩ := F.ffr.loc
    rw [e] at ho'; cases ho'
    rcases hv with ⟨xs, n, q⟩ | ⟨_, fs, q⟩ <;> rw [hd] at q <;> cases q
  have vk : ∀ X, VKeep X s.heap h' := fun X => ⟨fun a o _ hv e => off a o (by rintro rfl; exact nv o e hv) e, fun a o hv _ e => off a o (by rintro rfl; exact nv o e hv) e⟩
  have hcl : ∀ x a, C.env.cells.lookup x = some a → a ≠ C.env.locals := fun x a e => Nat.ne_of_gt (c.above x a (mem_of_lookup e))
  have hβ : β = none := by
    have h := F.own
    rw [ho] at h
    cases β with
    | none => rfl
    | some _ => exact h.elim
  refine k .next .next S β h' tk ⟨⟨_, cm, ⟨⟨?_, hm', fun b o e => off b o (Nat.ne_of_lt (Nat.lt_of_lt_of_le (Heap.lt_size e) c.toInCall.fresh)) (c.toInCall.keep b o e), c.toInCall.fresh⟩, fun x a e => ?_, c.apart, c.above⟩⟩, ?_, ?_, F.xin⟩ (fun a o h1 _ _ e => off a o h1 e) (.refl _ _) rfl hψ
  · obtain ⟨h₁, tk₁, e⟩ := c.toInCall.same
    exact ⟨h', tk, by rw [e]⟩
  · obtain ⟨o, ho, hd⟩ := c.cell x a e
    exact ⟨o, off _ _ (hcl x a e) ho, hd⟩
  · intro y aw e
    obtain ⟨w, h1, h2⟩ := F.vars y aw e
    have hyn : y ≠ n := by rintro rfl; rw [hS] at e; cases e
    refine ⟨w, ?_, h2.keep (vk _)⟩
    rcases h1 with ⟨hk, m', hn', hw⟩ | ⟨hk, c', hc', o, ho', hd'⟩
    · refine .inl ⟨hk, _, hm', ?_⟩
      rw [Ns.uniq hn' hm] at hw
      show (if y = n then v else m₀ y) = some w
      rw [if_neg hyn]; exact hw
    · exact .inr ⟨hk, c', hc', o, off _ _ (hcl y c' hc') ho', hd'⟩
  · show OwnOk C s₀ X₀ h' S.own β
    rw [ho, hβ]; trivial
set_option maxHeartbeats 4000000
set_option linter.unusedVariables false
set_option exponentiation.threshold 3000
noncomputable abbrev stF (e a b s : Int) : AS := ⟨[("e", .int e), ("a", .int a), ("b", .int b), ("scale", .int s)], none⟩
theorem c_far {g : GX} (hg : GOk g) {a b s : Int} {U : Nat} (hb : 0 < b) (hba : b ≤ a) (hU : a < 2 ^ U * b) (hU2 : U ≤ 200) (hs : 0 ≤ s) (hsB : s < 2 ^ 200) (hab : intBits a ≤ 400) :
    Calls g 2 "_law_far" [.int a, .int b, .int s] fun v => ∃ e K1 K2 : Nat, e ≤ 200 ∧ K1 ≤ 200 ∧ K2 ≤ 200 ∧ Far a b s e K1 K2 ∧ v = .tup [.int (farLow a b s e K1 K2), .int (farHigh a b s e K1 K2)] := by
  refine Calls_of (n := 1) (ns := [Str.ofString "a", Str.ofString "b", Str.ofString "scale"]) (hd := by rw [hg.p]; exact List.Mem.tail _ (List.Mem.tail _ (List.Mem.tail _ (List.Mem.tail _ (List.Mem.tail _ (List.Mem.head _)))))) ?_ rfl rfl (by decide) rfl rfl rfl ?_
  · intro vs pm cd doc hv
    obtain ⟨x, y, z, rfl⟩ := vs3 hv; rfl
  · intro A L ad qual code
    obtain ⟨E, hE1, hE2, hE3, hE4⟩ := far_e hb hba hU
    have hbb : intBits b ≤ 400 := lt_bits (Nat.lt_of_le_of_lt (show b.natAbs ≤ a.natAbs by omega) (bits_lt hab))
    refine Ex_cons (ExS_assign (Ev_bin (Ev_bitlen rfl (Ev_bitlen rfl (Bin_sub ?_)))) ⟨.inl rfl, trivial⟩)
    rw [hE1]
    refine Ex_cons (ExS_cut (fun S => ∃ e : Nat, e ≤ 200 ∧ b * 2 ^ e ≤ a ∧ a ≤ 2 * (b * 2 ^ e) ∧ S = stF e a b s) ?_ ?_)
    · refine ExS_if (Tst_cmp (Ev_bin (Ev_name rfl (Ev_name rfl (Bin_shl (by first | with_reducible assumption | with_reducible exact Int.natCast_nonneg _ | with_reducible exact Int.le_of_lt (by assumption) | omega) (by first | with_reducible assumption | with_reducible exact Int.natCast_nonneg _ | with_reducible exact Int.le_of_lt (by assumption) | omega) ?_)))))
      rw [Int.toNat_natCast]
      repeat walk_at "mw"
      refine ifD (fun h => ?_) (fun h => ?_)
      · obtain ⟨E', rfl, g1, g2⟩ := hE4 h
        repeat walk_at "mw"
        refine ⟨stF E' a b s, ?_, E', by omega, g1, g2, rfl⟩
        rw [show ((E' + 1 : Nat) : Int) - 1 = (E' : Int) by omega]
        walk_at "le"
      · repeat walk_at "mw"
        exact ⟨stF E a b s, by walk_at "le", E, by omega, by omega, hE3, rfl⟩
    · rintro _ ⟨e, he, g1, g2, rfl⟩
      refine Ex_cons (ExS_swap2 (Ev_tuple (Evs_cons (Ev_call (n := 1) rfl (Evs_cons (Ev_name rfl (Evs_cons (Ev_bin (Ev_name rfl (Ev_name rfl (Bin_shl (by first | with_reducible assumption | with_reducible exact Int.natCast_nonneg _ | with_reducible exact Int.le_of_lt (by assumption) | omega) (by first | with_reducible assumption | with_reducible exact Int.natCast_nonneg _ | with_reducible exact Int.le_of_lt (by assumption) | omega) ?_))))))) (Nat.le_refl _) (hg := f_log hg)))) ⟨.inl rfl, trivial⟩ ⟨.inl rfl, trivial⟩)
      rw [Int.toNat_natCast]
      repeat walk_at "mw"
      have hc : 0 < b * 2 ^ e := Int.mul_pos hb (two_pos e)
      refine (c_log hg (B := 200) hc g1 g2 hs hsB (by decide) (by first | with_reducible assumption | with_reducible exact Int.natCast_nonneg _ | with_reducible exact Int.le_of_lt (by assumption) | omega)).mono ?_
      rintro _ ⟨K1, hK1, hk1, rfl⟩
      refine Evs_cons (Ev_call (n := 1) rfl ?_ (Nat.le_refl _) (hg := f_log hg))
      repeat walk_at "mw"
      refine (c_log hg (B := 200) (a := 2) (b := 1) (by decide) (by decide) (by decide) hs hsB (by decide) (by decide)).mono ?_
      rintro _ ⟨K2, hK2, hk2, rfl⟩
      repeat walk_at "mw"
      have heb : intBits (e : Int) ≤ 64 := Nat.le_trans (lt_bits (m := 10) (by first | with_reducible assumption | with_reducible exact Int.natCast_nonneg _ | with_reducible exact Int.le_of_lt (by assumption) | omega)) (by decide)
      refine Ev_item (Ev_name rfl (Ev_const_int (Itm_tup (by decide) rfl rfl ?_)))
      repeat walk_at "mw"
      refine Ev_item (Ev_name rfl (Ev_const_int (Itm_tup (by decide) rfl rfl ?_)))
      refine Bin_mul (IntMulOk.of_left heb) ?_
      repeat walk_at "mw"
      refine Ev_item (Ev_name rfl (Ev_const_int (Itm_tup (by decide) rfl rfl ?_)))
      repeat walk_at "mw"
      refine Ev_item (Ev_name rfl (Ev_const_int (Itm_tup (by decide) rfl rfl ?_)))
      refine Bin_mul (IntMulOk.of_left heb) ?_
      repeat walk_at "mw"
      exact ⟨e, K1, K2, he, hK1, hK2, ⟨hb, g1, g2, hs, hk1, hk2⟩, rfl⟩
theorem f_far {g : GX} (hg : GOk g) : ∃ a, FnIs g "_law_far" a := FnIs_any (by rw [hg.p]; decide +kernel)
noncomputable abbrev stR (r a b : Int) : AS := ⟨[("root", .int r), ("a", .int a), ("b", .int b)], none⟩
theorem root_r {r a b : Int} (hr0 : 0 ≤ r) (hb : 0 < b) (ha : 0 < a) (hr1 : r * r * b < a) : r ≤ a := by
  by_cases h : r = 0
  · rw [h]; exact Int.le_of_lt ha
  · have h1 : r * 1 ≤ r * r := Int.mul_le_mul_of_nonneg_left (by first | with_reducible assumption | with_reducible exact Int.natCast_nonneg _ | with_reducible exact Int.le_of_lt (by assumption) | omega) hr0
    have h2 : r * r * 1 ≤ r * r * b := Int.mul_le_mul_of_nonneg_left hb (Int.mul_nonneg hr0 hr0)
    rw [Int.mul_one] at h1 h2
    exact Int.le_trans h1 (Int.le_trans h2 (Int.le_of_lt hr1))
theorem root_abs {r a : Int} (h0 : 0 ≤ r) (h : r ≤ a) : r.natAbs ≤ a.natAbs := by omega
theorem root_h0 {a b : Int} {n K : Nat} (hb : 0 < b) (hn : n ≤ K + 1 + (K + 1)) (h : a < 2 ^ n) : a ≤ (0 + 2 ^ (K + 1)) * (0 + 2 ^ (K + 1)) * b := by
  have e : ((0 : Int) + 2 ^ (K + 1)) * (0 + 2 ^ (K + 1)) = 2 ^ (K + 1 + (K + 1)) := by rw [Int.zero_add, ← Int.pow_add]
  rw [e]
  have h1 : (2 : Int) ^ n ≤ 2 ^ (K + 1 + (K + 1)) := pow2_le hn
  have h2 : (2 : Int) ^ (K + 1 + (K + 1)) * 1 ≤ 2 ^ (K + 1 + (K + 1)) * b := Int.mul_le_mul_of_nonneg_left hb (Int.le_of_lt (two_pos _))
  rw [Int.mul_one] at h2
  exact Int.le_trans (Int.le_of_lt h) (Int.le_trans h1 h2)
theorem c_root {g : GX} (hg : GOk g) {a b : Int} (hb : 0 < b) (ha : 0 < a) (hab : intBits a ≤ 200) (hbb : intBits b ≤ 200) :
    Calls g 1 "_law_root" [.int a, .int b] fun v => ∃ s : Int, v = .int s ∧ 1 ≤ s ∧ a ≤ s * s * b ∧ (s - 1) * (s - 1) * b ≤ a := by
  refine Calls_of (n := 0) (ns := [Str.ofString "a", Str.ofString "b"]) (hd := by rw [hg.p]; exact List.Mem.tail _ (List.Mem.tail _ (List.Mem.tail _ (List.Mem.tail _ (List.Mem.tail _ (List.Mem.tail _ (List.Mem.head _))))))) ?_ rfl rfl (by decide) rfl rfl rfl ?_
  · intro vs pm cd doc hv
    obtain ⟨x, y, rfl⟩ := vs2 hv; rfl
  · intro A L ad qual code
    obtain ⟨a1, a2, a3⟩ := bits_ge ha
    repeat walk_at "mw"
    refine ExS_forN (Ev_range rfl (Evs_cons (Ev_bin (Ev_bin (Ev_bitlen rfl ?_)))))
    repeat walk_at "mw"
    rw [Int.fdiv_eq_ediv_of_nonneg _ (by decide)]
    obtain ⟨K, hK⟩ : ∃ K : Nat, (intBits a : Int) / 2 + 1 = (K : Int) := ⟨intBits a / 2 + 1, by omega⟩
    rw [hK]
    have hrs : Builtin.Range.rangeSize (K : Int) (-1) (-1) = ((K + 1 : Nat) : Int) := by
      unfold Builtin.Range.rangeSize; simp; omega
    have hKb : K ≤ 101 := by omega
    have h0 : a ≤ (0 + 2 ^ (K + 1)) * (0 + 2 ^ (K + 1)) * b := root_h0 (n := intBits a) hb (by clear hrs; omega) a2
    refine ⟨_, .rng _ _ _ _ hrs, fun i S' => ∃ r : Int, 0 ≤ r ∧ r * r * b < a ∧ a ≤ (r + 2 ^ (K + 1 - i)) * (r + 2 ^ (K + 1 - i)) * b ∧ S' = stR r a b, ⟨stR 0 a b, by walk_at "le", 0, by decide, by omega, h0, rfl⟩, ?_, ?_⟩
    · rintro i S' av hi ⟨r, hr0, hr1, hr2, rfl⟩
      obtain ⟨hin, rfl⟩ := rngL_get hi
      clear hi
      obtain ⟨k, hk, hk2⟩ : ∃ k : Nat, (K : Int) + i * -1 = (k : Int) ∧ K + 1 - i = k + 1 := ⟨K - i, by omega, by omega⟩
      rw [hk]
      rw [hk2] at hr2
      refine ⟨⟨.inl rfl, trivial⟩, ?_⟩
      have hP := two_pos k
      have hkK : k ≤ 101 := by omega
      have h2b : intBits ((2 : Int) ^ k) ≤ 202 := by
        refine lt_bits ?_
        have : ((2 : Int) ^ k).natAbs = 2 ^ k := by rw [Int.natAbs_pow]; rfl
        rw [this]
        exact Nat.pow_lt_pow_right (by decide) (by first | with_reducible assumption | with_reducible exact Int.natCast_nonneg _ | with_reducible exact Int.le_of_lt (by assumption) | omega)
      have hra : r ≤ a := root_r hr0 hb ha hr1
      have hrb : intBits r ≤ 200 := lt_bits (Nat.lt_of_le_of_lt (root_abs hr0 hra) (bits_lt hab))
      have hsb : intBits (r + 2 ^ k) ≤ 203 := Nat.le_trans (intBits_add_le hrb h2b) (by decide)
      have hqb : intBits ((r + 2 ^ k) ^ 2) ≤ 407 := Nat.le_trans (intBits_pow_le hsb 2) (by decide)
      have hb2 : intBits 2 = 2 := rfl
      have e2 : (2 : Int) ^ (k + 1) = 2 ^ k + 2 ^ k := by rw [Int.pow_succ]; omega
      refine Ex_cons (ExS_if (Tst_cmp (Ev_bin (Ev_bin (Ev_bin (Ev_name rfl (Ev_bin (Ev_const_int (Ev_name rfl (Bin_pow (by first | with_reducible assumption | with_reducible exact Int.natCast_nonneg _ | with_reducible exact Int.le_of_lt (by assumption) | omega) (by rw [hb2]; omega) ?_))))))))))
      rw [Int.toNat_natCast]
      repeat walk_at "mw"
      refine Bin_pow (by decide) (by first | with_reducible assumption | with_reducible exact Int.natCast_nonneg _ | with_reducible exact Int.le_of_lt (by assumption) | omega) ?_
      rw [show (2 : Int).toNat = 2 from rfl]
      repeat walk_at "mw"
      refine Bin_mul (IntMulOk.of_le hqb hbb (by decide)) ?_
      repeat walk_at "mw"
      have esq : (r + 2 ^ k) ^ 2 = (r + 2 ^ k) * (r + 2 ^ k) := by rw [Int.pow_succ, Int.pow_one]
      rw [esq]
      refine ifD (fun h => ?_) (fun h => ?_)
      · refine Ex_cons (ExS_aug rfl (Ev_bin (Ev_const_int (Ev_name rfl (Bin_pow (by first | with_reducible assumption | with_reducible exact Int.natCast_nonneg _ | with_reducible exact Int.le_of_lt (by assumption) | omega) (by rw [hb2]; omega) ?_)))) ⟨.inl rfl, trivial⟩)
        rw [Int.toNat_natCast]
        repeat walk_at "mw"
        refine ⟨stR (r + 2 ^ k) a b, by walk_at "le", r + 2 ^ k, by omega, h, ?_, rfl⟩
        rw [show K + 1 - (i + 1) = k by omega]
        rw [e2, ← Int.add_assoc] at hr2
        exact hr2
      · repeat walk_at "mw"
        refine ⟨stR r a b, by walk_at "le", r, hr0, hr1, ?_, rfl⟩
        rw [show K + 1 - (i + 1) = k by omega]
        omega
    · rintro S' ⟨r, hr0, hr1, hr2, rfl⟩
      rw [rngL_len, show K + 1 - (K + 1) = 0 by omega, Int.pow_zero] at hr2
      repeat walk_at "mw"
      refine ⟨r + 1, rfl, by omega, hr2, ?_⟩
      rw [show r + 1 - 1 = r by omega]
      omega
theorem f_root {g : GX} (hg : GOk g) : ∃ a, FnIs g "_law_root" a := FnIs_any (by rw [hg.p]; decide +kernel)
set_option maxHeartbeats 4000000
set_option linter.unusedVariables false
set_option exponentiation.threshold 3000
noncomputable abbrev sqMsg : Str := Str.ofString "Both arguments to _sqrt_nearest should be positive."
theorem r_sqrt {g : GX} (hg : GOk g) {n a₀ : Int} (h : n ≤ 0 ∨ a₀ ≤ 0) : Raises g 1 "_sqrt_nearest" [.int n, .int a₀] "ValueError" sqMsg := by
  refine Raises_of (n := 0) (ns := [Str.ofString "n", Str.ofString "a"]) (hd := by rw [hg.p]; exact List.Mem.head _) ?_ rfl rfl (by decide) rfl rfl rfl ?_
  · intro vs pm cd doc hv
    obtain ⟨x, y, rfl⟩ := vs2 hv; rfl
  · intro A L a qual code
    refine ExR_if (Tst_boolop ?_) (ExR_raise rfl)
    repeat walk_at "mw"
    refine ifD (fun h1 => rfl) (fun h1 => ?_)
    repeat walk_at "mw"
    refine ifD (fun h2 => rfl) (fun h2 => ?_)
    omega
theorem r_ilog {g : GX} (hg : GOk g) {x M : Int} {L : Nat} (hL : L ≤ 1000) (hx : intBits x ≤ 2000000) (hM : intBits M ≤ 2000000) (hgo : M ≤ ((x - M).natAbs : Int)) (h : M * x ≤ 0) : Raises g 2 "_ilog" [.int x, .int M, .int (L : Int)] "ValueError" sqMsg := by
  refine ⟨43, f_ilog hg, ?_⟩
  apply RaisesV_ofB (n := 1) (ns := [Str.ofString "x", Str.ofString "M", Str.ofString "L"])
  case hfd =>
    intro h p
    have X : (hd.heap_39 g.w.params).In h := by have := p.ex; rw [hg.ex] at this; exact this
    refine ⟨_, _, X 43 _ rfl, rfl, ⟨42, _, _, _, rfl, X 42 _ rfl, rfl, rfl⟩, rfl, rfl, rfl, rfl, rfl, ?_⟩
    intro vs s hs hv
    obtain ⟨x, y, z, rfl⟩ := vs3 hv; exact BindsTo.of_defaults rfl (hs ▸ X 36 _ rfl) rfl rfl rfl
  case hlen => rfl
  case hp => rfl
  case hnd => decide
  case hk => rfl
  case hgen => rfl
  case hco => rfl
  case hbody =>
    intro A Lo qual code
    have hyb : intBits (x - M) ≤ 2000001 := Nat.le_trans (intBits_sub_le hx hM) (by first | with_reducible assumption | with_reducible exact Int.natCast_nonneg _ | with_reducible exact Int.le_of_lt (by assumption) | omega)
    have hab : intBits ((x - M).natAbs : Int) ≤ 2000001 := intBits_natAbs_le hyb
    refine ExH_cons (ExS_assign ?_ ⟨.inl rfl, trivial⟩)
    repeat walk_at "mw"
    refine ExH_cons (ExS_assign ?_ ⟨.inl rfl, trivial⟩)
    repeat walk_at "mw"
    refine ExH_while ?_ ?_
    · generalize x - M = y at *
      repeat walk_at "mw"
      rw [abs_if]
      refine Bin_shl (by first | with_reducible assumption | with_reducible exact Int.natCast_nonneg _ | with_reducible exact Int.le_of_lt (by assumption) | omega) (by first | with_reducible assumption | with_reducible exact Int.natCast_nonneg _ | with_reducible exact Int.le_of_lt (by assumption) | omega) ?_
      repeat walk_at "mw"
      refine ifD (fun _ => ?_) (fun h => ?_)
      · repeat walk_at "mw"
        rfl
      · exfalso
        apply h
        have hP := two_pos ((L : Int) - 0).toNat
        have : (y.natAbs : Int) * 1 ≤ (y.natAbs : Int) * 2 ^ ((L : Int) - 0).toNat := Int.mul_le_mul_of_nonneg_left (by first | with_reducible assumption | with_reducible exact Int.natCast_nonneg _ | with_reducible exact Int.le_of_lt (by assumption) | omega) (by first | with_reducible assumption | with_reducible exact Int.natCast_nonneg _ | with_reducible exact Int.le_of_lt (by assumption) | omega)
        omega
    · refine EvT_args rfl (EvsT_then ?_) (hg := f_div hg)
      repeat walk_at "mw"
      refine Bin_mul (IntMulOk.of_le hM hyb (by first | with_reducible assumption | with_reducible exact Int.natCast_nonneg _ | with_reducible exact Int.le_of_lt (by assumption) | omega)) ?_
      repeat walk_at "mw"
      refine Bin_shl (by decide) (by have := intBits_mul_le hM hyb; omega) ?_
      refine EvsT_here (EvT_binR (Ev_name rfl (EvT_call (n := 1) rfl (Evs_cons (Ev_bin (Ev_name rfl (Ev_bin (Ev_name rfl (Ev_call (n := 1) rfl ?_ (Nat.le_refl _) (hg := f_rsh hg))))))) (Nat.le_refl _) (hg := f_sqrt hg))))
      repeat walk_at "mw"
      refine (c_rsh hg (k := 0) (by decide)).mono ?_
      rintro _ rfl
      have e : dn (x - M) (2 ^ 0) = x - M := by have := dn_mul (a := x - M) (b := 1) (by decide); rwa [Int.one_mul] at this
      rw [e]
      repeat walk_at "mw"
      rw [show M + (x - M) = x by omega]
      refine Bin_mul (IntMulOk.of_le hM hx (by first | with_reducible assumption | with_reducible exact Int.natCast_nonneg _ | with_reducible exact Int.le_of_lt (by assumption) | omega)) ?_
      repeat walk_at "mw"
      exact r_sqrt hg (.inl h)
theorem suite_next {C : CX} {msg : Str} {n : Str} {p1 p2 p3 p4 p5 p6 : Pos} {k₀ : Nat} {a : List Stmt} (ok : C.Ok) (hs : C.env.kindOf "str" = some .globalImplicit) (hlo : C.env.kindOf n = some .local) (hd : (n == ("__debug__" : Str)) = false) (hcd : (n == ("__classdict__" : Str)) = false)
    (A' : Around) (s' : Shared) (e t : Addr) (u : Tok) (m : Str → Option Value) (Q' : Flow → Shared → Prop) (E' : Value → Shared → Prop) (hu : A'.units = C.A.units) (p : PG C.g s'.heap) (ns : s'.heap.Ns C.env.locals m) (hm : m n = some (.ref e)) (hx : s'.heap.ExcAt e "ValueError" (.ref t)) (ht : s'.heap.TupAt t [.str msg u])
    (k : ∀ tk, Q' .next { s' with toks := tk }) :
    wpAny (model C.g.prog C.g.w) A' (execs [.If (.Compare (.Call (.Name "str" p1) [.Name n p2] [] p3) [.NotEq] [.Constant (.str msg) k₀ p4] p5) a [] p6] C.env) Q' E' s' := by
  refine wpAny_execs_cons (wpAny_If (wpAny_isTrue_Compare1 ?_ (by with_unfolding_all rfl)))
  refine wpAny_Call_Name_kw ?_
  refine Calls.Name_function_global ok.kind hs (Calls.loadGlobal_builtin (by rw [ok.glob]; exact p.top.g) (C.g.nob _ (by decide)) (by rw [ok.blt]; exact p.top.b) ((p.top.builtins _ (by decide)).trans boot_str) ?_) (by decide)
  refine PyProof.Rows.callWith_type rfl ?_
  show wpAny _ _ (evalArgs (.type "str") true [(false, _)] []) _ _ s'
  refine Calls.evalArgs_plain ?_
  show wpAny _ _ (spliced (backTo p3 (starEach [.Name n p2] C.env))) _ _ s'
  refine wpAny_items_cons (wpAny_Name (load_rd ok.kind (.inl ⟨hlo, m, ns, hm⟩) (wpAny_items_nil ?_) hcd) hd)
  refine P.str_of_exc_one PySem.F.excStr_ValueError (by rw [hu]; have := ok.room.units; omega) hx ht ?_
  refine wpAny_Constant_str (PyProof.Rows.ne_str ?_)
  rw [show (msg != msg) = false from by simp]
  refine wpAny_truthy_bool (wpAny_execs_nil ?_)
  exact wpAny_execs_nil (k _)
theorem c_atB {g : GX} (hg : GOk g) {ns : List Int} {k : Nat} (hk : k < 100) (hns : ns.length ≤ 63) (hbits : ∀ c ∈ ns, intBits c ≤ 1048576) : Calls g 1 "_law_at" [.lst (IL ns), .int (k : Int)] fun v => ∃ a : Int, v = .int a ∧ 0 ≤ a ∧ intBits a ≤ 1048576 := by
  refine Calls_of (n := 0) (ns := [Str.ofString "script", Str.ofString "place"]) (hd := by rw [hg.p]; exact List.Mem.tail _ (List.Mem.tail _ (List.Mem.tail _ (List.Mem.head _)))) ?_ rfl rfl (by decide) rfl rfl rfl ?_
  · intro vs pm cd doc hv
    obtain ⟨x, y, rfl⟩ := vs2 hv; rfl
  · intro A L ad qual code
    have hlen : (IL ns).length = ns.length := List.length_map _
    repeat walk_at "mw"
    rw [hlen]
    refine ifD (fun h => ?_) (fun h => ?_)
    · have hk' : k < ns.length := by omega
      repeat walk_at "mw"
      refine Ev_item (Ev_name rfl (Ev_name rfl (Itm_list (by first | with_reducible assumption | with_reducible exact Int.natCast_nonneg _ | with_reducible exact Int.le_of_lt (by assumption) | omega) (by first | with_reducible assumption | with_reducible exact Int.natCast_nonneg _ | with_reducible exact Int.le_of_lt (by assumption) | omega) (by rw [List.getElem?_map, Int.toNat_natCast, List.getElem?_eq_getElem hk']; rfl) ?_)))
      repeat walk_at "mw"
      exact ⟨_, rfl, by rw [abs_if]; omega, by rw [abs_if]; exact intBits_natAbs_le (hbits _ (List.getElem_mem hk'))⟩
    · repeat walk_at "mw"
      exact ⟨0, rfl, by decide, by decide⟩
set_option maxHeartbeats 4000000
set_option linter.unusedVariables false
set_option exponentiation.threshold 3000
theorem far_bits {a b M : Int} {e K1 K2 : Nat} (hM : 1000000 ≤ M) (hMb : M < 2 ^ 133) (H : Far a b (M * 1073741824) e K1 K2) (he : e ≤ 200) (h1 : K1 ≤ 200) (h2 : K2 ≤ 200) :
    intBits (farLow a b (M * 1073741824) e K1 K2) ≤ 180 ∧ farLow a b (M * 1073741824) e K1 K2 ≤ farHigh a b (M * 1073741824) e K1 K2 ∧ farHigh a b (M * 1073741824) e K1 K2 - farLow a b (M * 1073741824) e K1 K2 ≤ 121203 := by
  obtain ⟨u1, u2, _⟩ := far_use hM H he h1 h2
  have hs : 0 < M * 1073741824 := by omega
  have hsp := int_pos hs
  have gap := far_gap (a := a) (b := b) (s := M * 1073741824) he h1 h2
  have g0 : farLow a b (M * 1073741824) e K1 K2 ≤ farHigh a b (M * 1073741824) e K1 K2 := by
    unfold farLow farHigh
    have : (e : Int) * ls (2 - 1) (2 + 1) (M * 1073741824) K2 ≤ (e : Int) * (ls (2 - 1) (2 + 1) (M * 1073741824) K2 + 3 * (K2 + 1)) := Int.mul_le_mul_of_nonneg_left (by first | with_reducible assumption | with_reducible exact Int.natCast_nonneg _ | with_reducible exact Int.le_of_lt (by assumption) | omega) (by first | with_reducible assumption | with_reducible exact Int.natCast_nonneg _ | with_reducible exact Int.le_of_lt (by assumption) | omega)
    omega
  have hh : 0 ≤ farHigh a b (M * 1073741824) e K1 K2 ∧ farHigh a b (M * 1073741824) e K1 K2 ≤ 200 * (M * 1073741824) := by
    have m1 := q_mul_le u2 (show 0 ≤ ((M * 1073741824 : Int) : Rat) by grind)
    have m0 := q_mul_nn u1 (show 0 ≤ ((M * 1073741824 : Int) : Rat) by grind)
    rw [q_dm (by grind)] at m1 m0
    constructor
    · refine Rat.intCast_le_intCast.mp ?_
      have z : ((0 : Int) : Rat) = 0 := rfl
      rw [z]; exact m0
    · refine Rat.intCast_le_intCast.mp ?_
      have c : ((200 * (M * 1073741824) : Int) : Rat) = 200 * ((M * 1073741824 : Int) : Rat) := by rw [Rat.intCast_mul 200]; rfl
      rw [c]; exact m1
  refine ⟨lt_bits ?_, g0, gap⟩
  generalize farLow a b (M * 1073741824) e K1 K2 = low at *
  generalize farHigh a b (M * 1073741824) e K1 K2 = high at *
  have e1 : (2 : Int) ^ 133 = 10889035741470030830827987437816582766592 := by decide
  have e2 : 2 ^ 180 = 1532495540865888858358347027150309183618739122183602176 := by decide
  rw [e2]
  omega
theorem prod_ok {M d1 d2 room : Int} (hM : 0 < M) (hMb : intBits M ≤ 133) (h1 : 8 * M * d1 ≤ room) (h2 : 8 * M * d2 ≤ room) (h3 : 0 ≤ d1 + d2) (h4 : d1 + d2 ≤ 121203) (hr : intBits room ≤ 400) : IntMulOk (8 * M) d1 ∧ IntMulOk (8 * M) d2 := by
  have h8M : intBits (8 * M) ≤ 140 := Nat.le_trans (intBits_mul_le (show intBits 8 ≤ 4 by decide) hMb) (by decide)
  have key : ∀ d : Int, 8 * M * d ≤ room → d ≤ (room.natAbs : Int) := by
    intro d h
    by_cases hd : 0 ≤ d
    · have : 1 * d ≤ 8 * M * d := Int.mul_le_mul_of_nonneg_right (by first | with_reducible assumption | with_reducible exact Int.natCast_nonneg _ | with_reducible exact Int.le_of_lt (by assumption) | omega) hd
      omega
    · omega
  have k1 := key d1 h1
  have k2 := key d2 h2
  have hb := bits_lt hr
  have e : 2 ^ 401 = 2 * 2 ^ 400 := by decide
  have e3 : 121203 < 2 ^ 400 := by decide
  have b1 : intBits d1 ≤ 401 := lt_bits (by first | with_reducible assumption | with_reducible exact Int.natCast_nonneg _ | with_reducible exact Int.le_of_lt (by assumption) | omega)
  have b2 : intBits d2 ≤ 401 := lt_bits (by first | with_reducible assumption | with_reducible exact Int.natCast_nonneg _ | with_reducible exact Int.le_of_lt (by assumption) | omega)
  exact ⟨IntMulOk.of_le h8M b1 (by decide), IntMulOk.of_le h8M b2 (by decide)⟩
noncomputable abbrev s10A (un y x L M : Int) (ns : List Int) : AS := ⟨[("unit", .int un), ("y", .int y), ("x", .int x), ("L", .int L), ("M", .int M), ("script", .lst (IL ns))], none⟩
noncomputable abbrev s10B (le L M : Int) : AS := ⟨[("less", .int le), ("L", .int L), ("M", .int M)], none⟩
theorem ys_bits {M x : Int} (hM : 0 < M) (hMb : intBits M ≤ 133) (hx0 : 0 < x) (hxb : intBits x ≤ 340) {R : Nat} (hR : R ≤ 180) : intBits (ys M x R) ≤ 60000 := by
  rcases Int.le_total M x with h | h
  · obtain ⟨u1, u2⟩ := ys_up hM h R
    exact Nat.le_trans (lt_bits (m := 340) (Nat.lt_of_le_of_lt (show (ys M x R).natAbs ≤ x.natAbs by omega) (bits_lt hxb))) (by decide)
  · have u1 := ys_down hM hx0 h R
    have u2 := ys_size hM hx0 h R
    have h2 : intBits ((2 : Int) ^ R) ≤ 200 := by
      refine lt_bits ?_
      have : ((2 : Int) ^ R).natAbs = 2 ^ R := by rw [Int.natAbs_pow]; rfl
      rw [this]
      exact Nat.pow_lt_pow_right (by decide) (by first | with_reducible assumption | with_reducible exact Int.natCast_nonneg _ | with_reducible exact Int.le_of_lt (by assumption) | omega)
    exact Nat.le_trans (lt_bits (m := 333) (Nat.lt_of_le_of_lt (show (ys M x R).natAbs ≤ (M * 2 ^ R).natAbs by omega) (bits_lt (intBits_mul_le hMb h2)))) (by decide)
set_option maxRecDepth 4000 in
theorem c_law {g : GX} (hg : GOk g) {ns : List Int} (hns : ns.length ≤ 63) (hbits : ∀ c ∈ ns, intBits c ≤ 1048576) : LawIs g 2 ns := by
  refine ⟨_, _, [Str.ofString "script"], _, _, ⟨by rw [hg.p]; exact List.Mem.tail _ (List.Mem.tail _ (List.Mem.tail _ (List.Mem.tail _ (List.Mem.tail _ (List.Mem.tail _ (List.Mem.tail _ (List.Mem.head _))))))), ?_, rfl, rfl, by decide, rfl, rfl, rfl, ?_⟩⟩
  · intro vs pm cd doc hv
    obtain ⟨x, rfl⟩ := vs1 hv; rfl
  intro A Lo ad qual code hOut
  have hb2 : intBits 2 = 2 := rfl
  -- M
  refine Ex_cons (ExS_assign (Ev_cut (fun v => ∃ M : Int, v = .int M ∧ 1000000 ≤ M ∧ M < 2 ^ 133) ?_ ?_) ⟨.inl rfl, trivial⟩)
  · refine Ev_bin (Ev_bin (Ev_call (n := 1) rfl ?_ (show 1 ≤ 2 by decide) (hg := f_at hg)))
    repeat walk_at "mw"
    refine (c_atB hg (k := 0) (by decide) hns hbits).mono ?_
    rintro _ ⟨a, rfl, ha, _⟩
    repeat walk_at "mw"
    refine Bin_pow (by decide) (by decide) ?_
    refine Bin_mod (by decide) ?_
    repeat walk_at "mw"
    refine Bin_pow (by decide) (by decide) ?_
    repeat walk_at "mw"
    rw [Int.fmod_eq_emod_of_nonneg _ (by decide)]
    have e1 : (10 : Int) ^ (40 : Int).toNat = 10000000000000000000000000000000000000000 := by decide
    have e2 : (10 : Int) ^ (6 : Int).toNat = 1000000 := by decide
    have e3 : (2 : Int) ^ 133 = 10889035741470030830827987437816582766592 := by decide
    rw [e1, e2, e3]
    exact ⟨_, rfl, by omega, by omega⟩
  rintro _ ⟨M, rfl, hM6, hM133⟩
  have hM0 : 0 < M := by omega
  have hMb : intBits M ≤ 133 := by
    refine lt_bits ?_
    have e : (2 : Int) ^ 133 = ((2 ^ 133 : Nat) : Int) := by decide
    omega
  -- L
  refine Ex_cons (ExS_assign (Ev_cut (fun v => ∃ L : Nat, v = .int (L : Int) ∧ 3 ≤ L ∧ L ≤ 40) ?_ ?_) ⟨.inl rfl, trivial⟩)
  · refine Ev_bin (Ev_bin (Ev_bin (Ev_call (n := 1) rfl ?_ (show 1 ≤ 2 by decide) (hg := f_at hg))))
    repeat walk_at "mw"
    refine (c_atB hg (k := 1) (by decide) hns hbits).mono ?_
    rintro _ ⟨a, rfl, ha, _⟩
    repeat walk_at "mw"
    rw [Int.fmod_eq_emod_of_nonneg _ (by decide)]
    obtain ⟨L, hL⟩ : ∃ L : Nat, (a + 5) % 38 + 3 = (L : Int) := ⟨((a + 5) % 38 + 3).toNat, by omega⟩
    rw [hL]
    exact ⟨L, rfl, by omega, by omega⟩
  rintro _ ⟨L, rfl, hL3, hL40⟩
  -- top
  refine Ex_cons (ExS_assign (Ev_cut (fun v => ∃ t : Int, v = .int t ∧ M ≤ t ∧ 2 * t ≤ 2 ^ 200 * M) ?_ ?_) ⟨.inl rfl, trivial⟩)
  · refine Ev_bin (Ev_name rfl (Ev_bin (Ev_const_int (Ev_bin (Ev_call (n := 1) rfl ?_ (show 1 ≤ 2 by decide) (hg := f_at hg))))))
    repeat walk_at "mw"
    refine (c_atB hg (k := 3) (by decide) hns hbits).mono ?_
    rintro _ ⟨a, rfl, ha, _⟩
    repeat walk_at "mw"
    rw [Int.fmod_eq_emod_of_nonneg _ (by decide)]
    obtain ⟨k, hk, hk2⟩ : ∃ k : Nat, a % 200 = (k : Int) ∧ k ≤ 199 := ⟨(a % 200).toNat, by omega, by omega⟩
    rw [hk]
    refine Bin_pow (by first | with_reducible assumption | with_reducible exact Int.natCast_nonneg _ | with_reducible exact Int.le_of_lt (by assumption) | omega) (by rw [hb2]; omega) ?_
    rw [Int.toNat_natCast]
    have hkb : intBits ((2 : Int) ^ k) ≤ 200 := by
      refine lt_bits ?_
      have : ((2 : Int) ^ k).natAbs = 2 ^ k := by rw [Int.natAbs_pow]; rfl
      rw [this]
      exact Nat.pow_lt_pow_right (by decide) (by first | with_reducible assumption | with_reducible exact Int.natCast_nonneg _ | with_reducible exact Int.le_of_lt (by assumption) | omega)
    refine Bin_mul (IntMulOk.of_le hMb hkb (by decide)) ?_
    have hP := two_pos k
    have h1 : M * 1 ≤ M * 2 ^ k := Int.mul_le_mul_of_nonneg_left (by first | with_reducible assumption | with_reducible exact Int.natCast_nonneg _ | with_reducible exact Int.le_of_lt (by assumption) | omega) (by first | with_reducible assumption | with_reducible exact Int.natCast_nonneg _ | with_reducible exact Int.le_of_lt (by assumption) | omega)
    have h2 : M * 2 ^ k ≤ M * 2 ^ 199 := Int.mul_le_mul_of_nonneg_left (pow2_le hk2) (by first | with_reducible assumption | with_reducible exact Int.natCast_nonneg _ | with_reducible exact Int.le_of_lt (by assumption) | omega)
    have h3 : (2 : Int) ^ 200 * M = 2 * (M * 2 ^ 199) := by rw [Int.pow_succ]; grind
    exact ⟨_, rfl, by omega, by omega⟩
  rintro _ ⟨top, rfl, ht1, ht2⟩
  -- x
  refine Ex_cons (ExS_assign (Ev_cut (fun v => ∃ x : Int, v = .int x ∧ M ≤ x ∧ x < 2 ^ 200 * M) ?_ ?_) ⟨.inl rfl, trivial⟩)
  · refine Ev_bin (Ev_bin (Ev_bin (Ev_const_int (Ev_name rfl (Bin_mul (IntMulOk.of_left (by decide)) (Ev_const_int (Bin_sub (Ev_bin (Ev_call (n := 1) rfl ?_ (show 1 ≤ 2 by decide) (hg := f_at hg))))))))))
    repeat walk_at "mw"
    refine (c_atB hg (k := 2) (by decide) hns hbits).mono ?_
    rintro _ ⟨a, rfl, ha, _⟩
    have hne : top ≠ 0 := by omega
    repeat walk_at "mw"
    rw [Int.fmod_eq_emod_of_nonneg _ (by first | with_reducible assumption | with_reducible exact Int.natCast_nonneg _ | with_reducible exact Int.le_of_lt (by assumption) | omega)]
    have h1 := Int.emod_nonneg a hne
    have h2 := Int.emod_lt_of_pos a (show 0 < top by omega)
    exact ⟨_, rfl, by omega, by omega⟩
  rintro _ ⟨x, rfl, hx1, hx2⟩
  obtain ⟨m1, m2, m3⟩ := bits_ge hM0
  -- f
  refine Ex_cons (ExS_assign (Ev_cut (fun v => ∃ f : Nat, v = .int (f : Int) ∧ f < intBits M) ?_ ?_) ⟨.inl rfl, trivial⟩)
  · refine Ev_bin (Ev_bin (Ev_call (n := 1) rfl ?_ (show 1 ≤ 2 by decide) (hg := f_at hg)))
    repeat walk_at "mw"
    refine (c_atB hg (k := 5) (by decide) hns hbits).mono ?_
    rintro _ ⟨a, rfl, ha, _⟩
    repeat walk_at "mw"
    refine Ev_bitlen rfl (Bin_mod (by first | with_reducible assumption | with_reducible exact Int.natCast_nonneg _ | with_reducible exact Int.le_of_lt (by assumption) | omega) ?_)
    rw [Int.fmod_eq_emod_of_nonneg _ (by first | with_reducible assumption | with_reducible exact Int.natCast_nonneg _ | with_reducible exact Int.le_of_lt (by assumption) | omega)]
    have h1 := Int.emod_nonneg (a + 3) (show (intBits M : Int) ≠ 0 by omega)
    have h2 := Int.emod_lt_of_pos (a + 3) (show (0 : Int) < intBits M by omega)
    obtain ⟨f, hf⟩ : ∃ f : Nat, (a + 3) % (intBits M : Int) = (f : Int) := ⟨((a + 3) % (intBits M : Int)).toNat, by omega⟩
    rw [hf]
    exact ⟨f, rfl, by omega⟩
  rintro _ ⟨f, rfl, hf⟩
  -- y
  refine Ex_cons (ExS_assign (Ev_cut (fun v => ∃ y : Int, v = .int y ∧ 0 < y ∧ y ≤ M) ?_ ?_) ⟨.inl rfl, trivial⟩)
  · refine Ev_bin (Ev_bin (Ev_name rfl (Ev_name rfl (Bin_shr (by first | with_reducible assumption | with_reducible exact Int.natCast_nonneg _ | with_reducible exact Int.le_of_lt (by assumption) | omega) (Ev_bin (Ev_call (n := 1) rfl ?_ (show 1 ≤ 2 by decide) (hg := f_at hg)))))))
    repeat walk_at "mw"
    refine (c_atB hg (k := 4) (by decide) hns hbits).mono ?_
    rintro _ ⟨a, rfl, ha, _⟩
    repeat walk_at "mw"
    have hP := two_pos f
    rw [Int.toNat_natCast, show ((f : Int) + 1).toNat = f + 1 by omega, Int.fdiv_eq_ediv_of_nonneg _ (by first | with_reducible assumption | with_reducible exact Int.natCast_nonneg _ | with_reducible exact Int.le_of_lt (by assumption) | omega), Int.fdiv_eq_ediv_of_nonneg _ (Int.le_of_lt (two_pos _))]
    have hq2 : M / 2 ^ (f + 1) = M / 2 ^ f / 2 := by rw [Int.pow_succ, Int.ediv_ediv_of_nonneg (by first | with_reducible assumption | with_reducible exact Int.natCast_nonneg _ | with_reducible exact Int.le_of_lt (by assumption) | omega)]
    rw [hq2]
    have hq1 : 1 ≤ M / 2 ^ f := by
      have h1 : (2 : Int) ^ f ≤ 2 ^ (intBits M - 1) := pow2_le (by first | with_reducible assumption | with_reducible exact Int.natCast_nonneg _ | with_reducible exact Int.le_of_lt (by assumption) | omega)
      exact Int.le_ediv_of_mul_le hP (by first | with_reducible assumption | with_reducible exact Int.natCast_nonneg _ | with_reducible exact Int.le_of_lt (by assumption) | omega)
    have hqM : M / 2 ^ f ≤ M := Int.ediv_le_self _ (by first | with_reducible assumption | with_reducible exact Int.natCast_nonneg _ | with_reducible exact Int.le_of_lt (by assumption) | omega)
    generalize M / 2 ^ f = q at *
    have hne : q - q / 2 ≠ 0 := by omega
    refine Bin_mod hne ?_
    repeat walk_at "mw"
    rw [Int.fmod_eq_emod_of_nonneg _ (by first | with_reducible assumption | with_reducible exact Int.natCast_nonneg _ | with_reducible exact Int.le_of_lt (by assumption) | omega)]
    have h1 := Int.emod_nonneg a hne
    have h2 := Int.emod_lt_of_pos a (show 0 < q - q / 2 by omega)
    exact ⟨_, rfl, by omega, by omega⟩
  rintro _ ⟨y, rfl, hy0, hyM⟩
  -- unit
  refine Ex_cons (ExS_assign (Ev_cut (fun v => v = .int (M * 1073741824)) ?_ ?_) ⟨.inl rfl, trivial⟩)
  · repeat walk_at "mw"
    refine Bin_pow (by decide) (by decide) ?_
    rw [show (2 : Int) ^ (30 : Int).toNat = 1073741824 from rfl]
    exact Bin_mul (IntMulOk.of_right (by decide)) rfl
  rintro _ rfl
  have hub : intBits (M * 1073741824) ≤ 164 := Nat.le_trans (intBits_mul_le hMb (show intBits 1073741824 ≤ 31 by decide)) (by decide)
  have hxb : intBits x ≤ 340 := by
    refine lt_bits ?_
    have h1 : (2 : Int) ^ 200 * M ≤ 2 ^ 200 * 2 ^ 133 := Int.mul_le_mul_of_nonneg_left (by first | with_reducible assumption | with_reducible exact Int.natCast_nonneg _ | with_reducible exact Int.le_of_lt (by assumption) | omega) (by decide)
    have e : (2 : Int) ^ 200 * 2 ^ 133 = ((2 ^ 333 : Nat) : Int) := by decide
    have h2 : 2 ^ 333 < 2 ^ 340 := by decide
    omega
  have hyb : intBits y ≤ 133 := lt_bits (Nat.lt_of_le_of_lt (show y.natAbs ≤ M.natAbs by omega) (bits_lt hMb))
  obtain ⟨fg, hfg, hfg1, hfg2⟩ := figures hM0
  obtain ⟨T, hT0, hT, hTl⟩ := rows_T (L := L) hfg (by first | with_reducible assumption | with_reducible exact Int.natCast_nonneg _ | with_reducible exact Int.le_of_lt (by assumption) | omega)
  refine Ex_cons (ExS_forT (nps := [(Str.ofString "number", _), (Str.ofString "more", _), (Str.ofString "far", _)]) rfl (Ev_tuple (Evs_cons (Ev_tuple ?_))))
  repeat walk_at "mw"
  refine Ev_call (n := 1) rfl ?_ (show 1 ≤ 2 by decide) (hg := f_root hg)
  repeat walk_at "mw"
  refine (c_root hg hy0 hM0 (by first | with_reducible assumption | with_reducible exact Int.natCast_nonneg _ | with_reducible exact Int.le_of_lt (by assumption) | omega) (by first | with_reducible assumption | with_reducible exact Int.natCast_nonneg _ | with_reducible exact Int.le_of_lt (by assumption) | omega)).mono ?_
  rintro _ ⟨s, rfl, hs1, hs2, hs3⟩
  have hsb : intBits s ≤ 134 := by
    have h1 : (s - 1) * 1 ≤ (s - 1) * (s - 1) * y := by
      by_cases h : s = 1
      · subst h; simp
      · have h2 : (s - 1) * 1 ≤ (s - 1) * (s - 1) := Int.mul_le_mul_of_nonneg_left (by first | with_reducible assumption | with_reducible exact Int.natCast_nonneg _ | with_reducible exact Int.le_of_lt (by assumption) | omega) (by first | with_reducible assumption | with_reducible exact Int.natCast_nonneg _ | with_reducible exact Int.le_of_lt (by assumption) | omega)
        have h3 : (s - 1) * (s - 1) * 1 ≤ (s - 1) * (s - 1) * y := Int.mul_le_mul_of_nonneg_left (by first | with_reducible assumption | with_reducible exact Int.natCast_nonneg _ | with_reducible exact Int.le_of_lt (by assumption) | omega) (Int.mul_nonneg (by first | with_reducible assumption | with_reducible exact Int.natCast_nonneg _ | with_reducible exact Int.le_of_lt (by assumption) | omega) (by first | with_reducible assumption | with_reducible exact Int.natCast_nonneg _ | with_reducible exact Int.le_of_lt (by assumption) | omega))
        omega
    refine lt_bits ?_
    have h4 := bits_lt hMb
    have h5 : 2 ^ 134 = 2 * 2 ^ 133 := by decide
    omega
  refine Bin_mul (IntMulOk.of_left (by decide)) ?_
  repeat walk_at "mw"
  refine ⟨_, .tup _, fun _ S' => S' = s10A (M * 1073741824) y x L M ns, ⟨s10A (M * 1073741824) y x L M ns, by walk_at "le", rfl⟩, ?_, ?_⟩
  · rintro i S' av hi rfl
    obtain ⟨num, more, far, told, σ, rfl, hcall, hσ, hmore, hfarb, hlohi, hbig, hbb, hcheck⟩ : ∃ (num : Int) (more : Int) (far told σ : Int), av = .tup [.int num, .int more, .int far] ∧ Calls g 2 "_ilog" [.int num, .int M, .int (L : Int)] (fun v => v = .int told) ∧ ((far = 0 ∧ σ = told) ∨ (far ≠ 0 ∧ σ = -told)) ∧ (0 ≤ more ∧ more ≤ 6) ∧ intBits far ≤ 140 ∧ 0 < min num M ∧ max num M < 2 ^ 200 * min num M ∧ intBits (max num M) ≤ 400 ∧
        ∀ e K1 K2 : Nat, e ≤ 200 → K1 ≤ 200 → K2 ≤ 200 → Far (max num M) (min num M) (M * 1073741824) e K1 K2 →
          8 * M * (1073741824 * σ - farLow (max num M) (min num M) (M * 1073741824) e K1 K2) ≤ ((L : Int) + more) * (4 * (M * 1073741824) + 3 * farLow (max num M) (min num M) (M * 1073741824) e K1 K2) + far * (M * 1073741824) ∧
          8 * M * (farHigh (max num M) (min num M) (M * 1073741824) e K1 K2 - 1073741824 * σ) ≤ ((L : Int) + more) * (4 * (M * 1073741824) + 3 * farLow (max num M) (min num M) (M * 1073741824) e K1 K2) + far * (M * 1073741824) := by
      match i, hi with
      | 0, hi =>
        cases hi
        obtain ⟨R, hR, hgo, hstop, hch⟩ := above_law hM6 hM133 hx1 hx2 hL3 hL40 hT0 hfg2 hTl
        have emax : max x M = x := Int.max_eq_left hx1
        have emin : min x M = M := Int.min_eq_right hx1
        refine ⟨x, 5, 0, _, _, rfl, c_ilogN hg hM0 (by first | with_reducible assumption | with_reducible exact Int.natCast_nonneg _ | with_reducible exact Int.le_of_lt (by assumption) | omega) (by first | with_reducible assumption | with_reducible exact Int.natCast_nonneg _ | with_reducible exact Int.le_of_lt (by assumption) | omega) (by first | with_reducible assumption | with_reducible exact Int.natCast_nonneg _ | with_reducible exact Int.le_of_lt (by assumption) | omega) (by first | with_reducible assumption | with_reducible exact Int.natCast_nonneg _ | with_reducible exact Int.le_of_lt (by assumption) | omega) hgo hstop (fun R _ => ys_pos hM0 (by first | with_reducible assumption | with_reducible exact Int.natCast_nonneg _ | with_reducible exact Int.le_of_lt (by assumption) | omega) R) (fun R' h => ys_bits hM0 hMb (by first | with_reducible assumption | with_reducible exact Int.natCast_nonneg _ | with_reducible exact Int.le_of_lt (by assumption) | omega) hxb (by first | with_reducible assumption | with_reducible exact Int.natCast_nonneg _ | with_reducible exact Int.le_of_lt (by assumption) | omega)) hfg hfg1 hfg2 hT0 hT, .inl ⟨rfl, rfl⟩, by decide, by decide, ?_⟩
        rw [emax, emin]
        exact ⟨hM0, hx2, by omega, hch⟩
      | 1, hi =>
        cases hi
        obtain ⟨R, hR, hgo, hstop, hch⟩ := below_law hM6 hM133 hy0 hyM hs1 hs2 hs3 hL3 hL40 hT0 hfg2 hTl
        have emax : max y M = M := Int.max_eq_right hyM
        have emin : min y M = y := Int.min_eq_left hyM
        refine ⟨y, 6, 32 * s, _, _, rfl, c_ilogN hg hM0 (by first | with_reducible assumption | with_reducible exact Int.natCast_nonneg _ | with_reducible exact Int.le_of_lt (by assumption) | omega) (by first | with_reducible assumption | with_reducible exact Int.natCast_nonneg _ | with_reducible exact Int.le_of_lt (by assumption) | omega) (by first | with_reducible assumption | with_reducible exact Int.natCast_nonneg _ | with_reducible exact Int.le_of_lt (by assumption) | omega) (by first | with_reducible assumption | with_reducible exact Int.natCast_nonneg _ | with_reducible exact Int.le_of_lt (by assumption) | omega) hgo hstop (fun R _ => ys_pos hM0 (by first | with_reducible assumption | with_reducible exact Int.natCast_nonneg _ | with_reducible exact Int.le_of_lt (by assumption) | omega) R) (fun R' h => ys_bits hM0 hMb (by first | with_reducible assumption | with_reducible exact Int.natCast_nonneg _ | with_reducible exact Int.le_of_lt (by assumption) | omega) (by first | with_reducible assumption | with_reducible exact Int.natCast_nonneg _ | with_reducible exact Int.le_of_lt (by assumption) | omega) (by first | with_reducible assumption | with_reducible exact Int.natCast_nonneg _ | with_reducible exact Int.le_of_lt (by assumption) | omega)) hfg hfg1 hfg2 hT0 hT, .inr ⟨by omega, rfl⟩, by decide, Nat.le_trans (intBits_mul_le (show intBits 32 ≤ 6 by decide) hsb) (by decide), ?_⟩
        rw [emax, emin]
        refine ⟨hy0, ?_, by omega, hch⟩
        have h1 : (2 : Int) ^ 200 * 1 ≤ 2 ^ 200 * y := Int.mul_le_mul_of_nonneg_left (by first | with_reducible assumption | with_reducible exact Int.natCast_nonneg _ | with_reducible exact Int.le_of_lt (by assumption) | omega) (by decide)
        have h2 : (2 : Int) ^ 133 ≤ 2 ^ 200 := by decide
        omega
      | n + 2, hi => cases hi
    clear hi
    refine ⟨_, rfl, rfl, ?_, ?_⟩
    · intro z hz
      simp only [List.mem_cons, List.not_mem_nil, or_false] at hz
      rcases hz with rfl | rfl | rfl <;> exact ⟨.inl rfl, trivial⟩
    refine Ex_cons (ExS_assign (Ev_call (n := 2) rfl ?_ (Nat.le_refl _) (hg := ⟨_, f_ilog hg⟩)) ⟨.inl rfl, trivial⟩)
    repeat walk_at "mw"
    refine hcall.mono ?_
    rintro _ rfl
    refine Ex_cons (ExS_if ?_)
    repeat walk_at "mw"
    refine CallB_typeI ?_
    repeat walk_at "mw"
    refine Cmp_isnotT ?_
    repeat walk_at "mw"
    refine Ev_call (n := 2) rfl ?_ (Nat.le_refl _) (hg := f_far hg)
    repeat walk_at "mw"
    refine (c_far hg (U := 200) hlohi (by first | with_reducible assumption | with_reducible exact Int.natCast_nonneg _ | with_reducible exact Int.le_of_lt (by assumption) | omega) hbig (Nat.le_refl _) (by first | with_reducible assumption | with_reducible exact Int.natCast_nonneg _ | with_reducible exact Int.le_of_lt (by assumption) | omega) (unit_lt hM133) hbb).mono ?_
    rintro _ ⟨e, K1, K2, he, hk1, hk2, hF, rfl⟩
    obtain ⟨ch1, ch2⟩ := hcheck e K1 K2 he hk1 hk2 hF
    obtain ⟨hlowb, hg0, hg1⟩ := far_bits hM6 hM133 hF he hk1 hk2
    have hLm : intBits ((L : Int) + more) ≤ 64 := Nat.le_trans (lt_bits (m := 10) (by first | with_reducible assumption | with_reducible exact Int.natCast_nonneg _ | with_reducible exact Int.le_of_lt (by assumption) | omega)) (by decide)
    obtain ⟨hok1, hok2⟩ := prod_ok hM0 hMb ch1 ch2 (by first | with_reducible assumption | with_reducible exact Int.natCast_nonneg _ | with_reducible exact Int.le_of_lt (by assumption) | omega) (by first | with_reducible assumption | with_reducible exact Int.natCast_nonneg _ | with_reducible exact Int.le_of_lt (by assumption) | omega) (Nat.le_trans (intBits_add_le (intBits_mul_le hLm (intBits_add_le (intBits_mul_le (show intBits 4 ≤ 3 by decide) hub) (intBits_mul_le (show intBits 3 ≤ 2 by decide) hlowb))) (intBits_mul_le hfarb hub)) (by decide))
    refine ⟨_, _, rfl, ?_⟩
    generalize farLow (max num M) (min num M) (M * 1073741824) e K1 K2 = low at *
    generalize farHigh (max num M) (min num M) (M * 1073741824) e K1 K2 = high at *
    refine Ex_cons (ExS_assign (Ev_cut (fun v => v = .int (1073741824 * σ)) ?_ ?_) ⟨.inl rfl, trivial⟩)
    · refine Ev_bin (Ev_bin (Ev_const_int (Ev_const_int (Bin_pow (by decide) (by decide) ?_))))
      rw [show (2 : Int) ^ (30 : Int).toNat = 1073741824 from rfl]
      refine Ev_ifexp ?_
      repeat walk_at "mw"
      refine ifE (fun h => ?_) (fun h => ?_)
      · rcases hσ with ⟨_, rfl⟩ | ⟨h0, _⟩
        · repeat walk_at "mw"
          rfl
        · exact absurd h h0
      · rcases hσ with ⟨h0, _⟩ | ⟨_, rfl⟩
        · exact absurd h0 h
        · repeat walk_at "mw"
          rfl
    rintro _ rfl
    refine Ex_cons (ExS_assign (Ev_cut (fun v => v = .int (((L : Int) + more) * (4 * (M * 1073741824) + 3 * low) + far * (M * 1073741824))) ?_ ?_) ⟨.inl rfl, trivial⟩)
    · repeat walk_at "mw"
      refine Bin_mul (IntMulOk.of_left hLm) ?_
      repeat walk_at "mw"
      refine Bin_mul (IntMulOk.of_le hfarb hub (by decide)) ?_
      repeat walk_at "mw"
      rfl
    rintro _ rfl
    generalize ((L : Int) + more) * (4 * (M * 1073741824) + 3 * low) + far * (M * 1073741824) = room at *
    have hS1 : IntMulOk (8 * M) (1073741824 * σ - low) := hok1
    have hS2 : IntMulOk (8 * M) (high - 1073741824 * σ) := hok2
    repeat walk_at "mw"
    refine Bin_mul hS1 ?_
    repeat walk_at "mw"
    refine ifD (fun h => absurd h (by first | with_reducible assumption | with_reducible exact Int.natCast_nonneg _ | with_reducible exact Int.le_of_lt (by assumption) | omega)) (fun _ => ?_)
    repeat walk_at "mw"
    refine Bin_mul hS2 ?_
    repeat walk_at "mw"
    refine ifD (fun h => absurd h (by first | with_reducible assumption | with_reducible exact Int.natCast_nonneg _ | with_reducible exact Int.le_of_lt (by assumption) | omega)) (fun _ => ?_)
    repeat walk_at "mw"
    exact ⟨s10A (M * 1073741824) y x L M ns, by walk_at "le", rfl⟩
  · rintro S' rfl
    refine Ex_cons (ExS_assign (Ev_una (Ev_call (n := 1) rfl ?_ (show 1 ≤ 2 by decide) (hg := f_at hg))) ⟨.inl rfl, trivial⟩)
    repeat walk_at "mw"
    refine (c_atB hg (k := 6) (by decide) hns hbits).mono ?_
    rintro _ ⟨a, rfl, ha, hab⟩
    repeat walk_at "mw"
    have hlb : intBits (-a) ≤ 1048576 := lt_bits (by rw [Int.natAbs_neg]; exact bits_lt hab)
    refine ExS_forT (nps := [(Str.ofString "number", _), (Str.ofString "scale", _)]) rfl ?_
    repeat walk_at "mw"
    refine ⟨_, .tup _, fun _ S' => S' = s10B (-a) L M, ⟨s10B (-a) L M, by walk_at "le", rfl⟩, ?_, ?_⟩
    · rintro i S' av hi rfl
      obtain ⟨num, sc, rfl, hnb, hscb, hgo, hle⟩ : ∃ num sc : Int, av = .tup [.int num, .int sc] ∧ intBits num ≤ 2000000 ∧ intBits sc ≤ 2000000 ∧ sc ≤ ((num - sc).natAbs : Int) ∧ sc * num ≤ 0 := by
        match i, hi with
        | 0, hi =>
          cases hi
          refine ⟨_, _, rfl, by omega, by omega, by omega, ?_⟩
          have := Int.mul_nonneg (show 0 ≤ M by omega) ha
          rw [Int.mul_neg]; omega
        | 1, hi =>
          cases hi
          refine ⟨_, _, rfl, by omega, by omega, by omega, ?_⟩
          have := Int.mul_nonneg ha (show 0 ≤ M by omega)
          rw [Int.neg_mul]; omega
        | n + 2, hi => cases hi
      clear hi
      refine ⟨_, rfl, rfl, ?_, ?_⟩
      · intro z hz
        simp only [List.mem_cons, List.not_mem_nil, or_false] at hz
        rcases hz with rfl | rfl <;> exact ⟨.inl rfl, trivial⟩
      refine Ex_cons (ExS_tryO (nn := 2) (msg := sqMsg) hOut (Nat.le_refl _) rfl rfl rfl ⟨_, f_ilog hg⟩ ?_ rfl rfl (fun ok A' s' e t u m Q' E' hu p' ns' hm hx ht k' => suite_next ok rfl rfl (by decide) (by decide) A' s' e t u m Q' E' hu p' ns' hm hx ht k') ?_)
      · repeat walk_at "mw"
        exact r_ilog hg (by first | with_reducible assumption | with_reducible exact Int.natCast_nonneg _ | with_reducible exact Int.le_of_lt (by assumption) | omega) hnb hscb hgo hle
      · repeat walk_at "mw"
        exact ⟨s10B (-a) L M, by walk_at "le", rfl⟩
    · rintro S' rfl
      repeat walk_at "mw"
      rfl
theorem holds10 : PySem.Challenge.rw_dm0263_10.Holds := hd (by
  k_fill
  intro w s₀ s₁ mg mb G Y fa o pm cd doc dV kV ho hd' hcd hD hmg hg args vals as hpre hlay hrd hwl hlo
  refine Ground.open G ?_
  intro T B D TE TW
  have KX := kIn_of Y
  wrow_args hpre hlay hrd hwl hlo
  rename_i ns _ _ hLay _ _ _ _ la vs _ hL _ _ _ hI _ hlen _
  have nob : ∀ x ∈ bltNames, mg x = none := by
    intro x hx
    simp only [bltNames, List.mem_cons, List.not_mem_nil, or_false] at hx
    rcases hx with rfl | rfl | rfl | rfl | rfl | rfl | rfl | rfl | rfl | rfl | rfl | rfl | rfl | rfl <;> exact T.free _ (by decide +kernel) (by decide +kernel) (by decide +kernel) (by decide +kernel) (by decide +kernel)
  refine law_goA (l := PySem.Challenge.rw_dm0263_10) (g := ⟨_, w, _, _, _, mg, mb, (hd.heap_39 w.params).In, fun _ _ x k => Frag.In.keeps x k, rfl, by decide +kernel, ⟨_, T, KX⟩, nob⟩) rfl ⟨T, KX⟩ hg hmg hL hI (n := 2) (by decide) (c_law ⟨rfl, rfl⟩ (by first | with_reducible assumption | with_reducible exact Int.natCast_nonneg _ | with_reducible exact Int.le_of_lt (by assumption) | omega) fun c hc => intBits_le_of_item hc hLay))
end Mine
theorem PySem.Challenge.cw_dm0263_10_holds : PySem.Challenge.rw_dm0263_10.Holds :=
  Mine.holds10
