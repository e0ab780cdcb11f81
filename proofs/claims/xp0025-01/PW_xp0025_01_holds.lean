import PyProof.Rows.All
import Wide.All
import OpenK.AllK
import Wide.FinOn
import PySem.Challenge.RW_xp0025_01

set_option Elab.async false
set_option linter.all false

-- Core1
section
open PySem PySem.W PyProof.Rows PySem.Calls PySem.Spec
set_option maxRecDepth 100000
namespace Mine

inductive T where
  | none
  | bool (b : Bool)
  | int (i : Int)
  | str (s : Str)
  | ref (a : Addr)
  | list (l : List T)
  | tup (l : List T)

noncomputable abbrev Sub (h h' : Heap) : Prop := ∀ b o, h.get? b = some o → h'.get? b = some o
noncomputable abbrev lstObj (vs : List Value) (n : Nat) : Obj := { cls := .type "list", data := .seq vs.toArray n }
noncomputable abbrev tupObj (vs : List Value) (n : Nat) : Obj := { cls := .type "tuple", data := .seq vs.toArray n }

mutual
noncomputable def Rep (X : List Addr) (h : Heap) : T → Value → Prop
  | .none, v => v = .none
  | .bool b, v => v = .bool b
  | .int i, v => ∃ t, v = .int i t
  | .str s, v => ∃ t, v = .str s t
  | .ref a, v => v = .ref a
  | .list l, v => ∃ a vs n, v = .ref a ∧ a ∉ X ∧ h.get? a = some (lstObj vs n) ∧ RepL X h l vs
  | .tup l, v => ∃ a vs n, v = .ref a ∧ a ∉ X ∧ h.get? a = some (tupObj vs n) ∧ RepL X h l vs
noncomputable def RepL (X : List Addr) (h : Heap) : List T → List Value → Prop
  | [], vs => vs = []
  | t :: ts, vs => ∃ v r, vs = v :: r ∧ Rep X h t v ∧ RepL X h ts r
end

/-- what Rep can see of a heap stays -/
noncomputable def Sees (X : List Addr) (h h' : Heap) : Prop := ∀ b o, b ∉ X → (∃ l n, o = lstObj l n ∨ o = tupObj l n) → h.get? b = some o → h'.get? b = some o

theorem Sees.of_sub {X : List Addr} {h h' : Heap} (k : Sub h h') : Sees X h h' := fun b o _ _ e => k b o e

mutual
theorem Rep.sees {X X' : List Addr} {h h' : Heap} (hX : ∀ a, a ∈ X' → a ∈ X) (k : Sees X h h') : ∀ {t : T} {v : Value}, Rep X h t v → Rep X' h' t v
  | .none, v, e => by simpa only [Rep] using e
  | .bool b, v, e => by simpa only [Rep] using e
  | .int i, v, e => by simpa only [Rep] using e
  | .str s, v, e => by simpa only [Rep] using e
  | .ref a, v, e => by simpa only [Rep] using e
  | .list l, v, e => by
    simp only [Rep] at e ⊢
    obtain ⟨a, vs, n, e1, e2, e3, e4⟩ := e
    exact ⟨a, vs, n, e1, fun m => e2 (hX a m), k a _ e2 ⟨_, _, .inl rfl⟩ e3, RepL.sees hX k e4⟩
  | .tup l, v, e => by
    simp only [Rep] at e ⊢
    obtain ⟨a, vs, n, e1, e2, e3, e4⟩ := e
    exact ⟨a, vs, n, e1, fun m => e2 (hX a m), k a _ e2 ⟨_, _, .inr rfl⟩ e3, RepL.sees hX k e4⟩
theorem RepL.sees {X X' : List Addr} {h h' : Heap} (hX : ∀ a, a ∈ X' → a ∈ X) (k : Sees X h h') : ∀ {l : List T} {vs : List Value}, RepL X h l vs → RepL X' h' l vs
  | [], vs, e => by simpa only [RepL] using e
  | t :: ts, vs, e => by
    simp only [RepL] at e ⊢
    obtain ⟨v, r, e1, e2, e3⟩ := e
    exact ⟨v, r, e1, Rep.sees hX k e2, RepL.sees hX k e3⟩
end

theorem Rep.sub {X : List Addr} {h h' : Heap} {t : T} {v : Value} (r : Rep X h t v) (k : Sub h h') : Rep X h' t v := r.sees (fun _ m => m) (.of_sub k)
theorem RepL.sub {X : List Addr} {h h' : Heap} {t : List T} {v : List Value} (r : RepL X h t v) (k : Sub h h') : RepL X h' t v := r.sees (fun _ m => m) (.of_sub k)
theorem Rep.nil {X : List Addr} {h : Heap} {t : T} {v : Value} (r : Rep X h t v) : Rep [] h t v := r.sees (fun _ m => by cases m) (fun _ _ _ _ e => e)
theorem RepL.nil {X : List Addr} {h : Heap} {t : List T} {v : List Value} (r : RepL X h t v) : RepL [] h t v := r.sees (fun _ m => by cases m) (fun _ _ _ _ e => e)

/-- no list and no tuple in it -/
noncomputable def T.flat : T → Bool
  | .list _ => false
  | .tup _ => false
  | _ => true
theorem Rep.any {X Y : List Addr} {h h' : Heap} {t : T} {v : Value} (hf : t.flat = true) (r : Rep X h t v) : Rep Y h' t v := by
  cases t <;> simp_all [Rep, T.flat]

theorem RepL.length {X : List Addr} {h : Heap} : ∀ {l : List T} {vs : List Value}, RepL X h l vs → vs.length = l.length
  | [], vs, e => by simp only [RepL] at e; subst e; rfl
  | t :: ts, vs, e => by
    simp only [RepL] at e
    obtain ⟨v, r, rfl, _, e3⟩ := e
    simp [RepL.length e3]
theorem RepL.get {X : List Addr} {h : Heap} : ∀ {l : List T} {vs : List Value} {i : Nat} {t : T}, RepL X h l vs → l[i]? = some t → ∃ v, vs[i]? = some v ∧ Rep X h t v
  | [], _, _, _, _, hi => by simp at hi
  | t :: ts, vs, i, u, e, hi => by
    simp only [RepL] at e
    obtain ⟨v, r, rfl, e2, e3⟩ := e
    cases i with
    | zero => simp at hi; subst hi; exact ⟨v, rfl, e2⟩
    | succ i => simp at hi ⊢; exact RepL.get e3 hi
theorem RepL.get' {X : List Addr} {h : Heap} : ∀ {l : List T} {vs : List Value} {i : Nat} {v : Value}, RepL X h l vs → vs[i]? = some v → ∃ t, l[i]? = some t ∧ Rep X h t v
  | [], vs, _, _, e, hi => by simp only [RepL] at e; subst e; simp at hi
  | t :: ts, vs, i, u, e, hi => by
    simp only [RepL] at e
    obtain ⟨v, r, rfl, e2, e3⟩ := e
    cases i with
    | zero => simp at hi; subst hi; exact ⟨t, rfl, e2⟩
    | succ i => simp at hi ⊢; exact RepL.get' e3 hi
theorem RepL.append {X : List Addr} {h : Heap} : ∀ {l l' : List T} {vs vs' : List Value}, RepL X h l vs → RepL X h l' vs' → RepL X h (l ++ l') (vs ++ vs')
  | [], _, vs, _, e, e' => by simp only [RepL] at e; subst e; exact e'
  | t :: ts, _, vs, _, e, e' => by
    simp only [RepL] at e
    obtain ⟨v, r, rfl, e2, e3⟩ := e
    simp only [List.cons_append, RepL]
    exact ⟨v, _, rfl, e2, RepL.append e3 e'⟩
theorem RepL.cons {X : List Addr} {h : Heap} {t : T} {v : Value} {l : List T} {vs : List Value} (a : Rep X h t v) (b : RepL X h l vs) : RepL X h (t :: l) (v :: vs) := by
  simp only [RepL]; exact ⟨v, vs, rfl, a, b⟩
theorem RepL.empty {X : List Addr} {h : Heap} : RepL X h [] [] := by simp only [RepL]

/-- how a name is read -/
noncomputable def Reads (env : Env) (h : Heap) (x : Str) (v : Value) : Prop :=
  (env.kindOf x = some .local ∧ ∃ m, h.Ns env.locals m ∧ m x = some v) ∨
  ((env.kindOf x = some .cell ∨ env.kindOf x = some .free) ∧ (x == ("__classdict__" : Str)) = false ∧ ∃ c, env.cells.lookup x = some c ∧ h.IsCell c (some v))

theorem Reads.sub {env : Env} {h h' : Heap} {x : Str} {v : Value} (r : Reads env h x v) (k : Sub h h') : Reads env h' x v := by
  rcases r with ⟨a, m, b, c⟩ | ⟨a, a', c, b, d⟩
  · exact .inl ⟨a, m, b.keeps k, c⟩
  · exact .inr ⟨a, a', c, b, d.keeps k⟩

structure Rd (X : List Addr) (env : Env) (σ : List (Str × T)) (h : Heap) : Prop where
  val : ∀ p, p ∈ σ → ∃ v, Reads env h p.1 v ∧ Rep X h p.2 v
theorem Rd.sub {X : List Addr} {env : Env} {σ : List (Str × T)} {h h' : Heap} (r : Rd X env σ h) (k : Sub h h') : Rd X env σ h' :=
  ⟨fun p hp => let ⟨v, a, b⟩ := r.val p hp; ⟨v, a.sub k, b.sub k⟩⟩

/-- the globals -/
structure Gl (K : Frag) (mg mb : Str → Option Value) (h : Heap) : Prop where
  k : K.In h
  g : h.Ns mainGlobals mg
  b : h.Ns builtinsNs mb
  bi : ∀ x : Str, x ≠ "__name__" → mb x = bootBuiltins x
  lim : h.NoLimit
noncomputable def Live (X : List Addr) (h : Heap) : Prop := ∀ a ∈ X, ∃ o, h.get? a = some o
theorem Live.sub {X : List Addr} {h h' : Heap} (l : Live X h) (k : Sub h h') : Live X h' := fun a m => let ⟨o, e⟩ := l a m; ⟨o, k a o e⟩
theorem Live.nil {h : Heap} : Live [] h := fun _ m => by cases m
theorem Gl.sub {K : Frag} {mg mb : Str → Option Value} {g h : Heap} (G : Gl K mg mb g) (k : Sub g h) : Gl K mg mb h := ⟨G.k.keeps k, G.g.keeps k, G.b.keeps k, G.bi, G.lim.keeps k⟩

structure Cx where
  prog : Program
  w : World
  K : Frag
  mg : Str → Option Value
  mb : Str → Option Value
  t0 : Nat
  n : Nat
  env : Env

structure OkA (n : Nat) (A : Around) : Prop where
  hd : A.handled = none
  dp : A.depth + n < recursionLimit
  un : A.units + 8 * n + 40 < cLine
theorem OkA.le {n m : Nat} {A : Around} (o : OkA n A) (h : m ≤ n) : OkA m A := ⟨o.hd, by have := o.dp; omega, by have := o.un; omega⟩

structure EnvOk (C : Cx) : Prop where
  kind : C.env.scope.kind = .function
  glob : C.env.globals = mainGlobals
  bui : C.env.builtins = builtinsNs

structure StOk (C : Cx) (X : List Addr) (σ : List (Str × T)) (A : Around) (s : Shared) : Prop where
  a : OkA C.n A
  l : Live X s.heap
  g : Gl C.K C.mg C.mb s.heap
  r : Rd X C.env σ s.heap
  t : C.t0 ≤ s.toks
  c : ∀ n c, C.env.cells.lookup n = some c → ∃ o, s.heap.get? c = some o
theorem StOk.step {C : Cx} {X : List Addr} {σ : List (Str × T)} {A : Around} {s : Shared} (o : StOk C X σ A s) {h' : Heap} {tk : Nat} (k : Sub s.heap h') (ht : s.toks ≤ tk) :
    StOk C X σ A { s with heap := h', toks := tk } := ⟨o.a, o.l.sub k, o.g.sub k, o.r.sub k, Nat.le_trans o.t ht, fun p q m => let ⟨x, e⟩ := o.c p q m; ⟨x, k _ _ e⟩⟩

theorem Sub.refl (h : Heap) : Sub h h := fun _ _ e => e
theorem Sub.trans {h h' h'' : Heap} (k : Sub h h') (k' : Sub h' h'') : Sub h h'' := fun b o e => k' b o (k b o e)
theorem Sub.push (h : Heap) (o : Obj) : Sub h (h.push o) := fun _ _ e => Heap.get?_push_of_some _ e

/-- what an end may ask: the heap has only grown, the value stands for t -/
noncomputable abbrev Goes (X : List Addr) (t : T) (s : Shared) (Q : Value → Shared → Prop) : Prop :=
  ∀ v h' tk, Sub s.heap h' → s.toks ≤ tk → Rep X h' t v → Q v { s with heap := h', toks := tk }
noncomputable abbrev GoesL (X : List Addr) (ts : List T) (s : Shared) (Q : List Value → Shared → Prop) : Prop :=
  ∀ vs h' tk, Sub s.heap h' → s.toks ≤ tk → RepL X h' ts vs → Q vs { s with heap := h', toks := tk }
noncomputable abbrev GoesB (b : Bool) (s : Shared) (Q : Bool → Shared → Prop) : Prop :=
  ∀ h' tk, Sub s.heap h' → s.toks ≤ tk → Q b { s with heap := h', toks := tk }

theorem Goes.step {X : List Addr} {t : T} {s : Shared} {Q : Value → Shared → Prop} {h' : Heap} {tk : Nat} (g : Goes X t s Q) (k : Sub s.heap h') (ht : s.toks ≤ tk) : Goes X t { s with heap := h', toks := tk } Q :=
  fun v h'' tk' k' ht' r => g v h'' tk' (k.trans k') (Nat.le_trans ht ht') r
theorem GoesL.step {X : List Addr} {t : List T} {s : Shared} {Q : List Value → Shared → Prop} {h' : Heap} {tk : Nat} (g : GoesL X t s Q) (k : Sub s.heap h') (ht : s.toks ≤ tk) : GoesL X t { s with heap := h', toks := tk } Q :=
  fun v h'' tk' k' ht' r => g v h'' tk' (k.trans k') (Nat.le_trans ht ht') r
theorem GoesB.step {b : Bool} {s : Shared} {Q : Bool → Shared → Prop} {h' : Heap} {tk : Nat} (g : GoesB b s Q) (k : Sub s.heap h') (ht : s.toks ≤ tk) : GoesB b { s with heap := h', toks := tk } Q :=
  fun h'' tk' k' ht' => g h'' tk' (k.trans k') (Nat.le_trans ht ht')

/-- an expression gives a tree, and the heap only grows -/
structure EvE (C : Cx) (X : List Addr) (σ : List (Str × T)) (e : PySem.Expr) (t : T) : Prop where
  run : ∀ (A : Around) (E : Value → Shared → Prop) (s : Shared) (Q : Value → Shared → Prop), StOk C X σ A s → Goes X t s Q → wpAny (model C.prog C.w) A (eval e C.env) Q E s
/-- as a test -/
structure EvB (C : Cx) (X : List Addr) (σ : List (Str × T)) (e : PySem.Expr) (b : Bool) : Prop where
  run : ∀ (A : Around) (E : Value → Shared → Prop) (s : Shared) (Q : Bool → Shared → Prop), StOk C X σ A s → GoesB b s Q → wpAny (model C.prog C.w) A (PySem.isTrue e C.env (eval e C.env)) Q E s
/-- the arguments of a call, the items of a display -/
structure EvL (C : Cx) (X : List Addr) (σ : List (Str × T)) (es : List PySem.Expr) (ts : List T) : Prop where
  run : ∀ (A : Around) (E : Value → Shared → Prop) (s : Shared) (pos : Pos) (Q : List Value → Shared → Prop), StOk C X σ A s → GoesL X ts s Q →
    wpAny (model C.prog C.w) A (spliced (backTo pos (starEach es C.env))) Q E s
/-- a tree whose value stays -/
structure OpR (C : Cx) (X : List Addr) (f : Value → Value → Sem Value) (t1 t2 t : T) : Prop where
  run : ∀ (A : Around) (E : Value → Shared → Prop) (s : Shared) (Q : Value → Shared → Prop) (v1 v2 : Value), OkA C.n A → C.t0 ≤ s.toks → Live X s.heap → Rep X s.heap t1 v1 → Rep X s.heap t2 v2 → Goes X t s Q → wpAny (model C.prog C.w) A (f v1 v2) Q E s
structure UnR (C : Cx) (X : List Addr) (f : Value → Sem Value) (t1 t : T) : Prop where
  run : ∀ (A : Around) (E : Value → Shared → Prop) (s : Shared) (Q : Value → Shared → Prop) (v1 : Value), OkA C.n A → C.t0 ≤ s.toks → Live X s.heap → Rep X s.heap t1 v1 → Goes X t s Q → wpAny (model C.prog C.w) A (f v1) Q E s
/-- a built-in called -/
structure CaR (C : Cx) (X : List Addr) (f : Value) (ts : List T) (t : T) : Prop where
  run : ∀ (A : Around) (E : Value → Shared → Prop) (s : Shared) (Q : Value → Shared → Prop) (vs : List Value), OkA C.n A → C.t0 ≤ s.toks → Gl C.K C.mg C.mb s.heap → Live X s.heap → RepL X s.heap ts vs → Goes X t s Q → wpAny (model C.prog C.w) A (call f vs) Q E s
structure TrR (C : Cx) (X : List Addr) (t : T) (b : Bool) : Prop where
  run : ∀ (A : Around) (E : Value → Shared → Prop) (s : Shared) (Q : Bool → Shared → Prop) (v : Value), Rep X s.heap t v → GoesB b s Q → wpAny (model C.prog C.w) A (truthy v) Q E s

section
variable {X : List Addr} {h : Heap} {v : Value}
theorem Rep.int {i : Int} (r : Rep X h (.int i) v) : ∃ t, v = .int i t := by simpa only [Rep] using r
theorem Rep.str {x : Str} (r : Rep X h (.str x) v) : ∃ t, v = .str x t := by simpa only [Rep] using r
theorem Rep.bool {b : Bool} (r : Rep X h (.bool b) v) : v = .bool b := by simpa only [Rep] using r
theorem Rep.none (r : Rep X h .none v) : v = .none := by simpa only [Rep] using r
theorem Rep.ref {a : Addr} (r : Rep X h (.ref a) v) : v = .ref a := by simpa only [Rep] using r
theorem Rep.list {l : List T} (r : Rep X h (.list l) v) : ∃ a vs n, v = .ref a ∧ a ∉ X ∧ h.get? a = some (lstObj vs n) ∧ RepL X h l vs := by simpa only [Rep] using r
theorem Rep.tup {l : List T} (r : Rep X h (.tup l) v) : ∃ a vs n, v = .ref a ∧ a ∉ X ∧ h.get? a = some (tupObj vs n) ∧ RepL X h l vs := by simpa only [Rep] using r
theorem Rep.mkInt {i : Int} {t : Tok} : Rep X h (.int i) (.int i t) := by simp only [Rep]; exact ⟨t, rfl⟩
theorem Rep.mkStr {i : Str} {t : Tok} : Rep X h (.str i) (.str i t) := by simp only [Rep]; exact ⟨t, rfl⟩
theorem Rep.mkBool {i : Bool} : Rep X h (.bool i) (.bool i) := by simp only [Rep]
theorem Rep.mkNone : Rep X h .none .none := by simp only [Rep]
theorem Rep.mkRef {a : Addr} : Rep X h (.ref a) (.ref a) := by simp only [Rep]
theorem Rep.mkList {l : List T} {a : Addr} {vs : List Value} {n : Nat} (h1 : a ∉ X) (h2 : h.get? a = some (lstObj vs n)) (h3 : RepL X h l vs) : Rep X h (.list l) (.ref a) := by simp only [Rep]; exact ⟨a, vs, n, rfl, h1, h2, h3⟩
theorem Rep.mkTup {l : List T} {a : Addr} {vs : List Value} {n : Nat} (h1 : a ∉ X) (h2 : h.get? a = some (tupObj vs n)) (h3 : RepL X h l vs) : Rep X h (.tup l) (.ref a) := by simp only [Rep]; exact ⟨a, vs, n, rfl, h1, h2, h3⟩
theorem RepL.nil' {vs : List Value} (r : RepL X h [] vs) : vs = [] := by simpa only [RepL] using r
theorem RepL.cons' {t : T} {ts : List T} {vs : List Value} (r : RepL X h (t :: ts) vs) : ∃ v r, vs = v :: r ∧ Rep X h t v ∧ RepL X h ts r := by simpa only [RepL] using r
theorem Live.fresh {a : Addr} (l : Live X h) (hf : h.get? a = .none) : a ∉ X := fun m => by obtain ⟨o, e⟩ := l a m; rw [hf] at e; cases e
theorem Live.size (l : Live X h) : h.objs.size ∉ X := fun m => by obtain ⟨o, e⟩ := l _ m; exact Nat.lt_irrefl _ (Heap.lt_size e)
end

theorem toks_up {α : Type} {M : Model} {A : Around} {s : Shared} {t : Sem α} {Q : α → Shared → Prop} {E : Value → Shared → Prop} (h : wpAny M A t (fun v s' => s.toks ≤ s'.toks → Q v s') E s) : wpAny M A t Q E s :=
  wpAny_with_toks (Nat.le_refl _) (wpAny_mono h (fun _ _ x => x) fun _ _ x _ => x)
end Mine
end

-- Core2
section
open PySem PySem.W PyProof.Rows PySem.Calls PySem.Spec
set_option maxRecDepth 100000
namespace Mine
open PySem (Expr)

section
variable {C : Cx} {X : List Addr} {σ : List (Str × T)}

theorem mem_read {x : Str} {t : T} (m : (x, t) ∈ σ) {h : Heap} (r : Rd X C.env σ h) : ∃ v, Reads C.env h x v ∧ Rep X h t v := r.val (x, t) m

theorem load_of {M : Model} {A : Around} {E : Value → Shared → Prop} {s : Shared} {env : Env} {x : Str} {v : Value} {Q : Value → Shared → Prop} (hk : env.scope.kind = .function) (r : Reads env s.heap x v) (h : Q v s) :
    wpAny M A (loadName env x) Q E s := by
  rcases r with ⟨a, m, b, c⟩ | ⟨a, a', c, b, d⟩
  · exact wpAny_loadName_local hk a b c h
  · rcases a with a | a
    · exact wpAny_loadName_cell hk a b d h
    · exact wpAny_loadName_free hk a b d h a'

theorem EvE.name {x : Str} {t : T} {pos : Pos} (hk : C.env.scope.kind = .function) (m : (x, t) ∈ σ) (hd : (x == ("__debug__" : Str)) = false := by decide) : EvE C X σ (.Name x pos) t :=
  .mk fun A E s Q o hq => by
    obtain ⟨v, hr, hv⟩ := mem_read m o.r
    exact wpAny_Name (load_of hk hr (hq v _ _ (Sub.refl _) (Nat.le_refl _) hv)) hd

theorem EvE.glob {x : Str} {t : T} {v : Value} {pos : Pos} (hk : C.env.scope.kind = .function) (hg : C.env.globals = mainGlobals) (hx : C.env.kindOf x = some .globalImplicit) (hm : C.mg x = some v) (hr : ∀ h, Rep X h t v)
    (hd : (x == ("__debug__" : Str)) = false := by decide) : EvE C X σ (.Name x pos) t :=
  .mk fun A E s Q o hq => Name_function_global hk hx (loadGlobal_global (mg := C.mg) (by rw [hg]; exact o.g.g) hm (hq v _ _ (Sub.refl _) (Nat.le_refl _) (hr _))) hd

/-- the name of a built-in -/
noncomputable def IsB (C : Cx) (x : Str) (v : Value) : Prop := C.env.kindOf x = some .globalImplicit ∧ C.mg x = none ∧ bootBuiltins x = some v ∧ x ≠ "__name__"
theorem name_bui {A : Around} {E : Value → Shared → Prop} {s : Shared} {Q : Value → Shared → Prop} {x : Str} {v : Value} {pos : Pos} (e : EnvOk C) (hb : IsB C x v) (g : Gl C.K C.mg C.mb s.heap) (h : Q v s)
    (hd : (x == ("__debug__" : Str)) = false := by decide) : wpAny (model C.prog C.w) A (eval (.Name x pos) C.env) Q E s :=
  Name_function_global e.kind hb.1 (loadGlobal_builtin (mg := C.mg) (mb := C.mb) (by rw [e.glob]; exact g.g) hb.2.1 (by rw [e.bui]; exact g.b) ((g.bi x hb.2.2.2).trans hb.2.2.1) h) hd

theorem EvE.int {i : Int} {k : Nat} {pos : Pos} : EvE C X σ (.Constant (.int i) k pos) (.int i) :=
  .mk fun A E s Q _ hq => wpAny_Constant_int (hq _ _ _ (Sub.refl _) (Nat.le_succ _) .mkInt)
theorem EvE.str {x : Str} {k : Nat} {pos : Pos} : EvE C X σ (.Constant (.str x) k pos) (.str x) :=
  .mk fun A E s Q _ hq => Constant_str (hq _ _ _ (Sub.refl _) (Nat.le_succ _) .mkStr)
theorem EvE.bool {b : Bool} {k : Nat} {pos : Pos} : EvE C X σ (.Constant (.bool b) k pos) (.bool b) :=
  .mk fun A E s Q _ hq => Constant_bool (hq _ _ _ (Sub.refl _) (Nat.le_refl _) .mkBool)
theorem EvE.none {k : Nat} {pos : Pos} : EvE C X σ (.Constant .none k pos) .none :=
  .mk fun A E s Q _ hq => Constant_none (hq _ _ _ (Sub.refl _) (Nat.le_refl _) .mkNone)

theorem EvE.bin {l r : Expr} {op : Operator} {pos : Pos} {t1 t2 t : T} (h1 : EvE C X σ l t1) (h2 : EvE C X σ r t2) (ho : OpR C X (binaryOp op) t1 t2 t) : EvE C X σ (.BinOp l op r pos) t :=
  .mk fun A E s Q o hq => wpAny_BinOp (h1.run A E s _ o fun v1 ha tk1 k1 l1 r1 => h2.run A E _ _ (o.step k1 l1) fun v2 hb tk2 k2 l2 r2 =>
    ho.run A E _ Q v1 v2 o.a (Nat.le_trans o.t (Nat.le_trans l1 l2)) ((o.l.sub k1).sub k2) (r1.sub k2) r2 ((hq.step k1 l1).step k2 l2))
theorem EvE.cmp {l r : Expr} {op : CmpOp} {pos : Pos} {t1 t2 t : T} (h1 : EvE C X σ l t1) (h2 : EvE C X σ r t2) (ho : OpR C X (compareOp op) t1 t2 t)
    (hm : behindInMarks op r = false := by with_unfolding_all rfl) : EvE C X σ (.Compare l [op] [r] pos) t :=
  .mk fun A E s Q o hq => wpAny_Compare1 (hm := hm) (h1.run A E s _ o fun v1 ha tk1 k1 l1 r1 => h2.run A E _ _ (o.step k1 l1) fun v2 hb tk2 k2 l2 r2 =>
    ho.run A E _ Q v1 v2 o.a (Nat.le_trans o.t (Nat.le_trans l1 l2)) ((o.l.sub k1).sub k2) (r1.sub k2) r2 ((hq.step k1 l1).step k2 l2))
theorem EvE.un {x : Expr} {op : UnaryOp} {pos : Pos} {t1 t : T} (h1 : EvE C X σ x t1) (ho : UnR C X (unaryOp op) t1 t) : EvE C X σ (.UnaryOp op x pos) t :=
  .mk fun A E s Q o hq => UnaryOp_ (h1.run A E s _ o fun v1 ha tk1 k1 l1 r1 => ho.run A E _ Q v1 o.a (Nat.le_trans o.t l1) (o.l.sub k1) r1 (hq.step k1 l1))

/- tests -/
theorem TrR.bool {b : Bool} : TrR C X (.bool b) b := .mk fun A E s Q v r hq => by
  rw [r.bool]; exact wpAny_truthy_bool (hq _ _ (Sub.refl _) (Nat.le_refl _))
theorem TrR.str {x : Str} (hx : x.length ≤ sizeLine) : TrR C X (.str x) ((x.length : Int) != 0) := .mk fun A E s Q v r hq => by
  obtain ⟨t, rfl⟩ := r.str
  have : (sizeLine : Int) < 2 ^ 63 := by decide
  exact PySem.P.truthy_str (by omega) (hq _ _ (Sub.refl _) (by omega))

theorem EvB.of {e : Expr} {t : T} {b : Bool} (h : EvE C X σ e t) (ht : TrR C X t b)
    (he : PySem.isTrue e C.env (eval e C.env) = (do let v ← eval e C.env; standAt e.pos; holding [v] (truthy v)) := by rfl) : EvB C X σ e b :=
  .mk fun A E s Q o hq => isTrue_plain (h.run A E s _ o fun v h' tk k l r => ht.run A E _ Q v r (hq.step k l)) he
theorem EvB.cmp {l r : Expr} {op : CmpOp} {pos : Pos} {t1 t2 : T} {b : Bool} (h1 : EvE C X σ l t1) (h2 : EvE C X σ r t2) (ho : OpR C X (compareOp op) t1 t2 (.bool b))
    (hm : behindInMarks op r = false := by with_unfolding_all rfl) : EvB C X σ (.Compare l [op] [r] pos) b :=
  .mk fun A E s Q o hq => wpAny_isTrue_Compare1 (hm := hm) (h1.run A E s _ o fun v1 ha tk1 k1 l1 r1 => h2.run A E _ _ (o.step k1 l1) fun v2 hb tk2 k2 l2 r2 =>
    ho.run A E _ _ v1 v2 o.a (Nat.le_trans o.t (Nat.le_trans l1 l2)) ((o.l.sub k1).sub k2) (r1.sub k2) r2 fun v hc tk3 k3 l3 r3 => by
      rw [r3.bool]; exact wpAny_truthy_bool (((hq.step k1 l1).step k2 l2) _ _ k3 l3))
theorem EvB.not {x : Expr} {pos : Pos} {b : Bool} (h : EvB C X σ x b) : EvB C X σ (.UnaryOp .Not x pos) (!b) :=
  .mk fun A E s Q o hq => isTrue_not (h.run A E s _ o fun h' tk k l => hq h' tk k l)
theorem EvB.and_nil {pos : Pos} : EvB C X σ (.BoolOp .And [] pos) true := .mk fun A E s Q o hq => isTrue_and_nil (hq _ _ (Sub.refl _) (Nat.le_refl _))
theorem EvB.or_nil {pos : Pos} : EvB C X σ (.BoolOp .Or [] pos) false := .mk fun A E s Q o hq => isTrue_or_nil (hq _ _ (Sub.refl _) (Nat.le_refl _))
theorem EvB.and {x : Expr} {rest : List Expr} {pos : Pos} {b c : Bool} (h : EvB C X σ x b) (h' : b = true → EvB C X σ (.BoolOp .And rest pos) c) : EvB C X σ (.BoolOp .And (x :: rest) pos) (b && c) :=
  .mk fun A E s Q o hq => isTrue_and (h.run A E s _ o fun h1 tk1 k1 l1 => by
    cases b with
    | false => exact hq _ _ k1 l1
    | true => exact (h' rfl).run A E _ Q (o.step k1 l1) (hq.step k1 l1))
theorem EvB.or {x : Expr} {rest : List Expr} {pos : Pos} {b c : Bool} (h : EvB C X σ x b) (h' : b = false → EvB C X σ (.BoolOp .Or rest pos) c) : EvB C X σ (.BoolOp .Or (x :: rest) pos) (b || c) :=
  .mk fun A E s Q o hq => isTrue_or (h.run A E s _ o fun h1 tk1 k1 l1 => by
    cases b with
    | true => exact hq _ _ k1 l1
    | false => exact (h' rfl).run A E _ Q (o.step k1 l1) (hq.step k1 l1))
theorem EvE.ifexp {test body orelse : Expr} {pos : Pos} {b : Bool} {t : T} (h : EvB C X σ test b) (h1 : b = true → EvE C X σ body t) (h2 : b = false → EvE C X σ orelse t) : EvE C X σ (.IfExp test body orelse pos) t :=
  .mk fun A E s Q o hq => IfExp_ (h.run A E s _ o fun h' tk k l => by
    cases b with
    | true => exact (h1 rfl).run A E _ Q (o.step k l) (hq.step k l)
    | false => exact (h2 rfl).run A E _ Q (o.step k l) (hq.step k l))
theorem EvE.and2 {x y : Expr} {pos : Pos} {b c : Bool} (h : EvE C X σ x (.bool b)) (h' : b = true → EvE C X σ y (.bool c)) : EvE C X σ (.BoolOp .And [x, y] pos) (.bool (b && c)) :=
  .mk fun A E s Q o hq => BoolOp_and (h.run A E s _ o fun v h1 tk1 k1 l1 r1 => by
    rw [r1.bool]
    refine wpAny_truthy_bool ?_
    cases b with
    | false => exact hq _ _ _ k1 l1 .mkBool
    | true => exact BoolOp_one ((h' rfl).run A E _ Q (o.step k1 l1) (hq.step k1 l1)))
theorem EvE.not {x : Expr} {pos : Pos} {t : T} {b : Bool} (h : EvE C X σ x t) (ht : TrR C X t b) : EvE C X σ (.UnaryOp .Not x pos) (.bool (!b)) :=
  .un h <| .mk fun A E s Q v _ _ _ r hq => not_of (ht.run A E s _ v r fun h' tk k l => hq _ _ _ k l .mkBool)

/- lists of expressions -/
theorem EvL.nil : EvL C X σ [] [] := .mk fun A E s pos Q o hq => args_nil (hq _ _ _ (Sub.refl _) (Nat.le_refl _) .empty)
theorem EvL.cons {e : Expr} {rest : List Expr} {t : T} {ts : List T} (h : EvE C X σ e t) (h' : EvL C X σ rest ts)
    (he : starEach (e :: rest) C.env = (false, eval e C.env) :: starEach rest C.env := by rfl) : EvL C X σ (e :: rest) (t :: ts) :=
  .mk fun A E s pos Q o hq => args_cons (he := he) (h.run A E s _ o fun v h1 tk1 k1 l1 r1 => h'.run A E _ pos _ (o.step k1 l1) fun vs h2 tk2 k2 l2 r2 =>
    ((hq.step k1 l1).step k2 l2) _ _ _ (Sub.refl _) (Nat.le_refl _) (.cons (r1.sub k2) r2))

theorem new_list {A : Around} {E : Value → Shared → Prop} {s : Shared} {Q : Value → Shared → Prop} {ts : List T} {vs : List Value} (l : Live X s.heap) (r : RepL X s.heap ts vs) (hsz : ts.length ≤ sizeLine) (hq : Goes X (.list ts) s Q) :
    wpAny (model C.prog C.w) A (newList vs) Q E s := by
  refine wpAny_newObj_type ?_ (by show vs.toArray.size ≤ sizeLine; rw [List.size_toArray, r.length]; exact hsz)
  exact hq _ _ _ (Sub.push _ _) (Nat.le_refl _) (.mkList (n := 0) l.size (Heap.get?_push_size _ rfl) (r.sub (Sub.push _ _)))
theorem new_tup {A : Around} {E : Value → Shared → Prop} {s : Shared} {Q : Value → Shared → Prop} {ts : List T} {vs : List Value} (l : Live X s.heap) (r : RepL X s.heap ts vs) (hsz : ts.length ≤ sizeLine) (hq : Goes X (.tup ts) s Q) :
    wpAny (model C.prog C.w) A (newTuple vs) Q E s := by
  refine wpAny_newObj_type ?_ (by show vs.toArray.size ≤ sizeLine; rw [List.size_toArray, r.length]; exact hsz)
  exact hq _ _ _ (Sub.push _ _) (Nat.le_refl _) (.mkTup (n := 0) l.size (Heap.get?_push_size _ rfl) (r.sub (Sub.push _ _)))
theorem EvE.list {es : List Expr} {pos : Pos} {ts : List T} (h : EvL C X σ es ts) (hsz : ts.length ≤ sizeLine := by first | decide | (simp only [List.length_cons, List.length_nil]; decide)) : EvE C X σ (.List es pos) (.list ts) :=
  .mk fun A E s Q o hq => List_ (h.run A E s pos _ o fun vs h1 tk1 k1 l1 r1 => new_list (o.l.sub k1) r1 hsz (hq.step k1 l1))
theorem EvE.tup {es : List Expr} {k : Nat} {pos : Pos} {ts : List T} (h : EvL C X σ es ts) (hsz : ts.length ≤ sizeLine := by first | decide | (simp only [List.length_cons, List.length_nil]; decide)) : EvE C X σ (.Tuple es k pos) (.tup ts) :=
  .mk fun A E s Q o hq => Tuple_ (h.run A E s pos _ o fun vs h1 tk1 k1 l1 r1 => new_tup (o.l.sub k1) r1 hsz (hq.step k1 l1))

/- calls -/
theorem EvE.call_b {x : Str} {id : String} {e : Expr} {rest : List Expr} {p pos : Pos} {ts : List T} {t : T} (en : EnvOk C) (hb : IsB C x (.builtin id)) (h : EvL C X σ (e :: rest) ts) (hc : CaR C X (.builtin id) ts t)
    (hd : (x == ("__debug__" : Str)) = false := by decide) (he : eval (.Call (.Name x p) (e :: rest) [] pos) C.env = (do callWith pos (← eval (.Name x p) C.env) [] (backTo pos (starEach (e :: rest) C.env)) (backToKw pos (keywordEach [] C.env))) := by rfl)
    (he2 : starEach (e :: rest) C.env = (false, eval e C.env) :: starEach rest C.env := by rfl) (hp : (backTo pos (starEach rest C.env)).any (·.1) = false := by rfl) :
    EvE C X σ (.Call (.Name x p) (e :: rest) [] pos) t :=
  .mk fun A E s Q o hq => Call_ (he := he) (name_bui en hb o.g (callWith_builtin1 (he := he2) (hplain := hp) (h.run A E s pos _ o fun vs h1 tk1 k1 l1 r1 => hc.run A E _ Q vs o.a (Nat.le_trans o.t l1) (o.g.sub k1) (o.l.sub k1) r1 (hq.step k1 l1))) hd)
theorem EvE.call_t {x : Str} {id : String} {e : Expr} {rest : List Expr} {p pos : Pos} {ts : List T} {t : T} (en : EnvOk C) (hb : IsB C x (.type id)) (h : EvL C X σ (e :: rest) ts) (hc : CaR C X (.type id) ts t)
    (hd : (x == ("__debug__" : Str)) = false := by decide) (he : eval (.Call (.Name x p) (e :: rest) [] pos) C.env = (do callWith pos (← eval (.Name x p) C.env) [] (backTo pos (starEach (e :: rest) C.env)) (backToKw pos (keywordEach [] C.env))) := by rfl)
    (he2 : starEach (e :: rest) C.env = (false, eval e C.env) :: starEach rest C.env := by rfl) (hp : (backTo pos (starEach rest C.env)).any (·.1) = false := by rfl) :
    EvE C X σ (.Call (.Name x p) (e :: rest) [] pos) t :=
  .mk fun A E s Q o hq => Call_ (he := he) (name_bui en hb o.g (PyProof.Rows.callWith_type1 (he := he2) (hplain := hp) (h.run A E s pos _ o fun vs h1 tk1 k1 l1 r1 => hc.run A E _ Q vs o.a (Nat.le_trans o.t l1) (o.g.sub k1) (o.l.sub k1) r1 (hq.step k1 l1))) hd)
end
end Mine
end

-- Core3
section
open PySem PySem.W PyProof.Rows PySem.Calls PySem.Spec
set_option maxRecDepth 100000
namespace Mine
open PySem (Expr)

section
variable {C : Cx} {X : List Addr}

/- ints -/
theorem OpR.add_int {a b : Int} : OpR C X (binaryOp .Add) (.int a) (.int b) (.int (a + b)) := .mk fun A E s Q v1 v2 o t l r1 r2 hq => by
  obtain ⟨t, rfl⟩ := r1.int; obtain ⟨u, rfl⟩ := r2.int
  exact P.add_int (hq _ _ _ (Sub.refl _) (Nat.le_succ _) .mkInt)
theorem OpR.iadd_int {a b : Int} : OpR C X (inplaceOp .Add) (.int a) (.int b) (.int (a + b)) := .mk fun A E s Q v1 v2 o t l r1 r2 hq => by
  obtain ⟨t, rfl⟩ := r1.int; obtain ⟨u, rfl⟩ := r2.int
  exact P.iadd_int (hq _ _ _ (Sub.refl _) (Nat.le_succ _) .mkInt)
theorem OpR.isub_int {a b : Int} : OpR C X (inplaceOp .Sub) (.int a) (.int b) (.int (a - b)) := .mk fun A E s Q v1 v2 o t l r1 r2 hq => by
  obtain ⟨t, rfl⟩ := r1.int; obtain ⟨u, rfl⟩ := r2.int
  exact P.isub_int (hq _ _ _ (Sub.refl _) (Nat.le_succ _) .mkInt)
theorem OpR.sub_int {a b : Int} : OpR C X (binaryOp .Sub) (.int a) (.int b) (.int (a - b)) := .mk fun A E s Q v1 v2 o t l r1 r2 hq => by
  obtain ⟨t, rfl⟩ := r1.int; obtain ⟨u, rfl⟩ := r2.int
  exact P.sub_int (hq _ _ _ (Sub.refl _) (Nat.le_succ _) .mkInt)
theorem OpR.mul_int {a b : Int} (hm : IntMulOk a b) : OpR C X (binaryOp .Mult) (.int a) (.int b) (.int (a * b)) := .mk fun A E s Q v1 v2 o t l r1 r2 hq => by
  obtain ⟨t, rfl⟩ := r1.int; obtain ⟨u, rfl⟩ := r2.int
  exact P.mul_int (hm := hm) (hq _ _ _ (Sub.refl _) (Nat.le_succ _) .mkInt)
theorem OpR.mod_int {a b : Int} (hb : b ≠ 0) : OpR C X (binaryOp .Mod) (.int a) (.int b) (.int (Int.fmod a b)) := .mk fun A E s Q v1 v2 o t l r1 r2 hq => by
  obtain ⟨t, rfl⟩ := r1.int; obtain ⟨u, rfl⟩ := r2.int
  exact PyProof.Rows.mod_int hb (hq _ _ _ (Sub.refl _) (Nat.le_succ _) .mkInt)
theorem OpR.div_int {a b : Int} (hb : b ≠ 0) (hp : Builtin.divisionGoesByPylong a b = false) : OpR C X (binaryOp .FloorDiv) (.int a) (.int b) (.int (Int.fdiv a b)) := .mk fun A E s Q v1 v2 o t l r1 r2 hq => by
  obtain ⟨t, rfl⟩ := r1.int; obtain ⟨u, rfl⟩ := r2.int
  exact floordiv_int hb (hq _ _ _ (Sub.refl _) (Nat.le_succ _) .mkInt) (.inl hp)
theorem OpR.pow_int {a b : Int} (h1 : 0 ≤ b) (h2 : b ≤ 1000000) (h3 : a.natAbs < 2 ^ 64) : OpR C X (binaryOp .Pow) (.int a) (.int b) (.int (a ^ b.toNat)) := .mk fun A E s Q v1 v2 o t l r1 r2 hq => by
  obtain ⟨t, rfl⟩ := r1.int; obtain ⟨u, rfl⟩ := r2.int
  exact pow_int_small h1 h2 h3 (hq _ _ _ (Sub.refl _) (Nat.le_succ _) .mkInt)
theorem OpR.sub_bool {a b : Bool} : OpR C X (binaryOp .Sub) (.bool a) (.bool b) (.int (b2i a - b2i b)) := .mk fun A E s Q v1 v2 o t l r1 r2 hq => by
  rw [r1.bool, r2.bool]
  exact PyProof.Rows.sub_bool (hq _ _ _ (Sub.refl _) (Nat.le_succ _) .mkInt)
theorem UnR.neg {a : Int} : UnR C X (unaryOp .USub) (.int a) (.int (-a)) := .mk fun A E s Q v1 o t l r1 hq => by
  obtain ⟨t, rfl⟩ := r1.int
  exact P.neg_int (hq _ _ _ (Sub.refl _) (Nat.le_succ _) .mkInt)
theorem OpR.lt_int {a b : Int} : OpR C X (compareOp .Lt) (.int a) (.int b) (.bool (decide (a < b))) := .mk fun A E s Q v1 v2 o t l r1 r2 hq => by
  obtain ⟨t, rfl⟩ := r1.int; obtain ⟨u, rfl⟩ := r2.int
  exact P.lt_int (hq _ _ _ (Sub.refl _) (Nat.le_refl _) .mkBool)
theorem OpR.gt_int {a b : Int} : OpR C X (compareOp .Gt) (.int a) (.int b) (.bool (decide (a > b))) := .mk fun A E s Q v1 v2 o t l r1 r2 hq => by
  obtain ⟨t, rfl⟩ := r1.int; obtain ⟨u, rfl⟩ := r2.int
  exact P.gt_int (hq _ _ _ (Sub.refl _) (Nat.le_refl _) .mkBool)
theorem OpR.ge_int {a b : Int} : OpR C X (compareOp .GtE) (.int a) (.int b) (.bool (decide (a ≥ b))) := .mk fun A E s Q v1 v2 o t l r1 r2 hq => by
  obtain ⟨t, rfl⟩ := r1.int; obtain ⟨u, rfl⟩ := r2.int
  exact P.ge_int (hq _ _ _ (Sub.refl _) (Nat.le_refl _) .mkBool)
theorem OpR.ne_int {a b : Int} : OpR C X (compareOp .NotEq) (.int a) (.int b) (.bool (a != b)) := .mk fun A E s Q v1 v2 o t l r1 r2 hq => by
  obtain ⟨t, rfl⟩ := r1.int; obtain ⟨u, rfl⟩ := r2.int
  exact P.ne_int (hq _ _ _ (Sub.refl _) (Nat.le_refl _) .mkBool)

/- texts -/
theorem OpR.add_str {x y : Str} (hsz : x.length + y.length ≤ sizeLine) : OpR C X (binaryOp .Add) (.str x) (.str y) (.str (x ++ y)) := .mk fun A E s Q v1 v2 o t l r1 r2 hq => by
  obtain ⟨t, rfl⟩ := r1.str; obtain ⟨u, rfl⟩ := r2.str
  exact toks_up (PyProof.Rows.add_str (fun t' tk hk => hq _ s.heap tk (Sub.refl _) hk .mkStr) hsz)
theorem OpR.eq_str {x y : Str} : OpR C X (compareOp .Eq) (.str x) (.str y) (.bool (x == y)) := .mk fun A E s Q v1 v2 o t l r1 r2 hq => by
  obtain ⟨t, rfl⟩ := r1.str; obtain ⟨u, rfl⟩ := r2.str
  exact PyProof.Rows.eq_str (hq _ _ _ (Sub.refl _) (Nat.le_refl _) .mkBool)
theorem OpR.ne_str {x y : Str} : OpR C X (compareOp .NotEq) (.str x) (.str y) (.bool (x != y)) := .mk fun A E s Q v1 v2 o t l r1 r2 hq => by
  obtain ⟨t, rfl⟩ := r1.str; obtain ⟨u, rfl⟩ := r2.str
  exact PyProof.Rows.ne_str (hq _ _ _ (Sub.refl _) (Nat.le_refl _) .mkBool)
theorem OpR.lt_str {x y : Str} : OpR C X (compareOp .Lt) (.str x) (.str y) (.bool (decide (x.cps.toList < y.cps.toList))) := .mk fun A E s Q v1 v2 o t l r1 r2 hq => by
  obtain ⟨t, rfl⟩ := r1.str; obtain ⟨u, rfl⟩ := r2.str
  exact PyProof.Rows.lt_str (hq _ _ _ (Sub.refl _) (Nat.le_refl _) .mkBool)
theorem OpR.gt_str {x y : Str} : OpR C X (compareOp .Gt) (.str x) (.str y) (.bool (decide (y.cps.toList < x.cps.toList))) := .mk fun A E s Q v1 v2 o t l r1 r2 hq => by
  obtain ⟨t, rfl⟩ := r1.str; obtain ⟨u, rfl⟩ := r2.str
  exact P.gt_str (hq _ _ _ (Sub.refl _) (Nat.le_refl _) .mkBool)
theorem OpR.in_str {x y : Str} : OpR C X (compareOp .In) (.str y) (.str x) (.bool (Txt.contains x y)) := .mk fun A E s Q v1 v2 o t l r1 r2 hq => by
  obtain ⟨t, rfl⟩ := r1.str; obtain ⟨u, rfl⟩ := r2.str
  exact PyProof.Rows.in_str (hq _ _ _ (Sub.refl _) (Nat.le_refl _) .mkBool)
theorem OpR.notIn_str {x y : Str} : OpR C X (compareOp .NotIn) (.str y) (.str x) (.bool (!Txt.contains x y)) := .mk fun A E s Q v1 v2 o t l r1 r2 hq => by
  obtain ⟨t, rfl⟩ := r1.str; obtain ⟨u, rfl⟩ := r2.str
  exact PyProof.Rows.notIn_str (hq _ _ _ (Sub.refl _) (Nat.le_refl _) .mkBool)
/- identity -/
theorem OpR.is_bool {a b : Bool} : OpR C X (compareOp .Is) (.bool a) (.bool b) (.bool (a == b)) := .mk fun A E s Q v1 v2 o t l r1 r2 hq => by
  rw [r1.bool, r2.bool]; exact PyProof.Rows.is_bool (hq _ _ _ (Sub.refl _) (Nat.le_refl _) .mkBool)
theorem OpR.isNot_bool {a b : Bool} : OpR C X (compareOp .IsNot) (.bool a) (.bool b) (.bool (a != b)) := .mk fun A E s Q v1 v2 o t l r1 r2 hq => by
  rw [r1.bool, r2.bool]; exact PyProof.Rows.isnot_bool (hq _ _ _ (Sub.refl _) (Nat.le_refl _) .mkBool)
theorem OpR.is_int_bool {a : Int} {b : Bool} : OpR C X (compareOp .Is) (.int a) (.bool b) (.bool false) := .mk fun A E s Q v1 v2 o t l r1 r2 hq => by
  obtain ⟨t, rfl⟩ := r1.int; rw [r2.bool]
  exact wpAny_is_other rfl (fun e => nomatch e) (hq _ _ _ (Sub.refl _) (Nat.le_refl _) .mkBool)
theorem OpR.is_none_none : OpR C X (compareOp .Is) .none .none (.bool true) := .mk fun A E s Q v1 v2 o t l r1 r2 hq => by
  rw [r1.none, r2.none]; exact PyProof.Rows.is_none_none (hq _ _ _ (Sub.refl _) (Nat.le_refl _) .mkBool)
theorem OpR.is_str_none {x : Str} : OpR C X (compareOp .Is) (.str x) .none (.bool false) := .mk fun A E s Q v1 v2 o t l r1 r2 hq => by
  obtain ⟨t, rfl⟩ := r1.str; rw [r2.none]; exact PyProof.Rows.is_str_none (hq _ _ _ (Sub.refl _) (Nat.le_refl _) .mkBool)
theorem OpR.is_int_none {x : Int} : OpR C X (compareOp .Is) (.int x) .none (.bool false) := .mk fun A E s Q v1 v2 o t l r1 r2 hq => by
  obtain ⟨t, rfl⟩ := r1.int; rw [r2.none]; exact PyProof.Rows.is_int_none (hq _ _ _ (Sub.refl _) (Nat.le_refl _) .mkBool)

/- lists -/
theorem isList_of {h : Heap} {a : Addr} {vs : List Value} {n : Nat} (e : h.get? a = some (lstObj vs n)) : h.IsList a vs.toArray := ⟨_, e, rfl, n, rfl⟩
theorem isTup_of {h : Heap} {a : Addr} {vs : List Value} {n : Nat} (e : h.get? a = some (tupObj vs n)) : IsTup h a vs.toArray := ⟨_, e, rfl, n, rfl⟩
theorem fits63 {n : Nat} (h : n ≤ sizeLine) : (n : Int) < 2 ^ 63 := by
  have : (sizeLine : Int) < 2 ^ 63 := by decide
  omega

theorem OpR.add_list {l m : List T} (hsz : l.length + m.length ≤ sizeLine) : OpR C X (binaryOp .Add) (.list l) (.list m) (.list (l ++ m)) := .mk fun A E s Q v1 v2 o t lv r1 r2 hq => by
  obtain ⟨a, vs, n, rfl, ha, e, r⟩ := r1.list
  obtain ⟨b, ws, k, rfl, hb, e', r'⟩ := r2.list
  refine P.add_list (n := n) (n2 := k) e e' ?_ (by rw [List.size_toArray, List.size_toArray, r.length, r'.length]; exact hsz)
  refine hq _ _ s.toks (Sub.push _ _) (Nat.le_refl _) (.mkList (vs := vs ++ ws) (n := 0) lv.size ?_ ((r.append r').sub (Sub.push _ _)))
  rw [Heap.get?_push_size _ rfl]; simp [lstObj]

/-- the items of one kind, flat -/
theorem eqAt_flat {A : Around} {s : Shared} {h h' : Heap} {X Y : List Addr} {t : T} {v v' : Value} (hf : t.flat = true) (r : Rep X h t v) (r' : Rep Y h' t v') : SeqAt.EqAt A s v v' true := by
  cases t with
  | none => rw [r.none, r'.none]; exact SeqAt.EqAt.same _
  | bool b => rw [r.bool, r'.bool]; exact SeqAt.EqAt.same _
  | int i => obtain ⟨t, rfl⟩ := r.int; obtain ⟨u, rfl⟩ := r'.int; simpa using SeqAt.EqAt.int_int (A := A) (s := s) i t i u
  | str x => obtain ⟨t, rfl⟩ := r.str; obtain ⟨u, rfl⟩ := r'.str; simpa using SeqAt.EqAt.str_str (A := A) (s := s) x t x u
  | ref a => rw [r.ref, r'.ref]; exact SeqAt.EqAt.same _
  | list l => cases hf
  | tup l => cases hf

noncomputable def T.flat1 : T → Bool
  | .list l => l.all T.flat
  | t => t.flat
theorem allTrue {n : Nat} : (List.range n).all (fun _ => true) = true := by simp
theorem eqAt_flat1 {A : Around} {s : Shared} {X Y : List Addr} {t : T} {v v' : Value} (hu : A.units < cLine) (hf : t.flat1 = true) (r : Rep X s.heap t v) (r' : Rep Y s.heap t v') : SeqAt.EqAt A s v v' true := by
  cases t with
  | list l =>
    obtain ⟨a, vs, n, rfl, ha, e, q⟩ := r.list
    obtain ⟨b, ws, k, rfl, hb, e', q'⟩ := r'.list
    by_cases hab : a = b
    · subst hab; exact SeqAt.EqAt.same _
    · refine SeqAt.EqAt.of_refs hab ?_
      have z := SeqAt.RcAt.lists (A := A) (s := s) (e := fun _ => true) (isList_of e) (isList_of e') (by rw [List.size_toArray, List.size_toArray, q.length, q'.length]) hu fun j h1 h2 => ?_
      · rw [allTrue] at z; exact z
      · simp only [List.getElem_toArray]
        have h1' : j < vs.length := by simpa using h1
        have h2' : j < ws.length := by simpa using h2
        obtain ⟨t, ht, rt⟩ := q.get' (i := j) (v := vs[j]) (by simp [h1'])
        obtain ⟨t', ht', rt'⟩ := q'.get' (i := j) (v := ws[j]) (by simp [h2'])
        rw [ht] at ht'; cases ht'
        have hft : t.flat = true := List.all_eq_true.mp hf t (List.mem_of_getElem? ht)
        exact eqAt_flat hft rt rt'
  | tup l => cases hf
  | none => exact eqAt_flat (t := .none) rfl r r'
  | bool b => exact eqAt_flat (t := .bool b) rfl r r'
  | int i => exact eqAt_flat (t := .int i) rfl r r'
  | str x => exact eqAt_flat (t := .str x) rfl r r'
  | ref a => exact eqAt_flat (t := .ref a) rfl r r'

theorem OkA.lt {n : Nat} {A : Around} (o : OkA n A) : A.units < cLine := by have := o.un; omega
theorem OkA.lt1 {n : Nat} {A : Around} (o : OkA n A) : A.in1.units < cLine := by have := o.un; show A.units + 1 < cLine; omega
theorem items_eq {A : Around} {s : Shared} {l : List T} {vs ws : List Value} (o : OkA C.n A) (hf : l.all T.flat1 = true) (q : RepL X s.heap l vs) (q' : RepL X s.heap l ws) (j : Nat) (h1 : j < vs.toArray.size) (h2 : j < ws.toArray.size) :
    SeqAt.EqAt A.in1 s vs.toArray[j] ws.toArray[j] true := by
  simp only [List.getElem_toArray]
  have h1' : j < vs.length := by simpa using h1
  have h2' : j < ws.length := by simpa using h2
  obtain ⟨t, ht, rt⟩ := q.get' (i := j) (v := vs[j]) (by simp [h1'])
  obtain ⟨t', ht', rt'⟩ := q'.get' (i := j) (v := ws[j]) (by simp [h2'])
  rw [ht] at ht'; cases ht'
  exact eqAt_flat1 o.lt1 (List.all_eq_true.mp hf t (List.mem_of_getElem? ht)) rt rt'
theorem OpR.eq_list {l : List T} (hf : l.all T.flat1 = true) : OpR C X (compareOp .Eq) (.list l) (.list l) (.bool true) := .mk fun A E s Q v1 v2 o t lv r1 r2 hq => by
  obtain ⟨a, vs, n, rfl, ha, e, q⟩ := r1.list
  obtain ⟨b, ws, k, rfl, hb, e', q'⟩ := r2.list
  refine SeqAt.eq_listAt (e := fun _ => true) (isList_of e) (isList_of e') (by rw [List.size_toArray, List.size_toArray, q.length, q'.length]) o.lt (items_eq o hf q q') ?_
  rw [allTrue]; exact hq _ _ _ (Sub.refl _) (Nat.le_refl _) .mkBool
theorem OpR.ne_list {l : List T} (hf : l.all T.flat1 = true) : OpR C X (compareOp .NotEq) (.list l) (.list l) (.bool false) := .mk fun A E s Q v1 v2 o t lv r1 r2 hq => by
  obtain ⟨a, vs, n, rfl, ha, e, q⟩ := r1.list
  obtain ⟨b, ws, k, rfl, hb, e', q'⟩ := r2.list
  have z := SeqAt.RcNeAt.lists (A := A) (s := s) (e := fun _ => true) (isList_of e) (isList_of e') (by rw [List.size_toArray, List.size_toArray, q.length, q'.length]) o.lt (items_eq o hf q q')
  rw [allTrue] at z
  exact EqBoolInt.of_rcne z (hq _ _ _ (Sub.refl _) (Nat.le_refl _) .mkBool)
theorem OpR.ne_list_len {l m : List T} (hf : l.length ≠ m.length) : OpR C X (compareOp .NotEq) (.list l) (.list m) (.bool true) := .mk fun A E s Q v1 v2 o t lv r1 r2 hq => by
  obtain ⟨a, vs, n, rfl, ha, e, q⟩ := r1.list
  obtain ⟨b, ws, k, rfl, hb, e', q'⟩ := r2.list
  exact EqBoolInt.of_rcne (SeqAt.RcNeAt.lists_lengths (isList_of e) (isList_of e') (by rw [List.size_toArray, List.size_toArray, q.length, q'.length]; simpa using hf) o.lt) (hq _ _ _ (Sub.refl _) (Nat.le_refl _) .mkBool)
theorem OpR.eq_list_len {l m : List T} (hf : l.length ≠ m.length) : OpR C X (compareOp .Eq) (.list l) (.list m) (.bool false) := .mk fun A E s Q v1 v2 o t lv r1 r2 hq => by
  obtain ⟨a, vs, n, rfl, ha, e, q⟩ := r1.list
  obtain ⟨b, ws, k, rfl, hb, e', q'⟩ := r2.list
  exact SeqAt.eq_list_lengthsAt (isList_of e) (isList_of e') (by rw [List.size_toArray, List.size_toArray, q.length, q'.length]; simpa using hf) o.lt (hq _ _ _ (Sub.refl _) (Nat.le_refl _) .mkBool)

/-- an int in a list of ints -/
noncomputable def isI (x : Int) : Value → Bool
  | .int i _ => x == i
  | _ => false
theorem ints_any {X : List Addr} {h : Heap} (x : Int) : ∀ {ns : List Int} {vs : List Value}, RepL X h (ns.map T.int) vs → vs.any (isI x) = ns.contains x
  | [], vs, r => by rw [r.nil']; rfl
  | n :: ns, vs, r => by
    obtain ⟨v, rest, rfl, hv, hr⟩ := r.cons'
    obtain ⟨t, rfl⟩ := hv.int
    rw [List.any_cons, List.contains_cons, ints_any x hr]
    rfl
theorem OpR.in_ints {x : Int} {ns : List Int} : OpR C X (compareOp .In) (.int x) (.list (ns.map T.int)) (.bool (ns.contains x)) := .mk fun A E s Q v1 v2 o t lv r1 r2 hq => by
  obtain ⟨u, rfl⟩ := r1.int
  obtain ⟨a, vs, n, rfl, ha, e, q⟩ := r2.list
  refine SeqAt.in_listAt (isI x) (isList_of e) (fun y hy => ?_) (by rw [List.any_toArray, ints_any x q]; exact hq _ _ _ (Sub.refl _) (Nat.le_refl _) .mkBool)
  have hy' : y ∈ vs := by simpa using hy
  obtain ⟨i, hi⟩ := List.getElem?_of_mem hy'
  obtain ⟨t, ht, rt⟩ := q.get' hi
  simp only [List.getElem?_map, Option.map_eq_some_iff] at ht
  obtain ⟨m, _, rfl⟩ := ht
  obtain ⟨w, rfl⟩ := rt.int
  have := SeqAt.EqAt.int_int (A := A.in1) (s := s) m w x u
  rwa [show (m == x) = isI x (.int m w) from by unfold isI; rw [Bool.eq_iff_iff, beq_iff_eq, beq_iff_eq]; exact eq_comm] at this
theorem RepL.ints {h : Heap} {X : List Addr} {ns : List Int} {vs : List Value} (q : RepL X h (ns.map T.int) vs) {i : Nat} {v : Value} (hi : vs[i]? = some v) : ∃ n t, ns[i]? = some n ∧ v = .int n t := by
  obtain ⟨t, ht, rt⟩ := q.get' hi
  simp only [List.getElem?_map, Option.map_eq_some_iff] at ht
  obtain ⟨m, hm, rfl⟩ := ht
  obtain ⟨w, rfl⟩ := rt.int
  exact ⟨m, w, hm, rfl⟩
theorem RepL.strs {h : Heap} {X : List Addr} {ns : List Str} {vs : List Value} (q : RepL X h (ns.map T.str) vs) {i : Nat} {v : Value} (hi : vs[i]? = some v) : ∃ n t, ns[i]? = some n ∧ v = .str n t := by
  obtain ⟨t, ht, rt⟩ := q.get' hi
  simp only [List.getElem?_map, Option.map_eq_some_iff] at ht
  obtain ⟨m, hm, rfl⟩ := ht
  obtain ⟨w, rfl⟩ := rt.str
  exact ⟨m, w, hm, rfl⟩
end
end Mine
end

-- Core4
section
open PySem PySem.W PyProof.Rows PySem.Calls PySem.Spec
set_option maxRecDepth 100000
namespace Mine
open PySem (Expr)
open PySem.Builtin.Str (occurrences lastOccurrence partsBetween strKind strSub)

section
variable {C : Cx} {X : List Addr} {σ : List (Str × T)}

theorem RepL.one {h : Heap} {t : T} {vs : List Value} (r : RepL X h [t] vs) : ∃ v, vs = [v] ∧ Rep X h t v := by
  obtain ⟨v, q, rfl, a, b⟩ := r.cons'; exact ⟨v, by rw [b.nil'], a⟩
theorem RepL.two {h : Heap} {t u : T} {vs : List Value} (r : RepL X h [t, u] vs) : ∃ v w, vs = [v, w] ∧ Rep X h t v ∧ Rep X h u w := by
  obtain ⟨v, q, rfl, a, b⟩ := r.cons'; obtain ⟨w, rfl, c⟩ := b.one; exact ⟨v, w, rfl, a, c⟩
theorem RepL.three {h : Heap} {t u z : T} {vs : List Value} (r : RepL X h [t, u, z] vs) : ∃ v w y, vs = [v, w, y] ∧ Rep X h t v ∧ Rep X h u w ∧ Rep X h z y := by
  obtain ⟨v, q, rfl, a, b⟩ := r.cons'; obtain ⟨w, y, rfl, c, d⟩ := b.two; exact ⟨v, w, y, rfl, a, c, d⟩

/- functions -/
theorem CaR.len_list {l : List T} (hl : l.length ≤ sizeLine) : CaR C X (.builtin "len") [.list l] (.int l.length) := .mk fun A E s Q vs o ht g lv r hq => by
  obtain ⟨v, rfl, r1⟩ := r.one
  obtain ⟨a, ws, n, rfl, ha, e, q⟩ := r1.list
  refine PySem.Calls.call_len_list (isList_of e) (by rw [List.size_toArray, q.length]; exact fits63 hl) ?_
  rw [List.size_toArray, q.length]
  exact hq _ _ _ (Sub.refl _) (by omega) .mkInt
theorem CaR.len_str {x : Str} (hl : x.length ≤ sizeLine) : CaR C X (.builtin "len") [.str x] (.int x.length) := .mk fun A E s Q vs o ht g lv r hq => by
  obtain ⟨v, rfl, r1⟩ := r.one
  obtain ⟨t, rfl⟩ := r1.str
  exact PyProof.Rows.len_str (by have := fits63 hl; omega) (hq _ _ _ (Sub.refl _) (by omega) .mkInt)
theorem CaR.chr {i : Int} (h0 : 0 ≤ i) (h1 : i ≤ 1114111) : CaR C X (.builtin "chr") [.int i] (.str ⟨#[i.toNat]⟩) := .mk fun A E s Q vs o ht g lv r hq => by
  obtain ⟨v, rfl, r1⟩ := r.one
  obtain ⟨t, rfl⟩ := r1.int
  exact P.chr_of_int (by rw [Bool.or_eq_false_iff]; exact ⟨decide_eq_false (by omega), decide_eq_false (by omega)⟩) (hq _ _ _ (Sub.refl _) (by omega) .mkStr)

theorem strsAre_of {h : Heap} : ∀ {l : List Str} {vs : List Value}, RepL X h (l.map T.str) vs → StrsAre vs l
  | [], vs, r => by rw [r.nil']; exact .nil
  | x :: l, vs, r => by
    obtain ⟨v, q, rfl, a, b⟩ := r.cons'
    obtain ⟨t, rfl⟩ := a.str
    exact .cons x t (strsAre_of b)
theorem of_strsAre {h : Heap} : ∀ {l : List Str} {vs : List Value}, StrsAre vs l → RepL X h (l.map T.str) vs
  | _, _, .nil => .empty
  | _, _, .cons x t r => .cons .mkStr (of_strsAre r)
theorem CaR.sorted {l m : List Str} (hl : l.length < 64) (hm : ∀ l' : List Str, l'.Perm l → sortedS l' = true → l' = m) : CaR C X (.builtin "sorted") [.list (l.map T.str)] (.list (m.map T.str)) := .mk fun A E s Q vs o ht g lv r hq => by
  obtain ⟨v, rfl, r1⟩ := r.one
  obtain ⟨a, ws, n, rfl, ha, e, q⟩ := r1.list
  refine sorted_strs (isList_of e) (strsAre_of q) (by rw [q.length, List.length_map]; exact hl) fun out ss' h1 h2 h3 => ?_
  obtain ⟨e', he'⟩ := sortedAll_at s.heap ws out
  have hs : Sub s.heap (sortedAll s.heap ws out) := fun _ _ => sortedAll_old
  rw [← hm ss' h2 h3] at hq
  exact hq _ _ s.toks hs (Nat.le_refl _) (.mkList (vs := out.toList) (n := e') (fun m => by obtain ⟨o', eo⟩ := lv _ m; exact Nat.lt_irrefl _ (Nat.lt_of_succ_lt (Heap.lt_size eo))) (by rw [he']) (of_strsAre h1))

theorem signs_rep {h : Heap} : ∀ {cs : List Nat} {vs : List Value}, vs.length = cs.length → (∀ (j : Nat) (v : Value), vs[j]? = some v → ∃ c u, cs[j]? = some c ∧ v = .str ⟨#[c]⟩ u) → RepL X h (cs.map fun c => T.str ⟨#[c]⟩) vs
  | [], [], _, _ => .empty
  | c :: cs, v :: vs, hl, hj => by
    obtain ⟨c', u, e1, e2⟩ := hj 0 v rfl
    cases e1
    refine .cons (e2 ▸ .mkStr) (signs_rep (by simpa using hl) fun j v hv => ?_)
    obtain ⟨c', u, e1, e2⟩ := hj (j + 1) v (by simpa using hv)
    exact ⟨c', u, by simpa using e1, e2⟩
theorem CaR.list_str {x : Str} (hx : x.length ≤ sizeLine) : CaR C X (.type "list") [.str x] (.list (x.cps.toList.map fun c => T.str ⟨#[c]⟩)) := .mk fun A E s Q vs o ht g lv r hq => by
  obtain ⟨v, rfl, r1⟩ := r.one
  obtain ⟨t, rfl⟩ := r1.str
  refine toks_up (PySem.call_list_str o.hd x t (fun h' tk acc' c' hk hg hi htk => ?_) hx)
  refine hq _ _ tk hk htk (.mkList (vs := acc'.toList) (n := c') lv.size (by rw [hg]) (signs_rep (by simpa using hi.1) fun j v hv => ?_))
  obtain ⟨c, u, h1, h2⟩ := hi.2 j v (by simpa using hv)
  exact ⟨c, u, by simpa using h1, h2⟩

theorem OpR.mul_list {l : List T} {k : Int} (hlo : -(2 ^ 63 : Int) ≤ k) (hhi : k < 2 ^ 63) (hsz : l.length * k.toNat ≤ 2 ^ 24) : OpR C X (binaryOp .Mult) (.list l) (.int k) (.list ((List.replicate k.toNat l).flatten)) := .mk fun A E s Q v1 v2 o t lv r1 r2 hq => by
  obtain ⟨a, vs, n, rfl, ha, e, r⟩ := r1.list
  obtain ⟨u, rfl⟩ := r2.int
  refine wpAny_binaryOp_repeat_ref (T := "list") (U := "int") (by decide) ⟨_, e, rfl⟩ (fun s' => typeIs_int s' k u) noFill_list_mul F.fills_int_mul F.slot_int_rmul repeat_list F.slot_int_index.lookup
    (call_meets F.slot_int_rmul (typeIs_int s k u) F.entry_int_rmul (F.args_int_rmul_2 _ _) (int___rmul___int_list k u a vs.toArray n)
      ⟨e, rfl, ⟨_, e, rfl⟩, call_meets F.slot_list_mul ⟨_, e, rfl⟩ F.entry_list_mul (F.args_list_mul_2 _ _)
        (AutoListH.list___mul___list_int_3 a vs.toArray n k u (by simp [Builtin.List.listFitsIndex]; omega) (by rw [List.size_toArray, r.length]; omega) (by rw [List.size_toArray, r.length]; simp [Builtin.List.listTooLong, sizeLine]; omega))
        ⟨e, ?_⟩⟩)
  have key : ∀ (k : Nat) (acc : Array Value), List.foldl (fun x1 x2 => x1 ++ x2) acc (List.replicate k vs.toArray) = acc ++ ((List.replicate k vs).flatten).toArray := by
    intro k
    induction k with
    | zero => intro acc; simp
    | succ k ih => intro acc; rw [List.replicate_succ, List.foldl_cons, ih, List.replicate_succ, List.flatten_cons]; simp
  have key2 : List.foldl (fun x1 x2 => x1 ++ x2) #[] (List.replicate (if vs.toArray.isEmpty = true then 0 else k.toNat) vs.toArray) = ((List.replicate k.toNat vs).flatten).toArray := by
    by_cases hv : vs.toArray.isEmpty = true
    · have : vs = [] := by simpa using hv
      subst this
      simp
    · rw [if_neg hv, key]; simp
  rw [key2]
  have rr : ∀ k : Nat, RepL X s.heap ((List.replicate k l).flatten) ((List.replicate k vs).flatten) := by
    intro k
    induction k with
    | zero => exact .empty
    | succ k ih => rw [List.replicate_succ, List.flatten_cons, List.replicate_succ, List.flatten_cons]; exact r.append ih
  exact hq _ _ s.toks (Sub.push _ _) (Nat.le_refl _) (.mkList (n := 0) lv.size (Heap.get?_push_size _ rfl) ((rr _).sub (Sub.push _ _)))

/- methods of texts -/
theorem CaR.find {x y : Str} : CaR C X (.builtin "str.find") [.str x, .str y] (.int (Txt.find x y)) := .mk fun A E s Q vs o ht g lv r hq => by
  obtain ⟨v, w, rfl, r1, r2⟩ := r.two
  obtain ⟨t, rfl⟩ := r1.str; obtain ⟨u, rfl⟩ := r2.str
  exact SC.find (hq _ _ _ (Sub.refl _) (by omega) .mkInt)
theorem CaR.startswith {x y : Str} : CaR C X (.builtin "str.startswith") [.str x, .str y] (.bool (Txt.startswith x y)) := .mk fun A E s Q vs o ht g lv r hq => by
  obtain ⟨v, w, rfl, r1, r2⟩ := r.two
  obtain ⟨t, rfl⟩ := r1.str; obtain ⟨u, rfl⟩ := r2.str
  exact SC.startswith (hq _ _ _ (Sub.refl _) (by omega) .mkBool)
theorem CaR.endswith {x y : Str} : CaR C X (.builtin "str.endswith") [.str x, .str y] (.bool (Txt.endswith x y)) := .mk fun A E s Q vs o ht g lv r hq => by
  obtain ⟨v, w, rfl, r1, r2⟩ := r.two
  obtain ⟨t, rfl⟩ := r1.str; obtain ⟨u, rfl⟩ := r2.str
  exact SC.endswith (hq _ _ _ (Sub.refl _) (by omega) .mkBool)

noncomputable def find4 (x y : Str) (i j : Int) : Int := match occurrences x y (fromIndex x.length i) (min (fromIndex x.length j) x.length) 1 with | k :: _ => (k : Int) | [] => -1
noncomputable def rfind4 (x y : Str) (i j : Int) : Int := match lastOccurrence x y (fromIndex x.length i) (min (fromIndex x.length j) x.length) with | some k => (k : Int) | none => -1
theorem gives_find4 (x y : Str) (i j : Int) (t u v w : Tok) : Gives (Builtin.«str.find» ⟨[.str x t, .str y u, .int i v, .int j w], []⟩) (.int (find4 x y i j)) := by
  show Gives (match occurrences x y (fromIndex x.length i) (min (fromIndex x.length j) x.length) 1 with | k :: _ => retInt k | [] => (do rule "str.find.not-found"; retInt (-1))) _
  unfold find4
  cases occurrences x y (fromIndex x.length i) (min (fromIndex x.length j) x.length) 1 with
  | nil => exact .rule (.of_eq rfl)
  | cons k _ => exact .of_eq rfl
theorem gives_rfind4 (x y : Str) (i j : Int) (t u v w : Tok) : Gives (Builtin.«str.rfind» ⟨[.str x t, .str y u, .int i v, .int j w], []⟩) (.int (rfind4 x y i j)) := by
  show Gives (match lastOccurrence x y (fromIndex x.length i) (min (fromIndex x.length j) x.length) with | some k => retInt k | none => (do rule "str.rfind.not-found"; retInt (-1))) _
  unfold rfind4
  cases lastOccurrence x y (fromIndex x.length i) (min (fromIndex x.length j) x.length) with
  | none => exact .rule (.of_eq rfl)
  | some k => exact .of_eq rfl
theorem RepL.four {h : Heap} {t u z q : T} {vs : List Value} (r : RepL X h [t, u, z, q] vs) : ∃ v w y p, vs = [v, w, y, p] ∧ Rep X h t v ∧ Rep X h u w ∧ Rep X h z y ∧ Rep X h q p := by
  obtain ⟨v, q, rfl, a, b⟩ := r.cons'; obtain ⟨w, y, p, rfl, c, d, e⟩ := b.three; exact ⟨v, w, y, p, rfl, a, c, d, e⟩
theorem CaR.find4 {x y : Str} {i j : Int} : CaR C X (.builtin "str.find") [.str x, .str y, .int i, .int j] (.int (find4 x y i j)) := .mk fun A E s Q vs o ht g lv r hq => by
  obtain ⟨v, w, p, q, rfl, r1, r2, r3, r4⟩ := r.four
  obtain ⟨t, rfl⟩ := r1.str; obtain ⟨u, rfl⟩ := r2.str; obtain ⟨t3, rfl⟩ := r3.int; obtain ⟨t4, rfl⟩ := r4.int
  exact call_gives F.slot_str_find (typeIs_str _ _ _) F.entry_str_find (F.args_str_find_4 _ _ _ _) (gives_find4 x y i j t u t3 t4) (hq _ _ _ (Sub.refl _) (by omega) .mkInt)
theorem CaR.rfind4 {x y : Str} {i j : Int} : CaR C X (.builtin "str.rfind") [.str x, .str y, .int i, .int j] (.int (rfind4 x y i j)) := .mk fun A E s Q vs o ht g lv r hq => by
  obtain ⟨v, w, p, q, rfl, r1, r2, r3, r4⟩ := r.four
  obtain ⟨t, rfl⟩ := r1.str; obtain ⟨u, rfl⟩ := r2.str; obtain ⟨t3, rfl⟩ := r3.int; obtain ⟨t4, rfl⟩ := r4.int
  exact call_gives F.slot_str_rfind (typeIs_str _ _ _) F.entry_str_rfind (F.args_str_rfind_4 _ _ _ _) (gives_rfind4 x y i j t u t3 t4) (hq _ _ _ (Sub.refl _) (by omega) .mkInt)
theorem CaR.index {x y : Str} {i : Nat} {rest : List Nat} (h : occurrences x y 0 x.length 1 = i :: rest) : CaR C X (.builtin "str.index") [.str x, .str y] (.int i) := .mk fun A E s Q vs o ht g lv r hq => by
  obtain ⟨v, w, rfl, r1, r2⟩ := r.two
  obtain ⟨t, rfl⟩ := r1.str; obtain ⟨u, rfl⟩ := r2.str
  exact SC.index h (hq _ _ _ (Sub.refl _) (by omega) .mkInt)
theorem strVals_rep {h : Heap} : ∀ (l : List (Str × Tok)), RepL X h ((l.map (·.1)).map T.str) (strValues l)
  | [] => .empty
  | p :: l => .cons .mkStr (strVals_rep l)
theorem strVals_of {h : Heap} : ∀ {l : List Str} {vs : List Value}, RepL X h (l.map T.str) vs → ∃ ps : List (Str × Tok), vs = strValues ps ∧ ps.map (·.1) = l
  | [], vs, r => ⟨[], r.nil', rfl⟩
  | x :: l, vs, r => by
    obtain ⟨v, q, rfl, a, b⟩ := r.cons'
    obtain ⟨t, rfl⟩ := a.str
    obtain ⟨ps, rfl, e⟩ := strVals_of b
    exact ⟨(x, t) :: ps, rfl, by simp [e]⟩
theorem CaR.join {x : Str} {l : List Str} (hok : JoinOk x l = true) : CaR C X (.builtin "str.join") [.str x, .list (l.map T.str)] (.str (Txt.join x l)) := .mk fun A E s Q vs o ht g lv r hq => by
  obtain ⟨v, w, rfl, r1, r2⟩ := r.two
  obtain ⟨t, rfl⟩ := r1.str
  obtain ⟨a, ws, n, rfl, ha, e, q⟩ := r2.list
  obtain ⟨ps, rfl, e2⟩ := strVals_of q
  exact toks_up (SC.join (isList_of e) e2 hok fun t' k hk => hq _ _ k (Sub.refl _) hk .mkStr)
theorem CaR.split {x y : Str} (hy : (y.length == 0) = false) (hsz : x.length ≤ sizeLine) (hsz2 : (partsBetween x (occurrences x y 0 x.length (x.length + 1)) y.length).length ≤ sizeLine) :
    CaR C X (.builtin "str.split") [.str x, .str y] (.list ((Txt.split x y).map T.str)) := .mk fun A E s Q vs o ht g lv r hq => by
  obtain ⟨v, w, rfl, r1, r2⟩ := r.two
  obtain ⟨t, rfl⟩ := r1.str; obtain ⟨u, rfl⟩ := r2.str
  have own (hh : Txt.split x y = [x]) : Q (.ref s.heap.objs.size) { s with heap := s.heap.push { cls := .type "list", data := .seq [Value.str x t].toArray } } := by
    rw [hh] at hq
    exact hq _ _ s.toks (Sub.push _ _) (Nat.le_refl _) (.mkList (n := 0) lv.size (Heap.get?_push_size _ rfl) (.cons .mkStr .empty))
  cases h1 : (decide (x.length < y.length) || decide (strKind x < strKind y))
  · cases hf : (occurrences x y 0 x.length (x.length + 1)).isEmpty
    · refine call_meets F.slot_str_split (typeIs_str _ _ _) F.entry_str_split (F.args_str_split_2 _ _) (meets_str_split_sep x y t u h1 hy hf hsz hsz2) ?_
      show Q _ { s with toks := _, heap := s.heap.push { cls := .type "list", data := .seq (strsFrom s.toks (partsBetween x (occurrences x y 0 x.length (x.length + 1)) y.length)).toArray } }
      rw [strsFrom_eq]
      have hh : Txt.split x y = partsBetween x (occurrences x y 0 x.length (x.length + 1)) y.length := (if_neg (ne_true_of_eq_false h1)).trans (if_neg (ne_true_of_eq_false hf))
      rw [hh] at hq
      refine hq _ _ _ (Sub.push _ _) (by show s.toks ≤ s.toks + _; omega) (.mkList (n := 0) lv.size (Heap.get?_push_size _ rfl) ?_)
      have := strVals_rep (X := X) (h := s.heap.push { cls := .type "list", data := .seq (strValues (numbered s.toks (partsBetween x (occurrences x y 0 x.length (x.length + 1)) y.length))).toArray }) (numbered s.toks (partsBetween x (occurrences x y 0 x.length (x.length + 1)) y.length))
      rwa [numbered_texts] at this
    · exact call_meets F.slot_str_split (typeIs_str _ _ _) F.entry_str_split (F.args_str_split_2 _ _) (meets_str_split_not_found x y t u h1 hy hf)
        (own ((if_neg (ne_true_of_eq_false h1)).trans (if_pos hf)))
  · exact call_meets F.slot_str_split (typeIs_str _ _ _) F.entry_str_split (F.args_str_split_2 _ _) (meets_str_split_cannot_occur x y t u h1) (own (if_pos h1))

/-- a method of a text -/
theorem EvE.meth {o : Expr} {name : Str} {id : String} {e : Expr} {rest : List Expr} {apos pos : Pos} {x : Str} {ts : List T} {t : T} (pl : Sem Bool) (h0 : EvE C X σ o (.str x)) (slot : Slot "str" name id) (ty : typeOf (.builtin id) = pure (.type "method_descriptor"))
    (h : EvL C X σ (e :: rest) ts) (hc : CaR C X (.builtin id) (.str x :: ts) t)
    (he : eval (.Call (.Attribute o name apos) (e :: rest) [] pos) C.env = (do
      let ov ← eval o C.env
      standAt apos.atName
      let (f, first) ← holding [ov] (getMethod ov name pl)
      callWith pos f first (backTo pos (starEach (e :: rest) C.env)) []) := by rfl)
    (he2 : starEach (e :: rest) C.env = (false, eval e C.env) :: starEach rest C.env := by rfl) (hp : (backTo pos (starEach rest C.env)).any (·.1) = false := by rfl) :
    EvE C X σ (.Call (.Attribute o name apos) (e :: rest) [] pos) t :=
  .mk fun A E s Q ok hq => MethodCall_ (pl := pl) (he := he) (h0.run A E s _ ok fun v h1 tk1 k1 l1 r1 => by
    obtain ⟨u, rfl⟩ := r1.str
    refine GM.of (.str x u) (typeIs_str _ _ _) slot ty GM.noRef (callWith_method1 (he := he2) (hplain := hp) (h.run A E _ pos _ (ok.step k1 l1) fun vs h2 tk2 k2 l2 r2 => ?_))
    exact hc.run A E _ Q _ ok.a (Nat.le_trans ok.t (Nat.le_trans l1 l2)) ((ok.g.sub k1).sub k2) ((ok.l.sub k1).sub k2) (.cons .mkStr r2) ((hq.step k1 l1).step k2 l2))

/-- list.index -/
theorem CaR.list_index_str {l : List Str} {x : Str} {j : Nat} (hj : l[j]? = some x) (hno : ∀ i, i < j → l[i]? ≠ some x) (hsz : l.length ≤ sizeLine) : CaR C X (.builtin "list.index") [.list (l.map T.str), .str x] (.int j) := .mk fun A E s Q vs o ht g lv r hq => by
  obtain ⟨v, w, rfl, r1, r2⟩ := r.two
  obtain ⟨u, rfl⟩ := r2.str
  obtain ⟨a, ws, n, rfl, ha, e, q⟩ := r1.list
  have hlen : ws.length = l.length := by rw [q.length, List.length_map]
  have hjl : j < l.length := by
    rcases Nat.lt_or_ge j l.length with h | h
    · exact h
    · rw [List.getElem?_eq_none h] at hj; cases hj
  have at_ : ∀ i (hi : i < ws.toArray.size), ∃ y t, l[i]? = some y ∧ ws.toArray[i] = .str y t := fun i hi => by
    have hi' : i < ws.length := by simpa using hi
    obtain ⟨y, t, h1, h2⟩ := q.strs (i := i) (v := ws[i]) (by simp [hi'])
    exact ⟨y, t, h1, by simpa using h2⟩
  have hjw : j < ws.toArray.size := by rw [List.size_toArray, hlen]; exact hjl
  refine call_meets F.slot_list_index ⟨_, e, rfl⟩ F.entry_list_index (F.args_list_index_2 _ _) (MeetsSeq.list_index a ws.toArray n (.str x u) (fun v => match v with | .str y _ => y.cps.toList == x.cps.toList | _ => false) (fun y hy => ?_) j hjw ?_ ?_ (fun i hi hij => ?_))
    ⟨e, hq _ _ _ (Sub.refl _) (by omega) .mkInt⟩
  · obtain ⟨i, hi, rfl⟩ := Array.mem_iff_getElem.mp hy
    obtain ⟨z, t, _, h2⟩ := at_ i hi
    rw [h2]; exact SeqRoads2.EqGives.str z x t u
  · have := fits63 hsz; have : (sizeLine : Int) < 2 ^ 63 - 1 := by decide
    omega
  · obtain ⟨z, t, h1, h2⟩ := at_ j hjw
    rw [h2]; rw [hj] at h1; cases h1
    exact beq_self_eq_true _
  · obtain ⟨z, t, h1, h2⟩ := at_ i hi
    rw [h2]
    cases hb : (z.cps.toList == x.cps.toList) with
    | false => exact hb
    | true =>
      rw [toList_beq] at hb
      rw [beq_iff_eq.mp hb] at h1
      exact absurd h1 (hno i hij)
theorem CaR.list_index_int {l : List Int} {x : Int} {j : Nat} (hj : l[j]? = some x) (hno : ∀ i, i < j → l[i]? ≠ some x) (hsz : l.length ≤ sizeLine) : CaR C X (.builtin "list.index") [.list (l.map T.int), .int x] (.int j) := .mk fun A E s Q vs o ht g lv r hq => by
  obtain ⟨v, w, rfl, r1, r2⟩ := r.two
  obtain ⟨u, rfl⟩ := r2.int
  obtain ⟨a, ws, n, rfl, ha, e, q⟩ := r1.list
  have hlen : ws.length = l.length := by rw [q.length, List.length_map]
  have hjl : j < l.length := by
    rcases Nat.lt_or_ge j l.length with h | h
    · exact h
    · rw [List.getElem?_eq_none h] at hj; cases hj
  have at_ : ∀ i (hi : i < ws.toArray.size), ∃ y t, l[i]? = some y ∧ ws.toArray[i] = .int y t := fun i hi => by
    have hi' : i < ws.length := by simpa using hi
    obtain ⟨y, t, h1, h2⟩ := q.ints (i := i) (v := ws[i]) (by simp [hi'])
    exact ⟨y, t, h1, by simpa using h2⟩
  have hjw : j < ws.toArray.size := by rw [List.size_toArray, hlen]; exact hjl
  refine call_meets F.slot_list_index ⟨_, e, rfl⟩ F.entry_list_index (F.args_list_index_2 _ _) (MeetsSeq.list_index a ws.toArray n (.int x u) (fun v => match v with | .int y _ => y == x | _ => false) (fun y hy => ?_) j hjw ?_ ?_ (fun i hi hij => ?_))
    ⟨e, hq _ _ _ (Sub.refl _) (by omega) .mkInt⟩
  · obtain ⟨i, hi, rfl⟩ := Array.mem_iff_getElem.mp hy
    obtain ⟨z, t, _, h2⟩ := at_ i hi
    rw [h2]; exact MeetsSeq.EqGives.int z x t u
  · have := fits63 hsz; have : (sizeLine : Int) < 2 ^ 63 - 1 := by decide
    omega
  · obtain ⟨z, t, h1, h2⟩ := at_ j hjw
    rw [h2]; rw [hj] at h1; cases h1
    exact beq_self_eq_true _
  · obtain ⟨z, t, h1, h2⟩ := at_ i hi
    rw [h2]
    cases hb : (z == x) with
    | false => exact hb
    | true =>
      rw [beq_iff_eq.mp hb] at h1
      exact absurd h1 (hno i hij)

/-- a method of a list that only reads -/
theorem EvE.lmeth {o : Expr} {name : Str} {id : String} {e : Expr} {rest : List Expr} {apos pos : Pos} {l ts : List T} {t : T} (pl : Sem Bool) (h0 : EvE C X σ o (.list l)) (slot : Slot "list" name id) (ty : typeOf (.builtin id) = pure (.type "method_descriptor"))
    (h : EvL C X σ (e :: rest) ts) (hc : CaR C X (.builtin id) (.list l :: ts) t)
    (he : eval (.Call (.Attribute o name apos) (e :: rest) [] pos) C.env = (do
      let ov ← eval o C.env
      standAt apos.atName
      let (f, first) ← holding [ov] (getMethod ov name pl)
      callWith pos f first (backTo pos (starEach (e :: rest) C.env)) []) := by rfl)
    (he2 : starEach (e :: rest) C.env = (false, eval e C.env) :: starEach rest C.env := by rfl) (hp : (backTo pos (starEach rest C.env)).any (·.1) = false := by rfl) :
    EvE C X σ (.Call (.Attribute o name apos) (e :: rest) [] pos) t :=
  .mk fun A E s Q ok hq => MethodCall_ (pl := pl) (he := he) (h0.run A E s _ ok fun v h1 tk1 k1 l1 r1 => by
    obtain ⟨a, vs, n, rfl, ha, e1, q⟩ := r1.list
    refine getMethod_builtin ⟨_, e1, rfl⟩ F.plainAttrs_list slot ty (fun b eb => by cases eb; exact ⟨_, e1, rfl⟩) (callWith_method1 (he := he2) (hplain := hp) (h.run A E _ pos _ (ok.step k1 l1) fun vs h2 tk2 k2 l2 r2 => ?_))
    exact hc.run A E _ Q _ ok.a (Nat.le_trans ok.t (Nat.le_trans l1 l2)) ((ok.g.sub k1).sub k2) ((ok.l.sub k1).sub k2) (.cons (r1.sub k2) r2) ((hq.step k1 l1).step k2 l2))

/- items and slices -/
theorem EvE.item {value slice : Expr} {pos : Pos} {l : List T} {k : Int} {t : T} (h1 : EvE C X σ value (.list l)) (h2 : EvE C X σ slice (.int k)) (h0 : 0 ≤ k) (hk : l[k.toNat]? = some t) (hsz : l.length ≤ sizeLine)
    (hs : ∀ a u, subscripted slice false (.ref a) (.int k u) = operate [.ref a, .int k u] (getItem (.ref a) (.int k u)) := by intro _ _; rfl) : EvE C X σ (.Subscript value slice pos) t :=
  .mk fun A E s Q o hq => Subscript_ (h1.run A E s _ o fun v ha tk1 k1 l1 r1 => h2.run A E _ _ (o.step k1 l1) fun i hb tk2 k2 l2 r2 => by
    obtain ⟨a, vs, n, rfl, hx, e, q⟩ := (r1.sub k2).list
    obtain ⟨u, rfl⟩ := r2.int
    obtain ⟨v, hv, rv⟩ := q.get hk
    have hlt : k < 2 ^ 63 := by
      have : k.toNat < l.length := by
        rcases Nat.lt_or_ge k.toNat l.length with h | h
        · exact h
        · rw [List.getElem?_eq_none h] at hk; cases hk
      have := fits63 hsz; omega
    exact tail_any (isList_of e).typeIs slot_list_getitem.lookup (wpAny_getItem_list (isList_of e) h0 hlt (by simpa using hv) (hq _ _ _ (k1.trans k2) (Nat.le_trans l1 l2) rv)) (hs a u))
theorem EvE.itemNeg {value slice : Expr} {pos : Pos} {l : List T} {k : Int} {t : T} (h1 : EvE C X σ value (.list l)) (h2 : EvE C X σ slice (.int k)) (h0 : k < 0) (h00 : -(l.length : Int) ≤ k) (hk : l[(k + l.length).toNat]? = some t) (hsz : l.length ≤ sizeLine)
    (hs : ∀ a u, subscripted slice false (.ref a) (.int k u) = operate [.ref a, .int k u] (getItem (.ref a) (.int k u)) := by intro _ _; rfl) : EvE C X σ (.Subscript value slice pos) t :=
  .mk fun A E s Q o hq => Subscript_ (h1.run A E s _ o fun v ha tk1 k1 l1 r1 => h2.run A E _ _ (o.step k1 l1) fun i hb tk2 k2 l2 r2 => by
    obtain ⟨a, vs, n, rfl, hx, e, q⟩ := (r1.sub k2).list
    obtain ⟨u, rfl⟩ := r2.int
    have hq' := q.length
    obtain ⟨v, hv, rv⟩ := q.get hk
    have hlt : -(2 ^ 63) ≤ k := by have := fits63 hsz; omega
    exact tail_any (isList_of e).typeIs slot_list_getitem.lookup (wpAny_getItem_list_neg (isList_of e) h0 (by rw [List.size_toArray, hq']; exact h00) hlt (by rw [List.size_toArray, hq']; simpa using hv) (hq _ _ _ (k1.trans k2) (Nat.le_trans l1 l2) rv)) (hs a u))

/-- a bound of a slice -/
structure EvP (C : Cx) (X : List Addr) (σ : List (Str × T)) (e : Option Expr) (k : Option Int) : Prop where
  run : ∀ (A : Around) (E : Value → Shared → Prop) (s : Shared) (Q : Value → Shared → Prop), StOk C X σ A s →
    (∀ v h' tk p, Sub s.heap h' → s.toks ≤ tk → v = partValue p → p.map (·.1) = k → IsPart v k → Q v { s with heap := h', toks := tk }) → wpAny (model C.prog C.w) A (evalPart e C.env) Q E s
theorem EvP.none : EvP C X σ none none := .mk fun A E s Q o hq => by
  rw [evalPart_none]; exact wpAny_pure (hq _ s.heap s.toks Option.none (Sub.refl _) (Nat.le_refl _) rfl rfl .none)
theorem EvP.some {e : Expr} {k : Int} (h : EvE C X σ e (.int k)) : EvP C X σ (some e) (some k) := .mk fun A E s Q o hq => by
  rw [evalPart_some]
  exact h.run A E s Q o fun v h' tk k1 l1 r => by
    obtain ⟨t, rfl⟩ := r.int
    exact hq _ h' tk (Option.some (k, t)) k1 l1 rfl rfl (.int k t)
theorem EvE.sliceL {value : Expr} {lower upper : Option Expr} {p pos : Pos} {l m : List T} {lo hi : Option Int} (h1 : EvE C X σ value (.list l)) (h2 : EvP C X σ lower lo) (h3 : EvP C X σ upper hi) (hsz : l.length ≤ sizeLine)
    (hm : ∀ (h : Heap) (vs : List Value), RepL X h l vs → RepL X h m (slicePick vs.toArray lo hi Option.none).toList)
    (ht : ∀ o r, letTemporaryGo value o r = pure () := by intro _ _; rfl) : EvE C X σ (.Subscript value (.Slice lower upper Option.none p) pos) (.list m) :=
  .mk fun A E s Q o hq => wpAny_Subscript_list_slice (ht := ht) (h1.run A E s _ o fun v ha tk1 k1 l1 r1 => h2.run A E _ _ (o.step k1 l1) fun vl hb tk2 pl k2 l2 e2 e2' p2 => h3.run A E _ _ ((o.step k1 l1).step k2 l2) fun vu hc tk3 pu k3 l3 e3 e3' p3 => by
    obtain ⟨a, vs, n, rfl, hx, e, q⟩ := ((r1.sub k2).sub k3).list
    refine ⟨a, vs.toArray, lo, hi, rfl, isList_of e, by rw [List.size_toArray, q.length]; exact hsz, p2, p3, ?_⟩
    have kk : Sub s.heap hc := (k1.trans k2).trans k3
    refine hq _ _ tk3 (fun b o' eb => Heap.get?_push_of_some _ (Heap.get?_push_of_some _ (kk b o' eb))) (Nat.le_trans l1 (Nat.le_trans l2 l3)) (.mkList (vs := (slicePick vs.toArray lo hi Option.none).toList) (n := 0) (fun m => ?_) ?_ ?_)
    · obtain ⟨o', eo⟩ := o.l _ m
      have := Heap.lt_size (kk _ _ eo)
      have e' : hc.objs.size + 1 < hc.objs.size := this
      omega
    · have := Heap.get?_push_size (hc.push { cls := .type "slice", data := .fields #[vl, vu, .none] }) (o := { cls := .type "list", data := .seq (slicePick vs.toArray lo hi Option.none) }) rfl
      rw [Heap.size_push] at this
      rw [this]
    · exact (hm _ vs q).sub fun b o' eb => Heap.get?_push_of_some _ (Heap.get?_push_of_some _ eb))
theorem slice_len {x : Str} (lo hi : Option Int) (hx : x.length ≤ sizeLine) : (⟨((PySem.Builtin.Str.strSliceIndices lo hi 1 x.length).filterMap (x.cps[·]?)).toArray⟩ : Str).length ≤ sizeLine ∨ True := .inr trivial
theorem EvE.sliceS {value : Expr} {lower upper : Option Expr} {p pos : Pos} {x : Str} {lo hi : Option Int} (h1 : EvE C X σ value (.str x)) (h2 : EvP C X σ lower lo) (h3 : EvP C X σ upper hi)
    (hsz : (StrLaws.sliceText x lo hi).length ≤ sizeLine)
    (ht : ∀ o r, letTemporaryGo value o r = pure () := by intro _ _; rfl) : EvE C X σ (.Subscript value (.Slice lower upper Option.none p) pos) (.str (StrLaws.sliceText x lo hi)) :=
  .mk fun A E s Q o hq => wpAny_Subscript_str_slice (ht := ht) (h1.run A E s _ o fun v ha tk1 k1 l1 r1 => h2.run A E _ _ (o.step k1 l1) fun vl hb tk2 pl k2 l2 e2 e2' p2 => h3.run A E _ _ ((o.step k1 l1).step k2 l2) fun vu hc tk3 pu k3 l3 e3 e3' p3 => by
    obtain ⟨t, rfl⟩ := r1.str
    refine ⟨x, t, pl, pu, rfl, e2, e3, ?_⟩
    have kk : Sub s.heap hc := (k1.trans k2).trans k3
    subst e2' e3'
    unfold sliceMade
    have fin : ∀ t' k, tk3 ≤ k → Q (.str (StrLaws.sliceText x (pl.map (·.1)) (pu.map (·.1))) t') { s with heap := hc.push { cls := .type "slice", data := .fields #[vl, vu, .none] }, toks := k } := fun t' k hk =>
      hq _ _ k (fun b o' eb => Heap.get?_push_of_some _ (kk b o' eb)) (Nat.le_trans l1 (Nat.le_trans l2 (Nat.le_trans l3 hk))) .mkStr
    by_cases hc : (((Option.map (fun x : Int × Tok => x.fst) (Option.none : Option (Int × Tok))).getD 1 == 1 && (slicePicked x pl pu Option.none).length == x.length) = true)
    · rw [if_pos hc]
      have e : StrLaws.sliceText x (pl.map (·.1)) (pu.map (·.1)) = x := if_pos hc
      rw [e] at fin
      exact fin t tk3 (Nat.le_refl _)
    · rw [if_neg hc]
      have e : StrLaws.sliceText x (pl.map (·.1)) (pu.map (·.1)) = ⟨((slicePicked x pl pu Option.none).filterMap (x.cps[·]?)).toArray⟩ := if_neg hc
      rw [e] at fin hsz
      exact ⟨hsz, fin _ _ (Nat.le_succ _)⟩)
end
end Mine
end

-- Core5
section
open PySem PySem.W PyProof.Rows PySem.Calls PySem.Spec
set_option maxRecDepth 100000
namespace Mine
open PySem (Expr)

mutual
theorem Rep.more {X X' : List Addr} {h : Heap} (hX : ∀ a, a ∈ X' → a ∈ X ∨ h.get? a = none) : ∀ {t : T} {v : Value}, Rep X h t v → Rep X' h t v
  | .none, v, e => by simpa only [Rep] using e
  | .bool b, v, e => by simpa only [Rep] using e
  | .int i, v, e => by simpa only [Rep] using e
  | .str s, v, e => by simpa only [Rep] using e
  | .ref a, v, e => by simpa only [Rep] using e
  | .list l, v, e => by
    simp only [Rep] at e ⊢
    obtain ⟨a, vs, n, e1, e2, e3, e4⟩ := e
    exact ⟨a, vs, n, e1, fun m => (hX a m).elim e2 (fun q => by rw [q] at e3; cases e3), e3, RepL.more hX e4⟩
  | .tup l, v, e => by
    simp only [Rep] at e ⊢
    obtain ⟨a, vs, n, e1, e2, e3, e4⟩ := e
    exact ⟨a, vs, n, e1, fun m => (hX a m).elim e2 (fun q => by rw [q] at e3; cases e3), e3, RepL.more hX e4⟩
theorem RepL.more {X X' : List Addr} {h : Heap} (hX : ∀ a, a ∈ X' → a ∈ X ∨ h.get? a = none) : ∀ {l : List T} {vs : List Value}, RepL X h l vs → RepL X' h l vs
  | [], vs, e => by simpa only [RepL] using e
  | t :: ts, vs, e => by
    simp only [RepL] at e ⊢
    obtain ⟨v, r, e1, e2, e3⟩ := e
    exact ⟨v, r, e1, Rep.more hX e2, RepL.more hX e3⟩
end

/-- names: the new value of one -/
inductive Off (x : Str) : List (Str × T) → Prop
  | nil : Off x []
  | cons {y : Str} {u : T} {σ : List (Str × T)} : y ≠ x → Off x σ → Off x ((y, u) :: σ)
inductive Put (x : Str) (t : T) : List (Str × T) → List (Str × T) → Prop
  | nil : Put x t [] [(x, t)]
  | hit {u : T} {σ : List (Str × T)} : Off x σ → Put x t ((x, u) :: σ) ((x, t) :: σ)
  | miss {y : Str} {u : T} {σ σ' : List (Str × T)} : y ≠ x → Put x t σ σ' → Put x t ((y, u) :: σ) ((y, u) :: σ')
theorem Off.mem {x : Str} {σ : List (Str × T)} (h : Off x σ) : ∀ p, p ∈ σ → p.1 ≠ x := by
  induction h with
  | nil => intro p hp; cases hp
  | cons hy _ ih =>
    intro p hp
    cases hp with
    | head => exact hy
    | tail _ hp => exact ih p hp
theorem Put.mem {x : Str} {t : T} {σ σ' : List (Str × T)} (h : Put x t σ σ') : ∀ p, p ∈ σ' → p = (x, t) ∨ (p ∈ σ ∧ p.1 ≠ x) := by
  induction h with
  | nil => intro p hp; cases hp with
    | head => exact .inl rfl
    | tail _ hp => cases hp
  | hit ho => intro p hp; cases hp with
    | head => exact .inl rfl
    | tail _ hp => exact .inr ⟨.tail _ hp, ho.mem p hp⟩
  | miss hy _ ih => intro p hp; cases hp with
    | head => exact .inr ⟨.head _, hy⟩
    | tail _ hp => exact (ih p hp).imp id fun q => ⟨.tail _ q.1, q.2⟩

/-- where a name is kept -/
noncomputable def Sto (env : Env) (x : Str) : Prop := env.kindOf x = some .local ∨ (env.kindOf x = some .cell ∧ (x == ("__classdict__" : Str)) = false ∧ ∃ c, env.cells.lookup x = some c)
/-- no list and no tuple lies there -/
noncomputable def NoSeq (h : Heap) (b : Addr) : Prop := ∀ o, h.get? b = some o → ∀ l n, o ≠ lstObj l n ∧ o ≠ tupObj l n
theorem ns_noSeq {h : Heap} {b : Addr} {m : Str → Option Value} (x : h.Ns b m) : NoSeq h b := fun o e l n => by
  obtain ⟨o', es, ep, e', hd, _⟩ := x
  rw [e] at e'; cases e'
  exact ⟨fun q => (by rw [q] at hd; cases hd), fun q => (by rw [q] at hd; cases hd)⟩
theorem cell_noSeq {h : Heap} {b : Addr} {v : Option Value} (x : h.IsCell b v) : NoSeq h b := fun o e l n => by
  obtain ⟨o', e', hd⟩ := x
  rw [e] at e'; cases e'
  exact ⟨fun q => (by rw [q] at hd; cases hd), fun q => (by rw [q] at hd; cases hd)⟩
theorem ns_ne_cell {h : Heap} {a b : Addr} {m : Str → Option Value} {v : Option Value} (x : h.Ns a m) (y : h.IsCell b v) : a ≠ b := by
  rintro rfl
  obtain ⟨o', es, ep, e', hd, _⟩ := x
  obtain ⟨o, e, hd'⟩ := y
  rw [e] at e'; cases e'
  rw [hd] at hd'; cases hd'
theorem Sees.but {X : List Addr} {h h' : Heap} {b : Addr} (hs : Heap.SameBut b h h') (hb : NoSeq h b) : Sees X h h' := fun a o ha ⟨l, n, hl⟩ e => by
  refine (hs.2 a ?_).trans e
  rintro rfl
  rcases hl with rfl | rfl
  · exact (hb _ e l n).1 rfl
  · exact (hb _ e l n).2 rfl

/-- a name is stored: what changes -/
structure Stored (env : Env) (x : Str) (v : Value) (h h' : Heap) : Prop where
  ch : ∃ b, Heap.SameBut b h h' ∧ NoSeq h b ∧ (b = env.locals ∨ (env.kindOf x = some .cell ∧ env.cells.lookup x = some b))
  lv : ∀ c, (∃ o, h.get? c = some o) → ∃ o, h'.get? c = some o
  rd : Reads env h' x v
  ns : ∃ m, h'.Ns env.locals m
  cl : ∀ c v0, h.IsCell c v0 → ∃ v1, h'.IsCell c v1
  old : ∀ y w, y ≠ x → (env.kindOf x = some .cell → ∀ c c', env.cells.lookup x = some c → env.cells.lookup y = some c' → c' ≠ c) → Reads env h y w → Reads env h' y w

theorem same_live {h h' : Heap} {b : Addr} (hs : Heap.SameBut b h h') (hb : ∃ o, h'.get? b = some o) (c : Addr) (hc : ∃ o, h.get? c = some o) : ∃ o, h'.get? c = some o := by
  by_cases q : c = b
  · subst q; exact hb
  · obtain ⟨o, e⟩ := hc; exact ⟨o, (hs.2 c q).trans e⟩
theorem store_any {M : Model} {A : Around} {E : Value → Shared → Prop} {s : Shared} {env : Env} {x : Str} {v : Value} {Q : Unit → Shared → Prop} (hk : env.scope.kind = .function) (hn : ∃ m, s.heap.Ns env.locals m)
    (hc : ∀ c, env.kindOf x = some .cell → env.cells.lookup x = some c → ∃ v0, s.heap.IsCell c v0) (hx : Sto env x)
    (h : ∀ h' tk, s.toks ≤ tk → Stored env x v s.heap h' → Q () { s with heap := h', toks := tk }) : wpAny M A (storeName env x v) Q E s := by
  obtain ⟨m, hm⟩ := hn
  rcases hx with hx | ⟨hx, hcd, c, hl⟩
  · refine wpAny_storeName_local hx hm (fun h' hn' hs => h h' _ (Nat.le_succ _) ⟨⟨_, hs, ns_noSeq hm, .inl rfl⟩, same_live hs (let ⟨o', _, _, e', _⟩ := hn'; ⟨o', e'⟩), .inl ⟨hx, _, hn', if_pos rfl⟩, ⟨_, hn'⟩, fun c v0 ic => ⟨v0, ic.sameBut hs (Ne.symm (ns_ne_cell hm ic))⟩, fun y w hy _ r => ?_⟩) (by rw [hk]; rfl)
    rcases r with ⟨a, m', b, c⟩ | ⟨a, a', c, b, d⟩
    · refine .inl ⟨a, _, hn', ?_⟩
      rw [if_neg hy]
      obtain ⟨o, es, ep, e1, e2, _, e3⟩ := hm
      obtain ⟨o', es', ep', e1', e2', _, e3'⟩ := b
      rw [e1] at e1'; cases e1'
      rw [e2] at e2'; cases e2'
      rw [← e3 y, e3' y]; exact c
    · exact .inr ⟨a, a', c, b, d.sameBut hs (Ne.symm (ns_ne_cell hm d))⟩
  · obtain ⟨v0, ic⟩ := hc c hx hl
    refine wpAny_storeName_cell hk hx hl ic fun h' hv hs => h h' s.toks (Nat.le_refl _) ⟨⟨_, hs, cell_noSeq ic, .inr ⟨hx, hl⟩⟩, same_live hs (let ⟨o', e', _⟩ := hv; ⟨o', e'⟩), .inr ⟨.inl hx, hcd, c, hl, hv⟩, ⟨_, hm.sameBut hs (ns_ne_cell hm ic)⟩, fun c' v1 ic' => ?_, fun y w hy hap r => ?_⟩
    · by_cases hcc : c' = c
      · subst hcc; exact ⟨_, hv⟩
      · exact ⟨v1, ic'.sameBut hs hcc⟩
    · rcases r with ⟨a, m', b, e⟩ | ⟨a, a', c', b, d⟩
      · exact .inl ⟨a, m', b.sameBut hs (ns_ne_cell b ic), e⟩
      · exact .inr ⟨a, a', c', b, d.sameBut hs (hap hx c c' hl b)⟩

theorem Stored.sees {env : Env} {x : Str} {v : Value} {h h' : Heap} (S : Stored env x v h h') {X : List Addr} : Sees X h h' := by
  obtain ⟨b, hs, hb, _⟩ := S.ch
  exact .but hs hb
theorem Stored.rd' {env : Env} {x : Str} {v : Value} {t : T} {h h' : Heap} {X : List Addr} {σ σ' : List (Str × T)} (S : Stored env x v h h') (hap : env.kindOf x = some .cell → ∀ y c c', y ≠ x → env.cells.lookup x = some c → env.cells.lookup y = some c' → c' ≠ c)
    (hp : ∀ p, p ∈ σ' → p = (x, t) ∨ (p ∈ σ ∧ p.1 ≠ x)) (r : Rd X env σ h) (rv : Rep X h t v) : Rd X env σ' h' := ⟨fun p m => by
  rcases hp p m with rfl | ⟨m, hne⟩
  · exact ⟨v, S.rd, rv.sees (fun _ m => m) S.sees⟩
  · obtain ⟨w, hw, rw⟩ := r.val p m
    exact ⟨w, S.old p.1 w hne (fun hk c c' => hap hk p.1 c c' hne) hw, rw.sees (fun _ m => m) S.sees⟩⟩

/- the state between statements -/
structure St (C : Cx) (X : List Addr) (B : Addr → Obj → Prop) (σ : List (Str × T)) (α : List (Addr × List T)) (h : Heap) : Prop where
  b : ∀ a o, B a o → h.get? a = some o
  ns : ∃ m, h.Ns C.env.locals m
  cl : ∀ n c, C.env.cells.lookup n = some c → ∃ v, h.IsCell c v
  nb : ∀ o, ¬ B C.env.locals o
  cb : ∀ n c, C.env.cells.lookup n = some c → ∀ o, ¬ B c o
  nd : (α.map (·.1)).Nodup
  own : ∀ p, p ∈ α → ∃ vs n, h.get? p.1 = some (lstObj vs n) ∧ RepL (α.map (·.1) ++ X) h p.2 vs
  ob : ∀ p, p ∈ α → ∀ o, ¬ B p.1 o
  rd : Rd (α.map (·.1) ++ X) C.env σ h
structure BOk (C : Cx) (X : List Addr) (B : Addr → Obj → Prop) : Prop where
  gl : ∀ h : Heap, (∀ a o, B a o → h.get? a = some o) → Gl C.K C.mg C.mb h
  live : ∀ a, a ∈ X → ∃ o, B a o
structure EnvC (C : Cx) : Prop where
  ok : EnvOk C
  ap : C.env.cells.Pairwise fun x y => x.2 ≠ y.2

inductive Out where
  | next (σ : List (Str × T)) (α : List (Addr × List T))
  | ret (t : T)
noncomputable def Post (C : Cx) (X : List Addr) (B : Addr → Obj → Prop) : Out → Flow → Heap → Prop
  | .next σ α, f, h => f = .next ∧ St C X B σ α h
  | .ret t, f, h => ∃ v, f = .ret v ∧ (∀ a o, B a o → h.get? a = some o) ∧ Rep X h t v

structure Ex1 (C : Cx) (X : List Addr) (σ : List (Str × T)) (α : List (Addr × List T)) (b : Stmt) (K : Out → Prop) : Prop where
  run : ∀ (A : Around) (E : Value → Shared → Prop) (s : Shared) (B : Addr → Obj → Prop) (Q : Flow → Shared → Prop), OkA C.n A → BOk C X B → St C X B σ α s.heap → C.t0 ≤ s.toks →
    (∀ out f h' tk, K out → Post C X B out f h' → s.toks ≤ tk → Q f { s with heap := h', toks := tk }) → wpAny (model C.prog C.w) A (exec b C.env) Q E s
structure ExL (C : Cx) (X : List Addr) (σ : List (Str × T)) (α : List (Addr × List T)) (b : List Stmt) (K : Out → Prop) : Prop where
  run : ∀ (A : Around) (E : Value → Shared → Prop) (s : Shared) (B : Addr → Obj → Prop) (Q : Flow → Shared → Prop), OkA C.n A → BOk C X B → St C X B σ α s.heap → C.t0 ≤ s.toks →
    (∀ out f h' tk, K out → Post C X B out f h' → s.toks ≤ tk → Q f { s with heap := h', toks := tk }) → wpAny (model C.prog C.w) A (execs b C.env) Q E s
/-- go on with the rest -/
noncomputable def Then (C : Cx) (X : List Addr) (rest : List Stmt) (K : Out → Prop) : Out → Prop
  | .next σ α => ExL C X σ α rest K
  | .ret t => K (.ret t)

section
variable {C : Cx} {X : List Addr} {σ σ' : List (Str × T)} {α α' : List (Addr × List T)} {K K' : Out → Prop} {rest : List Stmt} {B : Addr → Obj → Prop} {h : Heap}

theorem St.live (S : St C X B σ α h) (b : BOk C X B) : Live (α.map (·.1) ++ X) h := fun a m => by
  rcases List.mem_append.mp m with m | m
  · obtain ⟨p, hp, rfl⟩ := List.mem_map.mp m
    obtain ⟨vs, n, e, _⟩ := S.own p hp
    exact ⟨_, e⟩
  · obtain ⟨o, e⟩ := b.live a m
    exact ⟨o, S.b a o e⟩
theorem St.liveX (S : St C X B σ α h) (b : BOk C X B) : Live X h := fun a m => S.live b a (List.mem_append_right _ m)
theorem St.ok {A : Around} {s : Shared} (S : St C X B σ α s.heap) (b : BOk C X B) (a : OkA C.n A) (t : C.t0 ≤ s.toks) : StOk C (α.map (·.1) ++ X) σ A s :=
  ⟨a, S.live b, b.gl _ S.b, S.rd, t, fun n c hp => let ⟨v, o, e, _⟩ := S.cl n c hp; ⟨o, e⟩⟩
/-- more heap -/
theorem St.grow (S : St C X B σ α h) {h' : Heap} (k : Sub h h') : St C X B σ α h' :=
  ⟨fun a o e => k a o (S.b a o e), let ⟨m, e⟩ := S.ns; ⟨m, e.keeps k⟩, fun n c hp => let ⟨v, e⟩ := S.cl n c hp; ⟨v, e.keeps k⟩, S.nb, S.cb, S.nd,
    fun p hp => let ⟨vs, n, e, r⟩ := S.own p hp; ⟨vs, n, k _ _ e, r.sub k⟩, S.ob, S.rd.sub k⟩
theorem St.weak (S : St C X B σ α h) (hs : ∀ p, p ∈ σ' → p ∈ σ) : St C X B σ' α h := ⟨S.b, S.ns, S.cl, S.nb, S.cb, S.nd, S.own, S.ob, ⟨fun p hp => S.rd.val p (hs p hp)⟩⟩

/-- reading the own lists as lists -/
inductive Thaw (α : List (Addr × List T)) (σ : List (Str × T)) : List (Str × T) → Prop
  | nil : Thaw α σ []
  | keep {p : Str × T} {σ' : List (Str × T)} : p ∈ σ → Thaw α σ σ' → Thaw α σ (p :: σ')
  | own {x : Str} {a : Addr} {l : List T} {σ' : List (Str × T)} : (x, .ref a) ∈ σ → (a, l) ∈ α → Thaw α σ σ' → Thaw α σ ((x, .list l) :: σ')
  | rows {x : Str} {as : List Addr} {ls : List (List T)} {σ' : List (Str × T)} : (x, .list (as.map .ref)) ∈ σ → as.length = ls.length → (∀ p, p ∈ as.zip ls → p ∈ α) → Thaw α σ σ' → Thaw α σ ((x, .list (ls.map .list)) :: σ')
theorem Thaw.sub {α : List (Addr × List T)} {σ : List (Str × T)} : ∀ {τ : List (Str × T)}, (∀ p, p ∈ τ → p ∈ σ) → Thaw α σ τ
  | [], _ => .nil
  | p :: τ, h => .keep (h p (.head _)) (Thaw.sub fun q m => h q (.tail _ m))
theorem Thaw.refl {α : List (Addr × List T)} {σ : List (Str × T)} : Thaw α σ σ := .sub fun _ m => m
theorem thaw_rows {F X : List Addr} {h : Heap} (hF : ∀ a, a ∈ F → a ∉ X) {α : List (Addr × List T)} (own : ∀ p, p ∈ α → ∃ vs n, h.get? p.1 = some (lstObj vs n) ∧ RepL X h p.2 vs) (hX : ∀ p, p ∈ α → p.1 ∉ X) :
    ∀ {as : List Addr} {ls : List (List T)} {vs : List Value}, as.length = ls.length → (∀ p, p ∈ as.zip ls → p ∈ α) → RepL (F ++ X) h (as.map .ref) vs → RepL X h (ls.map .list) vs
  | [], [], vs, _, _, r => by rw [r.nil']; exact .empty
  | a :: as, l :: ls, vs, hl, hz, r => by
    obtain ⟨v, q, rfl, r1, r2⟩ := r.cons'
    have e := r1.ref
    subst e
    obtain ⟨ws, n, e1, e2⟩ := own (a, l) (hz _ (by simp))
    refine .cons (.mkList (hX (a, l) (hz _ (by simp))) e1 e2) (thaw_rows hF own hX (by simpa using hl) (fun p hp => hz p (by simp [hp])) r2)
theorem St.thaw (S : St C X B σ α h) (b : BOk C X B) (t : Thaw α σ σ') : Rd X C.env σ' h := by
  have mono : ∀ {t : T} {v : Value}, Rep (α.map (·.1) ++ X) h t v → Rep X h t v := fun r => r.more fun a m => .inl (List.mem_append_right _ m)
  have monoL : ∀ {t : List T} {v : List Value}, RepL (α.map (·.1) ++ X) h t v → RepL X h t v := fun r => r.more fun a m => .inl (List.mem_append_right _ m)
  have hX : ∀ p, p ∈ α → p.1 ∉ X := fun p hp m => by obtain ⟨o, e⟩ := b.live _ m; exact S.ob p hp o e
  induction t with
  | nil => exact ⟨fun p hp => by cases hp⟩
  | keep hm _ ih => exact ⟨fun p hp => by
      cases hp with
      | head => obtain ⟨v, hv, r⟩ := S.rd.val _ hm; exact ⟨v, hv, mono r⟩
      | tail _ hp => exact ih.val p hp⟩
  | own hm ha _ ih => exact ⟨fun p hp => by
      cases hp with
      | head =>
        obtain ⟨v, hv, r⟩ := S.rd.val _ hm
        obtain ⟨vs, n, e1, e2⟩ := S.own _ ha
        exact ⟨v, hv, by rw [r.ref]; exact .mkList (hX _ ha) e1 (monoL e2)⟩
      | tail _ hp => exact ih.val p hp⟩
  | rows hm hl hz _ ih => exact ⟨fun p hp => by
      cases hp with
      | head =>
        obtain ⟨v, hv, r⟩ := S.rd.val _ hm
        obtain ⟨a, vs, n, rfl, ha, e, q⟩ := r.list
        refine ⟨_, hv, .mkList (fun m => ha (List.mem_append_right _ m)) e (thaw_rows (α := α) (fun a m => ?_) (fun p hp => let ⟨vs, n, e1, e2⟩ := S.own p hp; ⟨vs, n, e1, monoL e2⟩) hX hl hz q)⟩
        obtain ⟨p, hp, rfl⟩ := List.mem_map.mp m
        exact hX p hp
      | tail _ hp => exact ih.val p hp⟩
theorem St.okT {A : Around} {s : Shared} (S : St C X B σ α s.heap) (b : BOk C X B) (a : OkA C.n A) (t : C.t0 ≤ s.toks) (th : Thaw α σ σ') : StOk C X σ' A s :=
  ⟨a, S.liveX b, b.gl _ S.b, S.thaw b th, t, fun n c hp => let ⟨v, o, e, _⟩ := S.cl n c hp; ⟨o, e⟩⟩

theorem St.store (S : St C X B σ α h) (hap : C.env.cells.Pairwise fun x y => x.2 ≠ y.2) {x : Str} {t : T} {v : Value} {h' : Heap} (Z : Stored C.env x v h h') (hp : ∀ p, p ∈ σ' → p = (x, t) ∨ (p ∈ σ ∧ p.1 ≠ x))
    (r : Rep (α.map (·.1) ++ X) h t v) : St C X B σ' α h' := by
  obtain ⟨b, hs, hb, hw⟩ := Z.ch
  have nbB : ∀ o, ¬ B b o := by
    rcases hw with rfl | hw
    · exact S.nb
    · exact S.cb _ _ hw.2
  have hapl : ∀ y c c', y ≠ x → C.env.cells.lookup x = some c → C.env.cells.lookup y = some c' → c' ≠ c := fun y c c' hy e e' q => by
    subst q; exact hy (name_of_addr hap (mem_of_lookup e') (mem_of_lookup e))
  exact ⟨fun a o e => (hs.2 a (fun q => nbB o (q ▸ e))).trans (S.b a o e), Z.ns, fun n c hp => let ⟨v0, ic⟩ := S.cl n c hp; Z.cl _ _ ic, S.nb, S.cb, S.nd,
    fun p hp => by
      obtain ⟨vs, n, e, q⟩ := S.own p hp
      exact ⟨vs, n, (hs.2 _ (fun q => (hb _ (q ▸ e) vs n).1 rfl)).trans e, q.sees (fun _ m => m) Z.sees⟩,
    S.ob, Z.rd' (fun _ => hapl) hp S.rd r⟩
/-- a store, whole -/
theorem store_st {A : Around} {E : Value → Shared → Prop} {s : Shared} {Q : Unit → Shared → Prop} (en : EnvC C) (S : St C X B σ α s.heap) {x : Str} {t : T} {v : Value} (hx : Sto C.env x) (hp : Put x t σ σ')
    (r : Rep (α.map (·.1) ++ X) s.heap t v) (hq : ∀ h' tk, s.toks ≤ tk → St C X B σ' α h' → Q () { s with heap := h', toks := tk }) : wpAny (model C.prog C.w) A (storeName C.env x v) Q E s :=
  store_any en.ok.kind S.ns (fun c _ e => S.cl _ _ e) hx fun h' tk l Z => hq h' tk l (S.store en.ap Z hp.mem r)

/- statements -/
theorem ExL.nil (k : K (.next σ α)) : ExL C X σ α [] K := .mk fun A E s B Q a b S t hq => wpAny_execs_nil (hq _ _ s.heap s.toks k ⟨rfl, S⟩ (Nat.le_refl _))
theorem ExL.weak (hs : ∀ p, p ∈ σ' → p ∈ σ) (e : ExL C X σ' α rest K) : ExL C X σ α rest K := .mk fun A E s B Q a b S t hq => e.run A E s B Q a b (S.weak hs) t hq
theorem ExL.mono (e : ExL C X σ α rest K) (hk : ∀ o, K o → K' o) : ExL C X σ α rest K' := .mk fun A E s B Q a b S t hq => e.run A E s B Q a b S t fun o f h' tk k => hq o f h' tk (hk o k)
theorem ExL.cons {b : Stmt} (h1 : Ex1 C X σ α b (Then C X rest K)) : ExL C X σ α (b :: rest) K := .mk fun A E s B Q a bo S t hq => by
  refine wpAny_execs_cons (h1.run A E s B _ a bo S t fun out f h' tk k p ht => ?_)
  cases out with
  | next σ1 α1 =>
    obtain ⟨rfl, S1⟩ := p
    exact ExL.run k A E _ B Q a bo S1 (Nat.le_trans t ht) fun o f h'' tk' k' p' ht' => hq o f h'' tk' k' p' (Nat.le_trans ht ht')
  | ret t1 =>
    obtain ⟨v, rfl, p1, p2⟩ := p
    exact hq (.ret t1) _ h' tk k ⟨v, rfl, p1, p2⟩ ht
theorem ExL.iteT {test : Expr} {body orelse : List Stmt} {pos : Pos} {b : Bool} (th : Thaw α σ σ') (h : EvB C X σ' test b) (h1 : b = true → ExL C X σ α body (Then C X rest K)) (h2 : b = false → ExL C X σ α orelse (Then C X rest K)) :
    ExL C X σ α (.If test body orelse pos :: rest) K := .cons <| .mk fun A E s B Q a bo S t hq => by
  refine wpAny_If (h.run A E s _ (S.okT bo a t th) fun h' tk k l => ?_)
  have hq' : ∀ out f h'' tk', Then C X rest K out → Post C X B out f h'' → tk ≤ tk' → Q f { s with heap := h'', toks := tk' } := fun o f h'' tk' k' p' ht' => hq o f h'' tk' k' p' (Nat.le_trans l ht')
  cases b with
  | true => rw [if_pos rfl]; exact (h1 rfl).run A E _ B Q a bo (S.grow k) (Nat.le_trans t l) hq'
  | false => rw [if_neg Bool.false_ne_true]; exact (h2 rfl).run A E _ B Q a bo (S.grow k) (Nat.le_trans t l) hq'
theorem ExL.ite {test : Expr} {body orelse : List Stmt} {pos : Pos} {b : Bool} (h : EvB C X σ test b) (h1 : b = true → ExL C X σ α body (Then C X rest K)) (h2 : b = false → ExL C X σ α orelse (Then C X rest K)) :
    ExL C X σ α (.If test body orelse pos :: rest) K := .iteT Thaw.refl h h1 h2
theorem Ex1.ret {e : Expr} {pos : Pos} {t : T} (h : ∀ Y, EvE C Y σ e t) (k : K (.ret t)) : Ex1 C X σ α (.Return (some e) pos) K := .mk fun A E s B Q a bo S tk hq =>
  wpAny_Return_some ((h _).run A E s _ (S.ok bo a tk) fun v h' tk' k' l r => hq _ _ h' tk' k ⟨v, rfl, fun a o e => k' a o (S.b a o e), r.more fun a m => .inl (List.mem_append_right _ m)⟩ l)
theorem ExL.ret {e : Expr} {pos : Pos} {t : T} (h : ∀ Y, EvE C Y σ e t) (k : K (.ret t)) : ExL C X σ α (.Return (some e) pos :: rest) K := .cons (.ret h k)
theorem ExL.retF {e : Expr} {pos : Pos} {t : T} (th : Thaw α σ σ') (h : EvE C X σ' e t) (k : K (.ret t)) : ExL C X σ α (.Return (some e) pos :: rest) K := .cons <| .mk fun A E s B Q a bo S tk hq =>
  wpAny_Return_some (h.run A E s _ (S.okT bo a tk th) fun v h' tk' k' l r => hq (.ret t) _ h' tk' k ⟨v, rfl, fun a o e => k' a o (S.b a o e), r⟩ l)
theorem ExL.let_ {x : Str} {px pos : Pos} {e : Expr} {t : T} (en : EnvC C) (h : ∀ Y, EvE C Y σ e t) (hp : Put x t σ σ' := by repeat (first | exact Put.nil | (apply Put.hit; repeat (first | exact Off.nil | apply Off.cons (by decide))) | apply Put.miss (by decide))) (hr : ExL C X σ' α rest K) (hx : Sto C.env x := by exact .inl rfl)
    (hsw : swapsWith e (some (.Name x px)) pos.line C.env = pure false := by rfl) : ExL C X σ α (.Assign [.Name x px] e pos :: rest) K := .cons <| .mk fun A E s B Q a bo S tk hq =>
  wpAny_Assign_Name ((h _).run A E s _ (S.ok bo a tk) fun v h' tk' k' l r => store_st en (S.grow k') hx hp r fun h'' tk'' l' S' => hq (.next σ' α) _ _ _ hr ⟨rfl, S'⟩ (Nat.le_trans l l')) hsw
/-- a flat value, the own lists read as lists -/
theorem ExL.letF {x : Str} {px pos : Pos} {e : Expr} {t : T} {σt : List (Str × T)} (en : EnvC C) (th : Thaw α σ σt) (h : EvE C X σt e t) (hf : t.flat = true) (hp : Put x t σ σ' := by repeat (first | exact Put.nil | (apply Put.hit; repeat (first | exact Off.nil | apply Off.cons (by decide))) | apply Put.miss (by decide))) (hr : ExL C X σ' α rest K) (hx : Sto C.env x := by exact .inl rfl)
    (hsw : swapsWith e (some (.Name x px)) pos.line C.env = pure false := by rfl) : ExL C X σ α (.Assign [.Name x px] e pos :: rest) K := .cons <| .mk fun A E s B Q a bo S tk hq =>
  wpAny_Assign_Name (h.run A E s _ (S.okT bo a tk th) fun v h' tk' k' l r => store_st en (S.grow k') hx hp (r.any hf) fun h'' tk'' l' S' => hq (.next σ' α) _ _ _ hr ⟨rfl, S'⟩ (Nat.le_trans l l')) hsw
/-- no more changes to an own list -/
theorem ExL.disown {x : Str} {a : Addr} {l : List T} {α₁ α₂ : List (Addr × List T)} (hα : α = α₁ ++ (a, l) :: α₂) (hx : (x, .ref a) ∈ σ) (hs : ∀ p, p ∈ σ' → p = (x, .list l) ∨ p ∈ σ) (hr : ExL C X σ' (α₁ ++ α₂) rest K) : ExL C X σ α rest K := .mk fun A E s B Q ao bo S tk hq => by
  subst hα
  have sub : ∀ b, b ∈ (α₁ ++ α₂).map (·.1) ++ X → b ∈ (α₁ ++ (a, l) :: α₂).map (·.1) ++ X := fun b m => by
    simp only [List.map_append, List.map_cons, List.append_assoc, List.mem_append, List.mem_cons, List.cons_append] at m ⊢
    rcases m with m | m | m
    · exact .inl m
    · exact .inr (.inr (.inl m))
    · exact .inr (.inr (.inr m))
  have subp : ∀ p, p ∈ α₁ ++ α₂ → p ∈ α₁ ++ (a, l) :: α₂ := fun p m => by
    rcases List.mem_append.mp m with m | m
    · exact List.mem_append_left _ m
    · exact List.mem_append_right _ (.tail _ m)
  have ha : (a, l) ∈ α₁ ++ (a, l) :: α₂ := List.mem_append_right _ (.head _)
  have nda : a ∉ (α₁ ++ α₂).map (·.1) := by
    have := S.nd
    simp only [List.map_append, List.map_cons] at this
    have := (List.nodup_append.mp this)
    intro m
    rw [List.map_append] at m
    rcases List.mem_append.mp m with m | m
    · exact this.2.2 a m a (.head _) rfl
    · exact (List.nodup_cons.mp this.2.1).1 m
  refine hr.run A E s B Q ao bo ⟨S.b, S.ns, S.cl, S.nb, S.cb, ?_, fun p hp => ?_, fun p hp => S.ob p (subp p hp), ⟨fun p hp => ?_⟩⟩ tk hq
  · have := S.nd
    refine this.sublist ?_
    simp only [List.map_append, List.map_cons]
    exact List.Sublist.append (List.Sublist.refl _) (List.sublist_cons_self _ _)
  · obtain ⟨vs, n, e, r⟩ := S.own p (subp p hp)
    exact ⟨vs, n, e, r.more fun b m => .inl (sub b m)⟩
  · rcases hs p hp with rfl | hp
    · obtain ⟨v, hv, r⟩ := S.rd.val _ hx
      obtain ⟨vs, n, e, q⟩ := S.own _ ha
      refine ⟨v, hv, ?_⟩
      rw [r.ref]
      refine .mkList (fun m => ?_) e (q.more fun b m => .inl (sub b m))
      rcases List.mem_append.mp m with m | m
      · exact nda m
      · obtain ⟨o, eo⟩ := bo.live a m
        exact S.ob _ ha o eo
    · obtain ⟨v, hv, r⟩ := S.rd.val p hp
      exact ⟨v, hv, r.more fun b m => .inl (sub b m)⟩
end
end Mine
end

-- Core6
section
open PySem PySem.W PyProof.Rows PySem.Calls PySem.Spec
set_option maxRecDepth 100000
namespace Mine
open PySem (Expr)

/-- no tuple of the iterator's own goes -/
noncomputable def LetOk (C : Cx) (A : Around) (I : Addr) (Wt : Nat → Heap → Prop) : Prop :=
  ∀ (i : Nat) (s : Shared) (tg : Expr) (v : Value) (Q : Unit → Shared → Prop) (E : Value → Shared → Prop), Wt i s.heap → Q () s → wpAny (model C.prog C.w) A (letOwnedTupleGo tg (.ref I) v) Q E s
theorem letOk_of {C : Cx} {A : Around} {I : Addr} {Wt : Nat → Heap → Prop} {n : String} (hn : ["enumerate", "zip", "dict_itemiterator", "dict_reverseitemiterator", "odict_iterator", "itertools.zip_longest", "itertools.pairwise"].contains n = false)
    (h : ∀ i hp, Wt i hp → ∃ o fs, hp.get? I = some o ∧ o.cls = .type n ∧ o.data = .fields fs) : LetOk C A I Wt := fun i s tg v Q E w hq => by
  obtain ⟨o, fs, ho, hc, hd⟩ := h i _ w
  have tup : ∀ (a : Addr), wpAny (model C.prog C.w) A (do
      let o ← load I
      match o.cls, o.data with
      | .type n, .fields vs =>
        if ["enumerate", "zip", "dict_itemiterator", "dict_reverseitemiterator", "odict_iterator", "itertools.zip_longest", "itertools.pairwise"].contains n && vs[0]? == some (rawInt a) then
          rule "for.unpacks-the-owned-tuple"
          updateField I 0 .none
      | _, _ => pure ()) Q E s := fun a => by
    refine wpAny_bind (wpAny_load ho ?_)
    rw [hc, hd]
    show wpAny _ A (if (["enumerate", "zip", "dict_itemiterator", "dict_reverseitemiterator", "odict_iterator", "itertools.zip_longest", "itertools.pairwise"].contains n && fs[0]? == some (rawInt a)) = true then _ else _) Q E s
    rw [hn, Bool.false_and, if_neg Bool.false_ne_true]
    exact wpAny_pure hq
  cases tg with
  | Tuple e k p =>
    cases v with
    | ref a => exact tup a
    | _ => exact wpAny_pure hq
  | List e p =>
    cases v with
    | ref a => exact tup a
    | _ => exact wpAny_pure hq
  | _ => exact wpAny_pure hq
/-- an iterable gives the trees ts, one by one -/
structure EvI (C : Cx) (X : List Addr) (σ : List (Str × T)) (e : PySem.Expr) (ts : List T) : Prop where
  run : ∀ (A : Around) (E : Value → Shared → Prop) (s : Shared) (Q : Value → Shared → Prop), StOk C X σ A s →
    (∀ I fp wr P (Wt : Nat → Heap → Prop) h' tk, Walks C.prog C.w A I fp wr ts.length P Wt → Wt 0 h' → Sub s.heap h' → s.toks ≤ tk →
      (∀ i v, P i v → ∃ t, ts[i]? = some t ∧ Rep X h' t v) → (∀ b, b ∈ wr → s.heap.get? b = none) → (∀ i h b, Wt i h → b ∈ wr → (∃ o, h.get? b = some o) ∧ NoSeq h b) →
      (∀ b, b ∈ fp → ∃ o, h'.get? b = some o ∧ (s.heap.get? b = none ∨ (b ∉ X ∧ ∃ l n, o = lstObj l n ∨ o = tupObj l n))) → LetOk C A I Wt → Q (.ref I) { s with heap := h', toks := tk }) →
    wpAny (model C.prog C.w) A (eval e C.env) (fun xv s1 => wpAny (model C.prog C.w) A (pyIter xv) Q E s1) E s

theorem get_size (h : Heap) : h.get? h.objs.size = none := by
  cases e : h.get? h.objs.size with
  | none => rfl
  | some o => exact absurd (Heap.lt_size e) (Nat.lt_irrefl _)
theorem not_old {h h' : Heap} (k : Sub h h') : h.get? h'.objs.size = none := by
  cases e : h.get? h'.objs.size with
  | none => rfl
  | some o => have := k _ _ e; rw [get_size] at this; cases this

section
variable {C : Cx} {X : List Addr} {σ σ' : List (Str × T)} {α α' : List (Addr × List T)} {K K' : Out → Prop} {rest : List Stmt} {B : Addr → Obj → Prop} {h : Heap}

theorem fields_noSeq {h : Heap} {b : Addr} {c : Value} {fs : Array Value} (x : ∃ o, h.get? b = some o ∧ o.cls = c ∧ o.data = .fields fs) : NoSeq h b := fun o e l n => by
  obtain ⟨o', e', _, hd⟩ := x
  rw [e] at e'; cases e'
  exact ⟨fun q => (by rw [q] at hd; cases hd), fun q => (by rw [q] at hd; cases hd)⟩

theorem EvI.list {e : Expr} {ts : List T} (h : EvE C X σ e (.list ts)) : EvI C X σ e ts := .mk fun A E s Q o hq =>
  h.run A E s _ o fun v h' tk k l r => by
    obtain ⟨a, vs, n, rfl, hx, e, q⟩ := r.list
    have hlen : vs.toArray.size = ts.length := by rw [List.size_toArray, q.length]
    refine wpAny_pyIter_list (isList_of e) ?_
    have hne : a ≠ h'.objs.size := Nat.ne_of_lt (Heap.lt_size e)
    refine hq _ [h'.objs.size, a] [h'.objs.size] (fun i v => vs.toArray[i]? = some v) _ _ tk (hlen ▸ Walks.list o.a.hd h'.objs.size a hne vs.toArray) ⟨⟨_, Heap.get?_push_size _ rfl, rfl, rfl⟩, (isList_of e).push _⟩ (fun b o eb => Heap.get?_push_of_some _ (k b o eb)) l
      (fun i v hv => ?_) (fun b hb => ?_) (fun i h b st hb => ?_) (fun b hb => ?_) (letOk_of (n := "list_iterator") (by decide) fun i hp st => let ⟨o, e1, e2, e3⟩ := st.1; ⟨o, _, e1, e2, e3⟩)
    · obtain ⟨t, ht, r⟩ := q.get' (i := i) (v := v) (by simpa using hv)
      exact ⟨t, ht, r.sub (Sub.push _ _)⟩
    · simp at hb; subst hb; exact not_old k
    · simp at hb; subst hb; exact ⟨let ⟨o, e, _⟩ := st.1; ⟨o, e⟩, fields_noSeq st.1⟩
    · simp at hb
      rcases hb with rfl | rfl
      · exact ⟨_, Heap.get?_push_size _ rfl, .inl (not_old k)⟩
      · exact ⟨_, Heap.get?_push_of_some _ e, .inr ⟨hx, _, _, .inl rfl⟩⟩

theorem EvI.str {e : Expr} {x : Str} (h : EvE C X σ e (.str x)) : EvI C X σ e (x.cps.toList.map fun c => T.str ⟨#[c]⟩) := .mk fun A E s Q o hq =>
  h.run A E s _ o fun v h' tk k l r => by
    obtain ⟨t, rfl⟩ := r.str
    have hlen : x.cps.size = (x.cps.toList.map fun c => T.str ⟨#[c]⟩).length := by simp
    have fin : ∀ (c : String) (Wt : Nat → Heap → Prop), ["enumerate", "zip", "dict_itemiterator", "dict_reverseitemiterator", "odict_iterator", "itertools.zip_longest", "itertools.pairwise"].contains c = false → Walks C.prog C.w A h'.objs.size [h'.objs.size] [h'.objs.size] x.cps.size (SignAt x) Wt → (∀ i h, Wt i h → h.IsStrIter h'.objs.size c x t i) → Wt 0 (h'.push { cls := .type c, data := .fields #[.str x t, .int 0 0] }) →
        Q (.ref h'.objs.size) { s with heap := h'.push { cls := .type c, data := .fields #[.str x t, .int 0 0] }, toks := tk } := fun c Wt hcn W hW w0 => by
      refine hq _ _ _ (SignAt x) Wt _ tk (hlen ▸ W) w0 (fun b o eb => Heap.get?_push_of_some _ (k b o eb)) l (fun i v hv => ?_) (fun b hb => ?_) (fun i h b st hb => ?_) (fun b hb => ?_) (letOk_of (n := c) hcn fun i hp st => let ⟨o, e1, e2, e3⟩ := hW i hp st; ⟨o, _, e1, e2, e3⟩)
      · obtain ⟨c, u, h1, rfl⟩ := hv
        exact ⟨.str ⟨#[c]⟩, by simp [h1], .mkStr⟩
      · simp at hb; subst hb; exact not_old k
      · simp at hb; subst hb
        obtain ⟨o, e1, e2, e3⟩ := hW i h st
        exact ⟨⟨o, e1⟩, fields_noSeq ⟨o, e1, e2, e3⟩⟩
      · simp at hb; subst hb
        exact ⟨_, Heap.get?_push_size _ rfl, .inl (not_old k)⟩
    cases ha : x.cps.all (· < 128)
    · exact wpAny_pyIter_wide ha (fin _ _ (by decide) (Walks.strWide o.a.hd _ x t) (fun _ _ y => y) ⟨_, Heap.get?_push_size _ rfl, rfl, rfl⟩)
    · exact wpAny_pyIter_ascii ha (fin _ _ (by decide) (Walks.strAscii o.a.hd _ x t) (fun _ _ y => y) ⟨_, Heap.get?_push_size _ rfl, rfl, rfl⟩)

/-- the rng a .. a + n -/
noncomputable def rng (a : Int) (n : Nat) : List T := (List.range n).map fun (i : Nat) => T.int (a + i)
theorem rng_length (a : Int) (n : Nat) : (rng a n).length = n := by simp [rng]
theorem range_it {A : Around} {E : Value → Shared → Prop} {s s1 : Shared} {Q : Value → Shared → Prop} {r : Addr} {a b : Int} {t u v : Tok} (hh : A.handled = none) (hr : IsRange s1.heap r a b 1 t u v) (ha : -(2 ^ 62) ≤ a) (ha' : a < 2 ^ 62) (hb : -(2 ^ 62) ≤ b) (hb' : b < 2 ^ 62)
    (k : Sub s.heap s1.heap) (lt : s.toks ≤ s1.toks) (e : s1 = { s with heap := s1.heap, toks := s1.toks })
    (hq : ∀ I fp wr P (Wt : Nat → Heap → Prop) h' tk, Walks C.prog C.w A I fp wr (rng a (b - a).toNat).length P Wt → Wt 0 h' → Sub s.heap h' → s.toks ≤ tk →
      (∀ i v, P i v → ∃ t, (rng a (b - a).toNat)[i]? = some t ∧ Rep X h' t v) → (∀ b, b ∈ wr → s.heap.get? b = none) → (∀ i h b, Wt i h → b ∈ wr → (∃ o, h.get? b = some o) ∧ NoSeq h b) →
      (∀ b, b ∈ fp → ∃ o, h'.get? b = some o ∧ (s.heap.get? b = none ∨ (b ∉ X ∧ ∃ l n, o = lstObj l n ∨ o = tupObj l n))) → LetOk C A I Wt → Q (.ref I) { s with heap := h', toks := tk }) :
    wpAny (model C.prog C.w) A (pyIter (.ref r)) Q E s1 := by
  refine wpAny_pyIter_range hr (small_one ha ha' hb hb') ?_
  rw [e]
  have hsz : Builtin.Range.rangeSize a b 1 = ((b - a).toNat : Int) := by rw [rangeSize_one]; split <;> omega
  refine hq _ [s1.heap.objs.size] [s1.heap.objs.size] (fun i v => i < (b - a).toNat ∧ ∃ t, v = .int (a + i * 1) t) (fun i h => IsRangeIter h s1.heap.objs.size (a + i * 1) (((b - a).toNat : Int) - i) 1) _ s1.toks ?_ ?_ (fun b o eb => Heap.get?_push_of_some _ (k b o eb)) lt
    (fun i v hv => ?_) (fun b hb => ?_) (fun i h b st hb => ?_) (fun b hb => ?_) (letOk_of (n := "range_iterator") (by decide) fun i hp st => ⟨_, _, st, rfl, rfl⟩)
  · rw [rng_length]
    have W := Walks.range (prog := C.prog) (w := C.w) hh s1.heap.objs.size a 1 (b - a).toNat
    exact ⟨W.sub, W.frame, fun i s Q E hi st hQ => W.item i s Q E hi st fun v h' tk hv st' hk => hQ v h' tk ⟨hi, hv⟩ st' hk, W.done, W.self⟩
  · show IsRangeIter _ _ _ _ _
    rw [hsz]
    simpa using Heap.get?_push_size _ rfl
  · obtain ⟨hi, t, rfl⟩ := hv
    exact ⟨.int (a + i), by simp [rng, List.getElem?_range hi], by rw [Int.mul_one]; exact .mkInt⟩
  · simp at hb; subst hb; exact not_old k
  · simp at hb; subst hb; exact ⟨⟨_, st⟩, fields_noSeq ⟨_, st, rfl, rfl⟩⟩
  · simp at hb; subst hb; exact ⟨_, Heap.get?_push_size _ rfl, .inl (not_old k)⟩

theorem EvI.range1 {e : Expr} {p pos : Pos} {n : Int} (en : EnvOk C) (hb : IsB C (Str.ofString "range") (.type "range")) (h : EvE C X σ e (.int n)) (h0 : -(2 ^ 62) ≤ n) (h1 : n < 2 ^ 62)
    (he : eval (.Call (.Name (Str.ofString "range") p) [e] [] pos) C.env = (do callWith pos (← eval (.Name (Str.ofString "range") p) C.env) [] (backTo pos (starEach [e] C.env)) (backToKw pos (keywordEach [] C.env))) := by rfl)
    (he2 : starEach [e] C.env = (false, eval e C.env) :: starEach [] C.env := by rfl) (hp : (backTo pos (starEach [] C.env)).any (·.1) = false := by rfl) :
    EvI C X σ (.Call (.Name (Str.ofString "range") p) [e] [] pos) (rng 0 (n - 0).toNat) := .mk fun A E s Q o hq =>
  Call_ (he := he) (name_bui en hb o.g (PyProof.Rows.callWith_type1 (he := he2) (hplain := hp) (args_cons (he := he2) (h.run A E s _ o fun v h1' tk1 k1 l1 r1 => args_nil (by
    obtain ⟨t, rfl⟩ := r1.int
    refine call_range_1 (range_it o.a.hd (IsRange.new _ 0 n 1 _ t _) (by decide) (by decide) h0 h1 (fun b o eb => Heap.get?_push_of_some _ (k1 b o eb)) (by show s.toks ≤ tk1 + 1 + 1; omega) rfl hq))))))
theorem EvI.range2 {e e' : Expr} {p pos : Pos} {a b : Int} (en : EnvOk C) (hb : IsB C (Str.ofString "range") (.type "range")) (h : EvE C X σ e (.int a)) (h' : EvE C X σ e' (.int b)) (h0 : -(2 ^ 62) ≤ a) (h1 : a < 2 ^ 62) (h2 : -(2 ^ 62) ≤ b) (h3 : b < 2 ^ 62)
    (he : eval (.Call (.Name (Str.ofString "range") p) [e, e'] [] pos) C.env = (do callWith pos (← eval (.Name (Str.ofString "range") p) C.env) [] (backTo pos (starEach [e, e'] C.env)) (backToKw pos (keywordEach [] C.env))) := by rfl)
    (he2 : starEach [e, e'] C.env = (false, eval e C.env) :: starEach [e'] C.env := by rfl) (he3 : starEach [e'] C.env = (false, eval e' C.env) :: starEach [] C.env := by rfl) (hp : (backTo pos (starEach [e'] C.env)).any (·.1) = false := by rfl) :
    EvI C X σ (.Call (.Name (Str.ofString "range") p) [e, e'] [] pos) (rng a (b - a).toNat) := .mk fun A E s Q o hq =>
  Call_ (he := he) (name_bui en hb o.g (PyProof.Rows.callWith_type1 (he := he2) (hplain := hp) (args_cons (he := he2) (h.run A E s _ o fun v h1' tk1 k1 l1 r1 => args_cons (he := he3) (h'.run A E _ _ (o.step k1 l1) fun v' h2' tk2 k2 l2 r2 => args_nil (by
    obtain ⟨t, rfl⟩ := r1.int
    obtain ⟨u, rfl⟩ := r2.int
    refine call_range_2 (range_it o.a.hd (IsRange.new _ a b 1 t u _) h0 h1 h2 h3 (fun b o eb => Heap.get?_push_of_some _ (k2 _ _ (k1 b o eb))) (by show s.toks ≤ tk2 + 1; exact Nat.le_succ_of_le (Nat.le_trans l1 l2)) rfl hq)))))))

/- the loop -/
/-- the state stays when the iterator turns -/
theorem St.turn (S : St C X B σ α h) {wr : List Addr} {h' : Heap} (hk : ∀ b o, b ∉ wr → h.get? b = some o → h'.get? b = some o) (hn : ∀ b, b ∈ wr → NoSeq h b) (hl : C.env.locals ∉ wr) (hc : ∀ n c, C.env.cells.lookup n = some c → c ∉ wr) (ha : ∀ p, p ∈ α → p.1 ∉ wr) (hB : ∀ b o, B b o → b ∉ wr)
    : St C X B σ α h' := by
  have sees : ∀ {Y}, Sees Y h h' := fun b o _ ⟨l, n, hl⟩ e => hk b o (fun m => by rcases hl with rfl | rfl; exact (hn b m _ e l n).1 rfl; exact (hn b m _ e l n).2 rfl) e
  have sub : ∀ b o, b ∉ wr → h.get? b = some o → h'.get? b = some o := hk
  refine ⟨fun a o e => hk a o (hB a o e) (S.b a o e), ?_, fun n c hp => ?_, S.nb, S.cb, S.nd, fun p hp => ?_, S.ob, ⟨fun p hp => ?_⟩⟩
  · obtain ⟨m, o, es, ep, e, r⟩ := S.ns
    exact ⟨m, o, es, ep, hk _ _ hl e, r⟩
  · obtain ⟨v, o, e, r⟩ := S.cl n c hp
    exact ⟨v, o, hk _ _ (hc n c hp) e, r⟩
  · obtain ⟨vs, n, e, r⟩ := S.own p hp
    exact ⟨vs, n, hk _ _ (ha p hp) e, r.sees (fun _ m => m) sees⟩
  · obtain ⟨v, hv, r⟩ := S.rd.val p hp
    refine ⟨v, ?_, r.sees (fun _ m => m) sees⟩
    rcases hv with ⟨a, m, ⟨o, es, ep, e, q⟩, c⟩ | ⟨a, a', c, b, ⟨o, e, d⟩⟩
    · exact .inl ⟨a, m, ⟨o, es, ep, hk _ _ hl e, q⟩, c⟩
    · exact .inr ⟨a, a', c, b, ⟨o, hk _ _ (hc _ _ b) e, d⟩⟩

/-- another base -/
theorem St.base (S : St C X B σ α h) {B' : Addr → Obj → Prop} (b : ∀ a o, B' a o → h.get? a = some o) (nb : ∀ o, ¬ B' C.env.locals o) (cb : ∀ n c, C.env.cells.lookup n = some c → ∀ o, ¬ B' c o) (ob : ∀ p, p ∈ α → ∀ o, ¬ B' p.1 o) : St C X B' σ α h :=
  ⟨b, S.ns, S.cl, nb, cb, S.nd, S.own, ob, S.rd⟩

theorem ExL.forM {x : Str} {px pos : Pos} {iter : Expr} {body : List Stmt} {ts : List T} (Inv : Nat → List (Str × T) → List (Addr × List T) → Prop) (en : EnvC C) (hit : ∀ Y, EvI C Y σ iter ts) (hfl : ∀ t, t ∈ ts → t.flat = true) (h0 : Inv 0 σ α)
    (hstep : ∀ i t σi αi, ts[i]? = some t → Inv i σi αi → ∃ σ', (∀ p, p ∈ σ' → p = (x, t) ∨ (p ∈ σi ∧ p.1 ≠ x)) ∧ ExL C X σ' αi body fun out => match out with | .next σ'' α'' => Inv (i + 1) σ'' α'' | .ret t => K (.ret t))
    (hend : ∀ σn αn, Inv ts.length σn αn → ExL C X σn αn rest K) (hx : Sto C.env x := by exact .inl rfl)
    (hs : ∀ v, foldedSetIterable iter C.env v = pure v := by intro _; rfl) : ExL C X σ α (.For (.Name x px) iter body [] pos :: rest) K := .mk fun A E s B Q a bo S tk hq => by
  refine wpAny_execs_cons (wpAny_For ((hit _).run A E s _ (S.ok bo a tk) fun I fp wr P Wt h' tk' W w0 k l hP hwr hns hfp _ => ?_) hs)
  have Slt : ∀ b o, s.heap.get? b = some o → b ∉ wr := fun b o e m => by rw [hwr b m] at e; cases e
  refine codeAny_forLoop (fun n s' => ∃ i σi αi hi ti, s' = { s with heap := hi, toks := ti } ∧ s.toks ≤ ti ∧ i ≤ ts.length ∧ n = ts.length + 1 - i ∧ Inv i σi αi ∧ St C X B σi αi hi ∧ Wt i hi ∧
    (∀ b, b ∈ fp → (∃ o, hi.get? b = some o) ∧ b ≠ C.env.locals ∧ (∀ n c, C.env.cells.lookup n = some c → b ≠ c) ∧ (∀ p, p ∈ αi → b ≠ p.1))) ?_ (ts.length + 1)
    ⟨0, σ, α, h', tk', rfl, l, Nat.zero_le _, rfl, h0, S.grow k, w0, fun b hb => ?_⟩
  · rintro n s' ⟨i, σi, αi, hi, ti, rfl, lti, hile, rfl, hinv, Si, wi, hfpi⟩
    have wfp : ∀ b, b ∈ wr → b ∈ fp := W.sub
    have turn : ∀ {h1 : Heap}, (∀ b o, b ∉ wr → hi.get? b = some o → h1.get? b = some o) → St C X B σi αi h1 := fun hk => Si.turn hk (fun b hb => (hns i hi b wi hb).2)
      (fun m => (hfpi _ (wfp _ m)).2.1 rfl) (fun n c hp m => (hfpi _ (wfp _ m)).2.2.1 n c hp rfl) (fun p hp m => (hfpi _ (wfp _ m)).2.2.2 p hp rfl)
      (fun b o e m => by have := S.b b o e; rw [hwr b m] at this; cases this)
    by_cases hlt : i < ts.length
    · refine wpAny_with_toks (n := ti) (Nat.le_refl _) (W.item i _ _ _ hlt wi fun v h1 tk1 hv w1 hk1 hl1 => ?_)
      obtain ⟨t, ht, rt⟩ := hP i v hv
      have hf := hfl t (List.mem_of_getElem? ht)
      obtain ⟨σ', hput, hbody⟩ := hstep i t σi αi ht hinv
      have S1 := turn hk1
      refine wpAny_assign_Name (store_any en.ok.kind S1.ns (fun c _ e => S1.cl _ _ e) hx fun h2 tk2 l2 Z => ?_)
      have S2 := S1.store en.ap Z hput (rt.any hf)
      obtain ⟨bz, hsz, hbz, hwz⟩ := Z.ch
      have fp2 : ∀ b, b ∈ fp → h2.get? b = h1.get? b := fun b hb => hsz.2 b (by
        rintro rfl
        rcases hwz with hwz | hwz
        · exact (hfpi _ hb).2.1 hwz
        · exact (hfpi _ hb).2.2.1 _ _ hwz.2 rfl)
      -- the base of the body
      refine wpAny_with_toks (n := ti) (Nat.le_trans hl1 l2) (hbody.run A _ { s with heap := h2, toks := tk2 } (fun b o => h2.get? b = some o ∧ b ≠ C.env.locals ∧ (∀ n c, C.env.cells.lookup n = some c → b ≠ c) ∧ (∀ p, p ∈ αi → b ≠ p.1)) _ a
        ⟨fun hh hb => bo.gl hh fun b o e => hb b o ⟨S2.b b o e, fun q => S.nb o (q ▸ e), fun n c hp q => S.cb n c hp o (q ▸ e), fun p hp q => S2.ob p hp o (q ▸ e)⟩,
          fun b hb => by obtain ⟨o, e⟩ := bo.live b hb; exact ⟨o, S2.b b o e, fun q => S.nb o (q ▸ e), fun n c hp q => S.cb n c hp o (q ▸ e), fun p hp q => S2.ob p hp o (q ▸ e)⟩⟩
        (S2.base (fun b o e => e.1) (fun o e => e.2.1 rfl) (fun n c hp o e => e.2.2.1 n c hp rfl) (fun p hp o e => e.2.2.2 p hp rfl)) (Nat.le_trans tk (Nat.le_trans lti (Nat.le_trans hl1 l2)))
        fun out f h3 tk3 ko po l3 => ?_)
      have Bsub : ∀ b o, B b o → (fun b o => h2.get? b = some o ∧ b ≠ C.env.locals ∧ (∀ n c, C.env.cells.lookup n = some c → b ≠ c) ∧ (∀ p, p ∈ αi → b ≠ p.1)) b o := fun b o e =>
        ⟨S2.b b o e, fun q => S.nb o (q ▸ e), fun n c hp q => S.cb n c hp o (q ▸ e), fun p hp q => S2.ob p hp o (q ▸ e)⟩
      intro l3'
      cases out with
      | next σ'' α'' =>
        obtain ⟨rfl, S3⟩ := po
        refine ⟨ts.length + 1 - (i + 1), by omega, i + 1, σ'', α'', h3, tk3, rfl, Nat.le_trans lti l3', hlt, rfl, ko, ?_, ?_, fun b hb => ?_⟩
        · exact S3.base (fun b o e => S3.b b o (Bsub b o e)) S.nb S.cb (fun p hp o e => S3.ob p hp o (Bsub _ o e))
        · refine W.frame _ _ _ w1 fun b hb o e => S3.b b o ⟨(fp2 b hb).trans e, (hfpi b hb).2.1, (hfpi b hb).2.2.1, (hfpi b hb).2.2.2⟩
        · obtain ⟨o, e⟩ := (hfpi b hb).1
          have e2 : ∃ o, h2.get? b = some o := by
            by_cases m : b ∈ wr
            · obtain ⟨o1, e1⟩ := (hns (i + 1) h1 b w1 m).1
              exact ⟨o1, (fp2 b hb).trans e1⟩
            · exact ⟨o, (fp2 b hb).trans (hk1 b o m e)⟩
          obtain ⟨o2, e2⟩ := e2
          have hB2 := (⟨e2, (hfpi b hb).2.1, (hfpi b hb).2.2.1, (hfpi b hb).2.2.2⟩ : h2.get? b = some o2 ∧ b ≠ C.env.locals ∧ (∀ n c, C.env.cells.lookup n = some c → b ≠ c) ∧ (∀ p, p ∈ αi → b ≠ p.1))
          exact ⟨⟨o2, S3.b b o2 hB2⟩, (hfpi b hb).2.1, (hfpi b hb).2.2.1, fun p hp q => S3.ob p hp o2 (q ▸ hB2)⟩
      | ret t =>
        obtain ⟨v, rfl, p1, p2⟩ := po
        exact hq (.ret t) _ h3 tk3 ko ⟨v, rfl, fun b o e => p1 b o (Bsub b o e), p2⟩ (Nat.le_trans lti l3')
    · have hin : i = ts.length := by omega
      subst hin
      refine wpAny_with_toks (n := ti) (Nat.le_refl _) (W.done _ _ _ wi fun h1 tk1 hk1 hl1 => wpAny_execs_nil ?_)
      exact (hend σi αi hinv).run A E _ B Q a bo (turn hk1) (Nat.le_trans tk (Nat.le_trans lti hl1)) fun out f h'' tk'' ko po l'' => hq out f h'' tk'' ko po (Nat.le_trans lti (Nat.le_trans hl1 l''))
  · obtain ⟨o, e, ho⟩ := hfp b hb
    rcases ho with ho | ⟨hb, l, n, ho⟩
    · refine ⟨⟨o, e⟩, ?_, fun n c hp => ?_, fun p hp => ?_⟩
      · rintro rfl; obtain ⟨m, o, es, ep, e', _⟩ := S.ns; rw [ho] at e'; cases e'
      · rintro rfl; obtain ⟨v, o, e', _⟩ := S.cl _ _ hp; rw [ho] at e'; cases e'
      · rintro rfl; obtain ⟨vs, n, e', _⟩ := S.own p hp; rw [ho] at e'; cases e'
    · have nos : ¬ NoSeq h' b := fun q => by rcases ho with rfl | rfl; exact (q _ e l n).1 rfl; exact (q _ e l n).2 rfl
      refine ⟨⟨o, e⟩, ?_, fun n c hp => ?_, fun p hp => ?_⟩
      · rintro rfl; obtain ⟨m, hm⟩ := (S.grow k).ns; exact nos (ns_noSeq hm)
      · rintro rfl; obtain ⟨v, hv⟩ := (S.grow k).cl _ _ hp; exact nos (cell_noSeq hv)
      · rintro rfl; exact hb (List.mem_append_left _ (List.mem_map_of_mem hp))

theorem ExL.for_ {x : Str} {px pos : Pos} {iter : Expr} {body : List Stmt} {ts : List T} (Inv : Nat → List (Str × T) → List (Addr × List T) → Prop) (en : EnvC C) (hit : ∀ Y, EvI C Y σ iter ts) (hfl : ∀ t, t ∈ ts → t.flat = true) (h0 : Inv 0 σ α)
    (hstep : ∀ i t σi αi, ts[i]? = some t → Inv i σi αi → ∃ σ', Put x t σi σ' ∧ ExL C X σ' αi body fun out => match out with | .next σ'' α'' => Inv (i + 1) σ'' α'' | .ret t => K (.ret t))
    (hend : ∀ σn αn, Inv ts.length σn αn → ExL C X σn αn rest K) (hx : Sto C.env x := by exact .inl rfl)
    (hs : ∀ v, foldedSetIterable iter C.env v = pure v := by intro _; rfl) : ExL C X σ α (.For (.Name x px) iter body [] pos :: rest) K :=
  .forM Inv en hit hfl h0 (fun i t σi αi h1 h2 => let ⟨σ', h3, h4⟩ := hstep i t σi αi h1 h2; ⟨σ', h3.mem, h4⟩) hend hx hs
/-- the invariant may forget names -/
theorem ExL.forW {x : Str} {px pos : Pos} {iter : Expr} {body : List Stmt} {ts : List T} (Inv : Nat → List (Str × T) → List (Addr × List T) → Prop) (en : EnvC C) (hit : ∀ Y, EvI C Y σ iter ts) (hfl : ∀ t, t ∈ ts → t.flat = true) (h0 : ∃ σ3, (∀ p, p ∈ σ3 → p ∈ σ) ∧ Inv 0 σ3 α)
    (hstep : ∀ i t σi αi, ts[i]? = some t → Inv i σi αi → ∃ σ', Put x t σi σ' ∧ ExL C X σ' αi body fun out => match out with | .next σ'' α'' => ∃ σ3, (∀ p, p ∈ σ3 → p ∈ σ'') ∧ Inv (i + 1) σ3 α'' | .ret t => K (.ret t))
    (hend : ∀ σn αn, Inv ts.length σn αn → ExL C X σn αn rest K) (hx : Sto C.env x := by exact .inl rfl)
    (hs : ∀ v, foldedSetIterable iter C.env v = pure v := by intro _; rfl) : ExL C X σ α (.For (.Name x px) iter body [] pos :: rest) K :=
  .forM (fun i σ α => ∃ σ3, (∀ p, p ∈ σ3 → p ∈ σ) ∧ Inv i σ3 α) en hit hfl h0 (fun i t σi αi h1 ⟨σ3, hs3, h2⟩ => let ⟨σ', h3, h4⟩ := hstep i t σ3 αi h1 h2; ⟨σ', fun p hp => (h3.mem p hp).imp id fun q => ⟨hs3 p q.1, q.2⟩, h4⟩)
    (fun σn αn ⟨σ3, hs3, h⟩ => .weak hs3 (hend σ3 αn h)) hx hs
end
end Mine
end

-- Core7
section
open PySem PySem.W PyProof.Rows PySem.Calls PySem.Spec
set_option maxRecDepth 100000
namespace Mine
open PySem (Expr)

/-- the same program, another frame -/
noncomputable abbrev Cx.at' (G : Cx) (n : Nat) (env : Env) : Cx := { G with n := n, env := env }
/-- a def of the program gives a tree -/
structure CallE (G : Cx) (n : Nat) (f : Addr) (ts : List T) (t : T) : Prop where
  run : ∀ (A : Around) (E : Value → Shared → Prop) (s : Shared) (Q : Value → Shared → Prop) (vs : List Value) (X : List Addr), OkA n A → Gl G.K G.mg G.mb s.heap → Live X s.heap → G.t0 ≤ s.toks → RepL X s.heap ts vs → Goes X t s Q →
    wpAny (model G.prog G.w) A (call (.ref f) vs) Q E s

theorem bindL_off {k : Str → Option NameKind} {x : Str} : ∀ (b : List (Str × Value)) (m : Str → Option Value), (∀ p, p ∈ b → p.1 ≠ x) → bindL k b m x = m x
  | [], m, _ => rfl
  | (n, v) :: r, m, h => by
    unfold bindL
    rw [bindL_off r _ fun p hp => h p (.tail _ hp)]
    have : ¬ x = n := fun e => h (n, v) (.head _) e.symm
    by_cases hk : k n = some .local
    · rw [if_pos hk]; show (if x = n then some v else m x) = m x; rw [if_neg this]
    · rw [if_neg hk]
theorem bindL_on {k : Str → Option NameKind} {x : Str} {v : Value} (hx : k x = some .local) : ∀ (b : List (Str × Value)) (m : Str → Option Value), (b.map (·.1)).Nodup → (x, v) ∈ b → bindL k b m x = some v
  | [], m, _, h => by cases h
  | (n, w) :: r, m, hn, h => by
    simp only [List.map_cons, List.nodup_cons] at hn
    unfold bindL
    cases h with
    | head =>
      rw [bindL_off r _ fun p hp (e : p.1 = x) => hn.1 (by rw [← e]; exact List.mem_map_of_mem hp), if_pos hx]
      exact if_pos rfl
    | tail _ h => exact bindL_on hx r _ hn.2 h
theorem bindC_off {k : Str → Option NameKind} {x : Str} : ∀ (b : List (Str × Value)) (m : Str → Option Value), (∀ p, p ∈ b → p.1 ≠ x) → bindC k b m x = m x
  | [], m, _ => rfl
  | (n, v) :: r, m, h => by
    unfold bindC
    rw [bindC_off r _ fun p hp => h p (.tail _ hp)]
    have : ¬ x = n := fun e => h (n, v) (.head _) e.symm
    by_cases hk : k n = some .local
    · rw [if_pos hk]
    · rw [if_neg hk]; show (if x = n then some v else m x) = m x; rw [if_neg this]
theorem bindC_on {k : Str → Option NameKind} {x : Str} {v : Value} (hx : k x ≠ some .local) : ∀ (b : List (Str × Value)) (m : Str → Option Value), (b.map (·.1)).Nodup → (x, v) ∈ b → bindC k b m x = some v
  | [], m, _, h => by cases h
  | (n, w) :: r, m, hn, h => by
    simp only [List.map_cons, List.nodup_cons] at hn
    unfold bindC
    cases h with
    | head =>
      rw [bindC_off r _ fun p hp (e : p.1 = x) => hn.1 (by rw [← e]; exact List.mem_map_of_mem hp), if_neg hx]
      exact if_pos rfl
    | tail _ h => exact bindC_on hx r _ hn.2 h

theorem repL_zip {X : List Addr} {h : Heap} : ∀ {ps : List Str} {ts : List T} {vs : List Value}, RepL X h ts vs → ∀ p, p ∈ ps.zip ts → ∃ v, (p.1, v) ∈ ps.zip vs ∧ Rep X h p.2 v
  | [], _, _, _, p, hp => by simp at hp
  | _ :: _, [], _, _, p, hp => by simp at hp
  | x :: ps, t :: ts, vs, r, p, hp => by
    obtain ⟨v, q, rfl, r1, r2⟩ := r.cons'
    simp only [List.zip_cons_cons, List.mem_cons] at hp ⊢
    rcases hp with rfl | hp
    · exact ⟨v, .inl rfl, r1⟩
    · obtain ⟨w, hw, rw⟩ := repL_zip r2 p hp
      exact ⟨w, .inr hw, rw⟩

theorem CallE.of {G : Cx} {n : Nat} {f : Addr} {ps : List Str} {ts : List T} {t : T} {oc : Value} {od : Option Addr} {osl : Array (Option Value)} {name qual : Str} {params : Arguments} {body : List Stmt} {scope : Scope} {dV kV doc pm cdv ct : Value} {an : Option Addr}
    (ho : G.K.lookup f = some ⟨oc, od, .func (fnOf name qual params body scope dV kV doc pm an cdv ct), osl⟩) (hcd : codeIn G.K cdv qual = true) (hlen : ps.length = ts.length)
    (hbind : ∀ vs : List Value, vs.length = ps.length → bindArgs (fnOf name qual params body scope dV kV doc pm an cdv ct) ⟨vs, []⟩ = pure (ps.zip vs)) (hnd : ps.Nodup)
    (hkind : ∀ x, x ∈ ps → scope.names.lookup x = some .local ∨ (scope.names.lookup x = some .cell ∧ (x == ("__classdict__" : Str)) = false ∧ ∀ L, ((cellsFrom (L + 1) scope.names []).lookup x).isSome = true))
    (hbody : ∀ L, EnvC (G.at' n (envOfC qual scope L f cdv)) → ∀ X, ExL (G.at' n (envOfC qual scope L f cdv)) X (ps.zip ts) [] body fun o => o = .ret t)
    (hco : scope.isCoroutine = false := by rfl) (hgen : scope.isGenerator = false := by rfl) (hk : scope.kind = .function := by rfl) : CallE G (n + 1) f ts t := .mk fun A E s Q vs X oa g lv ht r hq => by
  have hvl : vs.length = ps.length := by rw [r.length, hlen]
  have hz1 : ∀ x ∈ ps.zip vs, x.1 ∈ ps := fun x hx => by obtain ⟨a, b⟩ := x; exact (List.of_mem_zip hx).1
  refine wpAny_call ?_
  refine codeAny_call_function (fd := fnOf name qual params body scope dV kV doc pm an cdv ct) (body := body) (by have := oa.dp; omega) (g.k _ _ ho) rfl hco hgen rfl (codeRec_of g.k hcd) ?_
  rw [hbind vs hvl]
  refine wpAny_pure (wpAny_with_toks (Nat.le_refl _) (wpAny_newFunctionEnv_cells hk (fun x hx => ?_) fun env he s' x htk => ⟨g.lim.keeps x.toInCall.keep, ?_⟩))
  · rcases hkind x.1 (hz1 x hx) with q | ⟨q, _, q2⟩
    · exact .inl q
    · exact .inr ⟨q, q2 _⟩
  have he' : env = envOfC qual scope s.heap.objs.size f cdv := he
  subst he'
  have hz : ((ps.zip vs).map (·.1)).Nodup := by rw [List.map_fst_zip (by omega)]; exact hnd
  have SS : St (G.at' n (envOfC qual scope s.heap.objs.size f cdv)) X (fun a o => s.heap.get? a = some o) (ps.zip ts) [] s'.heap := by
    refine ⟨x.toInCall.keep, ⟨_, x.toInCall.ns⟩, fun k c e => ⟨_, x.cell k c e⟩, fun o e => ?_, fun k c e o eo => ?_, List.nodup_nil, fun p hp => (nomatch hp), fun p hp => (nomatch hp), ⟨fun p hp => ?_⟩⟩
    · rw [show (Cx.env (G.at' n (envOfC qual scope s.heap.objs.size f cdv))).locals = s.heap.objs.size from rfl, get_size] at e; cases e
    · have h1 := x.above k c (mem_of_lookup e)
      have h2 := Heap.lt_size eo
      exact Nat.lt_irrefl _ (Nat.lt_trans h1 h2)
    · obtain ⟨v, hv, rv⟩ := repL_zip r p hp
      refine ⟨v, ?_, rv.sub x.toInCall.keep⟩
      rcases hkind p.1 (hz1 _ hv) with q | ⟨q, q1, q2⟩
      · exact .inl ⟨q, _, x.toInCall.ns, bindL_on q _ _ hz hv⟩
      · obtain ⟨c, hc⟩ := Option.isSome_iff_exists.mp (q2 s.heap.objs.size)
        have := x.cell p.1 c hc
        rw [bindC_on (k := (envOfC qual scope s.heap.objs.size f cdv).kindOf) (by show ¬ scope.names.lookup p.1 = _; rw [q]; decide) _ _ hz hv] at this
        exact .inr ⟨.inl q, q1, c, hc, this⟩
  have EC : EnvC (G.at' n (envOfC qual scope s.heap.objs.size f cdv)) := ⟨⟨hk, rfl, rfl⟩, x.apart⟩
  refine codeAny_func ?_
  obtain ⟨h₁, tk, hs', _⟩ := x.toInCall.done
  refine (hbody s.heap.objs.size EC X).run (A.deeper _) _ s' (fun a o => s.heap.get? a = some o) _ ⟨oa.hd, by have := oa.dp; show A.depth + 1 + n < _; omega, by have := oa.un; show A.units + 3 + 8 * n + 40 < _; omega⟩
    ⟨fun h hh => g.sub hh, lv⟩ SS (Nat.le_trans ht htk) fun out fl h' tk' ko po l => ?_
  subst ko
  obtain ⟨v, rfl, p1, p2⟩ := po
  rw [hs']
  exact hq v h' tk' p1 (Nat.le_trans htk l) p2

section
variable {C : Cx} {X : List Addr} {σ σ' : List (Str × T)} {α α' : List (Addr × List T)} {K K' : Out → Prop} {rest : List Stmt} {B : Addr → Obj → Prop} {h : Heap}

/-- the name of a def of the program -/
structure IsF (C : Cx) (x : Str) (f : Addr) : Prop where
  kind : C.env.kindOf x = some .globalImplicit
  mg : C.mg x = some (.ref f)
  fn : ∃ o fd, C.K.lookup f = some o ∧ o.data = .func fd
theorem name_f {A : Around} {E : Value → Shared → Prop} {s : Shared} {Q : Value → Shared → Prop} {x : Str} {f : Addr} {pos : Pos} (e : EnvOk C) (hb : IsF C x f) (g : Gl C.K C.mg C.mb s.heap) (h : Q (.ref f) s)
    (hd : (x == ("__debug__" : Str)) = false := by decide) : wpAny (model C.prog C.w) A (eval (.Name x pos) C.env) Q E s :=
  Name_function_global e.kind hb.kind (loadGlobal_global (mg := C.mg) (by rw [e.glob]; exact g.g) hb.mg h) hd

theorem OkA.mono {n m : Nat} {A : Around} (o : OkA n A) (h : m ≤ n) : OkA m A := o.le h
theorem EvE.call {x : Str} {f : Addr} {e : Expr} {es : List Expr} {p pos : Pos} {ts : List T} {t : T} {n : Nat} (en : EnvOk C) (hb : IsF C x f) (h : EvL C X σ (e :: es) ts) (hc : CallE C n f ts t) (hn : n ≤ C.n)
    (hd : (x == ("__debug__" : Str)) = false := by decide) (he : eval (.Call (.Name x p) (e :: es) [] pos) C.env = (do callWith pos (← eval (.Name x p) C.env) [] (backTo pos (starEach (e :: es) C.env)) (backToKw pos (keywordEach [] C.env))) := by rfl)
    (he2 : starEach (e :: es) C.env = (false, eval e C.env) :: starEach es C.env := by rfl) : EvE C X σ (.Call (.Name x p) (e :: es) [] pos) t :=
  .mk fun A E s Q o hq => by
    obtain ⟨ob, fd, h1, h2⟩ := hb.fn
    refine Call_ (he := he) (name_f en hb o.g (PyProof.Rows.callWith_def (he := he2) h2 (h.run A E s pos _ o fun vs h' tk k l r => ⟨k _ _ (o.g.k _ _ h1), ?_⟩)) hd)
    exact hc.run A E _ Q vs X (o.a.le hn) (o.g.sub k) (o.l.sub k) (Nat.le_trans o.t l) r (hq.step k l)
theorem EvE.call0 {x : Str} {f : Addr} {p pos : Pos} {t : T} {n : Nat} (en : EnvOk C) (hb : IsF C x f) (hc : CallE C n f [] t) (hn : n ≤ C.n)
    (hd : (x == ("__debug__" : Str)) = false := by decide) (he : eval (.Call (.Name x p) [] [] pos) C.env = (do callWith pos (← eval (.Name x p) C.env) [] (backTo pos (starEach [] C.env)) (backToKw pos (keywordEach [] C.env))) := by rfl)
    : EvE C X σ (.Call (.Name x p) [] [] pos) t :=
  .mk fun A E s Q o hq => by
    obtain ⟨ob, fd, h1, h2⟩ := hb.fn
    refine Call_ (he := he) (name_f en hb o.g (PySem.Calls.callWith_function (o := ob) (fd := fd) (PyProof.Rows.evalArgs_none ⟨⟨o.g.k _ _ h1, h2⟩, ?_⟩)) hd)
    exact hc.run A E _ Q [] X (o.a.le hn) o.g o.l o.t .empty hq
/-- a def named by a value -/
theorem EvE.callV {x : Str} {f : Addr} {e : Expr} {es : List Expr} {p pos : Pos} {ts : List T} {t : T} {n : Nat} (en : EnvOk C) (hf : ∃ o fd, C.K.lookup f = some o ∧ o.data = .func fd) (h0 : EvE C X σ (.Name x p) (.ref f)) (h : EvL C X σ (e :: es) ts) (hc : CallE C n f ts t) (hn : n ≤ C.n)
    (he : eval (.Call (.Name x p) (e :: es) [] pos) C.env = (do callWith pos (← eval (.Name x p) C.env) [] (backTo pos (starEach (e :: es) C.env)) (backToKw pos (keywordEach [] C.env))) := by rfl)
    (he2 : starEach (e :: es) C.env = (false, eval e C.env) :: starEach es C.env := by rfl) : EvE C X σ (.Call (.Name x p) (e :: es) [] pos) t :=
  .mk fun A E s Q o hq => by
    obtain ⟨ob, fd, h1, h2⟩ := hf
    refine Call_ (he := he) (h0.run A E s _ o fun v h0 tk0 k0 l0 r0 => ?_)
    rw [r0.ref]
    refine PyProof.Rows.callWith_def (he := he2) h2 (h.run A E _ pos _ (o.step k0 l0) fun vs h' tk k l r => ⟨k _ _ ((o.g.sub k0).k _ _ h1), ?_⟩)
    exact hc.run A E _ Q vs X (o.a.le hn) ((o.g.sub k0).sub k) ((o.l.sub k0).sub k) (Nat.le_trans o.t (Nat.le_trans l0 l)) r ((hq.step k0 l0).step k l)
end
end Mine
end

-- Core8
section
open PySem PySem.W PyProof.Rows PySem.Calls PySem.Spec
set_option maxRecDepth 100000
namespace Mine
open PySem (Expr)

/-- an own list gets other items -/
inductive Upd (a : Addr) (l l' : List T) : List (Addr × List T) → List (Addr × List T) → Prop
  | hit {α : List (Addr × List T)} : Upd a l l' ((a, l) :: α) ((a, l') :: α)
  | miss {p : Addr × List T} {α α' : List (Addr × List T)} : Upd a l l' α α' → Upd a l l' (p :: α) (p :: α')
theorem Upd.keys {a : Addr} {l l' : List T} {α α' : List (Addr × List T)} (u : Upd a l l' α α') : α'.map (·.1) = α.map (·.1) := by
  induction u with
  | hit => rfl
  | miss _ ih => simp [ih]
theorem Upd.mem {a : Addr} {l l' : List T} {α α' : List (Addr × List T)} (u : Upd a l l' α α') : (a, l) ∈ α := by
  induction u with
  | hit => exact .head _
  | miss _ ih => exact .tail _ ih
theorem Upd.old {a : Addr} {l l' : List T} {α α' : List (Addr × List T)} (u : Upd a l l' α α') (nd : (α.map (·.1)).Nodup) : ∀ p, p ∈ α' → p = (a, l') ∨ (p ∈ α ∧ p.1 ≠ a) := by
  induction u with
  | hit =>
    intro p hp
    simp only [List.map_cons, List.nodup_cons] at nd
    cases hp with
    | head => exact .inl rfl
    | tail _ hp => exact .inr ⟨.tail _ hp, fun e => nd.1 (e ▸ List.mem_map_of_mem hp)⟩
  | miss u ih =>
    intro p hp
    simp only [List.map_cons, List.nodup_cons] at nd
    cases hp with
    | head => exact .inr ⟨.head _, fun e => nd.1 (e ▸ (List.mem_map_of_mem (f := (·.1)) u.mem : _))⟩
    | tail _ hp => exact (ih nd.2 p hp).imp id fun q => ⟨.tail _ q.1, q.2⟩

section
variable {C : Cx} {X : List Addr} {σ σ' σt : List (Str × T)} {α α' : List (Addr × List T)} {K K' : Out → Prop} {rest : List Stmt} {B : Addr → Obj → Prop} {h : Heap}

theorem St.mut (S : St C X B σ α h) {a : Addr} {l l' : List T} {vs' : List Value} {n' : Nat} {h' : Heap} (u : Upd a l l' α α') (hs : Heap.SameBut a h h') (e : h'.get? a = some (lstObj vs' n')) (r : RepL (α.map (·.1) ++ X) h l' vs') : St C X B σ α' h' := by
  have am := u.mem
  obtain ⟨vs0, n0, e0, _⟩ := S.own _ am
  have ak : a ∈ α.map (·.1) := List.mem_map_of_mem (f := (·.1)) am
  have sees : ∀ {Y : List Addr}, a ∈ Y → Sees Y h h' := fun hy b o hb _ eb => (hs.2 b fun q => hb (q ▸ hy)).trans eb
  have aF : a ∈ α.map (·.1) ++ X := List.mem_append_left _ ak
  have nos : ¬ NoSeq h a := fun q => (q _ e0 vs0 n0).1 rfl
  refine ⟨fun b o eb => (hs.2 b fun q => S.ob _ am o (q ▸ eb)).trans (S.b b o eb), ?_, fun n c hc => ?_, S.nb, S.cb, u.keys ▸ S.nd, fun p hp => ?_, fun p hp => ?_, ⟨fun p hp => ?_⟩⟩
  · obtain ⟨m, hm⟩ := S.ns
    exact ⟨m, hm.sameBut hs fun q => nos (q ▸ ns_noSeq hm)⟩
  · obtain ⟨v, hv⟩ := S.cl n c hc
    exact ⟨v, hv.sameBut hs fun q => nos (q ▸ cell_noSeq hv)⟩
  · rw [u.keys]
    rcases u.old S.nd p hp with rfl | ⟨hp, hne⟩
    · exact ⟨vs', n', e, r.sees (fun _ m => m) (sees aF)⟩
    · obtain ⟨vs, n, e1, r1⟩ := S.own p hp
      exact ⟨vs, n, (hs.2 _ hne).trans e1, r1.sees (fun _ m => m) (sees aF)⟩
  · rcases u.old S.nd p hp with rfl | ⟨hp, _⟩
    · exact fun o eo => S.ob _ am o eo
    · exact S.ob p hp
  · rw [u.keys]
    obtain ⟨v, hv, r1⟩ := S.rd.val p hp
    refine ⟨v, ?_, r1.sees (fun _ m => m) (sees aF)⟩
    rcases hv with ⟨k, m, b, c⟩ | ⟨k, k', c, b, d⟩
    · exact .inl ⟨k, m, b.sameBut hs (fun q => nos (q ▸ ns_noSeq b)), c⟩
    · exact .inr ⟨k, k', c, b, d.sameBut hs fun q => nos (q ▸ cell_noSeq d)⟩
theorem St.upd (S : St C X B σ α h) {a : Addr} {l l' : List T} (u : Upd a l l' α α') (f : Array Value → Array Value) (r : ∀ vs, RepL (α.map (·.1) ++ X) h l vs → RepL (α.map (·.1) ++ X) h l' (f vs.toArray).toList) :
    St C X B σ α' (h.update a (Obj.mapSeq f)) := by
  obtain ⟨vs, n, e, q⟩ := S.own _ u.mem
  exact S.mut u (Heap.SameBut.update ..) (vs' := (f vs.toArray).toList) (IsL.update (n := n) e f) (r vs q)

/-- an own list read -/
theorem St.ownAt (S : St C X B σ α h) {x : Str} {a : Addr} {l : List T} (hx : (x, .ref a) ∈ σ) (ha : (a, l) ∈ α) : ∃ vs n, Reads C.env h x (.ref a) ∧ h.get? a = some (lstObj vs n) ∧ RepL (α.map (·.1) ++ X) h l vs := by
  obtain ⟨v, hv, r⟩ := S.rd.val _ hx
  obtain ⟨vs, n, e, q⟩ := S.own _ ha
  exact ⟨vs, n, r.ref ▸ hv, e, q⟩

theorem St.fresh_add (S : St C X B σ α h) (bo : BOk C X B) {h' : Heap} (k : Sub h h') {a : Addr} {vs : List Value} {n : Nat} {l : List T} (hf : h.get? a = none) (e : h'.get? a = some (lstObj vs n)) (hl : ∀ t, t ∈ l → t.flat = true) {Y : List Addr} (r : RepL Y h' l vs) :
    a ∉ α.map (·.1) ∧ St C X B σ ((a, l) :: α) h' := by
  have an : a ∉ α.map (·.1) := fun m => by
    obtain ⟨p, hp, rfl⟩ := List.mem_map.mp m
    obtain ⟨vs, n, e, _⟩ := S.own p hp
    rw [hf] at e; cases e
  have S' := S.grow k
  have more : ∀ b, b ∈ a :: α.map (·.1) ++ X → b ∈ α.map (·.1) ++ X ∨ h.get? b = none := fun b m => by
    rw [List.cons_append] at m
    cases m with
    | head => exact .inr hf
    | tail _ m => exact .inl m
  have flatL : ∀ {l : List T} {vs : List Value} {Z Z' : List Addr} {h h' : Heap}, (∀ t, t ∈ l → t.flat = true) → RepL Z h l vs → RepL Z' h' l vs := fun {l} => by
    induction l with
    | nil => intro vs Z Z' h h' _ r; rw [r.nil']; exact .empty
    | cons t l ih =>
      intro vs Z Z' h h' hl r
      obtain ⟨v, q, rfl, r1, r2⟩ := r.cons'
      exact .cons (r1.any (hl t (.head _))) (ih (fun t m => hl t (.tail _ m)) r2)
  refine ⟨an, S'.b, S'.ns, S'.cl, S.nb, S.cb, List.nodup_cons.mpr ⟨an, S.nd⟩, fun p hp => ?_, fun p hp => ?_, ⟨fun p hp => ?_⟩⟩
  · cases hp with
    | head => exact ⟨vs, n, e, flatL hl r⟩
    | tail _ hp =>
      obtain ⟨ws, m, e1, r1⟩ := S.own p hp
      exact ⟨ws, m, k _ _ e1, (r1.more more).sub k⟩
  · cases hp with
    | head => intro o eo; have := S.b _ o eo; rw [hf] at this; cases this
    | tail _ hp => exact S.ob p hp
  · obtain ⟨v, hv, r1⟩ := S.rd.val p hp
    exact ⟨v, hv.sub k, (r1.more more).sub k⟩

/-- a fresh list of flat trees, kept by one name alone -/
theorem ExL.own {x : Str} {px pos : Pos} {e : Expr} {l : List T} {σf : List (Str × T)} (en : EnvC C) (hf : ∀ p, p ∈ σf → p ∈ σ ∧ p.2.flat = true) (h : ∀ Y, EvE C Y σf e (.list l)) (hl : ∀ t, t ∈ l → t.flat = true)
    (hr : ∀ a, a ∉ α.map (·.1) → ∃ σ', Put x (.ref a) σ σ' ∧ ExL C X σ' ((a, l) :: α) rest K) (hx : Sto C.env x := by exact .inl rfl)
    (hsw : swapsWith e (some (.Name x px)) pos.line C.env = pure false := by rfl) : ExL C X σ α (.Assign [.Name x px] e pos :: rest) K := .cons <| .mk fun A E s B Q a bo S tk hq => by
  refine wpAny_Assign_Name ((h ((List.range s.heap.objs.size).filter fun b => (s.heap.get? b).isSome)).run A E s _ ⟨a, fun b m => ?_, bo.gl _ S.b, ⟨fun p hp => ?_⟩, tk, fun n c hc => let ⟨v, o, e, _⟩ := S.cl n c hc; ⟨o, e⟩⟩ fun v h' tk' k' l' r => ?_) hsw
  · simp only [List.mem_filter] at m
    exact Option.isSome_iff_exists.mp m.2
  · obtain ⟨v, hv, r⟩ := S.rd.val p (hf p hp).1
    exact ⟨v, hv, r.any (hf p hp).2⟩
  · obtain ⟨c, vs, n, rfl, hc, e, q⟩ := r.list
    have hfr : s.heap.get? c = none := by
      cases w : s.heap.get? c with
      | none => rfl
      | some o => exact absurd (by simp only [List.mem_filter, List.mem_range]; exact ⟨Heap.lt_size w, by rw [w]; rfl⟩) hc
    obtain ⟨an, S'⟩ := S.fresh_add bo k' hfr e hl q
    obtain ⟨σ', hp, hr⟩ := hr c an
    exact store_st en S' hx hp .mkRef fun h'' tk'' l'' S'' => hq (.next σ' _) _ _ _ hr ⟨rfl, S''⟩ (Nat.le_trans l' l'')

/-- append -/
theorem ExL.append {x : Str} {a : Addr} {l : List T} {t : T} {e : Expr} {nm : Str} {px apos pos spos : Pos} (en : EnvC C) (hn : nm = "append") (hx : (x, .ref a) ∈ σ) (hu : Upd a l (l ++ [t]) α α') (th : Thaw α σ σt) (h : EvE C X σt e t) (hf : t.flat = true) (hsz : l.length ≤ sizeLine)
    (hr : ExL C X σ α' rest K) (hd : (x == ("__debug__" : Str)) = false := by decide) (pl : Sem Bool)
    (he : eval (.Call (.Attribute (.Name x px) nm apos) [e] [] pos) C.env = (do
      let ov ← eval (.Name x px) C.env
      standAt apos.atName
      let (f, first) ← holding [ov] (getMethod ov nm pl)
      callWith pos f first (backTo pos (starEach [e] C.env)) []) := by rfl)
    (he2 : starEach [e] C.env = (false, eval e C.env) :: starEach [] C.env := by rfl) (hp : (backTo pos (starEach [] C.env)).any (·.1) = false := by rfl)
    (hi : interactive C.env = false := by rfl) (hsw : swapsWith (.Call (.Attribute (.Name x px) nm apos) [e] [] pos) none spos.line C.env = pure false := by rfl) :
    ExL C X σ α (.Expr (.Call (.Attribute (.Name x px) nm apos) [e] [] pos) spos :: rest) K := .cons <| .mk fun A E s B Q ao bo S tk hq => by
  subst hn
  obtain ⟨vs, n, hv, e1, q⟩ := S.ownAt hx hu.mem
  refine wpAny_Expr_any (MethodCall_ (pl := pl) (he := he) (wpAny_Name (load_of en.ok.kind hv ?_) hd)) hi hsw
  refine getMethod_builtin ⟨_, e1, rfl⟩ F.plainAttrs_list slot_list_append (by rfl) (fun b eb => by cases eb; exact ⟨_, e1, rfl⟩) (callWith_method1 (he := he2) (hplain := hp) (args_cons (he := he2) (h.run A E s _ (S.okT bo ao tk th) fun v h2 tk2 k2 l2 r2 => args_nil ?_)))
  have S2 := S.grow k2
  refine wpAny_list_append_plain ⟨n, k2 _ _ e1⟩ (fun h3 hpl hs => ?_) (by rw [List.size_toArray, q.length]; exact hsz)
  obtain ⟨n3, e3⟩ := hpl
  refine hq (.next σ α') _ h3 tk2 hr ⟨rfl, S2.mut hu hs (vs' := vs ++ [v]) (n' := n3) (by rw [e3]; simp) ((q.sub k2).append (.cons (r2.any hf) .empty))⟩ l2

/-- one item goes -/
theorem eraseAt {Y : List Addr} {h : Heap} : ∀ {l : List T} {vs : List Value} (k : Nat), RepL Y h l vs → RepL Y h (l.eraseIdx k) (vs.eraseIdx k)
  | [], vs, k, r => by rw [r.nil']; exact .empty
  | t :: l, vs, 0, r => by obtain ⟨v, q, rfl, r1, r2⟩ := r.cons'; exact r2
  | t :: l, vs, k + 1, r => by obtain ⟨v, q, rfl, r1, r2⟩ := r.cons'; exact .cons r1 (eraseAt k r2)
theorem setAt {Y : List Addr} {h : Heap} {t : T} {v : Value} (rv : Rep Y h t v) : ∀ {l : List T} {vs : List Value} (k : Nat), RepL Y h l vs → RepL Y h (l.set k t) (vs.set k v)
  | [], vs, k, r => by rw [r.nil']; exact .empty
  | t :: l, vs, 0, r => by obtain ⟨v, q, rfl, r1, r2⟩ := r.cons'; exact .cons rv r2
  | t :: l, vs, k + 1, r => by obtain ⟨v, q, rfl, r1, r2⟩ := r.cons'; exact .cons r1 (setAt rv k r2)
theorem erase_toList (vs : List Value) (k : Nat) : (vs.toArray.eraseIdxIfInBounds k).toList = vs.eraseIdx k := by
  simp
theorem set_toList (vs : List Value) (k : Nat) (v : Value) : (vs.toArray.setIfInBounds k v).toList = vs.set k v := by
  simp

theorem ExL.del {x : Str} {a : Addr} {l : List T} {i : Int} {k : Nat} {e : Expr} {px dpos pos : Pos} (en : EnvC C) (hx : (x, .ref a) ∈ σ) (hu : Upd a l (l.eraseIdx k) α α') (h : EvE C X [] e (.int i)) (hfit : Builtin.List.listFitsIndex i = true) (hk : seqIndex? i l.length = some k) (hsz : l.length ≤ sizeLine)
    (hr : ExL C X σ α' rest K) (hd : (x == ("__debug__" : Str)) = false := by decide) : ExL C X σ α (.Delete [.Subscript (.Name x px) e dpos] pos :: rest) K := .cons <| .mk fun A E s B Q ao bo S tk hq => by
  obtain ⟨vs, n, hv, e1, q⟩ := S.ownAt hx hu.mem
  refine wpAny_Delete (wpAny_deleteEach_cons (wpAny_delete_Subscript (wpAny_Name (load_of en.ok.kind hv (h.run A E s _ (S.okT bo ao tk .nil) fun v h2 tk2 k2 l2 r2 => ?_)) hd)))
  obtain ⟨u, rfl⟩ := r2.int
  refine P.delItem_list (items := vs.toArray) (n := n) (k := k) (k2 _ _ e1) hfit (by rw [List.size_toArray, q.length]; exact hk) (wpAny_deleteEach_nil ?_) (by rw [List.size_toArray, q.length]; exact hsz)
  exact hq (.next σ α') _ _ tk2 hr ⟨rfl, (S.grow k2).upd hu _ fun vs r => by rw [erase_toList]; exact eraseAt k r⟩ l2

/-- `x[i] op= e` -/
theorem ExL.augItem {x : Str} {a : Addr} {l : List T} {i : Int} {t0 t1 t : T} {ei e : Expr} {op : Operator} {px dpos pos : Pos} (en : EnvC C) (hx : (x, .ref a) ∈ σ) (hu : Upd a l (l.set i.toNat t) α α') (th : Thaw α σ σt) (hi : EvE C X σt ei (.int i)) (h0 : 0 ≤ i) (h1 : i < l.length) (hsz : l.length ≤ sizeLine)
    (hg : l[i.toNat]? = some t0) (hfo : t0.flat = true) (h : EvE C X σt e t1) (ho : OpR C X (inplaceOp op) t0 t1 t) (hf : t.flat = true) (hr : ExL C X σ α' rest K)
    (hd : (x == ("__debug__" : Str)) = false := by decide) (ha : ∀ ov iv new, augStore ei ov iv new = (do holding [new, ov, iv] (setItem ov iv new); release [new, ov, iv] []; pure .next) := by intro _ _ _; rfl) :
    ExL C X σ α (.AugAssign (.Subscript (.Name x px) ei dpos) op e pos :: rest) K := .cons <| .mk fun A E s B Q ao bo S tk hq => by
  obtain ⟨vs, n, hv, e1, q⟩ := S.ownAt hx hu.mem
  have ok := S.okT bo ao tk th
  refine wpAny_AugAssign_Subscript_any (ha := ha) (wpAny_Name (load_of en.ok.kind hv (hi.run A E s _ ok fun v h2 tk2 k2 l2 r2 => ?_)) hd)
  obtain ⟨u, rfl⟩ := r2.int
  obtain ⟨w, hw, rw⟩ := q.get hg
  have hlt : i < 2 ^ 63 := by have := fits63 hsz; omega
  refine wpAny_getItem_list (isList_of (k2 _ _ e1)) h0 hlt (by simpa using hw) (h.run A E _ _ (ok.step k2 l2) fun v1 h3 tk3 k3 l3 r3 => ?_)
  refine ho.run A E _ _ w v1 ao (Nat.le_trans tk (Nat.le_trans l2 l3)) (((S.liveX bo).sub k2).sub k3) (rw.any hfo) r3 fun v2 h4 tk4 k4 l4 r4 => ?_
  have kk := (k2.trans k3).trans k4
  refine ki_setAt (items := vs.toArray) (n := n) (kk _ _ e1) h0 hlt (by rw [List.size_toArray, q.length]; exact h1) ?_
  exact hq (.next σ α') _ _ tk4 hr ⟨rfl, (S.grow kk).upd hu _ fun vs r => by rw [set_toList]; exact setAt (r4.any hf) _ r⟩ (Nat.le_trans l2 (Nat.le_trans l3 l4))

/-- `x[j][i] = e`, x a list of own lists -/
theorem ExL.setRow {x : Str} {as : List T} {a : Addr} {l : List T} {i j : Int} {t : T} {ei ej e : Expr} {px dpos dpos' pos : Pos} (en : EnvC C) (hx : (x, .list as) ∈ σ) (hb : as[j.toNat]? = some (.ref a)) (hu : Upd a l (l.set i.toNat t) α α') (th : Thaw α σ σt) (h : EvE C X σt e t) (hf : t.flat = true)
    (hj : EvE C X σt ej (.int j)) (hi : EvE C X σt ei (.int i)) (h0 : 0 ≤ i) (h1 : i < l.length) (hsz : l.length ≤ sizeLine) (j0 : 0 ≤ j) (jsz : as.length ≤ sizeLine) (hr : ExL C X σ α' rest K)
    (hd : (x == ("__debug__" : Str)) = false := by decide) (hs : ∀ a u, subscripted ej false (.ref a) (.int j u) = operate [.ref a, .int j u] (getItem (.ref a) (.int j u)) := by intro _ _; rfl)
    (hsw : swapsWith e (some (.Subscript (.Subscript (.Name x px) ej dpos') ei dpos)) pos.line C.env = pure false := by rfl) :
    ExL C X σ α (.Assign [.Subscript (.Subscript (.Name x px) ej dpos') ei dpos] e pos :: rest) K := .cons <| .mk fun A E s B Q ao bo S tk hq => by
  have ok := S.okT bo ao tk th
  obtain ⟨vs, n, e1, q⟩ := S.own _ hu.mem
  obtain ⟨v0, hv0, r0⟩ := S.rd.val _ hx
  obtain ⟨c, ws, m, rfl, hc, ec, qc⟩ := r0.list
  refine wpAny_Assign_Subscript (hs := hsw) (h.run A E s _ ok fun v h2 tk2 k2 l2 r2 => Subscript_ (wpAny_Name (load_of en.ok.kind (hv0.sub k2) (hj.run A E _ _ (ok.step k2 l2) fun vj h3 tk3 k3 l3 r3 => ?_)) hd))
  obtain ⟨u, rfl⟩ := r3.int
  obtain ⟨y, hy, ry⟩ := qc.get hb
  have ey := ry.ref
  subst ey
  have hlt : j < 2 ^ 63 := by
    have : j.toNat < as.length := by
      rcases Nat.lt_or_ge j.toNat as.length with h | h
      · exact h
      · rw [List.getElem?_eq_none h] at hb; cases hb
    have := fits63 jsz; omega
  have k23 := k2.trans k3
  refine tail_any (isList_of (k23 _ _ ec)).typeIs slot_list_getitem.lookup (wpAny_getItem_list (isList_of (k23 _ _ ec)) j0 hlt (by simpa using hy) (hi.run A E _ _ ((ok.step k2 l2).step k3 l3) fun vi h4 tk4 k4 l4 r4 => ?_)) (hs c u)
  obtain ⟨u', rfl⟩ := r4.int
  have kk := k23.trans k4
  have hlt' : i < 2 ^ 63 := by have := fits63 hsz; omega
  refine ki_setAt (items := vs.toArray) (n := n) (kk _ _ e1) h0 hlt' (by rw [List.size_toArray, q.length]; exact h1) ?_
  exact hq (.next σ α') _ _ tk4 hr ⟨rfl, (S.grow kk).upd hu _ fun vs r => by rw [set_toList]; exact setAt (r2.any hf) _ r⟩ (Nat.le_trans l2 (Nat.le_trans l3 l4))

/-- `x op= e` -/
theorem ExL.augT {x : Str} {t0 t1 t : T} {e : Expr} {op : Operator} {px pos : Pos} (en : EnvC C) (hx : (x, t0) ∈ σ) (hfo : t0.flat = true) (th : Thaw α σ σt) (h : EvE C X σt e t1) (ho : OpR C X (inplaceOp op) t0 t1 t) (hf : t.flat = true) (hp : Put x t σ σ' := by repeat (first | exact Put.nil | (apply Put.hit; repeat (first | exact Off.nil | apply Off.cons (by decide))) | apply Put.miss (by decide))) (hr : ExL C X σ' α rest K) (hs : Sto C.env x := by exact .inl rfl) :
    ExL C X σ α (.AugAssign (.Name x px) op e pos :: rest) K := .cons <| .mk fun A E s B Q ao bo S tk hq => by
  obtain ⟨v0, hv0, r0⟩ := S.rd.val _ hx
  refine wpAny_AugAssign_Name (load_of en.ok.kind hv0 (h.run A E s _ (S.okT bo ao tk th) fun v1 h2 tk2 k2 l2 r2 => ?_))
  refine ho.run A E _ _ v0 v1 ao (Nat.le_trans tk l2) ((S.liveX bo).sub k2) (r0.any hfo) r2 fun v2 h3 tk3 k3 l3 r3 => ?_
  exact store_st en (S.grow (k2.trans k3)) hs hp (r3.any hf) fun h4 tk4 l4 S4 => hq (.next σ' α) _ _ _ hr ⟨rfl, S4⟩ (Nat.le_trans l2 (Nat.le_trans l3 l4))
theorem ExL.aug {x : Str} {t0 t1 t : T} {e : Expr} {op : Operator} {px pos : Pos} (en : EnvC C) (hx : (x, t0) ∈ σ) (hfo : t0.flat = true) (h : EvE C X σ e t1) (ho : OpR C X (inplaceOp op) t0 t1 t) (hf : t.flat = true) (hp : Put x t σ σ' := by repeat (first | exact Put.nil | (apply Put.hit; repeat (first | exact Off.nil | apply Off.cons (by decide))) | apply Put.miss (by decide))) (hr : ExL C X σ' α rest K) (hs : Sto C.env x := by exact .inl rfl) :
    ExL C X σ α (.AugAssign (.Name x px) op e pos :: rest) K := .augT Thaw.refl (en := en) (hx := hx) (hfo := hfo) (h := h) (ho := ho) (hf := hf) (hp := hp) (hr := hr) (hs := hs)

theorem ExL.assertT {test : Expr} {msg : Option Expr} {pos : Pos} (th : Thaw α σ σt) (h : EvB C X σt test true) (hr : ExL C X σ α rest K) : ExL C X σ α (.Assert test msg pos :: rest) K := .cons <| .mk fun A E s B Q ao bo S tk hq =>
  wpAny_Assert_holds (h.run A E s _ (S.okT bo ao tk th) fun h' tk' k l => ⟨rfl, hq (.next σ α) _ _ _ hr ⟨rfl, S.grow k⟩ l⟩)
theorem ExL.assert {test : Expr} {msg : Option Expr} {pos : Pos} (h : EvB C X σ test true) (hr : ExL C X σ α rest K) : ExL C X σ α (.Assert test msg pos :: rest) K := .assertT Thaw.refl (h := h) (hr := hr)

/- several names at once -/
theorem ExL.twoT {x y : Str} {t u : T} {e1 e2 : Expr} {p1 p2 tpos pos vpos : Pos} {k k' : Nat} {σ1 : List (Str × T)} (en : EnvC C) (th : Thaw α σ σt) (h1 : EvE C X σt e1 t) (h2 : EvE C X σt e2 u) (hf1 : t.flat = true) (hf2 : u.flat = true) (hp2 : Put y u σ σ1 := by repeat (first | exact Put.nil | (apply Put.hit; repeat (first | exact Off.nil | apply Off.cons (by decide))) | apply Put.miss (by decide))) (hp1 : Put x t σ1 σ' := by repeat (first | exact Put.nil | (apply Put.hit; repeat (first | exact Off.nil | apply Off.cons (by decide))) | apply Put.miss (by decide))) (hr : ExL C X σ' α rest K)
    (hx : Sto C.env x := by exact .inl rfl) (hy : Sto C.env y := by exact .inl rfl)
    (he1 : starEach [e1, e2] C.env = (false, eval e1 C.env) :: starEach [e2] C.env := by rfl) (he2 : starEach [e2] C.env = (false, eval e2 C.env) :: starEach [] C.env := by rfl)
    (hs : swapsWithSole [.Tuple [.Name x p1, .Name y p2] k tpos] (.Tuple [e1, e2] k' vpos) pos.line C.env = pure false := by rfl)
    (hw : swappedStores [.Tuple [.Name x p1, .Name y p2] k tpos] (.Tuple [e1, e2] k' vpos) C.env = pure (some [x, y]) := by rfl) :
    ExL C X σ α (.Assign [.Tuple [.Name x p1, .Name y p2] k tpos] (.Tuple [e1, e2] k' vpos) pos :: rest) K := .cons <| .mk fun A E s B Q ao bo S tk hq => by
  have hT : EvE C X σt (.Tuple [e1, e2] k' vpos) (.tup [t, u]) := EvE.tup (.cons h1 (.cons h2 .nil (he := he2)) (he := he1)) (by simp only [List.length_cons, List.length_nil]; decide)
  refine Assign_Tuple_swapped (names := [x, y]) (hs := hs) (hw := hw) (hT.run A E s _ (S.okT bo ao tk th) fun v h' tk' k' l r => ?_)
  obtain ⟨a, vs, n, rfl, ha, e, q⟩ := r.tup
  obtain ⟨v1, v2, rfl, r1, r2⟩ := q.two
  refine unpackItems_tuple (items := [v1, v2].toArray) ao.hd (isTup_of e) fun h2' hx2 => ?_
  have S2 : St C X B σ α h2' := (S.grow k').grow fun b o eb => hx2 b o (Nat.ne_of_lt (Heap.lt_size eb)) eb
  refine assignInOrder_cons (bindName_ (store_st en S2 hy hp2 (r2.any hf2) fun h3 tk3 l3 S3 => ?_))
  refine assignInOrder_cons (bindName_ (store_st en S3 hx hp1 (r1.any hf1) fun h4 tk4 l4 S4 => assignInOrder_nil ?_))
  exact hq (.next σ' α) _ _ _ hr ⟨rfl, S4⟩ (Nat.le_trans l (Nat.le_trans l3 l4))
theorem ExL.two {x y : Str} {t u : T} {e1 e2 : Expr} {p1 p2 tpos pos vpos : Pos} {k k' : Nat} {σ1 : List (Str × T)} (en : EnvC C) (h1 : EvE C X σ e1 t) (h2 : EvE C X σ e2 u) (hf1 : t.flat = true) (hf2 : u.flat = true) (hp2 : Put y u σ σ1 := by repeat (first | exact Put.nil | (apply Put.hit; repeat (first | exact Off.nil | apply Off.cons (by decide))) | apply Put.miss (by decide))) (hp1 : Put x t σ1 σ' := by repeat (first | exact Put.nil | (apply Put.hit; repeat (first | exact Off.nil | apply Off.cons (by decide))) | apply Put.miss (by decide))) (hr : ExL C X σ' α rest K)
    (hx : Sto C.env x := by exact .inl rfl) (hy : Sto C.env y := by exact .inl rfl)
    (he1 : starEach [e1, e2] C.env = (false, eval e1 C.env) :: starEach [e2] C.env := by rfl) (he2 : starEach [e2] C.env = (false, eval e2 C.env) :: starEach [] C.env := by rfl)
    (hs : swapsWithSole [.Tuple [.Name x p1, .Name y p2] k tpos] (.Tuple [e1, e2] k' vpos) pos.line C.env = pure false := by rfl)
    (hw : swappedStores [.Tuple [.Name x p1, .Name y p2] k tpos] (.Tuple [e1, e2] k' vpos) C.env = pure (some [x, y]) := by rfl) :
    ExL C X σ α (.Assign [.Tuple [.Name x p1, .Name y p2] k tpos] (.Tuple [e1, e2] k' vpos) pos :: rest) K := .twoT Thaw.refl (en := en) (h1 := h1) (h2 := h2) (hf1 := hf1) (hf2 := hf2) (hp2 := hp2) (hp1 := hp1) (hr := hr) (hx := hx) (hy := hy) (he1 := he1) (he2 := he2) (hs := hs) (hw := hw)
theorem ExL.threeT {x y z : Str} {t u w : T} {e1 e2 e3 : Expr} {p1 p2 p3 tpos pos vpos : Pos} {k k' : Nat} {σ1 σ2 : List (Str × T)} (en : EnvC C) (th : Thaw α σ σt) (h1 : EvE C X σt e1 t) (h2 : EvE C X σt e2 u) (h3 : EvE C X σt e3 w) (hf1 : t.flat = true) (hf2 : u.flat = true) (hf3 : w.flat = true)
    (hp3 : Put z w σ σ1 := by repeat (first | exact Put.nil | (apply Put.hit; repeat (first | exact Off.nil | apply Off.cons (by decide))) | apply Put.miss (by decide))) (hp2 : Put y u σ1 σ2 := by repeat (first | exact Put.nil | (apply Put.hit; repeat (first | exact Off.nil | apply Off.cons (by decide))) | apply Put.miss (by decide))) (hp1 : Put x t σ2 σ' := by repeat (first | exact Put.nil | (apply Put.hit; repeat (first | exact Off.nil | apply Off.cons (by decide))) | apply Put.miss (by decide))) (hr : ExL C X σ' α rest K)
    (hx : Sto C.env x := by exact .inl rfl) (hy : Sto C.env y := by exact .inl rfl) (hz : Sto C.env z := by exact .inl rfl)
    (he1 : starEach [e1, e2, e3] C.env = (false, eval e1 C.env) :: starEach [e2, e3] C.env := by rfl) (he2 : starEach [e2, e3] C.env = (false, eval e2 C.env) :: starEach [e3] C.env := by rfl) (he3 : starEach [e3] C.env = (false, eval e3 C.env) :: starEach [] C.env := by rfl)
    (hs : swapsWithSole [.Tuple [.Name x p1, .Name y p2, .Name z p3] k tpos] (.Tuple [e1, e2, e3] k' vpos) pos.line C.env = pure false := by rfl)
    (hw : swappedStores [.Tuple [.Name x p1, .Name y p2, .Name z p3] k tpos] (.Tuple [e1, e2, e3] k' vpos) C.env = pure (some [x, y, z]) := by rfl) :
    ExL C X σ α (.Assign [.Tuple [.Name x p1, .Name y p2, .Name z p3] k tpos] (.Tuple [e1, e2, e3] k' vpos) pos :: rest) K := .cons <| .mk fun A E s B Q ao bo S tk hq => by
  have hT : EvE C X σt (.Tuple [e1, e2, e3] k' vpos) (.tup [t, u, w]) := EvE.tup (.cons h1 (.cons h2 (.cons h3 .nil (he := he3)) (he := he2)) (he := he1)) (by simp only [List.length_cons, List.length_nil]; decide)
  refine Assign_Tuple_swapped (names := [x, y, z]) (hs := hs) (hw := hw) (hT.run A E s _ (S.okT bo ao tk th) fun v h' tk' k' l r => ?_)
  obtain ⟨a, vs, n, rfl, ha, e, q⟩ := r.tup
  obtain ⟨v1, v2, v3, rfl, r1, r2, r3⟩ := q.three
  refine unpackItems_tuple (items := [v1, v2, v3].toArray) ao.hd (isTup_of e) fun h2' hx2 => ?_
  have S2 : St C X B σ α h2' := (S.grow k').grow fun b o eb => hx2 b o (Nat.ne_of_lt (Heap.lt_size eb)) eb
  refine assignInOrder_cons (bindName_ (store_st en S2 hz hp3 (r3.any hf3) fun h3 tk3 l3 S3 => ?_))
  refine assignInOrder_cons (bindName_ (store_st en S3 hy hp2 (r2.any hf2) fun h4 tk4 l4 S4 => ?_))
  refine assignInOrder_cons (bindName_ (store_st en S4 hx hp1 (r1.any hf1) fun h5 tk5 l5 S5 => assignInOrder_nil ?_))
  exact hq (.next σ' α) _ _ _ hr ⟨rfl, S5⟩ (Nat.le_trans l (Nat.le_trans l3 (Nat.le_trans l4 l5)))
theorem ExL.three {x y z : Str} {t u w : T} {e1 e2 e3 : Expr} {p1 p2 p3 tpos pos vpos : Pos} {k k' : Nat} {σ1 σ2 : List (Str × T)} (en : EnvC C) (h1 : EvE C X σ e1 t) (h2 : EvE C X σ e2 u) (h3 : EvE C X σ e3 w) (hf1 : t.flat = true) (hf2 : u.flat = true) (hf3 : w.flat = true)
    (hp3 : Put z w σ σ1 := by repeat (first | exact Put.nil | (apply Put.hit; repeat (first | exact Off.nil | apply Off.cons (by decide))) | apply Put.miss (by decide))) (hp2 : Put y u σ1 σ2 := by repeat (first | exact Put.nil | (apply Put.hit; repeat (first | exact Off.nil | apply Off.cons (by decide))) | apply Put.miss (by decide))) (hp1 : Put x t σ2 σ' := by repeat (first | exact Put.nil | (apply Put.hit; repeat (first | exact Off.nil | apply Off.cons (by decide))) | apply Put.miss (by decide))) (hr : ExL C X σ' α rest K)
    (hx : Sto C.env x := by exact .inl rfl) (hy : Sto C.env y := by exact .inl rfl) (hz : Sto C.env z := by exact .inl rfl)
    (he1 : starEach [e1, e2, e3] C.env = (false, eval e1 C.env) :: starEach [e2, e3] C.env := by rfl) (he2 : starEach [e2, e3] C.env = (false, eval e2 C.env) :: starEach [e3] C.env := by rfl) (he3 : starEach [e3] C.env = (false, eval e3 C.env) :: starEach [] C.env := by rfl)
    (hs : swapsWithSole [.Tuple [.Name x p1, .Name y p2, .Name z p3] k tpos] (.Tuple [e1, e2, e3] k' vpos) pos.line C.env = pure false := by rfl)
    (hw : swappedStores [.Tuple [.Name x p1, .Name y p2, .Name z p3] k tpos] (.Tuple [e1, e2, e3] k' vpos) C.env = pure (some [x, y, z]) := by rfl) :
    ExL C X σ α (.Assign [.Tuple [.Name x p1, .Name y p2, .Name z p3] k tpos] (.Tuple [e1, e2, e3] k' vpos) pos :: rest) K := .threeT Thaw.refl (en := en) (h1 := h1) (h2 := h2) (h3 := h3) (hf1 := hf1) (hf2 := hf2) (hf3 := hf3) (hp3 := hp3) (hp2 := hp2) (hp1 := hp1) (hr := hr) (hx := hx) (hy := hy) (hz := hz) (he1 := he1) (he2 := he2) (he3 := he3) (hs := hs) (hw := hw)
/-- a tuple of two, unpacked -/
theorem ExL.unpack2T {x y : Str} {t u : T} {e : Expr} {p1 p2 tpos pos : Pos} {k : Nat} {σ1 : List (Str × T)} (en : EnvC C) (th : Thaw α σ σt) (h : EvE C X σt e (.tup [t, u])) (hf1 : t.flat = true) (hf2 : u.flat = true) (hp1 : Put x t σ σ1 := by repeat (first | exact Put.nil | (apply Put.hit; repeat (first | exact Off.nil | apply Off.cons (by decide))) | apply Put.miss (by decide))) (hp2 : Put y u σ1 σ' := by repeat (first | exact Put.nil | (apply Put.hit; repeat (first | exact Off.nil | apply Off.cons (by decide))) | apply Put.miss (by decide))) (hr : ExL C X σ' α rest K)
    (hx : Sto C.env x := by exact .inl rfl) (hy : Sto C.env y := by exact .inl rfl)
    (ht : (assignEach [.Name x p1, .Name y p2] C.env) = [(false, assign (.Name x p1) C.env), (false, assign (.Name y p2) C.env)] := by rfl)
    (hs : swapsWithSole [.Tuple [.Name x p1, .Name y p2] k tpos] e pos.line C.env = pure false := by rfl)
    (hw : swappedStores [.Tuple [.Name x p1, .Name y p2] k tpos] e C.env = pure none := by rfl) :
    ExL C X σ α (.Assign [.Tuple [.Name x p1, .Name y p2] k tpos] e pos :: rest) K := .cons <| .mk fun A E s B Q ao bo S tk hq => by
  refine Assign_Tuple (hs := hs) (hw := hw) (h.run A E s _ (S.okT bo ao tk th) fun v h' tk' k' l r => ?_)
  obtain ⟨a, vs, n, rfl, ha, e, q⟩ := r.tup
  obtain ⟨v1, v2, rfl, r1, r2⟩ := q.two
  refine assign_Tuple_tuple ao.hd (isTup_of e) (by rw [ht]; rfl) (by rw [ht]; rfl) fun h2' hx2 => ?_
  have S2 : St C X B σ α h2' := (S.grow k').grow fun b o eb => hx2 b o (Nat.ne_of_lt (Heap.lt_size eb)) eb
  rw [ht]
  refine assignInOrder_cons (wpAny_assign_Name (store_st en S2 hx hp1 (r1.any hf1) fun h3 tk3 l3 S3 => ?_))
  refine assignInOrder_cons (wpAny_assign_Name (store_st en S3 hy hp2 (r2.any hf2) fun h4 tk4 l4 S4 => assignInOrder_nil ?_))
  exact hq (.next σ' α) _ _ _ hr ⟨rfl, S4⟩ (Nat.le_trans l (Nat.le_trans l3 l4))
theorem ExL.unpack2 {x y : Str} {t u : T} {e : Expr} {p1 p2 tpos pos : Pos} {k : Nat} {σ1 : List (Str × T)} (en : EnvC C) (h : EvE C X σ e (.tup [t, u])) (hf1 : t.flat = true) (hf2 : u.flat = true) (hp1 : Put x t σ σ1 := by repeat (first | exact Put.nil | (apply Put.hit; repeat (first | exact Off.nil | apply Off.cons (by decide))) | apply Put.miss (by decide))) (hp2 : Put y u σ1 σ' := by repeat (first | exact Put.nil | (apply Put.hit; repeat (first | exact Off.nil | apply Off.cons (by decide))) | apply Put.miss (by decide))) (hr : ExL C X σ' α rest K)
    (hx : Sto C.env x := by exact .inl rfl) (hy : Sto C.env y := by exact .inl rfl)
    (ht : (assignEach [.Name x p1, .Name y p2] C.env) = [(false, assign (.Name x p1) C.env), (false, assign (.Name y p2) C.env)] := by rfl)
    (hs : swapsWithSole [.Tuple [.Name x p1, .Name y p2] k tpos] e pos.line C.env = pure false := by rfl)
    (hw : swappedStores [.Tuple [.Name x p1, .Name y p2] k tpos] e C.env = pure none := by rfl) :
    ExL C X σ α (.Assign [.Tuple [.Name x p1, .Name y p2] k tpos] e pos :: rest) K := .unpack2T Thaw.refl (en := en) (h := h) (hf1 := hf1) (hf2 := hf2) (hp1 := hp1) (hp2 := hp2) (hr := hr) (hx := hx) (hy := hy) (ht := ht) (hs := hs) (hw := hw)
end
end Mine
end

-- Core9
section
open PySem PySem.W PyProof.Rows PySem.Calls PySem.Spec
set_option maxRecDepth 100000
namespace Mine
open PySem (Expr)
theorem CallE.of1 {G : Cx} {n : Nat} {f : Addr} {x : Str} {t1 t : T} {oc : Value} {od : Option Addr} {osl : Array (Option Value)} {name qual : Str} {params : Arguments} {body : List Stmt} {scope : Scope} {dV kV doc pm cdv ct : Value} {an : Option Addr}
    (ho : G.K.lookup f = some ⟨oc, od, .func (fnOf name qual params body scope dV kV doc pm an cdv ct), osl⟩) (hcd : codeIn G.K cdv qual = true)
    (hbind : ∀ v1 : Value, bindArgs (fnOf name qual params body scope dV kV doc pm an cdv ct) ⟨[v1], []⟩ = pure [(x, v1)])
    (hkind : scope.names.lookup x = some .local ∨ (scope.names.lookup x = some .cell ∧ (x == ("__classdict__" : Str)) = false ∧ ∀ L, ((cellsFrom (L + 1) scope.names []).lookup x).isSome = true))
    (hbody : ∀ L, EnvC (G.at' n (envOfC qual scope L f cdv)) → ∀ X, ExL (G.at' n (envOfC qual scope L f cdv)) X [(x, t1)] [] body fun o => o = .ret t)
    (hco : scope.isCoroutine = false := by rfl) (hgen : scope.isGenerator = false := by rfl) (hk : scope.kind = .function := by rfl) : CallE G (n + 1) f [t1] t :=
  CallE.of (ps := [x]) ho hcd rfl (fun vs hv => by
    match vs, hv with
    | [v1], _ => exact hbind v1) (by simp) (fun y hy => by
    simp at hy
    subst hy
    exact hkind) hbody hco hgen hk
theorem CallE.of2 {G : Cx} {n : Nat} {f : Addr} {x y : Str} {t1 t2 t : T} {oc : Value} {od : Option Addr} {osl : Array (Option Value)} {name qual : Str} {params : Arguments} {body : List Stmt} {scope : Scope} {dV kV doc pm cdv ct : Value} {an : Option Addr}
    (ho : G.K.lookup f = some ⟨oc, od, .func (fnOf name qual params body scope dV kV doc pm an cdv ct), osl⟩) (hcd : codeIn G.K cdv qual = true)
    (hbind : ∀ v1 v2 : Value, bindArgs (fnOf name qual params body scope dV kV doc pm an cdv ct) ⟨[v1, v2], []⟩ = pure [(x, v1), (y, v2)]) (hne : x ≠ y)
    (hkind : scope.names.lookup x = some .local ∨ (scope.names.lookup x = some .cell ∧ (x == ("__classdict__" : Str)) = false ∧ ∀ L, ((cellsFrom (L + 1) scope.names []).lookup x).isSome = true))
    (hkind2 : scope.names.lookup y = some .local ∨ (scope.names.lookup y = some .cell ∧ (y == ("__classdict__" : Str)) = false ∧ ∀ L, ((cellsFrom (L + 1) scope.names []).lookup y).isSome = true))
    (hbody : ∀ L, EnvC (G.at' n (envOfC qual scope L f cdv)) → ∀ X, ExL (G.at' n (envOfC qual scope L f cdv)) X [(x, t1), (y, t2)] [] body fun o => o = .ret t)
    (hco : scope.isCoroutine = false := by rfl) (hgen : scope.isGenerator = false := by rfl) (hk : scope.kind = .function := by rfl) : CallE G (n + 1) f [t1, t2] t :=
  CallE.of (ps := [x, y]) ho hcd rfl (fun vs hv => by
    match vs, hv with
    | [v1, v2], _ => exact hbind v1 v2) (by simp [hne]) (fun z hz => by
    simp at hz
    rcases hz with rfl | rfl
    · exact hkind
    · exact hkind2) hbody hco hgen hk
theorem CallE.of0 {G : Cx} {n : Nat} {f : Addr} {t : T} {oc : Value} {od : Option Addr} {osl : Array (Option Value)} {name qual : Str} {params : Arguments} {body : List Stmt} {scope : Scope} {dV kV doc pm cdv ct : Value} {an : Option Addr}
    (ho : G.K.lookup f = some ⟨oc, od, .func (fnOf name qual params body scope dV kV doc pm an cdv ct), osl⟩) (hcd : codeIn G.K cdv qual = true)
    (hbind : bindArgs (fnOf name qual params body scope dV kV doc pm an cdv ct) ⟨[], []⟩ = pure [])
    (hbody : ∀ L, EnvC (G.at' n (envOfC qual scope L f cdv)) → ∀ X, ExL (G.at' n (envOfC qual scope L f cdv)) X [] [] body fun o => o = .ret t)
    (hco : scope.isCoroutine = false := by rfl) (hgen : scope.isGenerator = false := by rfl) (hk : scope.kind = .function := by rfl) : CallE G (n + 1) f [] t :=
  CallE.of (ps := []) ho hcd rfl (fun vs hv => by
    match vs, hv with
    | [], _ => exact hbind) (by simp) (fun y hy => (nomatch hy)) hbody hco hgen hk
section
variable {C : Cx} {X : List Addr} {σ σ' σt : List (Str × T)} {α α' : List (Addr × List T)} {K K' : Out → Prop} {rest : List Stmt}
theorem nm (en : EnvC C) {x : Str} {t : T} {pos : Pos} (m : (x, t) ∈ σ := by repeat (first | exact List.Mem.head _ | apply List.Mem.tail)) (hd : (x == ("__debug__" : Str)) = false := by decide) : EvE C X σ (.Name x pos) t := .name en.ok.kind m hd

theorem EvE.len_str (en : EnvC C) (hb : IsB C (Str.ofString "len") (.builtin "len")) {e : Expr} {x : Str} {p pos : Pos} (h : EvE C X σ e (.str x)) (hx : x.length ≤ sizeLine)
    (he : eval (.Call (.Name (Str.ofString "len") p) [e] [] pos) C.env = (do callWith pos (← eval (.Name (Str.ofString "len") p) C.env) [] (backTo pos (starEach [e] C.env)) (backToKw pos (keywordEach [] C.env))) := by rfl)
    (he2 : starEach [e] C.env = (false, eval e C.env) :: starEach [] C.env := by rfl) (hp : (backTo pos (starEach [] C.env)).any (·.1) = false := by rfl) : EvE C X σ (.Call (.Name (Str.ofString "len") p) [e] [] pos) (.int x.length) :=
  .call_b en.ok hb (.cons h .nil (he := he2)) (.len_str hx) (by decide) he he2 hp
theorem EvE.len_list (en : EnvC C) (hb : IsB C (Str.ofString "len") (.builtin "len")) {e : Expr} {l : List T} {p pos : Pos} (h : EvE C X σ e (.list l)) (hx : l.length ≤ sizeLine)
    (he : eval (.Call (.Name (Str.ofString "len") p) [e] [] pos) C.env = (do callWith pos (← eval (.Name (Str.ofString "len") p) C.env) [] (backTo pos (starEach [e] C.env)) (backToKw pos (keywordEach [] C.env))) := by rfl)
    (he2 : starEach [e] C.env = (false, eval e C.env) :: starEach [] C.env := by rfl) (hp : (backTo pos (starEach [] C.env)).any (·.1) = false := by rfl) : EvE C X σ (.Call (.Name (Str.ofString "len") p) [e] [] pos) (.int l.length) :=
  .call_b en.ok hb (.cons h .nil (he := he2)) (.len_list hx) (by decide) he he2 hp
/-- both arms lead to the same state -/
theorem ExL.iteJ {test : Expr} {body orelse : List Stmt} {pos : Pos} {b : Bool} (σ2 : List (Str × T)) (α2 : List (Addr × List T)) (h : EvB C X σ test b) (h1 : b = true → ExL C X σ α body (fun o => o = .next σ2 α2)) (h2 : b = false → ExL C X σ α orelse (fun o => o = .next σ2 α2)) (hr : ExL C X σ2 α2 rest K) :
    ExL C X σ α (.If test body orelse pos :: rest) K :=
  .ite h (fun hb => (h1 hb).mono fun o e => by subst e; exact hr) (fun hb => (h2 hb).mono fun o e => by subst e; exact hr)
theorem own_rest {x : Str} {a : Addr} {l : List T} (hr : ExL C X σ' ((a, l) :: α) rest K) (hp : Put x (.ref a) σ σ' := by repeat (first | exact Put.nil | (apply Put.hit; repeat (first | exact Off.nil | apply Off.cons (by decide))) | apply Put.miss (by decide))) :
    ∃ σ', Put x (.ref a) σ σ' ∧ ExL C X σ' ((a, l) :: α) rest K := ⟨σ', hp, hr⟩
theorem thaw1 {x : Str} {a : Addr} {l : List T} (hx : (x, .ref a) ∈ σ := by repeat (first | exact List.Mem.head _ | apply List.Mem.tail)) (ha : (a, l) ∈ α := by repeat (first | exact List.Mem.head _ | apply List.Mem.tail)) : Thaw α σ ((x, .list l) :: σ) := .own hx ha .refl
/-- arms that go on to one state, or give one value back -/
theorem ExL.iteC {test : Expr} {body orelse : List Stmt} {pos : Pos} {b : Bool} (c : Bool) (t0 : T) (σ2 : List (Str × T)) (α2 : List (Addr × List T)) (h : EvB C X σ test b) (h1 : b = true → ExL C X σ α body (fun o => (o = .next σ2 α2 ∧ c = true) ∨ (o = .ret t0 ∧ c = false)))
    (h2 : b = false → ExL C X σ α orelse (fun o => (o = .next σ2 α2 ∧ c = true) ∨ (o = .ret t0 ∧ c = false))) (hr : c = true → ExL C X σ2 α2 rest K) (hk : c = false → K (.ret t0)) : ExL C X σ α (.If test body orelse pos :: rest) K :=
  .ite h (fun hb => (h1 hb).mono fun o e => by rcases e with ⟨rfl, e⟩ | ⟨rfl, e⟩; exact hr e; exact hk e) (fun hb => (h2 hb).mono fun o e => by rcases e with ⟨rfl, e⟩ | ⟨rfl, e⟩; exact hr e; exact hk e)
theorem EvB.cast {e : Expr} {b b' : Bool} (h : EvB C X σ e b) (ht : b = b') : EvB C X σ e b' := ht ▸ h
theorem EvE.cast {e : Expr} {t t' : T} (h : EvE C X σ e t) (ht : t = t') : EvE C X σ e t' := ht ▸ h
end
end Mine
end

-- Core10
section
open PySem PySem.W PyProof.Rows PySem.Calls PySem.Spec
set_option maxRecDepth 100000
namespace Mine
open PySem (Expr)

/-- the frame of a comprehension -/
noncomputable def cEnv (scope : Scope) (cl : List (Str × Addr)) (L : Addr) (env : Env) : Env :=
  { scope := relabel scope env, locals := L, globals := env.globals, cells := cellsFrom (L + 1) scope.names cl, qual := env.qual, func := none, code := env.code, frame := env.frame, builtins := env.builtins }

/-- cells from lo on lie apart from all others -/
noncomputable def OwnAp (lo : Nat) (cs : List (Str × Addr)) : Prop := ∀ x y c c', cs.lookup x = some c → cs.lookup y = some c' → y ≠ x → lo ≤ c → c' ≠ c
structure CellsNew (h : Heap) (lo : Nat) (cs : List (Str × Addr)) : Prop where
  live : ∀ x c, cs.lookup x = some c → ∃ o, h.get? c = some o
  cell : ∀ x c, cs.lookup x = some c → lo ≤ c → ∃ v, h.IsCell c v
  ap : OwnAp lo cs
theorem cells_new : ∀ (names : List (Str × NameKind)) (h : Heap) (lo : Nat) (acc : List (Str × Addr)), lo ≤ h.objs.size → CellsNew h lo acc → CellsNew (pushCells h names) lo (cellsFrom h.objs.size names acc)
  | [], _, _, _, _, x => x
  | (name, kind) :: r, h, lo, acc, hlo, x => by
    unfold pushCells cellsFrom
    split
    · have := cells_new r (h.push { cls := .type "cell", data := .cell none }) lo ((name, h.objs.size) :: acc) (by rw [Heap.size_push]; omega) (by
        have old : ∀ {z c}, z ≠ name → List.lookup z ((name, h.objs.size) :: acc) = some c → acc.lookup z = some c := fun {z c} hz e => by
          rw [List.lookup_cons] at e
          have : (z == name) = false := by simpa using hz
          rw [this] at e; exact e
        have new : ∀ {c}, List.lookup name ((name, h.objs.size) :: acc) = some c → c = h.objs.size := fun {c} e => by
          rw [List.lookup_cons, beq_self_eq_true] at e; cases e; rfl
        refine ⟨fun z c e => ?_, fun z c e l => ?_, fun z y c c' e e' hne l => ?_⟩
        · by_cases hz : z = name
          · subst hz; rw [new e]; exact ⟨_, Heap.get?_push_size _ rfl⟩
          · obtain ⟨o, eo⟩ := x.live z c (old hz e); exact ⟨o, Heap.get?_push_of_some _ eo⟩
        · by_cases hz : z = name
          · subst hz; rw [new e]; exact ⟨_, _, Heap.get?_push_size _ rfl, rfl⟩
          · obtain ⟨v, ic⟩ := x.cell z c (old hz e) l; exact ⟨v, ic.keeps fun b o e => Heap.get?_push_of_some _ e⟩
        · by_cases hz : z = name
          · subst hz
            rw [new e]
            obtain ⟨o, eo⟩ := x.live y c' (old hne e')
            exact Nat.ne_of_lt (Heap.lt_size eo)
          · by_cases hy : y = name
            · subst hy
              rw [new e']
              obtain ⟨o, eo⟩ := x.live z c (old hz e)
              exact (Nat.ne_of_lt (Heap.lt_size eo)).symm
            · exact x.ap z y c c' (old hz e) (old hy e') hne l)
      rwa [Heap.size_push] at this
    · exact cells_new r h lo acc hlo x

theorem size_pushCells : ∀ (names : List (Str × NameKind)) (h : Heap), h.objs.size ≤ (pushCells h names).objs.size
  | [], _ => Nat.le_refl _
  | (name, kind) :: r, h => by
    unfold pushCells
    split
    · exact Nat.le_trans (by rw [Heap.size_push]; omega) (size_pushCells r _)
    · exact size_pushCells r h

section
variable {M : Model} {A : Around} {E : Value → Shared → Prop} {s : Shared}
theorem new_cEnv {scope : Scope} {cl : List (Str × Addr)} {env : Env} {Q : Env → Shared → Prop} (h : ∀ cenv, { cenv with scope := relabel scope env } = cEnv scope cl s.heap.objs.size env → cenv.locals = s.heap.objs.size →
      Q cenv { s with heap := pushCells (s.heap.push { cls := .type "dict", data := .dict #[] }) scope.names }) :
    wpAny M A (newFunctionEnv scope env.globals cl [] env.qual none .none (some env)) Q E s := by
  simp only [newFunctionEnv, Option.isSome_some, if_true]
  refine wpAny_bind (wpAny_alloc ?_)
  refine wpAny_bind (wpAny_layCells _ (fun name kind cells => by cases hkc : kind == NameKind.cell <;> simp [hkc]) _ _ _ _ ?_)
  rw [List.forIn_nil]
  refine wpAny_bind (wpAny_pure (wpAny_pure ?_))
  rw [show ({ s with heap := s.heap.push { cls := .type "dict", data := .dict #[] } } : Shared).heap.objs.size = s.heap.objs.size + 1 from Heap.size_push ..]
  exact h _ rfl rfl
end

/-- the item of a turn goes to its names -/
structure AsgR (C : Cx) (Y : List Addr) (tg : Expr) (t : T) (σ σt : List (Str × T)) : Prop where
  run : ∀ (A : Around) (E : Value → Shared → Prop) (s : Shared) (Q : Unit → Shared → Prop) (v : Value), OkA C.n A → (∃ m, s.heap.Ns C.env.locals m) → CellsNew s.heap (C.env.locals + 1) C.env.cells → Rd Y C.env σ s.heap → Rep Y s.heap t v →
    (∀ h' tk, s.toks ≤ tk → Rd Y C.env σt h' → (∃ m, h'.Ns C.env.locals m) → CellsNew h' (C.env.locals + 1) C.env.cells →
      (∃ mods : List Addr, (∀ b, b ∈ mods → C.env.locals ≤ b ∧ NoSeq s.heap b) ∧ ∀ b o, b ∉ mods → s.heap.get? b = some o → h'.get? b = some o) → Q () { s with heap := h', toks := tk }) →
    wpAny (model C.prog C.w) A (assign tg C.env v) Q E s
/-- a name of a comprehension's own -/
noncomputable def LcVar (env : Env) (x : Str) : Prop := env.kindOf x = some .local ∨ (env.kindOf x = some .cell ∧ (x == ("__classdict__" : Str)) = false ∧ ∃ c, env.cells.lookup x = some c ∧ env.locals < c)

theorem AsgR.name {C : Cx} {Y : List Addr} {x : Str} {px : Pos} {t : T} {σ σt : List (Str × T)} (hk : C.env.scope.kind = .function) (hx : LcVar C.env x) (hp : ∀ p, p ∈ σt → p = (x, t) ∨ (p ∈ σ ∧ p.1 ≠ x)) : AsgR C Y (.Name x px) t σ σt :=
  .mk fun A E s Q v a hn hc hr rv hq => by
    have hlo : ∀ c, C.env.kindOf x = some .cell → C.env.cells.lookup x = some c → C.env.locals < c := fun c hk' e => by
      rcases hx with hx | ⟨_, _, c', e', l⟩
      · rw [hx] at hk'; cases hk'
      · rw [e] at e'; cases e'; exact l
    refine wpAny_assign_Name (store_any hk hn (fun c hk' e => hc.cell x c e (hlo c hk' e)) (hx.imp id fun q => ⟨q.1, q.2.1, q.2.2.imp fun c e => e.1⟩) fun h' tk l Z => ?_)
    have hap : C.env.kindOf x = some .cell → ∀ y c c', y ≠ x → C.env.cells.lookup x = some c → C.env.cells.lookup y = some c' → c' ≠ c := fun hk' y c c' hy e e' => hc.ap x y c c' e e' hy (hlo c hk' e)
    obtain ⟨b, hs, hb, hw⟩ := Z.ch
    have hLb : C.env.locals ≤ b := by
      rcases hw with rfl | hw
      · exact Nat.le_refl _
      · exact Nat.le_of_lt (hlo b hw.1 hw.2)
    refine hq h' tk l (Z.rd' hap hp hr rv) Z.ns ⟨fun y c e => ?_, fun y c e l => ?_, hc.ap⟩ ⟨[b], fun b' m => ?_, fun b' o m e => (hs.2 b' (by simpa using m)).trans e⟩
    · exact Z.lv c (hc.live y c e)
    · obtain ⟨v0, ic⟩ := hc.cell y c e l
      exact Z.cl c v0 ic
    · simp at m; subst m; exact ⟨hLb, hb⟩
end Mine
end

-- Core11
section
open PySem PySem.W PyProof.Rows PySem.Calls PySem.Spec
set_option maxRecDepth 100000
namespace Mine
open PySem (Expr)

structure EvTs (C : Cx) (Y : List Addr) (σ : List (Str × T)) (ifs : List Expr) (b : Bool) : Prop where
  run : ∀ (A : Around) (E : Value → Shared → Prop) (s : Shared) (Q : Bool → Shared → Prop), StOk C Y σ A s → GoesB b s Q →
    wpAny (model C.prog C.w) A (forIn ifs true fun c r => if r = true then do let ok ← isTrue c C.env (eval c C.env); pure (ForInStep.yield ok) else pure (ForInStep.yield r)) Q E s
theorem EvTs.nil {C : Cx} {Y : List Addr} {σ : List (Str × T)} : EvTs C Y σ [] true := .mk fun A E s Q o hq => by
  rw [List.forIn_nil]; exact wpAny_pure (hq _ _ (Sub.refl _) (Nat.le_refl _))
theorem EvTs.one {C : Cx} {Y : List Addr} {σ : List (Str × T)} {e : Expr} {b : Bool} (h : EvB C Y σ e b) : EvTs C Y σ [e] b := .mk fun A E s Q o hq => by
  rw [List.forIn_cons]
  rw [if_pos rfl]
  refine wpAny_bind (wpAny_bind (h.run A E s _ o fun h' tk k l => wpAny_pure ?_))
  dsimp only
  rw [List.forIn_nil]
  exact wpAny_pure (hq _ _ k l)

theorem cellsFrom_lookup : ∀ (names : List (Str × NameKind)) (n : Nat) (acc : List (Str × Addr)) (x : Str) (c : Nat), (cellsFrom n names acc).lookup x = some c → n ≤ c ∨ acc.lookup x = some c
  | [], _, _, _, _, h => .inr h
  | (name, kind) :: r, n, acc, x, c, h => by
    unfold cellsFrom at h
    split at h
    · rcases cellsFrom_lookup r _ _ x c h with h | h
      · exact .inl (Nat.le_of_succ_le h)
      · rw [List.lookup_cons] at h
        split at h
        · cases h; exact .inl (Nat.le_refl _)
        · exact .inr h
    · exact cellsFrom_lookup r _ _ x c h

/-- the loop of a comprehension, whatever its target -/
theorem compLoop_any {prog : Program} {w : World} {A : Around} {R : Result → Shared → Prop} {s : Shared} {elt target iter : Expr} {ifs : List Expr} {scope : Scope} {pos : Pos} {it acc : Value} {env : Env} (I : Nat → Shared → Prop)
    (turn : ∀ n s, I n s → wpAny (model prog w) A (pyNext it) (fun r s₁ => match r with
      | none => R (.ok .next) s₁
      | some v => wpAny (model prog w) A (letOwnedTupleGo target it v) (fun _ s₀ => wpAny (model prog w) A (assign target env v) (fun _ s₂ =>
          wpAny (model prog w) A (forIn ifs true fun c r => if r = true then do let ok ← isTrue c env (eval c env); pure (ForInStep.yield ok) else pure (ForInStep.yield r)) (fun ok s₃ =>
            if ok = true then wpAny (model prog w) A (eval elt env) (fun x s₄ =>
              wpAny (model prog w) A (call (.builtin "list.append") [acc, x]) (fun _ s₅ => ∃ m, m < n ∧ I m s₅) (notedBy (model prog w) A env fun e s' => R (.error e) s') s₄) (notedBy (model prog w) A env fun e s' => R (.error e) s') s₃
            else ∃ m, m < n ∧ I m s₃) (notedBy (model prog w) A env fun e s' => R (.error e) s') s₂) (notedBy (model prog w) A env fun e s' => R (.error e) s') s₀) (notedBy (model prog w) A env fun e s' => R (.error e) s') s₁) (notedBy (model prog w) A env fun e s' => R (.error e) s') s)
    (n : Nat) (h : I n s) : codeAny (model prog w) A (.compLoop (.ListComp elt [⟨target, iter, ifs, 0⟩] scope pos) 0 it acc env) R s := by
  refine codeAny_loop rfl I (fun n s hI => ?_) n h
  show wpAny _ A ((compTurn (.ListComp elt [⟨target, iter, ifs, 0⟩] scope pos) 0 it acc env).onRaise (fun x => do noteFrame x env; theTreesLotGoes x)) _ _ s
  refine wpAny_noted ?_
  rw [compTurn_list]
  refine wpAny_bind (wpAny_standAt (wpAny_bind (wpAny_mono (turn n s hI) (fun r s₁ h₁ => ?_) fun _ _ h' => h')))
  cases r with
  | none => exact wpAny_pure h₁
  | some v =>
    refine wpAny_bind (wpAny_mono h₁ (fun _ s₀ h₀ => ?_) fun _ _ h' => h')
    refine wpAny_bind (wpAny_mono h₀ (fun _ s₂ h₂ => wpAny_bind (wpAny_mono h₂ (fun ok s₃ h₃ => ?_) fun _ _ h' => h')) fun _ _ h' => h')
    cases ok with
    | false => exact wpAny_pure ⟨rfl, h₃⟩
    | true => exact wpAny_bind (wpAny_bind (wpAny_mono h₃ (fun x s₄ h₄ => wpAny_bind (wpAny_mono h₄ (fun _ s₅ h₅ => wpAny_pure (wpAny_pure ⟨rfl, h₅⟩)) fun _ _ h' => h')) fun _ _ h' => h'))

section
variable {C : Cx} {Y : List Addr} {σ σ' : List (Str × T)}

theorem lc_core {elt tg iter : Expr} {ifs : List Expr} {scope : Scope} {pos : Pos} {cl : List (Str × Addr)} {ts : List T} {σt : Nat → List (Str × T)} (R : Addr → Nat → List Value → Heap → Prop) (bt : Nat → Bool) (h0 : Heap)
    (hit : EvI C Y σ iter ts) (hcl : closureFor scope C.env = pure cl) (hcs : ∀ x c, cl.lookup x = some c → ∃ z, C.env.cells.lookup z = some c) (hkind : scope.kind = .function)
    (hnames : ∀ x ∈ scope.names, x.2 = .local → scope.names.lookup x.1 = some .local)
    (hrd : ∀ L Y' h, Rd Y' C.env σ h → Rd Y' (cEnv scope cl L C.env) σ' h)
    (hasg : ∀ L Y' i t, ts[i]? = some t → AsgR (C.at' C.n (cEnv scope cl L C.env)) Y' tg t σ' (σt i))
    (htest : ∀ L Y' i t, ts[i]? = some t → EvTs (C.at' C.n (cEnv scope cl L C.env)) Y' (σt i) ifs (bt i))
    (R0 : ∀ D h, R D 0 [] h) (Rs : ∀ D i ys h h', R D i ys h → Sees [D] h h' → R D i ys h') (Rskip : ∀ D i ys h, i < ts.length → bt i = false → R D i ys h → R D (i + 1) ys h)
    (helt : ∀ L D i t ys (A : Around) (E : Value → Shared → Prop) (s : Shared) (Q : Value → Shared → Prop), Sub h0 s.heap → ts[i]? = some t → bt i = true → StOk (C.at' C.n (cEnv scope cl L C.env)) (D :: Y) (σt i) A s → R D i ys s.heap →
      (∀ v h' tk, Sub s.heap h' → s.toks ≤ tk → R D (i + 1) (ys ++ [v]) h' → Q v { s with heap := h', toks := tk }) → wpAny (model C.prog C.w) A (eval elt (cEnv scope cl L C.env)) Q E s)
    (hsz : ts.length ≤ sizeLine) (A : Around) (E : Value → Shared → Prop) (s : Shared) (Q : Value → Shared → Prop) (o : StOk C Y σ A s) (h0e : h0 = s.heap)
    (use : Option (Value → Sem Unit)) (p2 : Pos)
    (hq : ∀ D L h' tk ys n, Sub s.heap h' → s.toks ≤ tk → s.heap.get? D = none → s.heap.get? L = none → D ≠ L → h'.get? D = some (lstObj ys n) → (∃ m, h'.Ns L m) → ys.length ≤ ts.length → R D ts.length ys h' → compPost (model C.prog C.w) A E use Q (.ref D) L (.ok .next) { s with heap := h', toks := tk })
    (hs : ∀ x, foldedSetIterable iter C.env x = pure x) :
    wpAny (model C.prog C.w) A (comprehension (.ListComp elt [⟨tg, iter, ifs, 0⟩] scope pos) scope C.env p2 (newList []) false (eval iter C.env) use) Q E s := by
  refine wpAny_comprehension_free rfl hs hcl hkind hnames (hit.run A E s _ o fun I fp wr P Wt h' tk' W w0 k l hP hwr hns hfp hlet => ?_)
  refine wpAny_newObj_type (new_cEnv fun cenv he hloc => ?_)
  rw [he, hloc]
  dsimp only
  generalize hD : h'.objs.size = D
  have hL : (h'.push { cls := .type "list", data := .seq ([] : List Value).toArray }).objs.size = D + 1 := by rw [Heap.size_push, hD]
  rw [hL]
  generalize hL' : D + 1 = L
  generalize hH1 : h'.push { cls := .type "list", data := .seq ([] : List Value).toArray } = H1 at hL ⊢
  have hDL : D < L := by omega
  have hH1s : H1.objs.size = L := by omega
  -- what lies where
  have fpD : ∀ b : Nat, b ∈ fp → b < D := fun b hb => by obtain ⟨o, e, _⟩ := hfp b hb; rw [← hD]; exact Heap.lt_size e
  have wrD : ∀ b : Nat, b ∈ wr → b < D := fun b hb => fpD b (W.sub b hb)
  have oldD : ∀ (b : Nat) o, s.heap.get? b = some o → b < D := fun b o e => by rw [← hD]; exact Heap.lt_size (k b o e)
  have oldwr : ∀ b o, s.heap.get? b = some o → b ∉ wr := fun b o e m => by rw [hwr b m] at e; cases e
  have hDn : h'.get? D = none := by rw [← hD]; exact get_size h'
  have hDs : s.heap.get? D = none := by rw [← hD]; exact not_old k
  -- the heap at the start of the loop
  generalize hH2 : pushCells (H1.push { cls := .type "dict", data := .dict #[] }) scope.names = H2
  have up : ∀ b o, h'.get? b = some o → H2.get? b = some o := fun b o e => by
    rw [← hH2]; exact pushCells_keeps _ _ b o (Heap.get?_push_of_some _ (by rw [← hH1]; exact Heap.get?_push_of_some _ e))
  have cellsAt : ∀ x c, (cellsFrom (L + 1) scope.names cl).lookup x = some c → c ∉ wr := fun x c e m => by
    rcases cellsFrom_lookup _ _ _ _ _ e with h | h
    · have := wrD c m; omega
    · obtain ⟨z, hz⟩ := hcs x c h
      obtain ⟨o', e'⟩ := o.c z c hz
      exact oldwr c o' e' m
  have cn2 : CellsNew H2 (L + 1) (cellsFrom (L + 1) scope.names cl) := by
    have hsz2 : (H1.push { cls := .type "dict", data := .dict #[] }).objs.size = L + 1 := by rw [Heap.size_push, hH1s]
    have := cells_new scope.names (H1.push { cls := .type "dict", data := .dict #[] }) (L + 1) cl (by rw [hsz2]; exact Nat.le_refl _) (by
      have low : ∀ x (c : Nat), cl.lookup x = some c → c < L + 1 := fun x c e => by
        obtain ⟨z, hz⟩ := hcs x c e
        obtain ⟨o', e'⟩ := o.c z c hz
        have := oldD c o' e'
        omega
      refine ⟨fun x c e => ?_, fun x c e l => absurd l (Nat.not_le_of_lt (low x c e)), fun x y c c' e e' hne l => absurd l (Nat.not_le_of_lt (low x c e))⟩
      obtain ⟨z, hz⟩ := hcs x c e
      obtain ⟨o', e'⟩ := o.c z c hz
      exact ⟨o', Heap.get?_push_of_some _ (by rw [← hH1]; exact Heap.get?_push_of_some _ (k _ _ e'))⟩)
    rw [hsz2, hH2] at this
    exact this
  have ns2 : ∃ m, H2.Ns L m := by
    have := (Heap.Ns.new H1 (.type "dict")).keeps (pushCells_keeps scope.names _)
    rw [hH1s, hH2] at this
    exact ⟨_, this⟩
  have d2 : H2.get? D = some (lstObj [] 0) := by
    rw [← hH2]
    refine pushCells_keeps _ _ D _ (Heap.get?_push_of_some _ ?_)
    rw [← hH1, ← hD]
    exact Heap.get?_push_size _ rfl
  have loop : ∀ s₂ : Shared, s₂ = { s with heap := H2, toks := tk' } → codeAny (model C.prog C.w) A (.compLoop (.ListComp elt [⟨tg, iter, ifs, 0⟩] scope pos) 0 (.ref I) (.ref D) (cEnv scope cl L C.env)) (compPost (model C.prog C.w) A E use Q (.ref D) L) s₂ := by
    rintro s₂ rfl
    refine compLoop_any (fun n s' => ∃ i hi ti ys nn, s' = { s with heap := hi, toks := ti } ∧ tk' ≤ ti ∧ i ≤ ts.length ∧ n = ts.length + 1 - i ∧ Wt i hi ∧ hi.get? D = some (lstObj ys nn) ∧ ys.length ≤ i ∧ (∃ m, hi.Ns L m) ∧
      CellsNew hi (L + 1) (cellsFrom (L + 1) scope.names cl) ∧ R D i ys hi ∧ (∀ b o, b ∉ wr → h'.get? b = some o → hi.get? b = some o)) ?_ (ts.length + 1)
      ⟨0, H2, tk', [], 0, rfl, Nat.le_refl _, Nat.zero_le _, rfl, W.frame _ _ _ w0 (fun b _ o e => up b o e), d2, Nat.le_refl _, ns2, cn2, R0 _ _, fun b o _ e => up b o e⟩
    rintro n s' ⟨i, hi, ti, ys, nn, rfl, lti, hile, rfl, wi, di, lys, nsi, cni, Ri, keepi⟩
    have subi : Sub s.heap hi := fun b o e => keepi b o (oldwr b o e) (k b o e)
    -- after the iterator has turned
    have turn : ∀ {h1 : Heap}, (∀ b o, b ∉ wr → hi.get? b = some o → h1.get? b = some o) → h1.get? D = some (lstObj ys nn) ∧ (∃ m, h1.Ns L m) ∧ CellsNew h1 (L + 1) (cellsFrom (L + 1) scope.names cl) ∧ R D i ys h1 ∧ (∀ b o, b ∉ wr → h'.get? b = some o → h1.get? b = some o) ∧ Sub s.heap h1 := fun {h1} hk => by
      refine ⟨hk D _ (fun m => Nat.lt_irrefl _ (wrD D m)) di, ?_, ⟨fun x c e => ?_, fun x c e l => ?_, cni.ap⟩, Rs D i ys hi h1 Ri fun b o hb ⟨ll, nl, hl⟩ e => ?_, fun b o hb e => hk b o hb (keepi b o hb e), fun b o e => hk b o (oldwr b o e) (subi b o e)⟩
      · obtain ⟨m, oL, es, ep, e, r⟩ := nsi
        exact ⟨m, oL, es, ep, hk L _ (fun m => by have := wrD L m; omega) e, r⟩
      · obtain ⟨o', e'⟩ := cni.live x c e
        exact ⟨o', hk c _ (cellsAt x c e) e'⟩
      · obtain ⟨v, o', e', r⟩ := cni.cell x c e l
        exact ⟨v, o', hk c _ (cellsAt x c e) e', r⟩
      · refine hk b o (fun m => ?_) e
        have := (hns i hi b wi m).2 o e ll nl
        rcases hl with rfl | rfl
        · exact this.1 rfl
        · exact this.2 rfl
    by_cases hlt : i < ts.length
    · refine wpAny_with_toks (n := ti) (Nat.le_refl _) (W.item i _ _ _ hlt wi fun v h1 tk1 hv w1 hk1 hl1 => ?_)
      obtain ⟨d1, ns1, cn1, R1, keep1, sub1⟩ := turn hk1
      obtain ⟨t, ht', rt⟩ := hP i v hv
      have Yn : ∀ b, b ∈ D :: Y → b ∈ Y ∨ s.heap.get? b = none := fun b m => by
        cases m with
        | head => exact .inr hDs
        | tail _ m => exact .inl m
      have Yn' : ∀ b, b ∈ D :: Y → b ∈ Y ∨ h'.get? b = none := fun b m => by
        cases m with
        | head => exact .inr hDn
        | tail _ m => exact .inl m
      have rt1 : Rep (D :: Y) h1 t v := (rt.more Yn').sees (fun _ m => m) fun b o hb ⟨ll, nl, hl⟩ e => keep1 b o (fun m => by
        have := (hns 0 h' b w0 m).2 o e ll nl
        rcases hl with rfl | rfl
        · exact this.1 rfl
        · exact this.2 rfl) e
      have rd1 : Rd (D :: Y) C.env σ h1 := ⟨fun p hp => let ⟨u, a, b⟩ := o.r.val p hp; ⟨u, a.sub sub1, (b.more Yn).sub sub1⟩⟩
      refine hlet (i + 1) _ tg v _ _ w1 ?_
      refine (hasg L (D :: Y) i t ht').run A _ _ _ v o.a ns1 cn1 (hrd L _ _ rd1) rt1 fun h2 tk2 l2 rd2 ns2' cn2' hmods => ?_
      obtain ⟨mods, hm1, hm2⟩ := hmods
      have lowm : ∀ b : Nat, b < L → b ∉ mods := fun b hb m => Nat.lt_irrefl _ (Nat.lt_of_lt_of_le hb (hm1 b m).1)
      have d2' : h2.get? D = some (lstObj ys nn) := hm2 D _ (lowm D hDL) d1
      have sub2 : Sub s.heap h2 := fun b o e => hm2 b o (lowm b (Nat.lt_trans (oldD b o e) hDL)) (sub1 b o e)
      have R2 : R D i ys h2 := Rs D i ys h1 h2 R1 fun b o hb ⟨ll, nl, hl⟩ e => hm2 b o (fun m => by
        have := (hm1 b m).2 o e ll nl
        rcases hl with rfl | rfl
        · exact this.1 rfl
        · exact this.2 rfl) e
      have ok2 : StOk (C.at' C.n (cEnv scope cl L C.env)) (D :: Y) (σt i) A { s with heap := h2, toks := tk2 } := by
        refine ⟨o.a, fun b m => ?_, o.g.sub sub2, rd2, ?_, fun x c e => cn2'.live x c e⟩
        · cases m with
          | head => exact ⟨_, d2'⟩
          | tail _ m => obtain ⟨o', e'⟩ := o.l b m; exact ⟨o', sub2 _ _ e'⟩
        · exact Nat.le_trans o.t (Nat.le_trans l (Nat.le_trans lti (Nat.le_trans hl1 l2)))
      have keepEnd : ∀ {h4 : Heap}, Sub h2 h4 → ∀ b : Nat, b < D → b ∉ wr → ∀ o, hi.get? b = some o → h4.get? b = some o := fun {h4} k4 b hb hw o e => k4 b o (hm2 b o (lowm b (by omega)) (hk1 b o hw e))
      have wEnd : ∀ {h4 : Heap}, (∀ b o, b ≠ D → h2.get? b = some o → h4.get? b = some o) → Wt (i + 1) h4 := fun {h4} k4 => W.frame _ _ _ w1 fun b hb o e => k4 b o (Nat.ne_of_lt (fpD b hb)) (hm2 b o (lowm b (by have := fpD b hb; omega)) e)
      have kEnd : ∀ {h4 : Heap}, (∀ b o, b ≠ D → h2.get? b = some o → h4.get? b = some o) → ∀ b o, b ∉ wr → h'.get? b = some o → h4.get? b = some o := fun {h4} k4 b o hb e => by
        have hbD : @LT.lt Nat _ b D := by rw [← hD]; exact Heap.lt_size e
        exact k4 b o (Nat.ne_of_lt hbD) (hm2 b o (lowm b (by omega)) (keep1 b o hb e))
      refine (htest L (D :: Y) i t ht').run A _ _ _ ok2 fun h3 tk3 k3 l3 => ?_
      cases hbt : bt i with
      | false =>
        rw [if_neg Bool.false_ne_true]
        have l3' : ti ≤ tk3 := Nat.le_trans hl1 (Nat.le_trans l2 l3)
        refine ⟨ts.length + 1 - (i + 1), by omega, i + 1, h3, tk3, ys, nn, rfl, Nat.le_trans lti l3', hlt, rfl, wEnd (fun b o _ e => k3 b o e), k3 _ _ d2', Nat.le_succ_of_le lys, let ⟨m, e⟩ := ns2'; ⟨m, e.keeps k3⟩,
          ⟨fun x c e => let ⟨o', e'⟩ := cn2'.live x c e; ⟨o', k3 _ _ e'⟩, fun x c e l => let ⟨v, e'⟩ := cn2'.cell x c e l; ⟨v, e'.keeps k3⟩, cn2'.ap⟩, Rskip D i ys h3 hlt hbt (Rs D i ys h2 h3 R2 (.of_sub k3)), kEnd (fun b o _ e => k3 b o e)⟩
      | true =>
        rw [if_pos rfl]
        have ok3 := ok2.step k3 l3
        refine helt L D i t ys A _ _ _ (by rw [h0e]; exact fun b o e => k3 b o (sub2 b o e)) ht' hbt ok3 (Rs D i ys h2 h3 R2 (.of_sub k3)) fun y h4 tk4 k4 l4 R4 => ?_
        have k24 : Sub h2 h4 := fun b o e => k4 b o (k3 b o e)
        refine wpAny_list_append_plain (hsz := by rw [List.size_toArray]; omega) ⟨nn, k24 _ _ d2'⟩ fun h5 hpl hs5 => ?_
        obtain ⟨n5, e5⟩ := hpl
        have k5 : ∀ b o, b ≠ D → h2.get? b = some o → h5.get? b = some o := fun b o hb e => (hs5.2 b hb).trans (k24 b o e)
        have l5 : ti ≤ tk4 := Nat.le_trans hl1 (Nat.le_trans l2 (Nat.le_trans l3 l4))
        refine ⟨ts.length + 1 - (i + 1), by omega, i + 1, h5, tk4, ys ++ [y], n5, rfl, Nat.le_trans lti l5, hlt, rfl, wEnd k5, by rw [e5]; simp, by simp; exact lys, ?_, ⟨fun x c e => ?_, fun x c e l => ?_, cn2'.ap⟩, Rs D _ _ h4 h5 R4 fun b o hb _ e => (hs5.2 b (by simpa using hb)).trans e, kEnd k5⟩
        · obtain ⟨m, e⟩ := ns2'
          exact ⟨m, (e.keeps k24).sameBut hs5 (by show L ≠ D; omega)⟩
        · obtain ⟨o', e'⟩ := cn2'.live x c e
          exact same_live hs5 ⟨_, e5⟩ c ⟨o', k24 _ _ e'⟩
        · obtain ⟨v, e'⟩ := cn2'.cell x c e l
          have l' : @LE.le Nat _ (L + 1) c := l
          have hcD : @LT.lt Nat _ D c := by omega
          exact ⟨v, (e'.keeps k24).sameBut hs5 (Nat.ne_of_gt hcD)⟩
    · have hin : i = ts.length := by omega
      subst hin
      refine wpAny_with_toks (n := ti) (Nat.le_refl _) (W.done _ _ _ wi fun h1 tk1 hk1 hl1 => ?_)
      obtain ⟨d1, ⟨m, nsm⟩, cn1, R1, keep1, sub1⟩ := turn hk1
      have hLn : s.heap.get? L = none := by
        cases e : s.heap.get? L with
        | none => rfl
        | some o => have := oldD L o e; omega
      exact hq D L h1 tk1 ys nn sub1 (Nat.le_trans l (Nat.le_trans lti hl1)) hDs hLn (Nat.ne_of_lt hDL) d1 ⟨m, nsm⟩ lys R1
  exact codeAny_compStart_list (loop _ rfl) (W.self 0 _ _ _ (W.frame _ _ _ w0 fun b _ o e => up b o e) (loop _ rfl))

/-- the heap when the frame of a comprehension has gone -/
theorem gone {h hz : Heap} {L : Addr} {h0 : Heap} (hs : Heap.SameBut L h hz) (ns : ∃ m, h.Ns L m) (hL : h0.get? L = none) (k : Sub h0 h) : Sub h0 hz ∧ ∀ {X : List Addr}, Sees X h hz := by
  obtain ⟨m, nsm⟩ := ns
  exact ⟨fun b o e => (hs.2 b (fun q => by rw [q, hL] at e; cases e)).trans (k b o e), .but hs (ns_noSeq nsm)⟩

structure CarryN (env : Env) (scope : Scope) (cl : List (Str × Addr)) (y : Str) : Prop where
  k1 : ∀ L, (cEnv scope cl L env).kindOf y = some .cell ∨ (cEnv scope cl L env).kindOf y = some .free
  k2 : (y == ("__classdict__" : Str)) = false
  k3 : env.kindOf y = some .cell ∨ env.kindOf y = some .free
  k4 : ∃ c, env.cells.lookup y = some c ∧ ∀ L, (cEnv scope cl L env).cells.lookup y = some c
/-- what a comprehension reads of the frame around it -/
inductive Carr (env : Env) (scope : Scope) (cl : List (Str × Addr)) (x : Str) (σ : List (Str × T)) : List (Str × T) → Prop
  | nil : Carr env scope cl x σ []
  | cons {y : Str} {t : T} {σ' : List (Str × T)} : (y, t) ∈ σ → y ≠ x → CarryN env scope cl y → Carr env scope cl x σ σ' → Carr env scope cl x σ ((y, t) :: σ')
theorem Carr.rd {env : Env} {scope : Scope} {cl : List (Str × Addr)} {x : Str} (c : Carr env scope cl x σ σ') (L : Addr) (Y : List Addr) (h : Heap) (r : Rd Y env σ h) : Rd Y (cEnv scope cl L env) σ' h := by
  induction c with
  | nil => exact ⟨fun p hp => by cases hp⟩
  | cons hm _ hc _ ih => exact ⟨fun p hp => by
      cases hp with
      | head =>
        obtain ⟨v, hv, rv⟩ := r.val _ hm
        refine ⟨v, ?_, rv⟩
        obtain ⟨c, e1, e2⟩ := hc.k4
        rcases hv with ⟨a, m, b, d⟩ | ⟨a, a', c', b, d⟩
        · rcases hc.k3 with k | k <;> (rw [k] at a; cases a)
        · rw [e1] at b; cases b
          exact .inr ⟨hc.k1 L, hc.k2, c, e2 L, d⟩
      | tail _ hp => exact ih.val p hp⟩
theorem Carr.off {env : Env} {scope : Scope} {cl : List (Str × Addr)} {x : Str} (c : Carr env scope cl x σ σ') : ∀ p, p ∈ σ' → p.1 ≠ x := by
  induction c with
  | nil => intro p hp; cases hp
  | cons _ hn _ _ ih => intro p hp; cases hp with
    | head => exact hn
    | tail _ hp => exact ih p hp

theorem take_filterMap {α β : Type} (f : α → Option β) (l : List α) (i : Nat) (t : α) (h : l[i]? = some t) : (l.take (i + 1)).filterMap f = (l.take i).filterMap f ++ (f t).toList := by
  rw [List.take_add_one, h, List.filterMap_append]
  cases hf : f t <;> simp [hf]

/-- the frame of the comprehension is a frame of a function -/
theorem EnvOk.comp (en : EnvOk C) {scope : Scope} {cl : List (Str × Addr)} {L : Addr} (hk : scope.kind = .function) : EnvOk (C.at' C.n (cEnv scope cl L C.env)) := ⟨hk, en.glob, en.bui⟩

theorem lc_list {elt tg iter : Expr} {ifs : List Expr} {scope : Scope} {pos : Pos} {cl : List (Str × Addr)} {ts : List T} {σt : T → List (Str × T)} (f : T → Option T)
    (hit : EvI C Y σ iter ts) (hcl : closureFor scope C.env = pure cl) (hcs : ∀ x c, cl.lookup x = some c → ∃ z, C.env.cells.lookup z = some c) (hkind : scope.kind = .function)
    (hnames : ∀ x ∈ scope.names, x.2 = .local → scope.names.lookup x.1 = some .local)
    (hrd : ∀ L Y' h, Rd Y' C.env σ h → Rd Y' (cEnv scope cl L C.env) σ' h)
    (hasg : ∀ L Y' t, t ∈ ts → AsgR (C.at' C.n (cEnv scope cl L C.env)) Y' tg t σ' (σt t))
    (htest : ∀ L Y' t, t ∈ ts → EvTs (C.at' C.n (cEnv scope cl L C.env)) Y' (σt t) ifs (f t).isSome)
    (helt : ∀ L Y' t u, t ∈ ts → f t = some u → EvE (C.at' C.n (cEnv scope cl L C.env)) Y' (σt t) elt u)
    (hsz : ts.length ≤ sizeLine) (A : Around) (E : Value → Shared → Prop) (s : Shared) (Q : Value → Shared → Prop) (o : StOk C Y σ A s) (use : Option (Value → Sem Unit)) (p2 : Pos)
    (hq : ∀ D L h' tk ys n, Sub s.heap h' → s.toks ≤ tk → s.heap.get? D = none → s.heap.get? L = none → D ≠ L → h'.get? D = some (lstObj ys n) → (∃ m, h'.Ns L m) → RepL (D :: Y) h' (ts.filterMap f) ys → compPost (model C.prog C.w) A E use Q (.ref D) L (.ok .next) { s with heap := h', toks := tk })
    (hs : ∀ x, foldedSetIterable iter C.env x = pure x) :
    wpAny (model C.prog C.w) A (comprehension (.ListComp elt [⟨tg, iter, ifs, 0⟩] scope pos) scope C.env p2 (newList []) false (eval iter C.env) use) Q E s := by
  refine lc_core (σt := fun i => σt (ts[i]?.getD .none)) (R := fun D i ys h => RepL (D :: Y) h ((ts.take i).filterMap f) ys) (bt := fun i => (f (ts[i]?.getD .none)).isSome) s.heap hit hcl hcs hkind hnames hrd
    (fun L Y' i t hi => ?_) (fun L Y' i t hi => ?_) (fun D h => by simpa using RepL.empty) (fun D i ys h h' r k => r.sees (fun _ m => m) fun b o hb he e => k b o (fun m => hb (by simp at m; simp [m])) he e) (fun D i ys h hi hb r => ?_)
    (fun L D i t ys A E s Q _ hi hb ok r hq => ?_) hsz A E s Q o rfl use p2 (fun D L h' tk ys n k l hD hL hDL e ns _ r => hq D L h' tk ys n k l hD hL hDL e ns (by simpa using r)) hs
  · rw [hi]; exact hasg L Y' t (List.mem_of_getElem? hi)
  · rw [hi]; exact htest L Y' t (List.mem_of_getElem? hi)
  · have hg : ts[i]? = some ts[i] := List.getElem?_eq_getElem hi
    rw [hg] at hb
    rw [take_filterMap f ts i _ hg]
    have : f ts[i] = none := by simpa using hb
    rw [this]
    simpa using r
  · simp only [hi, Option.getD_some] at hb ok
    obtain ⟨u, hu⟩ := Option.isSome_iff_exists.mp hb
    refine (helt L (D :: Y) t u (List.mem_of_getElem? hi) hu).run A E s Q ok fun v h' tk k l rv => hq v h' tk k l ?_
    rw [take_filterMap f ts i _ hi, hu]
    exact (r.sub k).append (.cons rv .empty)

theorem EvE.lc {elt iter : Expr} {x : Str} {px : Pos} {ifs : List Expr} {scope : Scope} {pos : Pos} {cl : List (Str × Addr)} {ts : List T} (f : T → Option T) (en : EnvOk C)
    (hit : EvI C Y σ iter ts) (hcl : closureFor scope C.env = pure cl) (hcs : ∀ x c, cl.lookup x = some c → ∃ z, C.env.cells.lookup z = some c) (hkind : scope.kind = .function)
    (hnames : ∀ x ∈ scope.names, x.2 = .local → scope.names.lookup x.1 = some .local) (hc : Carr C.env scope cl x σ σ') (hx : ∀ L, LcVar (cEnv scope cl L C.env) x)
    (htest : ∀ L Y' t, EnvOk (C.at' C.n (cEnv scope cl L C.env)) → t ∈ ts → EvTs (C.at' C.n (cEnv scope cl L C.env)) Y' ((x, t) :: σ') ifs (f t).isSome)
    (helt : ∀ L Y' t u, EnvOk (C.at' C.n (cEnv scope cl L C.env)) → t ∈ ts → f t = some u → EvE (C.at' C.n (cEnv scope cl L C.env)) Y' ((x, t) :: σ') elt u)
    (hsz : ts.length ≤ sizeLine) (hs : ∀ v, foldedSetIterable iter C.env v = pure v := by intro _; rfl) :
    EvE C Y σ (.ListComp elt [⟨.Name x px, iter, ifs, 0⟩] scope pos) (.list (ts.filterMap f)) := .mk fun A E s Q o hq => by
  rw [eval_ListComp]
  refine lc_list f (σt := fun t => (x, t) :: σ') hit hcl hcs hkind hnames (fun L Y' h => hc.rd L Y' h) (fun L Y' t _ => .name hkind (hx L) fun p hp => ?_) (fun L Y' t ht => htest L Y' t (en.comp hkind) ht) (fun L Y' t u ht hf => helt L Y' t u (en.comp hkind) ht hf) hsz A E s Q o Option.none _
    (fun D L h' tk ys n k l hD hL hDL e ns r => ?_) hs
  · cases hp with
    | head => exact .inl rfl
    | tail _ hp => exact .inr ⟨hp, hc.off p hp⟩
  · obtain ⟨m, nsm⟩ := ns
    refine ⟨m, nsm, fun hz hsz => ?_⟩
    obtain ⟨k2, se⟩ := gone hsz ⟨m, nsm⟩ hL k
    exact hq (.ref D) hz tk k2 l (.mkList (fun m => by obtain ⟨o', e'⟩ := o.l _ m; rw [hD] at e'; cases e') ((hsz.2 D hDL).trans e) (r.sees (fun _ m => .tail _ m) se))
end
end Mine
end

-- Core12
section
open PySem PySem.W PyProof.Rows PySem.Calls PySem.Spec
set_option maxRecDepth 100000
namespace Mine
open PySem (Expr)

section
variable {C : Cx} {X Y : List Addr} {σ σ' σ'' σt : List (Str × T)} {α α' : List (Addr × List T)} {K K' : Out → Prop} {rest : List Stmt} {B : Addr → Obj → Prop} {h : Heap}

theorem RepL.flatAny : ∀ {l : List T} {vs : List Value} {Z Z' : List Addr} {h h' : Heap}, (∀ t, t ∈ l → t.flat = true) → RepL Z h l vs → RepL Z' h' l vs
  | [], _, _, _, _, _, _, r => by rw [r.nil']; exact .empty
  | t :: l, _, _, _, _, _, hl, r => by
    obtain ⟨v, q, rfl, r1, r2⟩ := r.cons'
    exact .cons (r1.any (hl t (.head _))) (RepL.flatAny (fun t m => hl t (.tail _ m)) r2)
theorem keys_rows (as : List Addr) (row : List T) (α : List (Addr × List T)) : (as.map (fun a => (a, row)) ++ α).map (·.1) = as ++ α.map (·.1) := by
  rw [List.map_append, List.map_map]
  congr 1
  induction as with
  | nil => rfl
  | cons a as ih => simp only [List.map_cons, ih]; rfl
theorem St.fresh_rows (S : St C X B σ α h) {h' : Heap} (k : Sub h h') {as : List Addr} {row : List T} (hn : as.Nodup) (ha : ∀ b, b ∈ as → h.get? b = none ∧ ∃ vs n, h'.get? b = some (lstObj vs n) ∧ RepL [] h' row vs) (hfl : ∀ t, t ∈ row → t.flat = true) :
    (∀ a, a ∈ as → a ∉ α.map (·.1)) ∧ St C X B σ (as.map (fun a => (a, row)) ++ α) h' := by
  have an : ∀ a, a ∈ as → a ∉ α.map (·.1) := fun a hm m => by
    obtain ⟨p, hp, rfl⟩ := List.mem_map.mp m
    obtain ⟨vs, n, e, _⟩ := S.own p hp
    rw [(ha _ hm).1] at e; cases e
  have S' := S.grow k
  have keys : (as.map (fun a => (a, row)) ++ α).map (·.1) = as ++ α.map (·.1) := keys_rows as row α
  have more : ∀ b, b ∈ (as.map (fun a => (a, row)) ++ α).map (·.1) ++ X → b ∈ α.map (·.1) ++ X ∨ h.get? b = none := fun b m => by
    rw [keys, List.append_assoc] at m
    rcases List.mem_append.mp m with m | m
    · exact .inr (ha b m).1
    · exact .inl m
  refine ⟨an, S'.b, S'.ns, S'.cl, S.nb, S.cb, ?_, fun p hp => ?_, fun p hp => ?_, ⟨fun p hp => ?_⟩⟩
  · rw [keys]
    exact List.nodup_append.mpr ⟨hn, S.nd, fun b hb b' hb' e => an b hb (e ▸ hb')⟩
  · rcases List.mem_append.mp hp with hp | hp
    · obtain ⟨a, hm, rfl⟩ := List.mem_map.mp hp
      obtain ⟨vs, n, e, r⟩ := (ha a hm).2
      exact ⟨vs, n, e, r.flatAny hfl⟩
    · obtain ⟨ws, m, e1, r1⟩ := S.own p hp
      exact ⟨ws, m, k _ _ e1, (r1.more more).sub k⟩
  · rcases List.mem_append.mp hp with hp | hp
    · obtain ⟨a, hm, rfl⟩ := List.mem_map.mp hp
      intro o eo; have := S.b _ o eo; rw [(ha a hm).1] at this; cases this
    · exact S.ob p hp
  · obtain ⟨v, hv, r1⟩ := S.rd.val p hp
    exact ⟨v, hv.sub k, (r1.more more).sub k⟩
theorem repL_refs {Z : List Addr} {h : Heap} : ∀ (as : List Addr), RepL Z h (as.map .ref) (as.map .ref)
  | [] => .empty
  | a :: as => .cons .mkRef (repL_refs as)

theorem nm' (en : EnvOk C) {x : Str} {t : T} {pos : Pos} (m : (x, t) ∈ σ := by repeat (first | exact List.Mem.head _ | apply List.Mem.tail)) (hd : (x == ("__debug__" : Str)) = false := by decide) : EvE C X σ (.Name x pos) t := .name en.kind m hd

/-- another frame's own space goes: the state stays -/
theorem St.gone (S : St C X B σ α h) {L : Addr} {hz : Heap} (hs : Heap.SameBut L h hz) (hn : NoSeq h L) (h0 : Heap) (hL : h0.get? L = none) (l : ∃ o, h0.get? C.env.locals = some o) (lc : ∀ n c, C.env.cells.lookup n = some c → ∃ o, h0.get? c = some o) (la : ∀ p, p ∈ α → ∃ o, h0.get? p.1 = some o) (lb : ∀ b o, B b o → ∃ o, h0.get? b = some o) : St C X B σ α hz := by
  have ne : ∀ b, (∃ o, h0.get? b = some o) → b ∉ [L] := fun b ⟨o, e⟩ m => by simp at m; subst m; rw [hL] at e; cases e
  exact S.turn (wr := [L]) (fun b o m e => (hs.2 b (by simpa using m)).trans e) (fun b m => by simp at m; subst m; exact hn) (ne _ l) (fun n c hc => ne _ (lc n c hc)) (fun p hp => ne _ (la p hp)) (fun b o e => ne _ (lb b o e))

/-- `x = [.. for ..]`, x a local name on the same line: the comprehension stores it itself -/
theorem ExL.lcU {elt iter : Expr} {x y : Str} {px py : Pos} {ifs : List Expr} {scope : Scope} {pos spos : Pos} {cl : List (Str × Addr)} {ts us : List T} {σc : List (Str × T)} (f : T → Option T) (en : EnvC C)
    (hsw : swapsWith (.ListComp elt [⟨.Name x px, iter, ifs, 0⟩] scope spos) (some (.Name y py)) pos.line C.env = pure true)
    (hit : ∀ Y, EvI C Y σ iter ts) (hcl : closureFor scope C.env = pure cl) (hcs : ∀ x c, cl.lookup x = some c → ∃ z, C.env.cells.lookup z = some c) (hkind : scope.kind = .function)
    (hnames : ∀ x ∈ scope.names, x.2 = .local → scope.names.lookup x.1 = some .local) (hc : Carr C.env scope cl x σ σc) (hx : ∀ L, LcVar (cEnv scope cl L C.env) x)
    (htest : ∀ L Y' t, EnvOk (C.at' C.n (cEnv scope cl L C.env)) → t ∈ ts → EvTs (C.at' C.n (cEnv scope cl L C.env)) Y' ((x, t) :: σc) ifs (f t).isSome)
    (helt : ∀ L Y' t u, EnvOk (C.at' C.n (cEnv scope cl L C.env)) → t ∈ ts → f t = some u → EvE (C.at' C.n (cEnv scope cl L C.env)) Y' ((x, t) :: σc) elt u)
    (hsz : ts.length ≤ sizeLine) (hus : ts.filterMap f = us)
    (hr : ExL C X σ' α rest K) (hp : Put y (.list us) σ σ' := by repeat (first | exact Put.nil | (apply Put.hit; repeat (first | exact Off.nil | apply Off.cons (by decide))) | apply Put.miss (by decide)))
    (hy : Sto C.env y := by exact .inl rfl) (hs : ∀ v, foldedSetIterable iter C.env v = pure v := by intro _; rfl) :
    ExL C X σ α (.Assign [.Name y py] (.ListComp elt [⟨.Name x px, iter, ifs, 0⟩] scope spos) pos :: rest) K := .cons <| .mk fun A E s B Q a bo S tk hq => by
  subst hus
  rw [exec_Assign_Name_used _ _ _ _ hsw]
  refine wpAny_bind (wpAny_standAt (wpAny_bind ?_))
  show wpAny _ A (do let _ ← comprehension (.ListComp elt [⟨.Name x px, iter, ifs, 0⟩] scope spos) scope C.env _ (newList []) false (eval iter C.env) (some (assign (.Name y py) C.env))) _ _ s
  have ok := S.ok bo a tk
  refine wpAny_bind (wpAny_mono (lc_list (Q := fun _ s' => Q .next s') f (σt := fun t => (x, t) :: σc) (hit _) hcl hcs hkind hnames (fun L Y' h => hc.rd L Y' h) (fun L Y' t _ => .name hkind (hx L) fun p hp => ?_) (fun L Y' t ht => htest L Y' t (en.ok.comp hkind) ht)
    (fun L Y' t u ht hf => helt L Y' t u (en.ok.comp hkind) ht hf) hsz A E s ok (some (assign (.Name y py) C.env)) _ (fun D L h' tk' ys n k l hD hL hDL e ns r => ?_) hs) (fun _ s' hq => wpAny_pure (wpAny_pure hq)) fun _ _ e => e)
  · cases hp with
    | head => exact .inl rfl
    | tail _ hp => exact .inr ⟨hp, hc.off p hp⟩
  · show wpAny _ A (assign (.Name y py) C.env (.ref D)) _ E _
    refine wpAny_assign_Name (store_any en.ok.kind (S.grow k).ns (fun c _ e => (S.grow k).cl _ _ e) hy fun h'' tk'' l'' Z => ?_)
    have rl : Rep (α.map (·.1) ++ X) h' (.list (ts.filterMap f)) (.ref D) := .mkList (fun m => by obtain ⟨o', e'⟩ := ok.l _ m; rw [hD] at e'; cases e') e (r.more fun b m => .inl (.tail _ m))
    have S2 := (S.grow k).store en.ap Z hp.mem rl
    obtain ⟨bz, hsz', hbz, hwz⟩ := Z.ch
    have ll : ∃ o, s.heap.get? C.env.locals = some o := by obtain ⟨m, o, _, _, e, _⟩ := S.ns; exact ⟨o, e⟩
    have hbL : L ≠ bz := by
      rintro rfl
      rcases hwz with q | q
      · rw [← q] at ll; obtain ⟨o, e⟩ := ll; rw [hL] at e; cases e
      · obtain ⟨o, e⟩ := ok.c _ _ q.2; rw [hL] at e; cases e
    obtain ⟨m, nsm⟩ := ns
    have nsm' := nsm.sameBut hsz' hbL
    refine ⟨m, nsm', fun hz hsL => ?_⟩
    exact hq (.next σ' α) _ hz tk'' hr ⟨rfl, S2.gone hsL (ns_noSeq nsm') s.heap hL ll (fun n c hc => ok.c n c hc) (fun p hp => let ⟨vs, n, e, _⟩ := S.own p hp; ⟨_, e⟩) (fun b o e => ⟨o, S.b b o e⟩)⟩ (Nat.le_trans l l'')

/-- a list of fresh own lists, each of the flat trees row -/
theorem ExL.rows {elt iter : Expr} {x y : Str} {px py : Pos} {scope : Scope} {pos spos : Pos} {cl : List (Str × Addr)} {ts row : List T} (en : EnvC C)
    (hsw : swapsWith (.ListComp elt [⟨.Name x px, iter, [], 0⟩] scope spos) (some (.Name y py)) pos.line C.env = pure false)
    (hit : ∀ Y, EvI C Y σ iter ts) (hcl : closureFor scope C.env = pure cl) (hcs : ∀ x c, cl.lookup x = some c → ∃ z, C.env.cells.lookup z = some c) (hkind : scope.kind = .function)
    (hnames : ∀ x ∈ scope.names, x.2 = .local → scope.names.lookup x.1 = some .local) (hx : ∀ L, LcVar (cEnv scope cl L C.env) x)
    (hfl : ∀ t, t ∈ row → t.flat = true) (helt : ∀ L Y', EvE (C.at' C.n (cEnv scope cl L C.env)) Y' [] elt (.list row))
    (hsz : ts.length ≤ sizeLine)
    (hr : ∀ as : List Addr, as.length = ts.length → as.Nodup → (∀ a, a ∈ as → a ∉ α.map (·.1)) → ∃ σ', Put y (.list (as.map .ref)) σ σ' ∧ ExL C X σ' (as.map (fun a => (a, row)) ++ α) rest K)
    (hy : Sto C.env y) (hs : ∀ v, foldedSetIterable iter C.env v = pure v := by intro _; rfl) :
    ExL C X σ α (.Assign [.Name y py] (.ListComp elt [⟨.Name x px, iter, [], 0⟩] scope spos) pos :: rest) K := .cons <| .mk fun A E s B Q a bo S tk hq => by
  have ok := S.ok bo a tk
  refine wpAny_Assign_Name ?_ hsw
  rw [eval_ListComp]
  refine lc_core (σ' := []) (σt := fun _ => []) (R := fun D i ys h => ∃ as : List Addr, ys = as.map .ref ∧ as.length = i ∧ as.Nodup ∧ ∀ b, b ∈ as → b ≠ D ∧ s.heap.get? b = none ∧ ∃ vs n, h.get? b = some (lstObj vs n) ∧ RepL [] h row vs) (bt := fun _ => true) s.heap (hit _) hcl hcs hkind hnames
    (fun L Y' h r => ⟨fun p hp => by cases hp⟩) (fun L Y' i t _ => .name hkind (hx L) fun p hp => by cases hp) (fun L Y' i t _ => .nil) (fun D h => ⟨[], rfl, rfl, List.nodup_nil, fun b hb => by cases hb⟩)
    (fun D i ys h h' ⟨as, e1, e2, e3, e4⟩ k => ⟨as, e1, e2, e3, fun b hb => ?_⟩) (fun D i ys h _ hb => by cases hb)
    (fun L D i t ys A E s1 Q k01 hi _ ok1 R1 hq => ?_) hsz A E s _ ok rfl Option.none _ (fun D L h' tk' ys n k l hD hL hDL e ns _ R => ?_) hs
  · obtain ⟨q1, q2, vs, n, q3, q4⟩ := e4 b hb
    refine ⟨q1, q2, vs, n, k b _ (by simpa using q1) ⟨_, _, .inl rfl⟩ q3, ?_⟩
    exact q4.flatAny hfl
  · obtain ⟨as, e1, e2, e3, e4⟩ := R1
    refine (helt L ((List.range s1.heap.objs.size).filter fun b => (s1.heap.get? b).isSome)).run A E s1 Q ⟨ok1.a, fun b m => ?_, ok1.g, ⟨fun p hp => by cases hp⟩, ok1.t, ok1.c⟩ fun v h' tk k l r => ?_
    · simp only [List.mem_filter] at m
      exact Option.isSome_iff_exists.mp m.2
    · obtain ⟨c, vs, n, rfl, hc, e, q⟩ := r.list
      have hfr : s1.heap.get? c = none := by
        cases w : s1.heap.get? c with
        | none => rfl
        | some o => exact absurd (by simp only [List.mem_filter, List.mem_range]; exact ⟨Heap.lt_size w, by rw [w]; rfl⟩) hc
      refine hq _ h' tk k l ⟨as ++ [c], by rw [e1]; simp, by simp [e2], ?_, fun b hb => ?_⟩
      · refine List.nodup_append.mpr ⟨e3, by simp, fun b hb b' hb' => ?_⟩
        simp at hb'; subst hb'
        rintro rfl
        obtain ⟨_, _, vs, n, q3, _⟩ := e4 b hb
        rw [hfr] at q3; cases q3
      · rcases List.mem_append.mp hb with hb | hb
        · obtain ⟨q1, q2, vs, n, q3, q4⟩ := e4 b hb
          exact ⟨q1, q2, vs, n, k _ _ q3, q4.sub k⟩
        · simp at hb; subst hb
          refine ⟨?_, ?_, vs, n, e, q.flatAny hfl⟩
          · rintro rfl
            obtain ⟨o, eo⟩ := ok1.l b (.head _)
            rw [hfr] at eo; cases eo
          · cases w : s.heap.get? b with
            | none => rfl
            | some o => have := k01 _ _ w; rw [hfr] at this; cases this
  · obtain ⟨as, e1, e2, e3, e4⟩ := R
    obtain ⟨m, nsm⟩ := ns
    refine ⟨m, nsm, fun hz hsz' => ?_⟩
    obtain ⟨k2, se⟩ := gone hsz' ⟨m, nsm⟩ hL k
    obtain ⟨an, S2⟩ := S.fresh_rows k2 e3 (fun b hb => by
      obtain ⟨q1, q2, vs, n, q3, q4⟩ := e4 b hb
      exact ⟨q2, vs, n, se (X := []) b _ (by simp) ⟨_, _, .inl rfl⟩ q3, q4.flatAny hfl⟩) hfl
    obtain ⟨σ', hp, hr⟩ := hr as e2 e3 an
    have rl : Rep ((as.map (fun a => (a, row)) ++ α).map (·.1) ++ X) hz (.list (as.map .ref)) (.ref D) := by
      refine .mkList (fun m => ?_) ((hsz'.2 D hDL).trans e) (e1 ▸ repL_refs as)
      have keys : (as.map (fun a => (a, row)) ++ α).map (·.1) = as ++ α.map (·.1) := keys_rows as row α
      rw [keys, List.append_assoc] at m
      rcases List.mem_append.mp m with m | m
      · exact (e4 D m).1 rfl
      · obtain ⟨o', e'⟩ := ok.l _ m; rw [hD] at e'; cases e'
    exact store_st en S2 hy hp rl fun h'' tk'' l'' S3 => hq (.next σ' _) _ _ _ hr ⟨rfl, S3⟩ (Nat.le_trans l l'')

/- other pieces -/
theorem EvE.replace (h1t : 1 ≤ C.t0) {o : Expr} {x y z : Str} {k1 k2 : Nat} {p1 p2 apos pos : Pos} (pl : Sem Bool) (h0 : EvE C X σ o (.str x)) (hyz : (y == z) = false) (hsz : x.length + (x.length + 1) * z.length ≤ 16777216)
    (he : eval (.Call (.Attribute o (Str.ofString "replace") apos) [.Constant (.str y) k1 p1, .Constant (.str z) k2 p2] [] pos) C.env = (do
      let ov ← eval o C.env
      standAt apos.atName
      let (f, first) ← holding [ov] (getMethod ov (Str.ofString "replace") pl)
      callWith pos f first (backTo pos (starEach [.Constant (.str y) k1 p1, .Constant (.str z) k2 p2] C.env)) []) := by rfl)
    (he2 : starEach [.Constant (.str y) k1 p1, .Constant (.str z) k2 p2] C.env = (false, eval (.Constant (.str y) k1 p1) C.env) :: starEach [.Constant (.str z) k2 p2] C.env := by rfl)
    (he3 : starEach [.Constant (.str z) k2 p2] C.env = (false, eval (.Constant (.str z) k2 p2) C.env) :: starEach [] C.env := by rfl) (hp : (backTo pos (starEach [.Constant (.str z) k2 p2] C.env)).any (·.1) = false := by rfl) :
    EvE C X σ (.Call (.Attribute o (Str.ofString "replace") apos) [.Constant (.str y) k1 p1, .Constant (.str z) k2 p2] [] pos) (.str (Txt.replace x y z)) :=
  .mk fun A E s Q ok hq => MethodCall_ (pl := pl) (he := he) (h0.run A E s _ ok fun v h1 tk1 k1 l1 r1 => by
    obtain ⟨u, rfl⟩ := r1.str
    have ht : 1 ≤ tk1 := Nat.le_trans h1t (Nat.le_trans ok.t l1)
    refine GM.of (.str x u) (typeIs_str _ _ _) F.slot_str_replace F.type_str_replace GM.noRef (callWith_method1 (he := he2) (hplain := hp) (args_cons (he := he2) (Constant_str (args_cons (he := he3) (Constant_str (args_nil ?_))))))
    refine toks_up (SC.replace (u := tk1) (v := tk1 + 1) (Nat.ne_of_gt ht) (Nat.succ_ne_zero _) (Nat.ne_of_lt (Nat.lt_succ_self _)) hyz hsz fun t' k hk => ?_)
    exact hq _ _ k k1 (Nat.le_trans l1 (Nat.le_trans (by show tk1 ≤ tk1 + 1 + 1; omega) hk)) .mkStr)

/-- a method of a text that is written out -/
theorem EvE.methC {x : Str} {k : Nat} {p0 : Pos} {name : Str} {id : String} {e : Expr} {rest : List Expr} {apos pos : Pos} {ts : List T} {t : T} (slot : Slot "str" name id) (ty : typeOf (.builtin id) = pure (.type "method_descriptor"))
    (h : EvL C X σ (e :: rest) ts) (hc : CaR C X (.builtin id) (.str x :: ts) t)
    (he : eval (.Call (.Attribute (.Constant (.str x) k p0) name apos) (e :: rest) [] pos) C.env = (do
      let ov ← eval (.Constant (.str x) k p0) C.env
      standAt apos.atName
      let (f, first) ← holding [ov] (getMethod ov name (do return (← importBound (.Constant (.str x) k p0) C.env).getD true))
      callWith pos f first (backTo pos (starEach (e :: rest) C.env)) []) := by rfl)
    (he2 : starEach (e :: rest) C.env = (false, eval e C.env) :: starEach rest C.env := by rfl) (hp : (backTo pos (starEach rest C.env)).any (·.1) = false := by rfl) :
    EvE C X σ (.Call (.Attribute (.Constant (.str x) k p0) name apos) (e :: rest) [] pos) t := EvE.meth _ .str slot ty h hc he he2 hp

/-- `a < b < c` -/
theorem EvE.chain2 {l r1 r2 : Expr} {op1 op2 : CmpOp} {pos : Pos} {t1 t2 t3 : T} {b c : Bool} (h1 : EvE C X σ l t1) (h2 : EvE C X σ r1 t2) (h3 : EvE C X σ r2 t3) (ho1 : OpR C X (compareOp op1) t1 t2 (.bool b)) (ho2 : OpR C X (compareOp op2) t2 t3 (.bool c))
    (hm : lastMarks [op1, op2] [r1, r2] = false := by with_unfolding_all rfl) : EvE C X σ (.Compare l [op1, op2] [r1, r2] pos) (.bool (b && c)) := .mk fun A E s Q o hq =>
  Compare_chain (hm := hm) (h1.run A E s _ o fun v1 ha tk1 k1 l1 q1 => chain_link (h2.run A E _ _ (o.step k1 l1) fun v2 hb tk2 k2 l2 q2 =>
    ho1.run A E _ _ v1 v2 o.a (Nat.le_trans o.t (Nat.le_trans l1 l2)) ((o.l.sub k1).sub k2) (q1.sub k2) q2 fun v3 hc tk3 k3 l3 q3 => by
      rw [q3.bool]
      refine wpAny_truthy_bool ?_
      have kk := (k1.trans k2).trans k3
      have ll := Nat.le_trans l1 (Nat.le_trans l2 l3)
      cases b with
      | false => exact hq _ _ _ kk ll .mkBool
      | true =>
        refine chain_last (h3.run A E _ _ (((o.step k1 l1).step k2 l2).step k3 l3) fun v4 hd tk4 k4 l4 q4 => ?_)
        exact ho2.run A E _ Q v2 v4 o.a (Nat.le_trans o.t (Nat.le_trans ll l4)) ((((o.l.sub k1).sub k2).sub k3).sub k4) ((q2.sub k3).sub k4) q4 (((hq.step k1 l1).step k2 l2).step k3 l3 |>.step k4 l4)))

/-- a try whose body raises nothing -/
theorem ExL.try_ {body : List Stmt} {h0 : ExceptHandler} {hs : List ExceptHandler} {pos : Pos} (hb : ExL C X σ α body (Then C X rest K)) : ExL C X σ α (.Try body (h0 :: hs) [] [] pos :: rest) K := .cons <| .mk fun A E s B Q a bo S tk hq =>
  wpAny_Try_except (hb.run A _ s B _ a bo S tk fun out f h' tk' k p l => by
    cases out with
    | next σ1 α1 =>
      obtain ⟨rfl, S1⟩ := p
      exact wpAny_execs_nil (hq (.next σ1 α1) _ h' tk' k ⟨rfl, S1⟩ l)
    | ret t =>
      obtain ⟨v, rfl, p1, p2⟩ := p
      exact hq (.ret t) _ h' tk' k ⟨v, rfl, p1, p2⟩ l)
end
end Mine
end

-- Core13
section
open PySem PySem.W PyProof.Rows PySem.Calls PySem.Spec
set_option maxRecDepth 100000
namespace Mine
open PySem (Expr)

section
variable {C : Cx} {X Y : List Addr} {σ σ' σ'' σt : List (Str × T)} {α α' α'' : List (Addr × List T)} {K K' : Out → Prop} {rest : List Stmt} {B : Addr → Obj → Prop} {h : Heap}

/-- `x = e[:]`, a copy kept by one name alone -/
theorem ExL.ownSlice {x : Str} {px p pos spos : Pos} {e : Expr} {l : List T} (en : EnvC C) (h : ∀ Y, EvE C Y σ e (.list l)) (hl : ∀ t, t ∈ l → t.flat = true) (hsz : l.length ≤ sizeLine)
    (hr : ∀ a, a ∉ α.map (·.1) → ∃ σ', Put x (.ref a) σ σ' ∧ ExL C X σ' ((a, l) :: α) rest K) (hx : Sto C.env x := by exact .inl rfl)
    (ht : ∀ o r, letTemporaryGo e o r = pure () := by intro _ _; rfl)
    (hsw : swapsWith (.Subscript e (.Slice none none none p) spos) (some (.Name x px)) pos.line C.env = pure false := by rfl) :
    ExL C X σ α (.Assign [.Name x px] (.Subscript e (.Slice none none none p) spos) pos :: rest) K := .cons <| .mk fun A E s B Q a bo S tk hq => by
  refine wpAny_Assign_Name (wpAny_Subscript_list_slice (ht := ht) ((h _).run A E s _ (S.ok bo a tk) fun v ha tk1 k1 l1 r1 => ?_)) hsw
  rw [evalPart_none]
  refine wpAny_pure (wpAny_pure ?_)
  obtain ⟨c, vs, n, rfl, hc, e1, q⟩ := r1.list
  refine ⟨c, vs.toArray, none, none, rfl, isList_of e1, by rw [List.size_toArray, q.length]; exact hsz, .none, .none, ?_⟩
  have kk : Sub s.heap ((ha.push { cls := .type "slice", data := .fields #[.none, .none, .none] }).push { cls := .type "list", data := .seq (slicePick vs.toArray none none none) }) := fun b o' eb => Heap.get?_push_of_some _ (Heap.get?_push_of_some _ (k1 b o' eb))
  have hfr : s.heap.get? (ha.objs.size + 1) = none := by
    cases w : s.heap.get? (ha.objs.size + 1) with
    | none => rfl
    | some o =>
      have := Heap.lt_size (k1 _ _ w)
      have e' : ha.objs.size + 1 < ha.objs.size := this
      omega
  have hob : ((ha.push { cls := .type "slice", data := .fields #[.none, .none, .none] }).push { cls := .type "list", data := .seq (slicePick vs.toArray none none none) }).get? (ha.objs.size + 1) = some (lstObj vs 0) := by
    have := Heap.get?_push_size (ha.push { cls := .type "slice", data := .fields #[.none, .none, .none] }) (o := { cls := .type "list", data := .seq (slicePick vs.toArray none none none) }) rfl
    rw [Heap.size_push] at this
    rw [this, slicePick_all]
  obtain ⟨an, S'⟩ := S.fresh_add bo kk hfr hob hl (q.sub fun b o' eb => Heap.get?_push_of_some _ (Heap.get?_push_of_some _ eb))
  obtain ⟨σ', hp, hr⟩ := hr _ an
  exact store_st en S' hx hp .mkRef fun h'' tk'' l'' S'' => hq (.next σ' _) _ _ _ hr ⟨rfl, S''⟩ (Nat.le_trans l1 l'')

/-- `w.pop(i)` of an own list -/
theorem pop_wp {A : Around} {E : Value → Shared → Prop} {s : Shared} {Q : Value → Shared → Prop} {w : Str} {a : Addr} {l : List T} {i : Int} {k : Nat} {t : T} {ei : Expr} {px apos pos : Pos} (en : EnvC C) (S : St C X B σ α s.heap) (bo : BOk C X B) (ao : OkA C.n A) (tk : C.t0 ≤ s.toks)
    (hw : (w, .ref a) ∈ σ) (hu : Upd a l (l.eraseIdx k) α α') (th : Thaw α σ σt) (hi : EvE C X σt ei (.int i)) (hfit : Builtin.List.listFitsIndex i = true) (hk : seqIndex? i l.length = some k) (ht : l[k]? = some t) (hf : t.flat = true) (hsz : l.length ≤ sizeLine)
    (hq : ∀ v h' tk', s.toks ≤ tk' → St C X B σ α' h' → Rep [] h' t v → Q v { s with heap := h', toks := tk' })
    (hd : (w == ("__debug__" : Str)) = false := by decide)
    (he : eval (.Call (.Attribute (.Name w px) (Str.ofString "pop") apos) [ei] [] pos) C.env = (do
      let ov ← eval (.Name w px) C.env
      standAt apos.atName
      let (f, first) ← holding [ov] (getMethod ov (Str.ofString "pop") (do return (← importBound (.Name w px) C.env).getD true))
      callWith pos f first (backTo pos (starEach [ei] C.env)) []) := by rfl)
    (he2 : starEach [ei] C.env = (false, eval ei C.env) :: starEach [] C.env := by rfl) (hp : (backTo pos (starEach [] C.env)).any (·.1) = false := by rfl) :
    wpAny (model C.prog C.w) A (eval (.Call (.Attribute (.Name w px) (Str.ofString "pop") apos) [ei] [] pos) C.env) Q E s := by
  obtain ⟨vs, n, hv, e1, q⟩ := S.ownAt hw hu.mem
  refine MethodCall_ (he := he) (wpAny_Name (load_of en.ok.kind hv ?_) hd)
  refine getMethod_builtin ⟨_, e1, rfl⟩ F.plainAttrs_list F.slot_list_pop F.type_list_pop (fun b eb => by cases eb; exact ⟨_, e1, rfl⟩) (callWith_method1 (he := he2) (hplain := hp) (args_cons (he := he2) (hi.run A E s _ (S.okT bo ao tk th) fun v h2 tk2 k2 l2 r2 => args_nil ?_)))
  obtain ⟨u, rfl⟩ := r2.int
  obtain ⟨y, hy, ry⟩ := q.get ht
  have S2 := S.grow k2
  refine call_meets F.slot_list_pop ⟨_, k2 _ _ e1, rfl⟩ F.entry_list_pop (F.args_list_pop_2 _ _) (MeetsSeq.list_pop_at a vs.toArray n i u k y hfit (by rw [List.size_toArray, q.length]; exact hk) (by simpa using hy) (by rw [List.size_toArray, q.length]; exact hsz)) ⟨k2 _ _ e1, ?_⟩
  exact hq y _ tk2 l2 (S2.upd hu _ fun vs r => by rw [erase_toList]; exact eraseAt k r) (ry.any hf)

/-- `x = f((e1, w.pop(0)))` -/
theorem ExL.popCall {x w fn : Str} {f a : Addr} {l : List T} {t t1 u : T} {e1 : Expr} {k n : Nat} {px pw pc pt p0 apos ppos cpos pos : Pos} (en : EnvC C) (hb : IsF C fn f) (hw : (w, .ref a) ∈ σ) (hu : Upd a (t :: l) l α α') (th : Thaw α σ σt) (h1 : EvE C X σt e1 t1) (hf1 : t1.flat = true) (hf : t.flat = true) (hsz : l.length + 1 ≤ sizeLine)
    (hc : CallE C n f [.tup [t1, t]] u) (hfu : u.flat = true) (hn : n ≤ C.n) (hr : ExL C X σ' α' rest K) (hp' : Put x u σ σ' := by repeat (first | exact Put.nil | (apply Put.hit; repeat (first | exact Off.nil | apply Off.cons (by decide))) | apply Put.miss (by decide)))
    (hx : Sto C.env x := by exact .inl rfl) (hdw : (w == ("__debug__" : Str)) = false := by decide) (hdf : (fn == ("__debug__" : Str)) = false := by decide)
    (he : eval (.Call (.Attribute (.Name w pw) (Str.ofString "pop") apos) [.Constant (.int 0) 0 p0] [] ppos) C.env = (do
      let ov ← eval (.Name w pw) C.env
      standAt apos.atName
      let (f, first) ← holding [ov] (getMethod ov (Str.ofString "pop") (do return (← importBound (.Name w pw) C.env).getD true))
      callWith ppos f first (backTo ppos (starEach [.Constant (.int 0) 0 p0] C.env)) []) := by rfl)
    (he2 : starEach [.Constant (.int 0) 0 p0] C.env = (false, eval (.Constant (.int 0) 0 p0) C.env) :: starEach [] C.env := by rfl) (hpl : (backTo ppos (starEach [] C.env)).any (·.1) = false := by rfl)
    (het : starEach [e1, .Call (.Attribute (.Name w pw) (Str.ofString "pop") apos) [.Constant (.int 0) 0 p0] [] ppos] C.env = (false, eval e1 C.env) :: starEach [.Call (.Attribute (.Name w pw) (Str.ofString "pop") apos) [.Constant (.int 0) 0 p0] [] ppos] C.env := by rfl)
    (het2 : starEach [.Call (.Attribute (.Name w pw) (Str.ofString "pop") apos) [.Constant (.int 0) 0 p0] [] ppos] C.env = (false, eval (.Call (.Attribute (.Name w pw) (Str.ofString "pop") apos) [.Constant (.int 0) 0 p0] [] ppos) C.env) :: starEach [] C.env := by rfl)
    (hec : eval (.Call (.Name fn pc) [.Tuple [e1, .Call (.Attribute (.Name w pw) (Str.ofString "pop") apos) [.Constant (.int 0) 0 p0] [] ppos] k pt] [] cpos) C.env = (do callWith cpos (← eval (.Name fn pc) C.env) [] (backTo cpos (starEach [.Tuple [e1, .Call (.Attribute (.Name w pw) (Str.ofString "pop") apos) [.Constant (.int 0) 0 p0] [] ppos] k pt] C.env)) (backToKw cpos (keywordEach [] C.env))) := by rfl)
    (hec2 : starEach [.Tuple [e1, .Call (.Attribute (.Name w pw) (Str.ofString "pop") apos) [.Constant (.int 0) 0 p0] [] ppos] k pt] C.env = (false, eval (.Tuple [e1, .Call (.Attribute (.Name w pw) (Str.ofString "pop") apos) [.Constant (.int 0) 0 p0] [] ppos] k pt) C.env) :: starEach [] C.env := by rfl)
    (hsw : swapsWith (.Call (.Name fn pc) [.Tuple [e1, .Call (.Attribute (.Name w pw) (Str.ofString "pop") apos) [.Constant (.int 0) 0 p0] [] ppos] k pt] [] cpos) (some (.Name x px)) pos.line C.env = pure false := by rfl) :
    ExL C X σ α (.Assign [.Name x px] (.Call (.Name fn pc) [.Tuple [e1, .Call (.Attribute (.Name w pw) (Str.ofString "pop") apos) [.Constant (.int 0) 0 p0] [] ppos] k pt] [] cpos) pos :: rest) K := .cons <| .mk fun A E s B Q ao bo S tk hq => by
  have g := bo.gl _ S.b
  obtain ⟨ob, fd, hb1, hb2⟩ := hb.fn
  refine wpAny_Assign_Name (Call_ (he := hec) (name_f en.ok hb g (PyProof.Rows.callWith_def (he := hec2) hb2 (args_cons (he := hec2) (Tuple_ (args_cons (he := het) (h1.run A E s _ (S.okT bo ao tk th) fun v1 h2 tk2 k2 l2 r2 => args_cons (he := het2) ?_))))) hdf)) hsw
  refine pop_wp (t := t) (k := 0) (hu := hu) en (S.grow k2) bo ao (Nat.le_trans tk l2) hw .refl .int (by decide) (seqIndex?_zero (by simp)) (by simp) hf (by simpa using hsz) (fun v2 h3 tk3 l3 S3 r3 => args_nil ?_) hdw he he2 hpl
  refine new_tup (C := C) (S3.liveX bo) (ts := [t1, t]) (.cons (r2.any hf1) (.cons (r3.any hf) .empty)) (by simp only [List.length_cons, List.length_nil]; decide) fun v4 h4 tk4 k4 l4 r4 => args_nil ⟨(bo.gl _ ((S3.grow k4).b)).k _ _ hb1, ?_⟩
  have S4 := S3.grow k4
  have lt := Nat.le_trans l2 (Nat.le_trans l3 l4)
  refine hc.run A E _ _ [v4] X (ao.le hn) (bo.gl _ S4.b) (S4.liveX bo) (Nat.le_trans tk lt) (.cons r4 .empty) fun v5 h5 tk5 k5 l5 r5 => ?_
  exact store_st en (S4.grow k5) hx hp' (r5.any hfu) fun h6 tk6 l6 S6 => hq (.next σ' α') _ _ _ hr ⟨rfl, S6⟩ (Nat.le_trans lt (Nat.le_trans l5 l6))

/-- `z.append(w.pop(i))` -/
theorem ExL.popAppend {z w : Str} {a b : Addr} {l m : List T} {i : Int} {k : Nat} {t : T} {ei : Expr} {pz pw apos apos2 ppos pos spos : Pos} (en : EnvC C) (hz : (z, .ref b) ∈ σ) (hw : (w, .ref a) ∈ σ) (hu : Upd a l (l.eraseIdx k) α α') (hu2 : Upd b m (m ++ [t]) α' α'') (hbm : (b, m) ∈ α) (th : Thaw α σ σt) (hi : EvE C X σt ei (.int i))
    (hfit : Builtin.List.listFitsIndex i = true) (hk : seqIndex? i l.length = some k) (ht : l[k]? = some t) (hf : t.flat = true) (hsz : l.length ≤ sizeLine) (hsz2 : m.length ≤ sizeLine) (hr : ExL C X σ α'' rest K)
    (hdw : (w == ("__debug__" : Str)) = false := by decide) (hdz : (z == ("__debug__" : Str)) = false := by decide)
    (he : eval (.Call (.Attribute (.Name w pw) (Str.ofString "pop") apos) [ei] [] ppos) C.env = (do
      let ov ← eval (.Name w pw) C.env
      standAt apos.atName
      let (f, first) ← holding [ov] (getMethod ov (Str.ofString "pop") (do return (← importBound (.Name w pw) C.env).getD true))
      callWith ppos f first (backTo ppos (starEach [ei] C.env)) []) := by rfl)
    (he2 : starEach [ei] C.env = (false, eval ei C.env) :: starEach [] C.env := by rfl) (hpl : (backTo ppos (starEach [] C.env)).any (·.1) = false := by rfl)
    (hea : eval (.Call (.Attribute (.Name z pz) (Str.ofString "append") apos2) [.Call (.Attribute (.Name w pw) (Str.ofString "pop") apos) [ei] [] ppos] [] pos) C.env = (do
      let ov ← eval (.Name z pz) C.env
      standAt apos2.atName
      let (f, first) ← holding [ov] (getMethod ov (Str.ofString "append") (do return (← importBound (.Name z pz) C.env).getD true))
      callWith pos f first (backTo pos (starEach [.Call (.Attribute (.Name w pw) (Str.ofString "pop") apos) [ei] [] ppos] C.env)) []) := by rfl)
    (hea2 : starEach [.Call (.Attribute (.Name w pw) (Str.ofString "pop") apos) [ei] [] ppos] C.env = (false, eval (.Call (.Attribute (.Name w pw) (Str.ofString "pop") apos) [ei] [] ppos) C.env) :: starEach [] C.env := by rfl) (hpa : (backTo pos (starEach [] C.env)).any (·.1) = false := by rfl)
    (hint : interactive C.env = false := by rfl) (hsw : swapsWith (.Call (.Attribute (.Name z pz) (Str.ofString "append") apos2) [.Call (.Attribute (.Name w pw) (Str.ofString "pop") apos) [ei] [] ppos] [] pos) none spos.line C.env = pure false := by rfl) :
    ExL C X σ α (.Expr (.Call (.Attribute (.Name z pz) (Str.ofString "append") apos2) [.Call (.Attribute (.Name w pw) (Str.ofString "pop") apos) [ei] [] ppos] [] pos) spos :: rest) K := .cons <| .mk fun A E s B Q ao bo S tk hq => by
  obtain ⟨vs, n, hv, e1, q⟩ := S.ownAt hz hbm
  refine wpAny_Expr_any (MethodCall_ (he := hea) (wpAny_Name (load_of en.ok.kind hv ?_) hdz)) hint hsw
  refine getMethod_builtin ⟨_, e1, rfl⟩ F.plainAttrs_list slot_list_append (by rfl) (fun b eb => by cases eb; exact ⟨_, e1, rfl⟩) (callWith_method1 (he := hea2) (hplain := hpa) (args_cons (he := hea2) ?_))
  refine pop_wp (t := t) en S bo ao tk hw hu th hi hfit hk ht hf hsz (fun v2 h3 tk3 l3 S3 r3 => args_nil ?_) hdw he he2 hpl
  obtain ⟨ws, n', _, e3, q3⟩ := S3.ownAt hz hu2.mem
  refine wpAny_list_append_plain ⟨n', e3⟩ (fun h4 hpl4 hs => ?_) (by rw [List.size_toArray, q3.length]; exact hsz2)
  obtain ⟨n4, e4⟩ := hpl4
  refine hq (.next σ α'') _ h4 tk3 hr ⟨rfl, S3.mut hu2 hs (vs' := ws ++ [v2]) (n' := n4) (by rw [e4]; simp) (q3.append (.cons (r3.any hf) .empty))⟩ l3

/-- `x += e`, x an own list -/
theorem seq_list_iadd : seqSlot? (.type "list") (dunderI "add") = pure (some (.builtin "list.__iadd__")) := PySem.seqSlot_of F.slot_list_iadd.lookup (by decide +kernel)
theorem noFill_list_iadd : fillsInplaceSlot (.type "list") "add" (Operator.Add == .Add) = pure false := by
  unfold fillsInplaceSlot
  show (typeLookup (.type "list") (dunderI "add") >>= fun fi => pure (fi.isSome && !isSeqSlot fi)) = pure false
  rw [F.slot_list_iadd.lookup]
  show (pure (true && !isSeqSlot (some (.builtin "list.__iadd__"))) : Sem Bool) = pure false
  rw [show isSeqSlot (some (.builtin "list.__iadd__")) = true by decide +kernel]
  rfl
theorem iadd_list {prog : Program} {w : World} {A : Around} {E : Value → Shared → Prop} {s : Shared} {a b : Addr} {vs ws : List Value} {n k : Nat} {Q : Value → Shared → Prop} (ea : s.heap.get? a = some (lstObj vs n)) (eb : s.heap.get? b = some (lstObj ws k)) (hsz : vs.length + ws.length ≤ sizeLine)
    (h : Q (.ref a) { s with heap := s.heap.update a (Obj.mapSeq fun x => x ++ ws.toArray) }) : wpAny (model prog w) A (inplaceOp .Add (.ref a) (.ref b)) Q E s := by
  unfold inplaceOp
  refine wpAny_holding ?_
  have ha : s.TypeIs (.ref a) "list" := ⟨_, ea, rfl⟩
  have hb : s.TypeIs (.ref b) "list" := ⟨_, eb, rfl⟩
  refine wpAny_bind (wpAny_typeOf ha (wpAny_bind (wpAny_of_eq noFill_list_iadd ?_)))
  show wpAny _ A (if false = true then _ else _) Q E s
  rw [if_neg Bool.false_ne_true]
  refine wpAny_bind (wpAny_binaryOp1_none (nm := "add") ha hb noFill_list_add ?_)
  refine wpAny_bind (wpAny_of_eq seq_list_iadd ?_)
  refine wpAny_bind (wpAny_rule ?_)
  have h2 : vs.toArray.size + ws.toArray.size ≤ sizeLine := by simp only [List.size_toArray]; exact hsz
  have h3 : ¬(!vs.toArray.isEmpty && Builtin.List.listTooLong (vs.toArray.size + ws.toArray.size)) = true := by
    rw [Bool.and_eq_true]
    rintro ⟨_, h⟩
    have : vs.toArray.size + ws.toArray.size > sizeLine := of_decide_eq_true h
    omega
  exact call_meets F.slot_list_iadd ha F.entry_list_iadd (F.args_list_iadd_2 _ _) (AutoSeq1.list___iadd___list_list_0 a vs.toArray n b ws.toArray k h3 (by omega) (by omega)) ⟨ea, eb, h⟩
theorem ExL.iadd {x : Str} {a : Addr} {l m : List T} {e : Expr} {px pos : Pos} (en : EnvC C) (hx : (x, .ref a) ∈ σ) (hu : Upd a l (l ++ m) α α') (h : ∀ Y, EvE C Y σ e (.list m)) (hsz : l.length + m.length ≤ sizeLine) (hr : ExL C X σ α' rest K) (hp : Put x (.ref a) σ σ := by repeat (first | exact Put.nil | (apply Put.hit; repeat (first | exact Off.nil | apply Off.cons (by decide))) | apply Put.miss (by decide))) (hs : Sto C.env x := by exact .inl rfl) :
    ExL C X σ α (.AugAssign (.Name x px) .Add e pos :: rest) K := .cons <| .mk fun A E s B Q ao bo S tk hq => by
  obtain ⟨vs, n, hv, e1, q⟩ := S.ownAt hx hu.mem
  refine wpAny_AugAssign_Name (load_of en.ok.kind hv ((h _).run A E s _ (S.ok bo ao tk) fun v1 h2 tk2 k2 l2 r2 => ?_))
  obtain ⟨b, ws, k, rfl, hb, e2, q2⟩ := r2.list
  have S2 := S.grow k2
  refine iadd_list (k2 _ _ e1) e2 (by rw [q.length, q2.length]; exact hsz) ?_
  have S3 : St C X B σ α' (h2.update a (Obj.mapSeq fun x => x ++ ws.toArray)) := S2.mut hu (Heap.SameBut.update ..) (vs' := (vs.toArray ++ ws.toArray).toList) (by exact IsL.update (n := n) (k2 _ _ e1) _) (by simpa using (q.sub k2).append q2)
  exact store_st en S3 hs hp .mkRef fun h4 tk4 l4 S4 => hq (.next σ α') _ _ _ hr ⟨rfl, S4⟩ (Nat.le_trans l2 l4)
end
end Mine
end

-- Core14
section
open PySem PySem.W PyProof.Rows PySem.Calls PySem.Spec
set_option maxRecDepth 100000
namespace Mine
open PySem (Expr)

inductive ClOk (env : Env) : List (Str × Addr) → Prop
  | nil : ClOk env []
  | cons {n : Str} {c : Addr} {cl : List (Str × Addr)} : env.cells.lookup n = some c → ClOk env cl → ClOk env ((n, c) :: cl)
theorem ClOk.ok {env : Env} {cl : List (Str × Addr)} (h : ClOk env cl) : ∀ x c, cl.lookup x = some c → ∃ z, env.cells.lookup z = some c := by
  have : ∀ p, p ∈ cl → env.cells.lookup p.1 = some p.2 := by
    induction h with
    | nil => intro p hp; cases hp
    | cons e _ ih => intro p hp; cases hp with
      | head => exact e
      | tail _ hp => exact ih p hp
  exact fun x c e => ⟨x, this _ (mem_of_lookup e)⟩

section
variable {C : Cx} {X Y : List Addr} {σ σ' σ'' σt : List (Str × T)} {α α' α'' : List (Addr × List T)} {K K' : Out → Prop} {rest : List Stmt} {B : Addr → Obj → Prop} {h : Heap}

theorem EvE.comp {elt iter : Expr} {x : Str} {px : Pos} {ifs : List Expr} {scope : Scope} {pos : Pos} {cl : List (Str × Addr)} {ts : List T} (f : T → Option T) (σc : List (Str × T)) (en : EnvOk C)
    (hcl : closureFor scope C.env = pure cl := by rfl) (hcs : ClOk C.env cl := by repeat (first | exact ClOk.nil | apply ClOk.cons rfl)) (hkind : scope.kind = .function := by rfl)
    (hnames : ∀ x ∈ scope.names, x.2 = .local → scope.names.lookup x.1 = some .local := by decide)
    (hc : Carr C.env scope cl x σ σc := by repeat (first | exact Carr.nil | apply Carr.cons (by repeat (first | exact List.Mem.head _ | apply List.Mem.tail)) (by decide) ⟨fun _ => by first | exact .inl rfl | exact .inr rfl, by decide, by first | exact .inl rfl | exact .inr rfl, _, rfl, fun _ => rfl⟩))
    (hx : ∀ L, LcVar (cEnv scope cl L C.env) x := by first | exact fun _ => .inl rfl | exact fun _ => .inr ⟨rfl, by decide, _, rfl, Nat.lt_succ_self _⟩)
    (hs : ∀ v, foldedSetIterable iter C.env v = pure v := by intro _; rfl)
    (hit : EvI C Y σ iter ts)
    (htest : ∀ L Y' t, EnvOk (C.at' C.n (cEnv scope cl L C.env)) → t ∈ ts → EvTs (C.at' C.n (cEnv scope cl L C.env)) Y' ((x, t) :: σc) ifs (f t).isSome)
    (helt : ∀ L Y' t u, EnvOk (C.at' C.n (cEnv scope cl L C.env)) → t ∈ ts → f t = some u → EvE (C.at' C.n (cEnv scope cl L C.env)) Y' ((x, t) :: σc) elt u)
    (hsz : ts.length ≤ sizeLine) :
    EvE C Y σ (.ListComp elt [⟨.Name x px, iter, ifs, 0⟩] scope pos) (.list (ts.filterMap f)) := .lc f en hit hcl hcs.ok hkind hnames hc hx htest helt hsz hs

theorem ExL.compU {elt iter : Expr} {x y : Str} {px py : Pos} {ifs : List Expr} {scope : Scope} {pos spos : Pos} {cl : List (Str × Addr)} {ts us : List T} (f : T → Option T) (σc : List (Str × T)) (en : EnvC C)
    (hsw : swapsWith (.ListComp elt [⟨.Name x px, iter, ifs, 0⟩] scope spos) (some (.Name y py)) pos.line C.env = pure true := by rfl)
    (hcl : closureFor scope C.env = pure cl := by rfl) (hcs : ClOk C.env cl := by repeat (first | exact ClOk.nil | apply ClOk.cons rfl)) (hkind : scope.kind = .function := by rfl)
    (hnames : ∀ x ∈ scope.names, x.2 = .local → scope.names.lookup x.1 = some .local := by decide)
    (hc : Carr C.env scope cl x σ σc := by repeat (first | exact Carr.nil | apply Carr.cons (by repeat (first | exact List.Mem.head _ | apply List.Mem.tail)) (by decide) ⟨fun _ => by first | exact .inl rfl | exact .inr rfl, by decide, by first | exact .inl rfl | exact .inr rfl, _, rfl, fun _ => rfl⟩))
    (hx : ∀ L, LcVar (cEnv scope cl L C.env) x := by first | exact fun _ => .inl rfl | exact fun _ => .inr ⟨rfl, by decide, _, rfl, Nat.lt_succ_self _⟩)
    (hs : ∀ v, foldedSetIterable iter C.env v = pure v := by intro _; rfl) (hy : Sto C.env y := by exact .inl rfl)
    (hus : ts.filterMap f = us)
    (hp : Put y (.list us) σ σ' := by repeat (first | exact Put.nil | (apply Put.hit; repeat (first | exact Off.nil | apply Off.cons (by decide))) | apply Put.miss (by decide)))
    (hit : ∀ Y, EvI C Y σ iter ts)
    (htest : ∀ L Y' t, EnvOk (C.at' C.n (cEnv scope cl L C.env)) → t ∈ ts → EvTs (C.at' C.n (cEnv scope cl L C.env)) Y' ((x, t) :: σc) ifs (f t).isSome)
    (helt : ∀ L Y' t u, EnvOk (C.at' C.n (cEnv scope cl L C.env)) → t ∈ ts → f t = some u → EvE (C.at' C.n (cEnv scope cl L C.env)) Y' ((x, t) :: σc) elt u)
    (hsz : ts.length ≤ sizeLine) (hr : ExL C X σ' α rest K) :
    ExL C X σ α (.Assign [.Name y py] (.ListComp elt [⟨.Name x px, iter, ifs, 0⟩] scope spos) pos :: rest) K :=
  .lcU f en hsw hit hcl hcs.ok hkind hnames hc hx htest helt hsz hus hr hp hy hs
end
end Mine
end

-- Core15
section
open PySem PySem.W PyProof.Rows PySem.Calls PySem.Spec
set_option maxRecDepth 100000
namespace Mine
open PySem (Expr)

section
variable {prog : Program} {w : World} {A : Around} {E : Value → Shared → Prop} {s : Shared}
theorem unpack_list2 {a : Addr} {v1 v2 : Value} {n : Nat} {Q : List Value → Shared → Prop} (hh : A.handled = none) (e : s.heap.get? a = some (lstObj [v1, v2] n))
    (hQ : ∀ h', Sub s.heap h' → Q [v1, v2] { s with heap := h' }) : wpAny (model prog w) A (unpackItems (.ref a) 2 none) Q E s := by
  have hl := isList_of e
  have hne : a ≠ s.heap.objs.size := Nat.ne_of_lt (Heap.lt_size e)
  have old : ∀ b o, s.heap.get? b = some o → b ≠ s.heap.objs.size := fun b o e => Nat.ne_of_lt (Heap.lt_size e)
  unfold unpackItems
  refine wpAny_bind ?_
  unfold notIterableAtAll
  refine wpAny_bind (wpAny_specialOf hl.typeIs slot_list_iter.lookup ?_)
  refine wpAny_pure ?_
  simp only [Bool.false_eq_true, if_false]
  refine wpAny_bind (wpAny_holding (wpAny_pyIter_list hl ?_))
  refine wpAny_bind (wpAny_holding ?_)
  show wpAny _ _ (pyNext (.ref s.heap.objs.size) >>= _) _ E _
  have hit0 : (s.heap.push { cls := .type "list_iterator", data := .fields #[.ref a, .int 0 0] }).IsListIter s.heap.objs.size a 0 := ⟨_, Heap.get?_push_size _ rfl, rfl, rfl⟩
  have hl0 := hl.push { cls := .type "list_iterator", data := .fields #[.ref a, .int 0 0] }
  refine wpAny_bind (wpAny_pyNext_list_item hit0 hl0 (x := v1) rfl fun h1 hit1 hs1 => ?_)
  have hl1 := hl0.extBut hs1.extBut hne
  refine wpAny_bind (wpAny_holding ?_)
  show wpAny _ _ (pyNext (.ref s.heap.objs.size) >>= _) _ E _
  refine wpAny_bind (wpAny_pyNext_list_item hit1 hl1 (x := v2) rfl fun h2 hit2 hs2 => ?_)
  have hl2 := hl1.extBut hs2.extBut hne
  refine wpAny_bind (wpAny_holding (wpAny_pure (wpAny_pure (wpAny_pure ?_))))
  rw [if_neg (by simp)]
  refine wpAny_bind (wpAny_holding (wpAny_pyNext_list_end hh hit2 hl2 (by simp) fun h3 hs3 => ?_))
  simp only [Option.isSome_none, Bool.false_eq_true, if_false]
  exact wpAny_pure (hQ h3 fun b o e => hs3 b o (old b o e) (hs2.extBut b o (old b o e) (hs1.extBut b o (old b o e) (Heap.get?_push_of_some _ e))))
end

section
variable {C : Cx} {X Y : List Addr} {σ σ' σ'' σt : List (Str × T)} {α α' α'' : List (Addr × List T)} {K K' : Out → Prop} {rest : List Stmt} {B : Addr → Obj → Prop} {h : Heap}

theorem NoSeq.old {h h' : Heap} {b : Addr} (k : ∀ o, h.get? b = some o → h'.get? b = some o) (n : NoSeq h' b) : NoSeq h b := fun o e l m => n o (k o e) l m

/-- two names at once, from a list of two -/
theorem AsgR.pair {x y : Str} {p1 p2 tp : Pos} {k : Nat} {t1 t2 : T} {σ1 : List (Str × T)} (hf1 : t1.flat = true) (hf2 : t2.flat = true) (h1 : AsgR C Y (.Name x p1) t1 σ σ1) (h2 : AsgR C Y (.Name y p2) t2 σ1 σt)
    (ht : assignEach [.Name x p1, .Name y p2] C.env = [(false, assign (.Name x p1) C.env), (false, assign (.Name y p2) C.env)]) : AsgR C Y (.Tuple [.Name x p1, .Name y p2] k tp) (.list [t1, t2]) σ σt :=
  .mk fun A E s Q v a hn hc hr rv hq => by
    obtain ⟨c, vs, n, rfl, hcY, e, q⟩ := rv.list
    obtain ⟨v1, v2, rfl, r1, r2⟩ := q.two
    rw [assign_Tuple]
    refine wpAny_bind (wpAny_standAt ?_)
    rw [ht]
    show wpAny _ _ (unpack _ _) _ _ _
    unfold unpack
    refine wpAny_bind (wpAny_holding (unpack_list2 a.hd e fun h0 k0 => ?_))
    have hn0 : ∃ m, h0.Ns C.env.locals m := let ⟨m, e⟩ := hn; ⟨m, e.keeps k0⟩
    have hc0 : CellsNew h0 (C.env.locals + 1) C.env.cells := ⟨fun x c e => let ⟨o, eo⟩ := hc.live x c e; ⟨o, k0 _ _ eo⟩, fun x c e l => let ⟨v, ic⟩ := hc.cell x c e l; ⟨v, ic.keeps k0⟩, hc.ap⟩
    refine assignInOrder_cons (h1.run A E { s with heap := h0 } _ v1 a hn0 hc0 (hr.sub k0) (r1.any hf1) fun h1' tk1 l1 rd1 ns1 cn1 ⟨m1, hm1, km1⟩ => ?_)
    refine assignInOrder_cons (h2.run A E _ _ v2 a ns1 cn1 rd1 (r2.any hf2) fun h2' tk2 l2 rd2 ns2 cn2 ⟨m2, hm2, km2⟩ => assignInOrder_nil ?_)
    refine hq h2' tk2 (Nat.le_trans l1 l2) rd2 ns2 cn2 ⟨m1 ++ m2, fun b hb => ?_, fun b o hb e => ?_⟩
    · by_cases hb1 : b ∈ m1
      · exact ⟨(hm1 b hb1).1, (hm1 b hb1).2.old fun o e => k0 b o e⟩
      · rcases List.mem_append.mp hb with hb | hb
        · exact absurd hb hb1
        · exact ⟨(hm2 b hb).1, (hm2 b hb).2.old fun o e => km1 b o hb1 (k0 b o e)⟩
    · exact km2 b o (fun m => hb (List.mem_append_right _ m)) (km1 b o (fun m => hb (List.mem_append_left _ m)) (k0 b o e))

/-- `y = [.. for tg in ..]`, the comprehension stores it itself; any target -/
theorem ExL.lcUT {elt iter tg : Expr} {y : Str} {py : Pos} {ifs : List Expr} {scope : Scope} {pos spos : Pos} {cl : List (Str × Addr)} {ts us : List T} {σc : List (Str × T)} {σi : T → List (Str × T)} (f : T → Option T) (en : EnvC C)
    (hsw : swapsWith (.ListComp elt [⟨tg, iter, ifs, 0⟩] scope spos) (some (.Name y py)) pos.line C.env = pure true)
    (hit : ∀ Y, EvI C Y σ iter ts) (hcl : closureFor scope C.env = pure cl) (hcs : ∀ x c, cl.lookup x = some c → ∃ z, C.env.cells.lookup z = some c) (hkind : scope.kind = .function)
    (hnames : ∀ x ∈ scope.names, x.2 = .local → scope.names.lookup x.1 = some .local) (hrd : ∀ L Y' h, Rd Y' C.env σ h → Rd Y' (cEnv scope cl L C.env) σc h)
    (hasg : ∀ L Y' t, t ∈ ts → AsgR (C.at' C.n (cEnv scope cl L C.env)) Y' tg t σc (σi t))
    (htest : ∀ L Y' t, EnvOk (C.at' C.n (cEnv scope cl L C.env)) → t ∈ ts → EvTs (C.at' C.n (cEnv scope cl L C.env)) Y' (σi t) ifs (f t).isSome)
    (helt : ∀ L Y' t u, EnvOk (C.at' C.n (cEnv scope cl L C.env)) → t ∈ ts → f t = some u → EvE (C.at' C.n (cEnv scope cl L C.env)) Y' (σi t) elt u)
    (hsz : ts.length ≤ sizeLine) (hus : ts.filterMap f = us)
    (hr : ExL C X σ' α rest K) (hp : Put y (.list us) σ σ')
    (hy : Sto C.env y) (hs : ∀ v, foldedSetIterable iter C.env v = pure v) :
    ExL C X σ α (.Assign [.Name y py] (.ListComp elt [⟨tg, iter, ifs, 0⟩] scope spos) pos :: rest) K := .cons <| .mk fun A E s B Q a bo S tk hq => by
  subst hus
  rw [exec_Assign_Name_used _ _ _ _ hsw]
  refine wpAny_bind (wpAny_standAt (wpAny_bind ?_))
  show wpAny _ A (do let _ ← comprehension (.ListComp elt [⟨tg, iter, ifs, 0⟩] scope spos) scope C.env _ (newList []) false (eval iter C.env) (some (assign (.Name y py) C.env))) _ _ s
  have ok := S.ok bo a tk
  refine wpAny_bind (wpAny_mono (lc_list (Q := fun _ s' => Q .next s') f (σt := σi) (hit _) hcl hcs hkind hnames hrd hasg (fun L Y' t ht => htest L Y' t (en.ok.comp hkind) ht)
    (fun L Y' t u ht hf => helt L Y' t u (en.ok.comp hkind) ht hf) hsz A E s ok (some (assign (.Name y py) C.env)) _ (fun D L h' tk' ys n k l hD hL hDL e ns r => ?_) hs) (fun _ s' hq => wpAny_pure (wpAny_pure hq)) fun _ _ e => e)
  show wpAny _ A (assign (.Name y py) C.env (.ref D)) _ E _
  refine wpAny_assign_Name (store_any en.ok.kind (S.grow k).ns (fun c _ e => (S.grow k).cl _ _ e) hy fun h'' tk'' l'' Z => ?_)
  have rl : Rep (α.map (·.1) ++ X) h' (.list (ts.filterMap f)) (.ref D) := .mkList (fun m => by obtain ⟨o', e'⟩ := ok.l _ m; rw [hD] at e'; cases e') e (r.more fun b m => .inl (.tail _ m))
  have S2 := (S.grow k).store en.ap Z hp.mem rl
  obtain ⟨bz, hsz', hbz, hwz⟩ := Z.ch
  have ll : ∃ o, s.heap.get? C.env.locals = some o := by obtain ⟨m, o, _, _, e, _⟩ := S.ns; exact ⟨o, e⟩
  have hbL : L ≠ bz := by
    rintro rfl
    rcases hwz with q | q
    · rw [← q] at ll; obtain ⟨o, e⟩ := ll; rw [hL] at e; cases e
    · obtain ⟨o, e⟩ := ok.c _ _ q.2; rw [hL] at e; cases e
  obtain ⟨m, nsm⟩ := ns
  have nsm' := nsm.sameBut hsz' hbL
  refine ⟨m, nsm', fun hz hsL => ?_⟩
  exact hq (.next σ' α) _ hz tk'' hr ⟨rfl, S2.gone hsL (ns_noSeq nsm') s.heap hL ll (fun n c hc => ok.c n c hc) (fun p hp => let ⟨vs, n, e, _⟩ := S.own p hp; ⟨_, e⟩) (fun b o e => ⟨o, S.b b o e⟩)⟩ (Nat.le_trans l l'')

/-- a display of a list, kept by one name alone -/
theorem ExL.ownList {x : Str} {px pos spos : Pos} {es : List Expr} {l : List T} (en : EnvC C) (h : ∀ Y, EvL C Y σ es l) (hsz : l.length ≤ sizeLine)
    (hr : ∀ a, a ∉ α.map (·.1) → ∃ σ', Put x (.ref a) σ σ' ∧ ExL C X σ' ((a, l) :: α) rest K) (hx : Sto C.env x := by exact .inl rfl)
    (hsw : swapsWith (.List es spos) (some (.Name x px)) pos.line C.env = pure false := by rfl) : ExL C X σ α (.Assign [.Name x px] (.List es spos) pos :: rest) K := .cons <| .mk fun A E s B Q a bo S tk hq => by
  have ok := S.ok bo a tk
  refine wpAny_Assign_Name (List_ ((h _).run A E s spos _ ok fun vs h1 tk1 k1 l1 r1 => ?_)) hsw
  refine wpAny_newObj_type ?_ (by show vs.toArray.size ≤ sizeLine; rw [List.size_toArray, r1.length]; exact hsz)
  have S1 := S.grow k1
  have k2 := Sub.push h1 { cls := .type "list", data := .seq vs.toArray }
  have hfr : h1.get? h1.objs.size = none := get_size h1
  have an : h1.objs.size ∉ α.map (·.1) := fun m => by
    obtain ⟨p, hp, e⟩ := List.mem_map.mp m
    obtain ⟨ws, n, e2, _⟩ := S1.own p hp
    rw [e, hfr] at e2; cases e2
  have more : ∀ b, b ∈ h1.objs.size :: α.map (·.1) ++ X → b ∈ α.map (·.1) ++ X ∨ h1.get? b = none := fun b m => by
    rw [List.cons_append] at m
    cases m with
    | head => exact .inr hfr
    | tail _ m => exact .inl m
  have S2 := S1.grow k2
  have S' : St C X B σ ((h1.objs.size, l) :: α) (h1.push { cls := .type "list", data := .seq vs.toArray }) := by
    refine ⟨S2.b, S2.ns, S2.cl, S.nb, S.cb, List.nodup_cons.mpr ⟨an, S.nd⟩, fun p hp => ?_, fun p hp => ?_, ⟨fun p hp => ?_⟩⟩
    · cases hp with
      | head => exact ⟨vs, 0, Heap.get?_push_size _ rfl, (r1.more more).sub k2⟩
      | tail _ hp =>
        obtain ⟨ws, m, e1, r2⟩ := S1.own p hp
        exact ⟨ws, m, k2 _ _ e1, (r2.more more).sub k2⟩
    · cases hp with
      | head => intro o eo; have := S1.b _ o eo; rw [hfr] at this; cases this
      | tail _ hp => exact S.ob p hp
    · obtain ⟨v, hv, r2⟩ := S1.rd.val p hp
      exact ⟨v, hv.sub k2, (r2.more more).sub k2⟩
  obtain ⟨σ', hp, hr⟩ := hr _ an
  exact store_st en S' hx hp .mkRef fun h'' tk'' l'' S'' => hq (.next σ' _) _ _ _ hr ⟨rfl, S''⟩ (Nat.le_trans l1 l'')
end
end Mine
end

-- Core16
section
open PySem PySem.W PyProof.Rows PySem.Calls PySem.Spec
set_option maxRecDepth 100000
namespace Mine
open PySem (Expr)

theorem store_strict {M : Model} {A : Around} {E : Value → Shared → Prop} {s : Shared} {env : Env} {x : Str} {v : Value} {Q : Unit → Shared → Prop} (hk : env.scope.kind = .function) (hn : ∃ m, s.heap.Ns env.locals m) (hx : env.kindOf x = some .local)
    (h : ∀ h', Stored env x v s.heap h' → Q () { s with heap := h', toks := s.toks + 1 }) : wpAny M A (storeName env x v) Q E s := by
  obtain ⟨m, hm⟩ := hn
  refine wpAny_storeName_local hx hm (fun h' hn' hs => h h' ⟨⟨_, hs, ns_noSeq hm, .inl rfl⟩, same_live hs (let ⟨o', _, _, e', _⟩ := hn'; ⟨o', e'⟩), .inl ⟨hx, _, hn', if_pos rfl⟩, ⟨_, hn'⟩, fun c v0 ic => ⟨v0, ic.sameBut hs (Ne.symm (ns_ne_cell hm ic))⟩, fun y w hy _ r => ?_⟩) (by rw [hk]; rfl)
  rcases r with ⟨a, m', b, c⟩ | ⟨a, a', c, b, d⟩
  · refine .inl ⟨a, _, hn', ?_⟩
    rw [if_neg hy]
    obtain ⟨o, es, ep, e1, e2, _, e3⟩ := hm
    obtain ⟨o', es', ep', e1', e2', _, e3'⟩ := b
    rw [e1] at e1'; cases e1'
    rw [e2] at e2'; cases e2'
    rw [← e3 y, e3' y]; exact c
  · exact .inr ⟨a, a', c, b, d.sameBut hs (Ne.symm (ns_ne_cell hm d))⟩

/-- the first statement of the top frame: nothing is known of the tokens yet -/
theorem first_let {G : Cx} {n : Nat} {env : Env} {A : Around} {E : Value → Shared → Prop} {s : Shared} {B : Addr → Obj → Prop} {Q : Flow → Shared → Prop} {σ σ' : List (Str × T)} {x : Str} {px pos : Pos} {e : Expr} {t : T} {rest : List Stmt} {K : Out → Prop}
    (h1 : G.t0 = 1) (en : EnvC (G.at' n env)) (h : ∀ Y, EvE { G with t0 := 0, n := n, env := env } Y σ e t) (ao : OkA n A) (bo : BOk (G.at' n env) [] B) (S : St (G.at' n env) [] B σ [] s.heap) (hx : env.kindOf x = some .local) (hp : Put x t σ σ')
    (hr : ExL (G.at' n env) [] σ' [] rest K) (hq : ∀ out f h' tk, K out → Post (G.at' n env) [] B out f h' → Q f { s with heap := h', toks := tk })
    (hsw : swapsWith e (some (.Name x px)) pos.line env = pure false) : wpAny (model G.prog G.w) A (execs (.Assign [.Name x px] e pos :: rest) env) Q E s := by
  have S0 : St { G with t0 := 0, n := n, env := env } [] B σ [] s.heap := ⟨S.b, S.ns, S.cl, S.nb, S.cb, S.nd, S.own, S.ob, S.rd⟩
  have b0 : BOk { G with t0 := 0, n := n, env := env } [] B := ⟨bo.gl, bo.live⟩
  refine wpAny_execs_cons (wpAny_Assign_Name ((h _).run A E s _ (S0.ok b0 ao (Nat.zero_le _)) fun v h' tk k l r => ?_) hsw)
  refine store_strict en.ok.kind (S.grow k).ns hx fun h'' Z => ?_
  have S2 := (S.grow k).store en.ap Z hp.mem r
  exact hr.run A E _ B Q ao bo S2 (by rw [show (Cx.at' G n env).t0 = G.t0 from rfl, h1]; exact Nat.le_add_left 1 tk) fun out f h3 tk3 ko po l3 => hq out f h3 tk3 ko po

theorem cells_are {cm : Str → Option Value} {cs : List (Str × Addr)} {news : List (Addr × Obj)} (x : CellsAre cm cs news) : ∀ p, p ∈ cs → ∃ o v, (p.2, o) ∈ news ∧ o.data = .cell v := by
  induction x with
  | nil => intro p hp; cases hp
  | cons hd _ ih => intro p hp; cases hp with
    | head => exact ⟨_, _, .head _, hd⟩
    | tail _ hp => obtain ⟨o, v, m, e⟩ := ih p hp; exact ⟨o, v, .tail _ m, e⟩
theorem cells_apart (h : Heap) (names : List (Str × NameKind)) : (cellsFrom (h.objs.size + 1) names []).Pairwise fun x y => x.2 ≠ y.2 := by
  have ok := cellsFrom_ok names (h.push { cls := .type "frame", data := .dict #[] }) (h.objs.size + 1) [] ⟨fun _ _ hm => (nomatch hm), List.Pairwise.nil⟩ (by rw [Heap.size_push]; exact Nat.le_refl _)
  rw [Heap.size_push] at ok
  exact ok.apart
theorem ints_rep {X : List Addr} {h : Heap} {vs : List Value} {l : List Int} (x : IntsAre vs l) : RepL X h (l.map T.int) vs := by
  induction x with
  | nil => exact .empty
  | cons i t _ ih => exact .cons .mkInt ih
end Mine
end

-- Core17
section
open PySem PySem.W PyProof.Rows PySem.Calls PySem.Spec
set_option maxRecDepth 100000
namespace Mine
open PySem (Expr)
section
variable {C : Cx} {X Y : List Addr} {σ σ' σ'' σt : List (Str × T)} {α α' α'' : List (Addr × List T)} {K K' : Out → Prop} {rest : List Stmt} {B : Addr → Obj → Prop} {h : Heap}
/-- no own list any more -/
theorem ExL.thawAll (th : Thaw α σ σ') (hr : ExL C X σ' [] rest K) : ExL C X σ α rest K := .mk fun A E s B Q ao bo S tk hq =>
  hr.run A E s B Q ao bo ⟨S.b, S.ns, S.cl, S.nb, S.cb, List.nodup_nil, fun p hp => (nomatch hp), fun p hp => (nomatch hp), S.thaw bo th⟩ tk hq
theorem own_rest' {x : Str} {t : T} (hr : ExL C X σ' α' rest K) (hp : Put x t σ σ' := by repeat (first | exact Put.nil | (apply Put.hit; repeat (first | exact Off.nil | apply Off.cons (by decide))) | apply Put.miss (by decide))) :
    ∃ σ', Put x t σ σ' ∧ ExL C X σ' α' rest K := ⟨σ', hp, hr⟩
theorem zip_upd {α : Type} : ∀ {as : List Addr} {ls : List (List T)} {b : Nat} {a : Addr} {l l' : List T}, as.length = ls.length → as[b]? = some a → ls[b]? = some l → Upd a l l' (as.zip ls) (as.zip (ls.set b l'))
  | [], _, b, _, _, _, _, h, _ => by simp at h
  | a :: as, [], _, _, _, _, h, _, _ => by simp at h
  | a :: as, l :: ls, 0, _, _, _, _, h1, h2 => by
    simp at h1 h2; subst h1; subst h2
    exact .hit
  | a :: as, l :: ls, b + 1, _, _, _, h, h1, h2 => .miss (zip_upd (α := α) (by simpa using h) (by simpa using h1) (by simpa using h2))
theorem rows_zip (row : List T) : ∀ as : List Addr, as.map (fun a => (a, row)) ++ [] = as.zip (List.replicate as.length row)
  | [] => rfl
  | a :: as => by
    rw [List.map_cons, List.cons_append, rows_zip row as, List.length_cons, List.replicate_succ]; rfl
end
end Mine
end

-- Core18
section
open PySem PySem.W PyProof.Rows PySem.Calls PySem.Spec
set_option maxRecDepth 100000
namespace Mine
open PySem (Expr)

theorem turn2_0 (elt tg1 it1 tg2 it2 : Expr) (ifs : List Expr) (scope : Scope) (pos : Pos) (it acc : Value) (env : Env) :
    compTurn (.ListComp elt [⟨tg1, it1, [], 0⟩, ⟨tg2, it2, ifs, 0⟩] scope pos) 0 it acc env = (do
      standAt it1.pos
      match ← pyNext it with
      | none => pure (.done .next)
      | some v =>
        letOwnedTupleGo tg1 it v
        assign tg1 env v
        let x ← eval it2 env
        standAt it2.pos
        let x ← foldedSetIterable it2 env x
        let _ ← runOwn (.compStart (.ListComp elt [⟨tg1, it1, [], 0⟩, ⟨tg2, it2, ifs, 0⟩] scope pos) 1 (← holding [x] (pyIter x)) acc env) env
        again (.compLoop (.ListComp elt [⟨tg1, it1, [], 0⟩, ⟨tg2, it2, ifs, 0⟩] scope pos) 0 it acc env)) := by rfl
theorem turn2_1 (elt tg1 it1 tg2 it2 : Expr) (ifs : List Expr) (scope : Scope) (pos : Pos) (it acc : Value) (env : Env) :
    compTurn (.ListComp elt [⟨tg1, it1, [], 0⟩, ⟨tg2, it2, ifs, 0⟩] scope pos) 1 it acc env = (do
      standAt it2.pos
      match ← pyNext it with
      | none => pure (.done .next)
      | some v =>
        letOwnedTupleGo tg2 it v
        assign tg2 env v
        let mut ok := true
        for c in ifs do
          if ok then ok ← isTrue c env (eval c env)
        if ok then
          (do let _ ← call (.builtin "list.append") [acc, ← eval elt env])
        again (.compLoop (.ListComp elt [⟨tg1, it1, [], 0⟩, ⟨tg2, it2, ifs, 0⟩] scope pos) 1 it acc env)) := by rfl

section
variable {prog : Program} {w : World} {A : Around} {R : Result → Shared → Prop} {s : Shared} {elt x1 i1 x2 i2 : Expr} {ifs : List Expr} {scope : Scope} {pos : Pos} {it acc : Value} {env : Env}
theorem start2_1
    (h0 : codeAny (model prog w) A (.compLoop (.ListComp elt [⟨x1, i1, [], 0⟩, ⟨x2, i2, ifs, 0⟩] scope pos) 1 it acc env) R s)
    (h : wpAny (model prog w) A (pyIter it) (fun it' s' => codeAny (model prog w) A (.compLoop (.ListComp elt [⟨x1, i1, [], 0⟩, ⟨x2, i2, ifs, 0⟩] scope pos) 1 it' acc env) R s')
      (notedBy (model prog w) A env fun x s' => R (.error x) s') s) :
    codeAny (model prog w) A (.compStart (.ListComp elt [⟨x1, i1, [], 0⟩, ⟨x2, i2, ifs, 0⟩] scope pos) 1 it acc env) R s := by
  refine codeAny_of_tree ?_
  show wpAny _ _ ((compStart (.ListComp elt [⟨x1, i1, [], 0⟩, ⟨x2, i2, ifs, 0⟩] scope pos) 1 it acc env).onRaise (fun x => do noteFrame x env; standAt theWindowsPlace)) _ _ s
  refine wpAny_notedAt ?_
  unfold compStart
  show wpAny _ _ (ask >>= _) _ _ s
  refine wpAny_bind (wpAny_askSetting (wpAny_ite ?_))
  split
  · first
      | exact wpAny_bind (wpAny_pure (wpAny_pure (And.intro rfl h0)))
      | exact wpAny_pure (And.intro rfl h0)
  · first
      | exact wpAny_bind (wpAny_rule (wpAny_bind (wpAny_standAt (wpAny_bind (wpAny_mono h (fun it' s' h' => wpAny_pure (And.intro rfl h')) fun _ _ x => x)))))
      | (refine wpAny_bind (wpAny_rule ?_); show wpAny _ _ (standAt i2.pos >>= _) _ _ s; exact wpAny_bind (wpAny_standAt (wpAny_bind (wpAny_mono h (fun it' s' h' => wpAny_pure (And.intro rfl h')) fun _ _ x => x))))

/-- the inner loop of two clauses, where no test holds -/
theorem loop2_1 (I : Nat → Shared → Prop)
    (turn : ∀ n s, I n s → wpAny (model prog w) A (pyNext it) (fun r s₁ => match r with
      | none => R (.ok .next) s₁
      | some v => wpAny (model prog w) A (letOwnedTupleGo x2 it v) (fun _ s₀ => wpAny (model prog w) A (assign x2 env v) (fun _ s₂ =>
          wpAny (model prog w) A (forIn ifs true fun c r => if r = true then do let ok ← isTrue c env (eval c env); pure (ForInStep.yield ok) else pure (ForInStep.yield r)) (fun ok s₃ =>
            ok = false ∧ ∃ m, m < n ∧ I m s₃) (notedBy (model prog w) A env fun e s' => R (.error e) s') s₂) (notedBy (model prog w) A env fun e s' => R (.error e) s') s₀) (notedBy (model prog w) A env fun e s' => R (.error e) s') s₁) (notedBy (model prog w) A env fun e s' => R (.error e) s') s)
    (n : Nat) (h : I n s) : codeAny (model prog w) A (.compLoop (.ListComp elt [⟨x1, i1, [], 0⟩, ⟨x2, i2, ifs, 0⟩] scope pos) 1 it acc env) R s := by
  refine codeAny_loop rfl I (fun n s hI => ?_) n h
  show wpAny _ A ((compTurn (.ListComp elt [⟨x1, i1, [], 0⟩, ⟨x2, i2, ifs, 0⟩] scope pos) 1 it acc env).onRaise (fun x => do noteFrame x env; theTreesLotGoes x)) _ _ s
  refine wpAny_noted ?_
  rw [turn2_1]
  refine wpAny_bind (wpAny_standAt (wpAny_bind (wpAny_mono (turn n s hI) (fun r s₁ h₁ => ?_) fun _ _ h' => h')))
  cases r with
  | none => exact wpAny_pure h₁
  | some v =>
    refine wpAny_bind (wpAny_mono h₁ (fun _ s₀ h₀ => ?_) fun _ _ h' => h')
    refine wpAny_bind (wpAny_mono h₀ (fun _ s₂ h₂ => wpAny_bind (wpAny_mono h₂ (fun ok s₃ h₃ => ?_) fun _ _ h' => h')) fun _ _ h' => h')
    obtain ⟨rfl, h₃⟩ := h₃
    exact wpAny_pure ⟨rfl, h₃⟩
/-- the outer loop -/
theorem loop2_0 (hs : ∀ v, foldedSetIterable i2 env v = pure v) (I : Nat → Shared → Prop)
    (turn : ∀ n s, I n s → wpAny (model prog w) A (pyNext it) (fun r s₁ => match r with
      | none => R (.ok .next) s₁
      | some v => wpAny (model prog w) A (letOwnedTupleGo x1 it v) (fun _ s₀ => wpAny (model prog w) A (assign x1 env v) (fun _ s₂ =>
          wpAny (model prog w) A (eval i2 env) (fun xv s₃ => wpAny (model prog w) A (pyIter xv) (fun iv s₄ =>
            codeAny (model prog w) (A.mark none) (.compStart (.ListComp elt [⟨x1, i1, [], 0⟩, ⟨x2, i2, ifs, 0⟩] scope pos) 1 iv acc env) (fun r s' => r = .ok .next ∧ ∃ m, m < n ∧ I m s') s₄) (notedBy (model prog w) A env fun e s' => R (.error e) s') s₃) (notedBy (model prog w) A env fun e s' => R (.error e) s') s₂) (notedBy (model prog w) A env fun e s' => R (.error e) s') s₀) (notedBy (model prog w) A env fun e s' => R (.error e) s') s₁) (notedBy (model prog w) A env fun e s' => R (.error e) s') s)
    (n : Nat) (h : I n s) : codeAny (model prog w) A (.compLoop (.ListComp elt [⟨x1, i1, [], 0⟩, ⟨x2, i2, ifs, 0⟩] scope pos) 0 it acc env) R s := by
  refine codeAny_loop rfl I (fun n s hI => ?_) n h
  show wpAny _ A ((compTurn (.ListComp elt [⟨x1, i1, [], 0⟩, ⟨x2, i2, ifs, 0⟩] scope pos) 0 it acc env).onRaise (fun x => do noteFrame x env; theTreesLotGoes x)) _ _ s
  refine wpAny_noted ?_
  rw [turn2_0]
  refine wpAny_bind (wpAny_standAt (wpAny_bind (wpAny_mono (turn n s hI) (fun r s₁ h₁ => ?_) fun _ _ h' => h')))
  cases r with
  | none => exact wpAny_pure h₁
  | some v =>
    refine wpAny_bind (wpAny_mono h₁ (fun _ s₀ h₀ => ?_) fun _ _ h' => h')
    refine wpAny_bind (wpAny_mono h₀ (fun _ s₂ h₂ => wpAny_bind (wpAny_mono h₂ (fun xv s₃ h₃ => ?_) fun _ _ h' => h')) fun _ _ h' => h')
    refine wpAny_bind (wpAny_standAt (wpAny_bind (wpAny_of_eq (hs xv) (wpAny_bind (wpAny_holding (wpAny_mono h₃ (fun iv s₄ h₄ => ?_) fun _ _ h' => h'))))))
    refine wpAny_bind (wpAny_runOwn (codeAny_mono h₄ fun r s' hr => ?_))
    obtain ⟨rfl, hm⟩ := hr
    exact wpAny_pure ⟨rfl, hm⟩
end
end Mine
end

-- Core19
section
open PySem PySem.W PyProof.Rows PySem.Calls PySem.Spec
set_option maxRecDepth 100000
namespace Mine
open PySem (Expr)

section
variable {C : Cx} {X : List Addr} {α : List (Addr × List T)} {B : Addr → Obj → Prop}

/-- a loop of a comprehension, in the state of its own frame -/
theorem walk_loop {x : Str} {px : Pos} {ts : List T} {A : Around} {E : Value → Shared → Prop} {Loop : Shared → Prop} {Rn : Shared → Prop} {body : Shared → (Shared → Prop) → Prop} (en : EnvC C) (bo : BOk C X B)
    {s : Shared} (S : St C X B [] α s.heap) (tk : C.t0 ≤ s.toks) {I : Addr} {fp wr : List Addr} {P : Nat → Value → Prop} {Wt : Nat → Heap → Prop}
    (W : Walks C.prog C.w A I fp wr ts.length P Wt) (w0 : Wt 0 s.heap) (hB : ∀ b o, B b o → b ∉ wr) (hns : ∀ i h b, Wt i h → b ∈ wr → (∃ o, h.get? b = some o) ∧ NoSeq h b)
    (hfp : ∀ b, b ∈ fp → (∃ o, s.heap.get? b = some o) ∧ b ≠ C.env.locals ∧ (∀ n c, C.env.cells.lookup n = some c → b ≠ c) ∧ (∀ p, p ∈ α → b ≠ p.1))
    (hlet : LetOk C A I Wt) (hx : Sto C.env x)
    (hrep : ∀ i v h1, P i v → (∀ b o, B b o → h1.get? b = some o) → ∃ t, ts[i]? = some t ∧ Rep (α.map (·.1) ++ X) h1 t v)
    (hloop : ∀ (I' : Nat → Shared → Prop), (∀ n s, I' n s → wpAny (model C.prog C.w) A (pyNext (.ref I)) (fun r s₁ => match r with
      | none => Rn s₁
      | some v => wpAny (model C.prog C.w) A (letOwnedTupleGo (.Name x px) (.ref I) v) (fun _ s0 => wpAny (model C.prog C.w) A (assign (.Name x px) C.env v) (fun _ s2 => body s2 (fun s' => ∃ m, m < n ∧ I' m s')) E s0) E s₁) E s) → ∀ n s, I' n s → Loop s)
    (hbody : ∀ t (B' : Addr → Obj → Prop) (s2 : Shared) (Qb : Shared → Prop), t ∈ ts → BOk C X B' → St C X B' [(x, t)] α s2.heap → C.t0 ≤ s2.toks → (∀ h3 tk3, St C X B' [] α h3 → s2.toks ≤ tk3 → Qb { s2 with heap := h3, toks := tk3 }) → body s2 Qb)
    (hend : ∀ h3 tk3, St C X B [] α h3 → s.toks ≤ tk3 → Rn { s with heap := h3, toks := tk3 }) : Loop s := by
  refine hloop (fun n s' => ∃ i hi ti, s' = { s with heap := hi, toks := ti } ∧ s.toks ≤ ti ∧ i ≤ ts.length ∧ n = ts.length + 1 - i ∧ St C X B [] α hi ∧ Wt i hi ∧
    (∀ b, b ∈ fp → (∃ o, hi.get? b = some o) ∧ b ≠ C.env.locals ∧ (∀ n c, C.env.cells.lookup n = some c → b ≠ c) ∧ (∀ p, p ∈ α → b ≠ p.1))) ?_ (ts.length + 1) _
    ⟨0, s.heap, s.toks, rfl, Nat.le_refl _, Nat.zero_le _, rfl, S, w0, hfp⟩
  rintro n s' ⟨i, hi, ti, rfl, lti, hile, rfl, Si, wi, hfpi⟩
  have wfp : ∀ b, b ∈ wr → b ∈ fp := W.sub
  have turn : ∀ {h1 : Heap}, (∀ b o, b ∉ wr → hi.get? b = some o → h1.get? b = some o) → St C X B [] α h1 := fun hk => Si.turn hk (fun b hb => (hns i hi b wi hb).2)
    (fun m => (hfpi _ (wfp _ m)).2.1 rfl) (fun n c hp m => (hfpi _ (wfp _ m)).2.2.1 n c hp rfl) (fun p hp m => (hfpi _ (wfp _ m)).2.2.2 p hp rfl)
    (fun b o e m => hB b o e m)
  by_cases hlt : i < ts.length
  · refine wpAny_with_toks (n := ti) (Nat.le_refl _) (W.item i _ _ _ hlt wi fun v h1 tk1 hv w1 hk1 hl1 => ?_)
    have S1 := turn hk1
    obtain ⟨t, ht, rt⟩ := hrep i v h1 hv S1.b
    refine hlet (i + 1) _ _ v _ _ w1 ?_
    refine wpAny_assign_Name (store_any en.ok.kind S1.ns (fun c _ e => S1.cl _ _ e) hx fun h2 tk2 l2 Z => ?_)
    have S2 : St C X B [(x, t)] α h2 := S1.store en.ap Z (fun p hp => .inl (by simpa using hp)) rt
    obtain ⟨bz, hsz, hbz, hwz⟩ := Z.ch
    have fp2 : ∀ b, b ∈ fp → h2.get? b = h1.get? b := fun b hb => hsz.2 b (by
      rintro rfl
      rcases hwz with hwz | hwz
      · exact (hfpi _ hb).2.1 hwz
      · exact (hfpi _ hb).2.2.1 _ _ hwz.2 rfl)
    have Bsub : ∀ b o, B b o → (fun b o => h2.get? b = some o ∧ b ≠ C.env.locals ∧ (∀ n c, C.env.cells.lookup n = some c → b ≠ c) ∧ (∀ p, p ∈ α → b ≠ p.1)) b o := fun b o e =>
      ⟨S2.b b o e, fun q => S.nb o (q ▸ e), fun n c hp q => S.cb n c hp o (q ▸ e), fun p hp q => S2.ob p hp o (q ▸ e)⟩
    refine hbody t (fun b o => h2.get? b = some o ∧ b ≠ C.env.locals ∧ (∀ n c, C.env.cells.lookup n = some c → b ≠ c) ∧ (∀ p, p ∈ α → b ≠ p.1)) _ _ (List.mem_of_getElem? ht)
      ⟨fun hh hb => bo.gl hh fun b o e => hb b o (Bsub b o e), fun b hb => by obtain ⟨o, e⟩ := bo.live b hb; exact ⟨o, Bsub b o e⟩⟩
      (S2.base (fun b o e => e.1) (fun o e => e.2.1 rfl) (fun n c hp o e => e.2.2.1 n c hp rfl) (fun p hp o e => e.2.2.2 p hp rfl)) (Nat.le_trans tk (Nat.le_trans lti (Nat.le_trans hl1 l2))) fun h3 tk3 S3 l3 => ?_
    refine ⟨ts.length + 1 - (i + 1), by omega, i + 1, h3, tk3, rfl, Nat.le_trans lti (Nat.le_trans hl1 (Nat.le_trans l2 l3)), hlt, rfl, ?_, ?_, fun b hb => ?_⟩
    · exact S3.base (fun b o e => S3.b b o (Bsub b o e)) S.nb S.cb (fun p hp o e => S3.ob p hp o (Bsub _ o e))
    · refine W.frame _ _ _ w1 fun b hb o e => S3.b b o ⟨(fp2 b hb).trans e, (hfpi b hb).2.1, (hfpi b hb).2.2.1, (hfpi b hb).2.2.2⟩
    · obtain ⟨o, e⟩ := (hfpi b hb).1
      have e2 : ∃ o, h2.get? b = some o := by
        by_cases m : b ∈ wr
        · obtain ⟨o1, e1⟩ := (hns (i + 1) h1 b w1 m).1
          exact ⟨o1, (fp2 b hb).trans e1⟩
        · exact ⟨o, (fp2 b hb).trans (hk1 b o m e)⟩
      obtain ⟨o2, e2⟩ := e2
      have hB2 := (⟨e2, (hfpi b hb).2.1, (hfpi b hb).2.2.1, (hfpi b hb).2.2.2⟩ : h2.get? b = some o2 ∧ b ≠ C.env.locals ∧ (∀ n c, C.env.cells.lookup n = some c → b ≠ c) ∧ (∀ p, p ∈ α → b ≠ p.1))
      exact ⟨⟨o2, S3.b b o2 hB2⟩, (hfpi b hb).2.1, (hfpi b hb).2.2.1, fun p hp q => S3.ob p hp o2 (q ▸ hB2)⟩
  · have hin : i = ts.length := by omega
    subst hin
    refine wpAny_with_toks (n := ti) (Nat.le_refl _) (W.done _ _ _ wi fun h1 tk1 hk1 hl1 => ?_)
    exact hend h1 tk1 (turn hk1) (Nat.le_trans lti hl1)
end
end Mine
end

-- Core20
section
open PySem PySem.W PyProof.Rows PySem.Calls PySem.Spec
set_option maxRecDepth 100000
namespace Mine
open PySem (Expr)

section
variable {C : Cx} {Y : List Addr} {σ : List (Str × T)}
/-- what stands for an iterable's own things is not of the frame -/
theorem fp_ok {C : Cx} {X X0 : List Addr} {B : Addr → Obj → Prop} {α : List (Addr × List T)} {s0 h' : Heap} {fp : List Addr} (S0 : St C X B [] α s0) (k : Sub s0 h')
    (hX : ∀ p, p ∈ α → p.1 ∈ X0) (hfp : ∀ b, b ∈ fp → ∃ o, h'.get? b = some o ∧ (s0.get? b = none ∨ (b ∉ X0 ∧ ∃ l n, o = lstObj l n ∨ o = tupObj l n))) :
    ∀ b, b ∈ fp → (∃ o, h'.get? b = some o) ∧ b ≠ C.env.locals ∧ (∀ n c, C.env.cells.lookup n = some c → b ≠ c) ∧ (∀ p, p ∈ α → b ≠ p.1) := fun b hb => by
  obtain ⟨o, e, ho⟩ := hfp b hb
  rcases ho with ho | ⟨hb, l, n, ho⟩
  · refine ⟨⟨o, e⟩, ?_, fun n c hp => ?_, fun p hp => ?_⟩
    · rintro rfl; obtain ⟨m, o, es, ep, e', _⟩ := S0.ns; rw [ho] at e'; cases e'
    · rintro rfl; obtain ⟨v, o, e', _⟩ := S0.cl _ _ hp; rw [ho] at e'; cases e'
    · rintro rfl; obtain ⟨vs, n, e', _⟩ := S0.own p hp; rw [ho] at e'; cases e'
  · have nos : ¬ NoSeq h' b := fun q => by rcases ho with rfl | rfl; exact (q _ e l n).1 rfl; exact (q _ e l n).2 rfl
    refine ⟨⟨o, e⟩, ?_, fun n c hp => ?_, fun p hp => ?_⟩
    · rintro rfl; obtain ⟨m, hm⟩ := (S0.grow k).ns; exact nos (ns_noSeq hm)
    · rintro rfl; obtain ⟨v, hv⟩ := (S0.grow k).cl _ _ hp; exact nos (cell_noSeq hv)
    · rintro rfl; exact hb (hX p hp)

theorem EvE.comp2 {elt iter i2 : Expr} {x y : Str} {px py : Pos} {ifs : List Expr} {scope : Scope} {pos : Pos} {tss : List (List T)} (en : EnvOk C)
    (hcl : closureFor scope C.env = pure [] := by rfl) (hkind : scope.kind = .function := by rfl)
    (hnames : ∀ x ∈ scope.names, x.2 = .local → scope.names.lookup x.1 = some .local := by decide)
    (hce : ∀ L, (cEnv scope [] L C.env).cells = [] := by intro _; rfl)
    (hx : ∀ L, Sto (cEnv scope [] L C.env) x := by exact fun _ => .inl rfl) (hy : ∀ L, Sto (cEnv scope [] L C.env) y := by exact fun _ => .inl rfl)
    (hs : ∀ v, foldedSetIterable iter C.env v = pure v := by intro _; rfl) (hs2 : ∀ L v, foldedSetIterable i2 (cEnv scope [] L C.env) v = pure v := by intro _ _; rfl)
    (hit : EvI C Y σ iter (tss.map .list))
    (hit2 : ∀ L Y' ts, EnvOk (C.at' C.n (cEnv scope [] L C.env)) → ts ∈ tss → EvI (C.at' C.n (cEnv scope [] L C.env)) Y' [(x, .list ts)] i2 ts)
    (hfl : ∀ ts t, ts ∈ tss → t ∈ ts → t.flat = true)
    (htest : ∀ L Y' ts t, EnvOk (C.at' C.n (cEnv scope [] L C.env)) → ts ∈ tss → t ∈ ts → EvTs (C.at' C.n (cEnv scope [] L C.env)) Y' [(y, t)] ifs false) :
    EvE C Y σ (.ListComp elt [⟨.Name x px, iter, [], 0⟩, ⟨.Name y py, i2, ifs, 0⟩] scope pos) (.list []) := .mk fun A E s Q o hq => by
  rw [eval_ListComp]
  refine wpAny_comprehension_free rfl hs hcl hkind hnames (hit.run A E s _ o fun I fp wr P Wt h' tk' W w0 k l hP hwr hns hfp hlet => ?_)
  refine wpAny_newObj_type (new_cEnv fun cenv he hloc => ?_)
  rw [he, hloc]
  dsimp only
  generalize hD : h'.objs.size = D
  have hL : (h'.push { cls := .type "list", data := .seq ([] : List Value).toArray }).objs.size = D + 1 := by rw [Heap.size_push, hD]
  rw [hL]
  generalize hL' : D + 1 = L
  generalize hH1 : h'.push { cls := .type "list", data := .seq ([] : List Value).toArray } = H1 at hL ⊢
  have hDL : D < L := by omega
  have hH1s : H1.objs.size = L := by omega
  have fpD : ∀ b : Nat, b ∈ fp → b < D := fun b hb => by obtain ⟨o, e, _⟩ := hfp b hb; rw [← hD]; exact Heap.lt_size e
  have wrD : ∀ b : Nat, b ∈ wr → b < D := fun b hb => fpD b (W.sub b hb)
  have oldD : ∀ (b : Nat) o, s.heap.get? b = some o → b < D := fun b o e => by rw [← hD]; exact Heap.lt_size (k b o e)
  have oldwr : ∀ b o, s.heap.get? b = some o → b ∉ wr := fun b o e m => by rw [hwr b m] at e; cases e
  have hDs : s.heap.get? D = Option.none := by rw [← hD]; exact not_old k
  generalize hH2 : pushCells (H1.push { cls := .type "dict", data := .dict #[] }) scope.names = H2
  have up : ∀ b o, h'.get? b = some o → H2.get? b = some o := fun b o e => by
    rw [← hH2]; exact pushCells_keeps _ _ b o (Heap.get?_push_of_some _ (by rw [← hH1]; exact Heap.get?_push_of_some _ e))
  have ns2 : ∃ m, H2.Ns L m := by
    have := (Heap.Ns.new H1 (.type "dict")).keeps (pushCells_keeps scope.names _)
    rw [hH1s, hH2] at this
    exact ⟨_, this⟩
  have d2 : H2.get? D = some (lstObj [] 0) := by
    rw [← hH2]
    refine pushCells_keeps _ _ D _ (Heap.get?_push_of_some _ ?_)
    rw [← hH1, ← hD]
    exact Heap.get?_push_size _ rfl
  have en1 : EnvOk (C.at' C.n (cEnv scope [] L C.env)) := en.comp hkind
  have enc : EnvC (C.at' C.n (cEnv scope [] L C.env)) := ⟨en1, by show (cEnv scope [] L C.env).cells.Pairwise _; rw [hce]; exact .nil⟩
  have noc : ∀ n c, (C.at' C.n (cEnv scope [] L C.env)).env.cells.lookup n = some c → False := fun n c e => by
    have e' : (cEnv scope [] L C.env).cells.lookup n = some c := e
    rw [hce] at e'; cases e'
  have lloc : (C.at' C.n (cEnv scope [] L C.env)).env.locals = L := rfl
  have notD : ∀ o, ¬ (h'.get? D = some o) := fun o e => absurd (Heap.lt_size e) (by rw [hD]; exact Nat.lt_irrefl _)
  have notL : ∀ o, ¬ (h'.get? L = some o) := fun o e => absurd (Heap.lt_size e) (by rw [hD]; exact Nat.lt_asymm hDL)
  have bo : BOk (C.at' C.n (cEnv scope [] L C.env)) Y (fun b o => h'.get? b = some o ∧ b ∉ wr) :=
    ⟨fun hh hb => o.g.sub fun b o' e => hb b o' ⟨k b o' e, oldwr b o' e⟩, fun b m => by obtain ⟨o', e'⟩ := o.l b m; exact ⟨o', k b o' e', oldwr b o' e'⟩⟩
  have S0 : St (C.at' C.n (cEnv scope [] L C.env)) Y (fun b o => h'.get? b = some o ∧ b ∉ wr) [] [(D, [])] H2 :=
    ⟨fun b o e => up b o e.1, ns2, fun n c e => (noc n c e).elim, fun o e => notL o e.1, fun n c e => (noc n c e).elim, by simp, fun p hp => by
      simp only [List.mem_cons, List.not_mem_nil, or_false] at hp
      subst hp
      exact ⟨[], 0, d2, .empty⟩, fun p hp o e => by
      simp only [List.mem_cons, List.not_mem_nil, or_false] at hp
      subst hp
      exact notD o e.1, ⟨fun p hp => by cases hp⟩⟩
  have lstart : ∀ s₂ : Shared, s₂ = { s with heap := H2, toks := tk' } → codeAny (model C.prog C.w) A (.compLoop (.ListComp elt [⟨.Name x px, iter, [], 0⟩, ⟨.Name y py, i2, ifs, 0⟩] scope pos) 0 (.ref I) (.ref D) (cEnv scope [] L C.env)) (compPost (model C.prog C.w) A E Option.none Q (.ref D) L) s₂ := by
    rintro s₂ rfl
    refine walk_loop (C := C.at' C.n (cEnv scope [] L C.env)) (X := Y) (α := [(D, [])]) (x := x) (px := px) (ts := tss.map .list) (A := A)
      (E := notedBy (model C.prog C.w) A (cEnv scope [] L C.env) fun e s' => compPost (model C.prog C.w) A E Option.none Q (.ref D) L (.error e) s')
      (Loop := fun s => codeAny (model C.prog C.w) A (.compLoop (.ListComp elt [⟨.Name x px, iter, [], 0⟩, ⟨.Name y py, i2, ifs, 0⟩] scope pos) 0 (.ref I) (.ref D) (cEnv scope [] L C.env)) (compPost (model C.prog C.w) A E Option.none Q (.ref D) L) s)
      (Rn := fun s => compPost (model C.prog C.w) A E Option.none Q (.ref D) L (.ok .next) s)
      (body := fun s2 Qb => wpAny (model C.prog C.w) A (eval i2 (cEnv scope [] L C.env)) (fun xv s3 => wpAny (model C.prog C.w) A (pyIter xv) (fun iv s4 =>
            codeAny (model C.prog C.w) (A.mark Option.none) (.compStart (.ListComp elt [⟨.Name x px, iter, [], 0⟩, ⟨.Name y py, i2, ifs, 0⟩] scope pos) 1 iv (.ref D) (cEnv scope [] L C.env)) (fun r s' => r = .ok .next ∧ Qb s') s4)
            (notedBy (model C.prog C.w) A (cEnv scope [] L C.env) fun e s' => compPost (model C.prog C.w) A E Option.none Q (.ref D) L (.error e) s') s3) (notedBy (model C.prog C.w) A (cEnv scope [] L C.env) fun e s' => compPost (model C.prog C.w) A E Option.none Q (.ref D) L (.error e) s') s2)
      enc bo S0 (Nat.le_trans o.t l) W (W.frame _ _ _ w0 fun b _ o e => up b o e) (fun b o e => e.2) hns (fun b hb => ?_) hlet (hx L) (fun i v h1 hv hB => ?_) (fun I' turn n s' hI => loop2_0 (hs2 L) I' turn n hI) (fun t B' s2 Qb ht bo2 S2 tk2 hQb => ?_) (fun h3 tk3 S3 l3 => ?_)
    · obtain ⟨o', e', ho⟩ := hfp b hb
      exact ⟨⟨o', up b o' e'⟩, fun q => absurd (fpD b hb) (by rw [q, lloc]; exact Nat.lt_asymm hDL), fun n c e => (noc n c e).elim, fun p hp => by
        simp only [List.mem_cons, List.not_mem_nil, or_false] at hp
        subst hp
        exact Nat.ne_of_lt (fpD b hb)⟩
    · obtain ⟨t, ht, rt⟩ := hP i v hv
      have Yn : ∀ b, b ∈ ([(D, ([] : List T))].map (·.1)) ++ Y → b ∈ Y ∨ h'.get? b = Option.none := fun b m => by
        cases m with
        | head => exact .inr (by rw [← hD]; exact get_size h')
        | tail _ m => exact .inl m
      refine ⟨t, ht, (rt.more Yn).sees (fun _ m => m) fun b o' hb ⟨ll, nl, hl⟩ e => hB b o' ⟨e, fun m => ?_⟩⟩
      have := (hns 0 h' b w0 m).2 o' e ll nl
      rcases hl with rfl | rfl
      · exact this.1 rfl
      · exact this.2 rfl
    · obtain ⟨ts, hts, rfl⟩ := List.mem_map.mp ht
      refine (hit2 L _ ts en1 hts).run A _ s2 _ (S2.ok bo2 ⟨o.a.hd, o.a.dp, o.a.un⟩ tk2) fun I2 fp2 wr2 P2 Wt2 h2 tk2' W2 w02 k2 l2 hP2 hwr2 hns2 hfp2 hlet2 => ?_
      have S2' : St (C.at' C.n (cEnv scope [] L C.env)) Y B' [] [(D, [])] s2.heap := S2.weak fun p hp => by cases hp
      have lin : codeAny (model C.prog C.w) (A.mark Option.none) (.compLoop (.ListComp elt [⟨.Name x px, iter, [], 0⟩, ⟨.Name y py, i2, ifs, 0⟩] scope pos) 1 (.ref I2) (.ref D) (cEnv scope [] L C.env)) (fun r s' => r = .ok .next ∧ Qb s') { s2 with heap := h2, toks := tk2' } := by
        refine walk_loop (C := C.at' C.n (cEnv scope [] L C.env)) (X := Y) (B := B') (α := [(D, [])]) (x := y) (px := py) (ts := ts) (A := A)
          (E := notedBy (model C.prog C.w) A (cEnv scope [] L C.env) fun e s' => (Except.error e : Result) = .ok .next ∧ Qb s')
          (Loop := fun s => codeAny (model C.prog C.w) (A.mark Option.none) (.compLoop (.ListComp elt [⟨.Name x px, iter, [], 0⟩, ⟨.Name y py, i2, ifs, 0⟩] scope pos) 1 (.ref I2) (.ref D) (cEnv scope [] L C.env)) (fun r s' => r = .ok .next ∧ Qb s') s)
          (Rn := fun s => (Except.ok Flow.next : Result) = .ok .next ∧ Qb s)
          (body := fun s9 Qb9 => wpAny (model C.prog C.w) A (forIn ifs true fun c r => if r = true then do let ok ← isTrue c (cEnv scope [] L C.env) (eval c (cEnv scope [] L C.env)); pure (ForInStep.yield ok) else pure (ForInStep.yield r)) (fun ok s₃ =>
            ok = false ∧ Qb9 s₃) (notedBy (model C.prog C.w) A (cEnv scope [] L C.env) fun e s' => (Except.error e : Result) = .ok .next ∧ Qb s') s9)
          enc bo2 (S2'.grow k2) (Nat.le_trans tk2 l2) W2 w02 (fun b o' hb m => by have := S2.b b o' hb; rw [hwr2 b m] at this; cases this) hns2
          (fp_ok S2' k2 (fun p hp => List.mem_append_left _ (List.mem_map_of_mem hp)) hfp2) hlet2 (hy L)
          (fun i v h1 hv hB => let ⟨t, ht, rt⟩ := hP2 i v hv; ⟨t, ht, rt.any (hfl ts t hts (List.mem_of_getElem? ht))⟩)
          (fun I' turn n s' hI => loop2_1 (A := A.mark Option.none) I' turn n hI) (fun t B3 s3 Qb3 ht3 bo3 S3 tk3 hQ3 => ?_) (fun h3 tk3 S3 l3 => ⟨rfl, hQb h3 tk3 S3 (Nat.le_trans l2 l3)⟩)
        exact (htest L _ ts t en1 hts ht3).run A _ s3 _ (S3.ok bo3 ⟨o.a.hd, o.a.dp, o.a.un⟩ tk3) fun h4 tk4 k4 l4 => ⟨rfl, hQ3 h4 tk4 ((S3.weak fun p hp => by cases hp).grow k4) l4⟩
      exact start2_1 lin (W2.self 0 _ _ _ w02 lin)
    · obtain ⟨vs, n, e, r⟩ := S3.own _ (.head _)
      obtain ⟨m, nsm⟩ := S3.ns
      refine ⟨m, nsm, fun hz hsz => ?_⟩
      have hLn : s.heap.get? L = Option.none := by
        cases e : s.heap.get? L with
        | none => rfl
        | some o => exact absurd (k _ _ e) (notL o)
      obtain ⟨k2, se⟩ := gone hsz ⟨m, nsm⟩ hLn (fun b o' e' => S3.b b o' ⟨k b o' e', oldwr b o' e'⟩)
      exact hq (.ref D) hz tk3 k2 (Nat.le_trans l l3) (.mkList (fun m => by obtain ⟨o', e'⟩ := o.l _ m; rw [hDs] at e'; cases e') ((hsz.2 D (Nat.ne_of_lt hDL)).trans e) (r.nil' ▸ .empty))
  exact codeAny_compStart_list (lstart _ rfl) (W.self 0 _ _ _ (W.frame _ _ _ w0 fun b _ o e => up b o e) (lstart _ rfl))
end
end Mine
end

-- Hd
section
open PySem PySem.W PyProof.Rows
set_option maxRecDepth 100000
set_option maxHeartbeats 8000000
namespace Mine
noncomputable abbrev pgm : Program := PySem.Challenge.rw_xp0025_01.row.prog
noncomputable def stAt (i : Nat) : Stmt := pgm.main.body.getD i (.Pass default)
noncomputable def hd.view_39 : Program := { pgm with main := { pgm.main with body := [stAt 1, stAt 2, stAt 3, stAt 5, stAt 6, stAt 8, stAt 9, stAt 10, stAt 11, stAt 12, stAt 13, stAt 15, stAt 16, stAt 17, stAt 18, stAt 19, stAt 20, stAt 21, stAt 22] } }
noncomputable def mkEnt (P : Params) (x : String) (k : Nat) (v : Value) : DictEntry := { hash := PyData.keyHash P (Str.ofString x), key := .str (Str.ofString x) k, val := v }
noncomputable def mkFn (m : String) (k c : Nat) : Stmt → Obj
  | .FunctionDef n ps b _ _ _ sc _ _ _ => { cls := .type "function", data := .func { name := n, qualname := n, params := ps, body := .stmts b, scope := sc, globals := 3, closure := [], defaults := .none, kwdefaults := .none, pyModule := .str (Str.ofString m) k, code := .ref c } }
  | _ => default
noncomputable def mkCode (l : Array Value) : Obj := { cls := .type "code", data := .fields l }
noncomputable def hd.heap_39 (P : Params) : Frag := [
  (3, { cls := .type "dict", data := .dict #[
    mkEnt P "__name__" 165 (.str (Str.ofString "law_xp0025_01") 276),
    mkEnt P "__doc__" 166 (.none),
    mkEnt P "__package__" 167 (.none),
    mkEnt P "__loader__" 168 (.builtin "__main__.__loader__#opaque"),
    mkEnt P "__spec__" 169 (.none),
    mkEnt P "__annotations__" 170 (.ref 6),
    mkEnt P "__builtins__" 171 (.ref 4),
    mkEnt P "__file__" 173 (.str (Str.ofString "/claim/cut.py") 172),
    mkEnt P "__cached__" 174 (.none),
    mkEnt P "ELLIPSIS_MARKER" 190 (.str (Str.ofString "...") 189),
    mkEnt P "_ellipsis_match" 202 (.ref 21),
    mkEnt P "_strip_exception_details" 212 (.ref 28),
    mkEnt P "_strcoll" 222 (.ref 35),
    mkEnt P "_build_localename" 231 (.ref 42),
    mkEnt P "_raise_serialization_error" 240 (.ref 49),
    mkEnt P "_escape_cdata" 247 (.ref 56),
    mkEnt P "_escape_attrib" 254 (.ref 63),
    mkEnt P "_escape_attrib_html" 261 (.ref 70),
    mkEnt P "_escape_cdata_c14n" 268 (.ref 77),
    mkEnt P "_escape_attrib_c14n" 275 (.ref 84),
    mkEnt P "_law_cells" 286 (.ref 91),
    mkEnt P "_law_spelled" 295 (.ref 98),
    mkEnt P "_law_messages" 301 (.ref 105),
    mkEnt P "_law_over_a_pile" 314 (.ref 112),
    mkEnt P "_law_in_a_row" 320 (.ref 117),
    mkEnt P "_law_by_names" 326 (.ref 122),
    mkEnt P "_law_words" 334 (.ref 129),
    mkEnt P "law" 340 (.ref 134)] 28 }),
  (20, mkCode #[.str (Str.ofString "_ellipsis_match") 191, .str (Str.ofString "_ellipsis_match") 192, .str (Str.ofString "/claim/cut.py") 193, .int 3 0, .int 2 0, .int 0 0, .int 0 0, .int 3 0, .ref 15, .bool true, .int 181 0, .ref 16, .none, .ref 17, .ref 18, .ref 19, .int 200 0, .int 3 0, .str (Str.ofString "/claim/cut.py") 201]),
  (21, mkFn "cpy313.doctest" 187 20 (stAt 2)),
  (27, mkCode #[.str (Str.ofString "_strip_exception_details") 203, .str (Str.ofString "_strip_exception_details") 204, .str (Str.ofString "/claim/cut.py") 205, .int 31 0, .int 1 0, .int 0 0, .int 0 0, .int 3 0, .ref 22, .bool true, .int 181 0, .ref 23, .none, .ref 24, .ref 25, .ref 26, .int 210 0, .int 31 0, .str (Str.ofString "/claim/cut.py") 211]),
  (28, mkFn "cpy313.doctest" 187 27 (stAt 3)),
  (34, mkCode #[.str (Str.ofString "_strcoll") 215, .str (Str.ofString "_strcoll") 216, .str (Str.ofString "/claim/cut.py") 217, .int 44 0, .int 2 0, .int 0 0, .int 0 0, .int 3 0, .ref 29, .bool true, .int 181 0, .ref 30, .none, .ref 31, .ref 32, .ref 33, .int 220 0, .int 44 0, .str (Str.ofString "/claim/cut.py") 221]),
  (35, mkFn "cpy313.locale" 213 34 (stAt 5)),
  (41, mkCode #[.str (Str.ofString "_build_localename") 223, .str (Str.ofString "_build_localename") 224, .str (Str.ofString "/claim/cut.py") 225, .int 46 0, .int 1 0, .int 0 0, .int 0 0, .int 3 0, .ref 36, .bool true, .int 181 0, .ref 37, .none, .ref 38, .ref 39, .ref 40, .int 229 0, .int 46 0, .str (Str.ofString "/claim/cut.py") 230]),
  (42, mkFn "cpy313.locale" 213 41 (stAt 6)),
  (48, mkCode #[.str (Str.ofString "_raise_serialization_error") 234, .str (Str.ofString "_raise_serialization_error") 235, .str (Str.ofString "/claim/cut.py") 236, .int 58 0, .int 1 0, .int 0 0, .int 0 0, .int 3 0, .ref 43, .bool true, .int 181 0, .ref 44, .none, .ref 45, .ref 46, .ref 47, .int 238 0, .int 58 0, .str (Str.ofString "/claim/cut.py") 239]),
  (49, mkFn "cpy313.xml.etree.ElementTree" 232 48 (stAt 8)),
  (55, mkCode #[.str (Str.ofString "_escape_cdata") 241, .str (Str.ofString "_escape_cdata") 242, .str (Str.ofString "/claim/cut.py") 243, .int 60 0, .int 1 0, .int 0 0, .int 0 0, .int 3 0, .ref 50, .bool true, .int 181 0, .ref 51, .none, .ref 52, .ref 53, .ref 54, .int 245 0, .int 60 0, .str (Str.ofString "/claim/cut.py") 246]),
  (56, mkFn "cpy313.xml.etree.ElementTree" 232 55 (stAt 9)),
  (62, mkCode #[.str (Str.ofString "_escape_attrib") 248, .str (Str.ofString "_escape_attrib") 249, .str (Str.ofString "/claim/cut.py") 250, .int 71 0, .int 1 0, .int 0 0, .int 0 0, .int 3 0, .ref 57, .bool true, .int 181 0, .ref 58, .none, .ref 59, .ref 60, .ref 61, .int 252 0, .int 71 0, .str (Str.ofString "/claim/cut.py") 253]),
  (63, mkFn "cpy313.xml.etree.ElementTree" 232 62 (stAt 10)),
  (69, mkCode #[.str (Str.ofString "_escape_attrib_html") 255, .str (Str.ofString "_escape_attrib_html") 256, .str (Str.ofString "/claim/cut.py") 257, .int 90 0, .int 1 0, .int 0 0, .int 0 0, .int 3 0, .ref 64, .bool true, .int 181 0, .ref 65, .none, .ref 66, .ref 67, .ref 68, .int 259 0, .int 90 0, .str (Str.ofString "/claim/cut.py") 260]),
  (70, mkFn "cpy313.xml.etree.ElementTree" 232 69 (stAt 11)),
  (76, mkCode #[.str (Str.ofString "_escape_cdata_c14n") 262, .str (Str.ofString "_escape_cdata_c14n") 263, .str (Str.ofString "/claim/cut.py") 264, .int 101 0, .int 1 0, .int 0 0, .int 0 0, .int 3 0, .ref 71, .bool true, .int 181 0, .ref 72, .none, .ref 73, .ref 74, .ref 75, .int 266 0, .int 101 0, .str (Str.ofString "/claim/cut.py") 267]),
  (77, mkFn "cpy313.xml.etree.ElementTree" 232 76 (stAt 12)),
  (83, mkCode #[.str (Str.ofString "_escape_attrib_c14n") 269, .str (Str.ofString "_escape_attrib_c14n") 270, .str (Str.ofString "/claim/cut.py") 271, .int 114 0, .int 1 0, .int 0 0, .int 0 0, .int 3 0, .ref 78, .bool true, .int 181 0, .ref 79, .none, .ref 80, .ref 81, .ref 82, .int 273 0, .int 114 0, .str (Str.ofString "/claim/cut.py") 274]),
  (84, mkFn "cpy313.xml.etree.ElementTree" 232 83 (stAt 13)),
  (90, mkCode #[.str (Str.ofString "_law_cells") 278, .str (Str.ofString "_law_cells") 279, .str (Str.ofString "/claim/cut.py") 280, .int 132 0, .int 1 0, .int 0 0, .int 0 0, .int 3 0, .ref 85, .bool true, .int 181 0, .ref 86, .none, .ref 87, .ref 88, .ref 89, .int 284 0, .int 132 0, .str (Str.ofString "/claim/cut.py") 285]),
  (91, mkFn "law_xp0025_01" 276 90 (stAt 15)),
  (97, mkCode #[.str (Str.ofString "_law_spelled") 287, .str (Str.ofString "_law_spelled") 288, .str (Str.ofString "/claim/cut.py") 289, .int 137 0, .int 2 0, .int 0 0, .int 0 0, .int 3 0, .ref 92, .bool true, .int 181 0, .ref 93, .none, .ref 94, .ref 95, .ref 96, .int 293 0, .int 137 0, .str (Str.ofString "/claim/cut.py") 294]),
  (98, mkFn "law_xp0025_01" 276 97 (stAt 16)),
  (104, mkCode #[.str (Str.ofString "_law_messages") 296, .str (Str.ofString "_law_messages") 297, .str (Str.ofString "/claim/cut.py") 298, .int 144 0, .int 0 0, .int 0 0, .int 0 0, .int 3 0, .ref 99, .bool true, .int 181 0, .ref 100, .none, .ref 101, .ref 102, .ref 103, .int 299 0, .int 144 0, .str (Str.ofString "/claim/cut.py") 300]),
  (105, mkFn "law_xp0025_01" 276 104 (stAt 17)),
  (111, mkCode #[.str (Str.ofString "_law_over_a_pile") 302, .str (Str.ofString "_law_over_a_pile") 303, .str (Str.ofString "/claim/cut.py") 304, .int 146 0, .int 1 0, .int 0 0, .int 0 0, .int 3 0, .ref 106, .bool true, .int 181 0, .ref 107, .none, .ref 108, .ref 109, .ref 110, .int 312 0, .int 146 0, .str (Str.ofString "/claim/cut.py") 313]),
  (112, mkFn "law_xp0025_01" 276 111 (stAt 18)),
  (116, mkCode #[.str (Str.ofString "_law_in_a_row") 315, .str (Str.ofString "_law_in_a_row") 316, .str (Str.ofString "/claim/cut.py") 317, .int 159 0, .int 2 0, .int 0 0, .int 0 0, .int 3 0, .ref 113, .bool true, .int 181 0, .ref 114, .none, .none, .none, .ref 115, .int 318 0, .int 159 0, .str (Str.ofString "/claim/cut.py") 319]),
  (117, mkFn "law_xp0025_01" 276 116 (stAt 19)),
  (121, mkCode #[.str (Str.ofString "_law_by_names") 321, .str (Str.ofString "_law_by_names") 322, .str (Str.ofString "/claim/cut.py") 323, .int 166 0, .int 2 0, .int 0 0, .int 0 0, .int 3 0, .ref 118, .bool true, .int 181 0, .ref 119, .none, .none, .none, .ref 120, .int 324 0, .int 166 0, .str (Str.ofString "/claim/cut.py") 325]),
  (122, mkFn "law_xp0025_01" 276 121 (stAt 20)),
  (128, mkCode #[.str (Str.ofString "_law_words") 327, .str (Str.ofString "_law_words") 328, .str (Str.ofString "/claim/cut.py") 329, .int 175 0, .int 1 0, .int 0 0, .int 0 0, .int 3 0, .ref 123, .bool true, .int 181 0, .ref 124, .none, .ref 125, .ref 126, .ref 127, .int 332 0, .int 175 0, .str (Str.ofString "/claim/cut.py") 333]),
  (129, mkFn "law_xp0025_01" 276 128 (stAt 21)),
  (133, mkCode #[.str (Str.ofString "law") 335, .str (Str.ofString "law") 336, .str (Str.ofString "/claim/cut.py") 337, .int 180 0, .int 1 0, .int 0 0, .int 0 0, .int 3 0, .ref 130, .bool true, .int 181 0, .ref 131, .none, .none, .none, .ref 132, .int 338 0, .int 180 0, .str (Str.ofString "/claim/cut.py") 339]),
  (134, mkFn "law_xp0025_01" 276 133 (stAt 22))]
noncomputable def hd.keys : List Addr := [3, 20, 21, 27, 28, 34, 35, 41, 42, 48, 49, 55, 56, 62, 63, 69, 70, 76, 77, 83, 84, 90, 91, 97, 98, 104, 105, 111, 112, 116, 117, 121, 122, 128, 129, 133, 134]
theorem hd.keysOk (P : Params) : hd.keys = (hd.heap_39 P).map (·.1) := by kernel_rfl
theorem hd.left : LeftO PySem.Challenge.rw_xp0025_01.row.prog hd.view_39 [] (fun s => xlAt hd.view_39 [] s && recOk (RowW.records PySem.Challenge.rw_xp0025_01.row.toRowW) s) (kHook hd.heap_39 hd.keys hd.keysOk).obs (kHook hd.heap_39 hd.keys hd.keysOk).val 1284 := by
  intro w
  kernel_rfl
theorem hd.law : PySem.Challenge.rw_xp0025_01.wellSaid = true := by
  unfold OpenLaw.wellSaid OpenRow.wellSaid OpenRow.partSaid looksOpen
  repeat' with_reducible refine look_both ?_ ?_
  all_goals decide +kernel
end Mine
end

-- P1
section
open PySem PySem.W PyProof.Rows PySem.Calls PySem.Spec
set_option maxRecDepth 100000
namespace Mine

/-- every sign c becomes z -/
noncomputable def sub1 (c : Nat) (z x : Str) : Str := ⟨(x.cps.toList.flatMap fun d => if d = c then z.cps.toList else [d]).toArray⟩
theorem sub1_list (c : Nat) (z x : Str) : (sub1 c z x).cps.toList = x.cps.toList.flatMap fun d => if d = c then z.cps.toList else [d] := by simp [sub1]
theorem ext_list {a b : Str} (h : a.cps.toList = b.cps.toList) : a = b := PySem.Str.ext' (Array.toList_inj.mp h)
theorem sub_free (c : Nat) (z : Str) : ∀ l : List Nat, c ∉ l → (l.flatMap fun d => if d = c then z.cps.toList else [d]) = l
  | [], _ => rfl
  | k :: r, h => by
    have h1 : ¬ k = c := fun e => h (e ▸ List.mem_cons_self ..)
    rw [List.flatMap_cons, if_neg h1, sub_free c z r fun m => h (List.mem_cons_of_mem _ m)]
    rfl
theorem sub_join (c : Nat) (z : Str) : ∀ parts : List Str, (∀ p ∈ parts, c ∉ p.cps.toList) → ((Str.join ⟨#[c]⟩ parts).cps.toList.flatMap fun d => if d = c then z.cps.toList else [d]) = (Str.join z parts).cps.toList
  | [], _ => rfl
  | [p], h => sub_free c z _ (h p (List.mem_singleton.mpr rfl))
  | p :: q :: r, h => by
    have ih := sub_join c z (q :: r) fun a ha => h a (List.mem_cons_of_mem _ ha)
    show (p ++ ⟨#[c]⟩ ++ Str.join ⟨#[c]⟩ (q :: r)).cps.toList.flatMap _ = (p ++ z ++ Str.join z (q :: r)).cps.toList
    simp only [PySem.Str.cps_append, Array.toList_append, List.flatMap_append]
    rw [ih, sub_free c z _ (h p (List.mem_cons_self ..))]
    simp
theorem replace_sub1 (c : Nat) (z x : Str) : Txt.replace x ⟨#[c]⟩ z = sub1 c z x := by
  apply ext_list
  rw [StrLaws.replace_one, ← sub_join c z _ (StrLaws.split_free x c), StrLaws.join_split, sub1_list]
theorem contains_one (x : Str) (c : Nat) : Txt.contains x ⟨#[c]⟩ = decide (c ∈ x.cps.toList) := by
  rw [← StrLaws.found_one]
  rfl
end Mine
end

-- P2
section
open PySem PySem.W PyProof.Rows PySem.Calls PySem.Spec
set_option maxRecDepth 100000
namespace Mine
open PySem.Builtin.Str (occurrences partsBetween strSub strKind)
open StrLaws (At)

theorem strSub_len (x : Str) (a b : Nat) : (strSub x a b).length ≤ x.length := by
  have h := StrLaws.strSub_toList x a b
  have : (strSub x a b).cps.toList.length ≤ x.cps.toList.length := by
    rw [h, List.length_take, List.length_drop]; omega
  simpa [PySem.Str.length] using this
theorem partsFrom_len (x : Str) (w : Nat) : ∀ (a : Nat) (cuts : List Nat), (∀ p, p ∈ StrLaws.partsFrom x w a cuts → p.length ≤ x.length) ∧ (StrLaws.partsFrom x w a cuts).length = cuts.length + 1
  | a, [] => ⟨fun p hp => by rw [show StrLaws.partsFrom x w a [] = [strSub x a x.length] from rfl] at hp; rw [List.mem_singleton.mp hp]; exact strSub_len _ _ _, rfl⟩
  | a, c :: r => by
    obtain ⟨h1, h2⟩ := partsFrom_len x w (c + w) r
    refine ⟨fun p hp => ?_, by show (strSub x a c :: _).length = _; rw [List.length_cons, h2]; rfl⟩
    rcases List.mem_cons.mp hp with rfl | hp
    · exact strSub_len _ _ _
    · exact h1 p hp
theorem cuts_len (x y : Str) : (occurrences x y 0 x.length (x.length + 1)).length ≤ x.length + 1 := StrLaws.occ_length_le _ _ _ _ _
theorem parts_len (x y : Str) : (partsBetween x (occurrences x y 0 x.length (x.length + 1)) y.length).length ≤ x.length + 2 := by
  rw [StrLaws.partsBetween_eq, (partsFrom_len x y.length 0 _).2]
  have := cuts_len x y
  omega
theorem split_len (x y : Str) : (Txt.split x y).length ≤ x.length + 2 ∧ ∀ p, p ∈ Txt.split x y → p.length ≤ x.length := by
  unfold Txt.split
  split
  · exact ⟨by simp, fun p hp => by rw [List.mem_singleton.mp hp]; exact Nat.le_refl _⟩
  · split
    · exact ⟨by simp, fun p hp => by rw [List.mem_singleton.mp hp]; exact Nat.le_refl _⟩
    · refine ⟨parts_len x y, fun p hp => ?_⟩
      rw [StrLaws.partsBetween_eq] at hp
      exact (partsFrom_len x y.length 0 _).1 p hp
theorem kind_pos (x : Str) : 1 ≤ PySem.Builtin.Str.strKind x := by
  unfold PySem.Builtin.Str.strKind
  split
  · exact Nat.le_refl _
  · split <;> omega
theorem split_two {x y : Str} (hk : PySem.Builtin.Str.strKind y = 1) (h : Txt.contains x y = true) : 2 ≤ (Txt.split x y).length := by
  have hAt : ∃ i, At x y x.length i := by
    obtain ⟨i, h1, h2⟩ := (StrLaws.found_iff x y).mp h
    exact ⟨i, h1, h2⟩
  obtain ⟨i, hi⟩ := hAt
  have hle : y.length ≤ x.length := by have := hi.1; omega
  have hk' : ¬ PySem.Builtin.Str.strKind x < PySem.Builtin.Str.strKind y := by rw [hk]; have := kind_pos x; omega
  have hg : ¬ (decide (x.length < y.length) || decide (PySem.Builtin.Str.strKind x < PySem.Builtin.Str.strKind y)) = true := by
    rw [Bool.or_eq_true, decide_eq_true_eq, decide_eq_true_eq]; omega
  unfold Txt.split
  rw [if_neg hg]
  rcases StrLaws.occ_head x y (x.length + 1) (by omega) with ⟨_, hn⟩ | ⟨j, r, e, _, _⟩
  · exact absurd hi (hn i)
  · rw [e, if_neg (by simp), StrLaws.partsBetween_eq, (partsFrom_len x y.length 0 _).2]
    simp
end Mine
end

-- F2
section
open PySem PySem.W PyProof.Rows PySem.Calls PySem.Spec
set_option maxRecDepth 100000
set_option maxHeartbeats 8000000
namespace Mine
open PySem (Expr)

structure Gs (G : Cx) (p : Params) : Prop where
  k : G.K = hd.heap_39 p
  fn : ∀ x v, nsIn (hd.heap_39 p) mainGlobals x = some (some v) → G.mg x = some v
  bn : ∀ x, nsIn (hd.heap_39 p) mainGlobals x = some none → G.mg x = none

section
variable {G : Cx} {p : Params}
theorem Gs.b (g : Gs G p) {n : Nat} {env : Env} {x : Str} {v : Value} (hk : env.kindOf x = some .globalImplicit := by rfl) (hn : nsIn (hd.heap_39 p) mainGlobals x = some none := by rfl) (hv : bootBuiltins x = some v := by rfl) (hx : x ≠ "__name__" := by decide) : IsB (G.at' n env) x v :=
  ⟨hk, g.bn _ hn, hv, hx⟩
theorem strcoll_ (g : Gs G p) (a b : Str) : CallE G 1 35 [.str a, .str b] (.int (b2i (decide (b.cps.toList < a.cps.toList)) - b2i (decide (a.cps.toList < b.cps.toList)))) := by
  refine CallE.of2 (n := 0) (x := Str.ofString "a") (y := Str.ofString "b") (by rw [g.k]; rfl) (by rw [g.k]; rfl) (by intro _ _; rfl) (by decide) (by exact .inl rfl) (by exact .inl rfl) (fun L en X => ?_)
  exact .ret (fun Y => .bin (.cmp (nm en) (nm en) .gt_str) (.cmp (nm en) (nm en) .lt_str) .sub_bool) rfl

noncomputable def stripEnd0 (m : Str) : Int := if 0 ≤ Txt.find m (Str.ofString "\n") then Txt.find m (Str.ofString "\n") else m.length
noncomputable def stripEnd (m : Str) : Int := if 0 ≤ find4 m (Str.ofString ":") 0 (stripEnd0 m) then find4 m (Str.ofString ":") 0 (stripEnd0 m) else stripEnd0 m
noncomputable def stripStart (m : Str) : Int := if 0 ≤ rfind4 m (Str.ofString ".") 0 (stripEnd m) then rfind4 m (Str.ofString ".") 0 (stripEnd m) + 1 else 0
noncomputable def strip (m : Str) : Str := StrLaws.sliceText m (some (stripStart m)) (some (stripEnd m))

theorem strip_ (g : Gs G p) (m : Str) (hm : m.length ≤ sizeLine) (hs : (strip m).length ≤ sizeLine) : CallE G 1 28 [.str m] (.str (strip m)) := by
  refine CallE.of1 (n := 0) (x := Str.ofString "msg") (by rw [g.k]; rfl) (by rw [g.k]; rfl) (by intro _; rfl) (by exact .inl rfl) (fun L en X => ?_)
  refine .two en (h1 := .int) (h2 := .len_str en g.b (nm en) hm) (hf1 := rfl) (hf2 := rfl) (hr := ?_)
  refine .let_ en (h := fun _ => .meth _ (nm en) F.slot_str_find F.type_str_find (.cons .str .nil) .find) (hr := ?_)
  refine .iteJ (b := decide (Txt.find m (Str.ofString "\n") ≥ 0)) [(Str.ofString "msg", .str m), (Str.ofString "end", .int (stripEnd0 m)), (Str.ofString "start", .int 0), (Str.ofString "i", .int (Txt.find m (Str.ofString "\n")))] [] (h := .cmp (nm en) .int .ge_int)
    (fun hb => .let_ en (h := fun _ => (nm en).cast (congrArg T.int (if_pos (of_decide_eq_true hb)).symm)) (hr := .nil rfl))
    (fun hb => .nil (by rw [show stripEnd0 m = m.length from if_neg (of_decide_eq_false hb)])) ?_
  refine .let_ en (h := fun _ => .meth _ (nm en) F.slot_str_find F.type_str_find (.cons .str (.cons .int (.cons (nm en) .nil))) .find4) (hr := ?_)
  refine .iteJ (b := decide (find4 m (Str.ofString ":") 0 (stripEnd0 m) ≥ 0)) [(Str.ofString "msg", .str m), (Str.ofString "end", .int (stripEnd m)), (Str.ofString "start", .int 0), (Str.ofString "i", .int (find4 m (Str.ofString ":") 0 (stripEnd0 m)))] [] (h := .cmp (nm en) .int .ge_int)
    (fun hb => .let_ en (h := fun _ => (nm en).cast (congrArg T.int (if_pos (of_decide_eq_true hb)).symm)) (hr := .nil rfl))
    (fun hb => .nil (by rw [show stripEnd m = stripEnd0 m from if_neg (of_decide_eq_false hb)])) ?_
  refine .let_ en (h := fun _ => .meth _ (nm en) F.slot_str_rfind F.type_str_rfind (.cons .str (.cons .int (.cons (nm en) .nil))) .rfind4) (hr := ?_)
  refine .iteJ (b := decide (rfind4 m (Str.ofString ".") 0 (stripEnd m) ≥ 0)) [(Str.ofString "msg", .str m), (Str.ofString "end", .int (stripEnd m)), (Str.ofString "start", .int (stripStart m)), (Str.ofString "i", .int (rfind4 m (Str.ofString ".") 0 (stripEnd m)))] [] (h := .cmp (nm en) .int .ge_int)
    (fun hb => .let_ en (h := fun _ => (EvE.bin (nm en) .int .add_int).cast (congrArg T.int (if_pos (of_decide_eq_true hb)).symm)) (hr := .nil rfl))
    (fun hb => .nil (by rw [show stripStart m = 0 from if_neg (of_decide_eq_false hb)])) ?_
  exact .ret (fun _ => .sliceS (nm en) (.some (nm en)) (.some (nm en)) hs) rfl
end
end Mine
end

-- F3
section
open PySem PySem.W PyProof.Rows PySem.Calls PySem.Spec
set_option maxRecDepth 100000
set_option maxHeartbeats 8000000
namespace Mine
open PySem (Expr)
section
variable {G : Cx} {p : Params}

noncomputable def dots : Str := Str.ofString "..."
noncomputable def emTail (got : Str) (e : Int) : List Str → Int → Bool
  | [], _ => true
  | w :: r, s => if find4 got w s e < 0 then false else emTail got e r (find4 got w s e + w.length)
noncomputable def emHead (ws : List Str) : Str := ws[0]?.getD ⟨#[]⟩
noncomputable def emLast (ws : List Str) : Str := ws[ws.length - 1]?.getD ⟨#[]⟩
noncomputable def emCut (ws : List Str) : List Str := if (emHead ws).length = 0 then ws else ws.eraseIdx 0
noncomputable def emCutL (ws : List Str) : List Str := if (emLast ws).length = 0 then ws else ws.eraseIdx (ws.length - 1)
noncomputable def emWs (want got : Str) (ws : List Str) : Bool :=
  if (emHead ws).length ≠ 0 ∧ Txt.startswith got (emHead ws) = false then false
  else if (emLast (emCut ws)).length ≠ 0 ∧ Txt.endswith got (emLast (emCut ws)) = false then false
  else if ((emHead ws).length : Int) > got.length - (emLast (emCut ws)).length then false
  else emTail got (got.length - (emLast (emCut ws)).length) (emCutL (emCut ws)) (emHead ws).length
noncomputable def em (want got : Str) : Bool := if Txt.contains want dots = false then want == got else emWs want got (Txt.split want dots)

theorem map_eraseIdx {α β : Type} (f : α → β) : ∀ (l : List α) (k : Nat), (l.map f).eraseIdx k = (l.eraseIdx k).map f
  | [], _ => rfl
  | a :: l, 0 => rfl
  | a :: l, k + 1 => by simp [map_eraseIdx f l k]

theorem em_ (g : Gs G p) (want got : Str) (hg : got.length ≤ sizeLine) (hw : want.length ≤ sizeLine) (hs1 : (PySem.Builtin.Str.partsBetween want (PySem.Builtin.Str.occurrences want dots 0 want.length (want.length + 1)) dots.length).length ≤ sizeLine)
    (hs2 : (Txt.split want dots).length ≤ sizeLine) (hs3 : ∀ x, x ∈ Txt.split want dots → x.length ≤ sizeLine) (h2 : Txt.contains want dots = true → 2 ≤ (Txt.split want dots).length) : CallE G 1 21 [.str want, .str got] (.bool (em want got)) := by
  refine CallE.of2 (n := 0) (x := Str.ofString "want") (y := Str.ofString "got") (by rw [g.k]; rfl) (by rw [g.k]; rfl) (by intro _ _; rfl) (by decide) (by exact .inl rfl) (by exact .inl rfl) (fun L en X => ?_)
  have mk : ∀ {Y : List Addr} {σ : List (Str × T)} {pos : Pos}, EvE (G.at' 0 (envOfC (Str.ofString "_ellipsis_match") _ L 21 _)) Y σ (.Name (Str.ofString "ELLIPSIS_MARKER") pos) (.str dots) := fun {Y σ pos} => .glob (v := .str dots 189) en.ok.kind en.ok.glob rfl (g.fn _ _ rfl) (fun _ => .mkStr)
  refine .ite (b := !Txt.contains want dots) (h := .cmp mk (nm en) .notIn_str) (fun hb => ?_) (fun hb => ?_)
  · exact .ret (fun _ => (EvE.cmp (nm en) (nm en) .eq_str).cast (by rw [show em want got = (want == got) from if_pos (by simpa using hb)])) rfl
  have hc : Txt.contains want dots = true := by simpa using hb
  refine .nil ?_
  refine .own en (σf := [("want", .str want), ("got", .str got)]) (l := (Txt.split want dots).map T.str) (fun q hq => ⟨hq, by simp at hq; rcases hq with rfl | rfl <;> rfl⟩) (fun Y => .meth _ (nm en) F.slot_str_split F.type_str_split (.cons mk .nil) (.split (by decide) hw hs1)) (fun t ht => by simp at ht; obtain ⟨x, _, rfl⟩ := ht; rfl) (fun a ha => own_rest (hr := ?_))
  have h2 := h2 hc
  generalize hws : Txt.split want dots = ws at h2 hs2 hs3 ⊢
  have hem : em want got = emWs want got ws := by rw [← hws]; exact if_neg (by rw [hc]; decide)
  rw [hem]
  have len1 : (ws.map T.str).length ≤ sizeLine := by rw [List.length_map]; exact hs2
  refine .assertT thaw1 ((EvB.cmp (.len_list en g.b (nm en) len1) .int .ge_int).cast (by rw [List.length_map]; exact decide_eq_true (by omega))) ?_
  refine .two en (h1 := .int) (h2 := .len_str en g.b (nm en) hg) (hf1 := rfl) (hf2 := rfl) (hr := ?_)
  have hh : ws[0]? = some (emHead ws) := by unfold emHead; cases ws with | nil => simp at h2 | cons x r => rfl
  have hmem : ∀ {l : List Str} {i : Nat} {x : Str}, (∀ y, y ∈ l → y.length ≤ sizeLine) → l[i]? = some x → x.length ≤ sizeLine := fun h e => h _ (List.mem_of_getElem? e)
  refine .letF en thaw1 (.item (t := .str (emHead ws)) (nm en) .int (by decide) (by simp [hh]) len1) rfl (hr := ?_)
  have hcut : 1 ≤ (emCut ws).length ∧ (emCut ws).length ≤ sizeLine ∧ ∀ x, x ∈ emCut ws → x.length ≤ sizeLine := by
    unfold emCut
    split
    · exact ⟨by omega, hs2, hs3⟩
    · refine ⟨by rw [List.length_eraseIdx]; split <;> omega, Nat.le_trans (List.length_eraseIdx_le ..) hs2, fun x hx => hs3 x (List.mem_of_mem_eraseIdx hx)⟩
  refine .iteC (!(decide ((emHead ws).length ≠ 0) && !Txt.startswith got (emHead ws))) (.bool false)
    [("want", .str want), ("got", .str got), ("ws", .ref a), ("endpos", .int got.length), ("startpos", .int (emHead ws).length), ("w", .str (emHead ws))] [(a, (emCut ws).map T.str)]
    (h := .of (nm en) (.str (hmem hs3 hh))) (fun hb => ?_) (fun hb => ?_) (fun hb => ?_) (fun hb => ?_)
  · have hb' : (emHead ws).length ≠ 0 := by simpa using hb
    refine .ite (h := .of (.meth _ (nm en) F.slot_str_startswith F.type_str_startswith (.cons (nm en) .nil) .startswith) .bool) (fun hs => ?_) (fun hs => ?_)
    · refine .let_ en (h := fun _ => .len_str en g.b (nm en) (hmem hs3 hh)) (hr := ?_)
      refine .del en (by repeat (first | exact List.Mem.head _ | apply List.Mem.tail)) .hit .int (k := 0) (by decide) ?_ len1 (.nil (.nil (.inl ⟨?_, by rw [hs]; simp⟩)))
      · exact seqIndex?_zero (by rw [List.length_map]; omega)
      · rw [map_eraseIdx, show emCut ws = ws.eraseIdx 0 from if_neg hb']
    · refine .ret (fun _ => .bool) (.inr ⟨rfl, by rw [hs]; simp [hb']⟩)
  · have hb' : (emHead ws).length = 0 := by simpa using hb
    refine .nil (.inl ⟨by rw [show emCut ws = ws from if_pos hb', hb']; rfl, by simp [hb']⟩)
  rotate_left
  · have : (emHead ws).length ≠ 0 ∧ Txt.startswith got (emHead ws) = false := by simpa using hb
    show Out.ret _ = _
    rw [show emWs want got ws = false from if_pos this]
  have hb0 : ¬ ((emHead ws).length ≠ 0 ∧ Txt.startswith got (emHead ws) = false) := by
    rintro ⟨h1, h3⟩; simp [h1, h3] at hb
  obtain ⟨c1, c2, c3⟩ := hcut
  have hem2 : emWs want got ws = (if (emLast (emCut ws)).length ≠ 0 ∧ Txt.endswith got (emLast (emCut ws)) = false then false
      else if ((emHead ws).length : Int) > got.length - (emLast (emCut ws)).length then false
      else emTail got (got.length - (emLast (emCut ws)).length) (emCutL (emCut ws)) (emHead ws).length) := if_neg hb0
  rw [hem2]
  generalize hws1 : emCut ws = ws1 at c1 c2 c3 ⊢
  generalize hw0 : emHead ws = w0
  have hl : ws1[ws1.length - 1]? = some (emLast ws1) := by
    unfold emLast
    rw [List.getElem?_eq_getElem (by omega)]
    rfl
  have len2 : (ws1.map T.str).length ≤ sizeLine := by rw [List.length_map]; exact c2
  refine .letF en thaw1 (.itemNeg (t := .str (emLast ws1)) (k := -1) (nm en) (.un .int .neg) (by decide) (by rw [List.length_map]; omega) ?_ len2) rfl (hr := ?_)
  · rw [List.getElem?_map, List.length_map, show (-1 + (ws1.length : Int)).toNat = ws1.length - 1 by omega, hl]; rfl
  refine .iteC (!(decide ((emLast ws1).length ≠ 0) && !Txt.endswith got (emLast ws1))) (.bool false)
    [("want", .str want), ("got", .str got), ("ws", .ref a), ("endpos", .int (got.length - (emLast ws1).length)), ("startpos", .int w0.length), ("w", .str (emLast ws1))] [(a, (emCutL ws1).map T.str)]
    (h := .of (nm en) (.str (hmem c3 hl))) (fun hb => ?_) (fun hb => ?_) (fun hb => ?_) (fun hb => ?_)
  · have hb' : (emLast ws1).length ≠ 0 := by simpa using hb
    refine .ite (h := .of (.meth _ (nm en) F.slot_str_endswith F.type_str_endswith (.cons (nm en) .nil) .endswith) .bool) (fun hs => ?_) (fun hs => ?_)
    · refine .aug en (by repeat (first | exact List.Mem.head _ | apply List.Mem.tail)) rfl (.len_str en g.b (nm en) (hmem c3 hl)) .isub_int rfl (hr := ?_)
      refine .del en (by repeat (first | exact List.Mem.head _ | apply List.Mem.tail)) .hit (.un .int .neg) (k := ws1.length - 1) (by decide) ?_ len2 (.nil (.nil (.inl ⟨?_, by rw [hs]; simp⟩)))
      · rw [List.length_map]; exact seqIndex?_neg_one (by omega)
      · rw [map_eraseIdx, show emCutL ws1 = ws1.eraseIdx (ws1.length - 1) from if_neg hb']
    · refine .ret (fun _ => .bool) (.inr ⟨rfl, by rw [hs]; simp [hb']⟩)
  · have hb' : (emLast ws1).length = 0 := by simpa using hb
    refine .nil (.inl ⟨by rw [show emCutL ws1 = ws1 from if_pos hb', hb', show ((got.length : Int) - ((0 : Nat) : Int)) = got.length by omega], by simp [hb']⟩)
  rotate_left
  · have : (emLast ws1).length ≠ 0 ∧ Txt.endswith got (emLast ws1) = false := by simpa using hb
    show Out.ret _ = _
    rw [if_pos this]
  have hb1 : ¬ ((emLast ws1).length ≠ 0 ∧ Txt.endswith got (emLast ws1) = false) := by
    rintro ⟨h1, h3⟩; simp [h1, h3] at hb
  rw [if_neg hb1]
  generalize hee : (got.length : Int) - (emLast ws1).length = ee
  refine .ite (h := .cmp (nm en) (nm en) .gt_int) (fun hb => ?_) (fun hb => .nil ?_)
  · exact .ret (fun _ => .bool) (by rw [if_pos (of_decide_eq_true hb)]; exact rfl)
  rw [if_neg (of_decide_eq_false hb)]
  have c4 : ∀ x, x ∈ emCutL ws1 → x.length ≤ sizeLine := by
    unfold emCutL
    split
    · exact c3
    · exact fun x hx => c3 x (List.mem_of_mem_eraseIdx hx)
  generalize emCutL ws1 = ws2 at c4 ⊢
  refine .disown (σ' := ([("want", .str want), ("got", .str got), ("ws", .list (ws2.map T.str)), ("endpos", .int ee), ("startpos", .int w0.length), ("w", .str (emLast ws1))] : List (Str × T))) (α₁ := []) rfl (x := Str.ofString "ws") (by repeat (first | exact List.Mem.head _ | apply List.Mem.tail)) (fun q hq => by
    simp only [List.mem_cons, List.not_mem_nil, or_false] at hq ⊢
    rcases hq with rfl | rfl | rfl | rfl | rfl | rfl <;> simp) ?_
  refine .for_ (fun (i : Nat) (σ : List (Str × T)) (α : List (Addr × List T)) => ∃ s wv, σ = ([("want", .str want), ("got", .str got), ("ws", .list (ws2.map T.str)), ("endpos", .int ee), ("startpos", .int s), ("w", .str wv)] : List (Str × T)) ∧ α = [] ∧ emTail got ee (ws2.drop i) s = emTail got ee ws2 w0.length) en (fun _ => .list (nm en)) (fun t ht => by simp at ht; obtain ⟨x, _, rfl⟩ := ht; rfl) ⟨_, _, rfl, rfl, rfl⟩ ?_ ?_
  · rintro i t σi αi hi ⟨s, wv, rfl, rfl, hs⟩
    rw [List.getElem?_map] at hi
    cases hw : ws2[i]? with
    | none => rw [hw] at hi; cases hi
    | some w =>
      rw [hw] at hi; cases hi
      have hd : ws2.drop i = w :: ws2.drop (i + 1) := by
        obtain ⟨h1, h3⟩ := List.getElem?_eq_some_iff.mp hw
        rw [List.drop_eq_getElem_cons h1, h3]
      rw [hd] at hs
      refine ⟨[("want", .str want), ("got", .str got), ("ws", .list (ws2.map T.str)), ("endpos", .int ee), ("startpos", .int s), ("w", .str w)], by repeat (first | exact Put.nil | (apply Put.hit; repeat (first | exact Off.nil | apply Off.cons (by decide))) | apply Put.miss (by decide)), ?_⟩
      refine .let_ en (h := fun _ => .meth _ (nm en) F.slot_str_find F.type_str_find (.cons (nm en) (.cons (nm en) (.cons (nm en) .nil))) .find4) (hr := ?_)
      refine .ite (h := .cmp (nm en) .int .lt_int) (fun hb => ?_) (fun hb => .nil ?_)
      · refine .ret (fun _ => .bool) ?_
        show Out.ret (.bool false) = Out.ret (.bool _)
        rw [← hs]
        simp [emTail, of_decide_eq_true hb]
      · refine .aug en (by repeat (first | exact List.Mem.head _ | apply List.Mem.tail)) rfl (.len_str en g.b (nm en) ?_) .iadd_int rfl (hr := .nil ⟨_, w, rfl, rfl, ?_⟩)
        · exact c4 w (List.mem_of_getElem? hw)
        · rw [← hs]
          simp [emTail, of_decide_eq_false hb]
  · rintro σn αn ⟨s, wv, rfl, rfl, hs⟩
    rw [List.length_map, List.drop_length] at hs
    exact .ret (fun _ => .bool) (by rw [← hs]; rfl)
end
end Mine
end

-- F4
section
open PySem PySem.W PyProof.Rows PySem.Calls PySem.Spec
set_option maxRecDepth 100000
set_option maxHeartbeats 8000000
namespace Mine
open PySem (Expr)

theorem sub1_of_free {c : Nat} {z x : Str} (h : c ∉ x.cps.toList) : sub1 c z x = x := by
  apply ext_list; rw [sub1_list]; exact sub_free c z _ h
theorem len_list (x : Str) : x.cps.toList.length = x.length := by simp [PySem.Str.length]
theorem sub1_len {c : Nat} {z x : Str} {N : Nat} (hz : z.length ≤ 6) (hx : x.length ≤ N) : (sub1 c z x).length ≤ 6 * N := by
  rw [← len_list, sub1_list]
  have : ∀ l : List Nat, (l.flatMap fun d => if d = c then z.cps.toList else [d]).length ≤ 6 * l.length := by
    intro l
    induction l with
    | nil => simp
    | cons k r ih =>
      rw [List.flatMap_cons, List.length_append, List.length_cons]
      have : (if k = c then z.cps.toList else [k]).length ≤ 6 := by
        split
        · rw [len_list]; exact hz
        · simp
      omega
  have h := this x.cps.toList
  rw [len_list] at h
  omega

section
variable {G : Cx} {p : Params} {C : Cx} {X : List Addr} {K : Out → Prop} {rest : List Stmt}

theorem ExL.esc {x z : Str} {c N k1 k2 k3 : Nat} {p0 p1 p2 p3 p4 p5 p6 p7 p8 p9 p10 : Pos} (en : EnvC C) (h1t : 1 ≤ C.t0) (hx : x.length ≤ N) (hN : N + (N + 1) * 6 ≤ 16777216) (hr : (sub1 c z x).length ≤ 6 * N → ExL C X [("text", .str (sub1 c z x))] [] rest K) (y : Str) (hy : y = ⟨#[c]⟩) (hz : z.length ≤ 6) (hyz : (y == z) = false) (pl : Sem Bool) (hk : Sto C.env "text")
    (he : eval (.Call (.Attribute (.Name (Str.ofString "text") p4) (Str.ofString "replace") p5) [.Constant (.str y) k1 p6, .Constant (.str z) k2 p7] [] p8) C.env = (do
      let ov ← eval (.Name (Str.ofString "text") p4) C.env
      standAt p5.atName
      let (f, first) ← holding [ov] (getMethod ov (Str.ofString "replace") pl)
      callWith p8 f first (backTo p8 (starEach [.Constant (.str y) k1 p6, .Constant (.str z) k2 p7] C.env)) []) := by rfl)
    (he2 : starEach [.Constant (.str y) k1 p6, .Constant (.str z) k2 p7] C.env = (false, eval (.Constant (.str y) k1 p6) C.env) :: starEach [.Constant (.str z) k2 p7] C.env := by rfl)
    (he3 : starEach [.Constant (.str z) k2 p7] C.env = (false, eval (.Constant (.str z) k2 p7) C.env) :: starEach [] C.env := by rfl) (hp : (backTo p8 (starEach [.Constant (.str z) k2 p7] C.env)).any (·.1) = false := by rfl)
    (hm : behindInMarks .In (.Name (Str.ofString "text") p2) = false := by with_unfolding_all rfl)
    (hsw : swapsWith (.Call (.Attribute (.Name (Str.ofString "text") p4) (Str.ofString "replace") p5) [.Constant (.str y) k1 p6, .Constant (.str z) k2 p7] [] p8) (some (.Name (Str.ofString "text") p3)) p9.line C.env = pure false := by rfl) :
    ExL C X [("text", .str x)] [] (.If (.Compare (.Constant (.str y) k3 p0) [.In] [.Name (Str.ofString "text") p2] p1) [.Assign [.Name (Str.ofString "text") p3] (.Call (.Attribute (.Name (Str.ofString "text") p4) (Str.ofString "replace") p5) [.Constant (.str y) k1 p6, .Constant (.str z) k2 p7] [] p8) p9] [] p10 :: rest) K := by
  subst hy
  have hl : x.length + (x.length + 1) * z.length ≤ 16777216 := by
    have : (x.length + 1) * z.length ≤ (N + 1) * 6 := Nat.mul_le_mul (by omega) hz
    omega
  refine .iteJ [("text", .str (sub1 c z x))] [] (h := .cmp (hm := hm) .str (nm en) .in_str) (fun hb => ?_) (fun hb => ?_) (hr (sub1_len hz hx))
  · refine .let_ en (h := fun _ => (EvE.replace h1t pl (nm en) hyz hl he he2 he3 hp).cast (by rw [replace_sub1])) (hr := .nil rfl) (hp := .hit .nil) (hx := hk) (hsw := hsw)
  · refine .nil ?_
    rw [contains_one] at hb
    rw [sub1_of_free (by simpa using hb)]

noncomputable def esc (l : List (Nat × Str)) (x : Str) : Str := l.foldl (fun x q => sub1 q.1 q.2 x) x
noncomputable def tab0 : List (Nat × Str) := [(38, Str.ofString "&amp;"), (60, Str.ofString "&lt;"), (62, Str.ofString "&gt;")]

theorem esc0_ (g : Gs G p) (m : Str) (h1t : 1 ≤ G.t0) (hm : m.length ≤ 16) : CallE G 1 56 [.str m] (.str (esc tab0 m)) := by
  refine CallE.of1 (n := 0) (x := Str.ofString "text") (by rw [g.k]; rfl) (by rw [g.k]; rfl) (by intro _; rfl) (by exact .inl rfl) (fun L en X => ?_)
  refine .try_ ?_
  refine .esc (c := 38) en h1t hm (by decide) (fun h1 => ?_) _ rfl (by decide) (by decide) _ (.inl rfl)
  refine .esc (c := 60) en h1t h1 (by decide) (fun h2 => ?_) _ rfl (by decide) (by decide) _ (.inl rfl)
  refine .esc (c := 62) en h1t h2 (by decide) (fun h3 => ?_) _ rfl (by decide) (by decide) _ (.inl rfl)
  exact .ret (fun _ => nm en) rfl
noncomputable def tab1 : List (Nat × Str) := [(38, Str.ofString "&amp;"), (60, Str.ofString "&lt;"), (62, Str.ofString "&gt;"), (34, Str.ofString "&quot;"), (13, Str.ofString "&#13;"), (10, Str.ofString "&#10;"), (9, Str.ofString "&#09;")]
theorem esc1_ (g : Gs G p) (m : Str) (h1t : 1 ≤ G.t0) (hm : m.length ≤ 16) : CallE G 1 63 [.str m] (.str (esc tab1 m)) := by
  refine CallE.of1 (n := 0) (x := Str.ofString "text") (by rw [g.k]; rfl) (by rw [g.k]; rfl) (by intro _; rfl) (by exact .inl rfl) (fun L en X => ?_)
  refine .try_ ?_
  refine .esc (c := 38) en h1t hm (by decide) (fun h1 => ?_) _ rfl (by decide) (by decide) _ (.inl rfl)
  refine .esc (c := 60) en h1t h1 (by decide) (fun h2 => ?_) _ rfl (by decide) (by decide) _ (.inl rfl)
  refine .esc (c := 62) en h1t h2 (by decide) (fun h3 => ?_) _ rfl (by decide) (by decide) _ (.inl rfl)
  refine .esc (c := 34) en h1t h3 (by decide) (fun h4 => ?_) _ rfl (by decide) (by decide) _ (.inl rfl)
  refine .esc (c := 13) en h1t h4 (by decide) (fun h5 => ?_) _ rfl (by decide) (by decide) _ (.inl rfl)
  refine .esc (c := 10) en h1t h5 (by decide) (fun h6 => ?_) _ rfl (by decide) (by decide) _ (.inl rfl)
  refine .esc (c := 9) en h1t h6 (by decide) (fun h7 => ?_) _ rfl (by decide) (by decide) _ (.inl rfl)
  exact .ret (fun _ => nm en) rfl
noncomputable def tab2 : List (Nat × Str) := [(38, Str.ofString "&amp;"), (62, Str.ofString "&gt;"), (34, Str.ofString "&quot;")]
theorem esc2_ (g : Gs G p) (m : Str) (h1t : 1 ≤ G.t0) (hm : m.length ≤ 16) : CallE G 1 70 [.str m] (.str (esc tab2 m)) := by
  refine CallE.of1 (n := 0) (x := Str.ofString "text") (by rw [g.k]; rfl) (by rw [g.k]; rfl) (by intro _; rfl) (by exact .inl rfl) (fun L en X => ?_)
  refine .try_ ?_
  refine .esc (c := 38) en h1t hm (by decide) (fun h1 => ?_) _ rfl (by decide) (by decide) _ (.inl rfl)
  refine .esc (c := 62) en h1t h1 (by decide) (fun h2 => ?_) _ rfl (by decide) (by decide) _ (.inl rfl)
  refine .esc (c := 34) en h1t h2 (by decide) (fun h3 => ?_) _ rfl (by decide) (by decide) _ (.inl rfl)
  exact .ret (fun _ => nm en) rfl
noncomputable def tab3 : List (Nat × Str) := [(38, Str.ofString "&amp;"), (60, Str.ofString "&lt;"), (62, Str.ofString "&gt;"), (13, Str.ofString "&#xD;")]
theorem esc3_ (g : Gs G p) (m : Str) (h1t : 1 ≤ G.t0) (hm : m.length ≤ 16) : CallE G 1 77 [.str m] (.str (esc tab3 m)) := by
  refine CallE.of1 (n := 0) (x := Str.ofString "text") (by rw [g.k]; rfl) (by rw [g.k]; rfl) (by intro _; rfl) (by exact .inl rfl) (fun L en X => ?_)
  refine .try_ ?_
  refine .esc (c := 38) en h1t hm (by decide) (fun h1 => ?_) _ rfl (by decide) (by decide) _ (.inl rfl)
  refine .esc (c := 60) en h1t h1 (by decide) (fun h2 => ?_) _ rfl (by decide) (by decide) _ (.inl rfl)
  refine .esc (c := 62) en h1t h2 (by decide) (fun h3 => ?_) _ rfl (by decide) (by decide) _ (.inl rfl)
  refine .esc (c := 13) en h1t h3 (by decide) (fun h4 => ?_) _ rfl (by decide) (by decide) _ (.inl rfl)
  exact .ret (fun _ => nm en) rfl
noncomputable def tab4 : List (Nat × Str) := [(38, Str.ofString "&amp;"), (60, Str.ofString "&lt;"), (34, Str.ofString "&quot;"), (9, Str.ofString "&#x9;"), (10, Str.ofString "&#xA;"), (13, Str.ofString "&#xD;")]
theorem esc4_ (g : Gs G p) (m : Str) (h1t : 1 ≤ G.t0) (hm : m.length ≤ 16) : CallE G 1 84 [.str m] (.str (esc tab4 m)) := by
  refine CallE.of1 (n := 0) (x := Str.ofString "text") (by rw [g.k]; rfl) (by rw [g.k]; rfl) (by intro _; rfl) (by exact .inl rfl) (fun L en X => ?_)
  refine .try_ ?_
  refine .esc (c := 38) en h1t hm (by decide) (fun h1 => ?_) _ rfl (by decide) (by decide) _ (.inl rfl)
  refine .esc (c := 60) en h1t h1 (by decide) (fun h2 => ?_) _ rfl (by decide) (by decide) _ (.inl rfl)
  refine .esc (c := 34) en h1t h2 (by decide) (fun h3 => ?_) _ rfl (by decide) (by decide) _ (.inl rfl)
  refine .esc (c := 9) en h1t h3 (by decide) (fun h4 => ?_) _ rfl (by decide) (by decide) _ (.inl rfl)
  refine .esc (c := 10) en h1t h4 (by decide) (fun h5 => ?_) _ rfl (by decide) (by decide) _ (.inl rfl)
  refine .esc (c := 13) en h1t h5 (by decide) (fun h6 => ?_) _ rfl (by decide) (by decide) _ (.inl rfl)
  exact .ret (fun _ => nm en) rfl
end
end Mine
end

-- F5
section
open PySem PySem.W PyProof.Rows PySem.Calls PySem.Spec
set_option maxRecDepth 100000
set_option maxHeartbeats 8000000
namespace Mine
open PySem (Expr)

noncomputable def optT : Option Str → T
  | none => .none
  | some x => .str x
theorem optT_flat (o : Option Str) : (optT o).flat = true := by cases o <;> rfl
noncomputable def locName (l e : Option Str) : Str := match e with
  | none => l.getD (Str.ofString "C")
  | some e => l.getD (Str.ofString "C") ++ Str.ofString "." ++ e
theorem len_append (a b : Str) : (a ++ b).length = a.length + b.length := PySem.Str.length_append a b

section
variable {G : Cx} {p : Params} {C : Cx} {X : List Addr} {K : Out → Prop} {rest : List Stmt}
theorem is_opt (l : Option Str) : OpR C X (compareOp .Is) (optT l) .none (.bool l.isNone) := by
  cases l with
  | none => exact .is_none_none
  | some x => exact .is_str_none

theorem loc_ (g : Gs G p) (l e : Option Str) (hl : (l.getD (Str.ofString "C")).length + 1 + (e.getD ⟨#[]⟩).length ≤ sizeLine) : CallE G 1 42 [.tup [optT l, optT e]] (.str (locName l e)) := by
  refine CallE.of1 (n := 0) (x := Str.ofString "localetuple") (by rw [g.k]; rfl) (by rw [g.k]; rfl) (by intro _; rfl) (by exact .inl rfl) (fun L en X => ?_)
  refine .try_ ?_
  refine .unpack2 en (h := nm en) (hf1 := optT_flat l) (hf2 := optT_flat e) (hr := ?_)
  refine .iteJ [("localetuple", .tup [optT l, optT e]), ("language", .str (l.getD (Str.ofString "C"))), ("encoding", optT e)] [] (h := .cmp (nm en) .none (is_opt l)) (fun hb => ?_) (fun hb => ?_) ?_
  · have : l = none := by simpa using hb
    subst this
    exact .let_ en (h := fun _ => .str) (hr := .nil rfl)
  · cases l with
    | none => cases hb
    | some x => exact .nil rfl
  refine .ite (h := .cmp (nm en) .none (is_opt e)) (fun hb => ?_) (fun hb => ?_)
  · have : e = none := by simpa using hb
    subst this
    exact .ret (fun _ => nm en) rfl
  · cases e with
    | none => cases hb
    | some y =>
      have h1 : (l.getD (Str.ofString "C")).length + 1 + y.length ≤ sizeLine := hl
      have l1 : (Str.ofString ".").length = 1 := by decide
      refine .ret (fun _ => .bin (.bin (nm en) .str (.add_str (by rw [l1]; omega))) (nm en) (.add_str (by rw [len_append, l1]; omega))) rfl

/- the cells -/
noncomputable def cellsFold : List Int → Nat → List Int → List Int
  | [], _, cs => cs
  | x :: r, k, cs => cellsFold r (k + 1) (cs.set (k % 7) ((cs[k % 7]?.getD 0) + Int.fmod x 1000000))
noncomputable def cellsOf (l : List Int) : List Int := cellsFold l 0 [1, 0, 1, 5, 1, 0, 1]
theorem cells_ (g : Gs G p) (l : List Int) (hl : l.length < 2 ^ 24) : CallE G 1 91 [.list (l.map T.int)] (.list ((cellsOf l).map T.int)) := by
  refine CallE.of1 (n := 0) (x := Str.ofString "script") (by rw [g.k]; rfl) (by rw [g.k]; rfl) (by intro _; rfl) (by exact .inl rfl) (fun L en X => ?_)
  have hsz : (l.map T.int).length ≤ sizeLine := by
    rw [List.length_map]
    have h2 : (2 : Nat) ^ 24 ≤ sizeLine + 1 := by decide
    generalize (2 : Nat) ^ 24 = n at hl h2
    omega
  refine .own en (σf := []) (l := [1, 0, 1, 5, 1, 0, 1].map T.int) (fun q hq => by cases hq) (fun Y => .list (.cons .int (.cons .int (.cons .int (.cons .int (.cons .int (.cons .int (.cons .int .nil)))))))) (fun t ht => by obtain ⟨i, _, rfl⟩ := List.mem_map.mp ht; rfl) (fun a ha => own_rest (hr := ?_))
  have hlr : (rng 0 (((l.map T.int).length : Int) - 0).toNat).length = l.length := by rw [rng_length, List.length_map]; omega
  have hl62 : ((l.map T.int).length : Int) < 2 ^ 62 := by
    rw [List.length_map]
    have h3 : l.length < 16777216 := hl
    have h4 : (16777216 : Int) < 2 ^ 62 := by decide
    omega
  refine .forW (fun (i : Nat) (σ : List (Str × T)) (α : List (Addr × List T)) => ∃ cs : List Int, σ = ([("script", .list (l.map T.int)), ("cells", .ref a)] : List (Str × T)) ∧ α = [(a, cs.map T.int)] ∧ cs.length = 7 ∧ cellsFold (l.drop i) i cs = cellsOf l) en
    (fun _ => .range1 en.ok g.b (.len_list en g.b (nm en) hsz) (Int.le_trans (by decide) (Int.natCast_nonneg _)) hl62) (fun t ht => by obtain ⟨i, _, rfl⟩ := List.mem_map.mp ht; rfl) ⟨_, fun q hq => hq, [1, 0, 1, 5, 1, 0, 1], rfl, rfl, rfl, rfl⟩ ?_ ?_
  · rintro i t σi αi hi ⟨cs, rfl, rfl, hcs, hf⟩
    have hil : i < l.length := by
      have := (List.getElem?_eq_some_iff.mp hi).1
      omega
    have ht : t = .int (i : Int) := by
      obtain ⟨h1, h2⟩ := List.getElem?_eq_some_iff.mp hi
      rw [← h2]
      simp [rng]
    subst ht
    have hd : l.drop i = l[i] :: l.drop (i + 1) := List.drop_eq_getElem_cons hil
    rw [hd] at hf
    have hm : Int.fmod (i : Int) 7 = ((i % 7 : Nat) : Int) := by
      rw [Int.fmod_eq_emod_of_nonneg _ (by decide)]; omega
    have hmt : (Int.fmod (i : Int) 7).toNat = i % 7 := by rw [hm]; exact Int.toNat_natCast _
    have h7 : i % 7 < cs.length := by rw [hcs]; exact Nat.mod_lt _ (by decide)
    refine ⟨[("script", .list (l.map T.int)), ("cells", .ref a), ("k", .int i)], by repeat (first | exact Put.nil | (apply Put.hit; repeat (first | exact Off.nil | apply Off.cons (by decide))) | apply Put.miss (by decide)), ?_⟩
    refine .augItem (t0 := .int cs[i % 7]) en (by repeat (first | exact List.Mem.head _ | apply List.Mem.tail)) .hit .refl (.bin (nm en) .int (.mod_int (by decide))) (by rw [hm]; exact Int.natCast_nonneg _) (by rw [hm, List.length_map]; omega) (by rw [List.length_map, hcs]; decide)
      (by rw [hmt, List.getElem?_map, List.getElem?_eq_getElem h7]; rfl) rfl
      (.bin (.item (t := .int l[i]) (nm en) (nm en) (Int.natCast_nonneg _) (by rw [Int.toNat_natCast, List.getElem?_map, List.getElem?_eq_getElem hil]; rfl) hsz) (.bin .int .int (.pow_int (by decide) (by decide) (by decide))) (.mod_int (by decide)))
      .iadd_int rfl (.nil ?_)
    refine ⟨_, fun q hq => ?_, cs.set (i % 7) (cs[i % 7] + Int.fmod l[i] 1000000), rfl, ?_, by rw [List.length_set]; exact hcs, ?_⟩
    · simp only [List.mem_cons, List.not_mem_nil, or_false] at hq ⊢
      rcases hq with rfl | rfl <;> simp
    · rw [hmt, List.map_set]; rfl
    · rw [← hf]
      show _ = cellsFold (l.drop (i + 1)) (i + 1) (cs.set (i % 7) ((cs[i % 7]?.getD 0) + Int.fmod l[i] 1000000))
      rw [List.getElem?_eq_getElem h7]
      rfl
  · rintro σn αn ⟨cs, rfl, rfl, hcs, hf⟩
    rw [hlr, List.drop_length] at hf
    exact .retF thaw1 (nm en) (by rw [← hf]; rfl)
end
end Mine
end

-- F6
section
open PySem PySem.W PyProof.Rows PySem.Calls PySem.Spec
set_option maxRecDepth 100000
set_option maxHeartbeats 8000000
namespace Mine
open PySem (Expr)
open PySem.Builtin.Str (occurrences)

noncomputable def tabS (w : Nat) : Str := [Str.ofString "&<>", Str.ofString "&<>\"\r\n\t", Str.ofString "&>\"", Str.ofString "&<>\r", Str.ofString "&<\"\r\n\t"][w]?.getD ⟨#[]⟩
noncomputable def signs7 : List Nat := [38, 60, 62, 34, 13, 10, 9]
noncomputable def placeOf (c w : Nat) : Nat := if 2 < w ∧ 3 < signs7.idxOf c then signs7.idxOf c + 3 else signs7.idxOf c
noncomputable def nameS (i : Nat) : Str := [Str.ofString "amp", Str.ofString "lt", Str.ofString "gt", Str.ofString "quot", Str.ofString "#13", Str.ofString "#10", Str.ofString "#09", Str.ofString "#xD", Str.ofString "#xA", Str.ofString "#x9"][i]?.getD ⟨#[]⟩
noncomputable def spell (c w : Nat) : Str := if c ∈ (tabS w).cps.toList then Str.ofString "&" ++ nameS (placeOf c w) ++ Str.ofString ";" else ⟨#[c]⟩

theorem w_cases {w : Nat} (h : w < 5) : w = 0 ∨ w = 1 ∨ w = 2 ∨ w = 3 ∨ w = 4 := by omega
theorem tab_sub {c w : Nat} (hw : w < 5) (h : c ∈ (tabS w).cps.toList) : c ∈ signs7 := by
  rcases w_cases hw with rfl | rfl | rfl | rfl | rfl
  all_goals exact (by decide : ∀ c, c ∈ _ → c ∈ signs7) c h
theorem index7 {c : Nat} (h : c ∈ signs7) : ∃ r, occurrences (Str.ofString "&<>\"\r\n\t") ⟨#[c]⟩ 0 (Str.ofString "&<>\"\r\n\t").length 1 = signs7.idxOf c :: r := by
  have : ∀ c, c ∈ signs7 → occurrences (Str.ofString "&<>\"\r\n\t") ⟨#[c]⟩ 0 (Str.ofString "&<>\"\r\n\t").length 1 = [signs7.idxOf c] := by decide +kernel
  exact ⟨[], this c h⟩
theorem place_lt {c w : Nat} (hw : w < 5) (h : c ∈ (tabS w).cps.toList) : placeOf c w < 10 := by
  have := tab_sub hw h
  have : signs7.idxOf c < 7 := List.idxOf_lt_length_of_mem this
  unfold placeOf
  split <;> omega
theorem nameS_get {i : Nat} (h : i < 10) : [Str.ofString "amp", Str.ofString "lt", Str.ofString "gt", Str.ofString "quot", Str.ofString "#13", Str.ofString "#10", Str.ofString "#09", Str.ofString "#xD", Str.ofString "#xA", Str.ofString "#x9"][i]? = some (nameS i) := by
  unfold nameS
  rw [List.getElem?_eq_getElem h]
  rfl
theorem nameS_len (i : Nat) : (nameS i).length ≤ 4 := by
  by_cases h : i < 10
  · have : ∀ i, i < 10 → (nameS i).length ≤ 4 := by decide
    exact this i h
  · unfold nameS
    rw [List.getElem?_eq_none (by simp; omega)]
    decide

section
variable {G : Cx} {p : Params} {C : Cx} {X : List Addr} {K : Out → Prop} {rest : List Stmt}

theorem spell_ (g : Gs G p) (c w : Nat) (hw : w < 5) : CallE G 1 98 [.str ⟨#[c]⟩, .int w] (.str (spell c w)) := by
  refine CallE.of2 (n := 0) (x := Str.ofString "sign") (y := Str.ofString "which") (by rw [g.k]; rfl) (by rw [g.k]; rfl) (by intro _ _; rfl) (by decide) (by exact .inl rfl) (by exact .inl rfl) (fun L en X => ?_)
  refine .ite (h := .cmp (nm en) (.item (t := .str (tabS w)) (.list (.cons .str (.cons .str (.cons .str (.cons .str (.cons .str .nil)))))) (nm en) (Int.natCast_nonneg _) (by rcases w_cases hw with rfl | rfl | rfl | rfl | rfl <;> rfl) (by decide)) .notIn_str) (fun hb => ?_) (fun hb => .nil ?_)
  · rw [contains_one] at hb
    refine .ret (fun _ => nm en) ?_
    show Out.ret _ = Out.ret _
    rw [show spell c w = ⟨#[c]⟩ from if_neg (by simpa using hb)]
  rw [contains_one] at hb
  have hc : c ∈ (tabS w).cps.toList := by simpa using hb
  obtain ⟨r, hr⟩ := index7 (tab_sub hw hc)
  refine .let_ en (h := fun _ => .methC F.slot_str_index F.type_str_index (.cons (nm en) .nil) (.index hr)) (hr := ?_)
  refine .iteJ (b := decide ((w : Int) > 2) && (decide ((signs7.idxOf c : Int) > 3) && true)) [("sign", .str ⟨#[c]⟩), ("which", .int w), ("place", .int (placeOf c w))] []
    (h := .and (.cmp (nm en) .int .gt_int) fun _ => .and (.cmp (nm en) .int .gt_int) fun _ => .and_nil) (fun hb => ?_) (fun hb => ?_) ?_
  · have h2 : 2 < w ∧ 3 < signs7.idxOf c := by simp at hb; omega
    refine .aug en (by repeat (first | exact List.Mem.head _ | apply List.Mem.tail)) rfl .int .iadd_int rfl (hr := .nil ?_)
    rw [show placeOf c w = signs7.idxOf c + 3 from if_pos h2]; rfl
  · have h2 : ¬ (2 < w ∧ 3 < signs7.idxOf c) := by
      rintro ⟨h1, h3⟩
      simp at hb; have := hb (by omega); omega
    refine .nil ?_
    rw [show placeOf c w = signs7.idxOf c from if_neg h2]
  have hp := place_lt hw hc
  have l1 : (Str.ofString "&").length = 1 := by decide
  have l2 : (Str.ofString ";").length = 1 := by decide
  have l3 := nameS_len (placeOf c w)
  have l4 : 10 ≤ sizeLine := by decide
  refine .ret (fun _ => .bin (.bin .str (.item (t := .str (nameS (placeOf c w))) (.list (.cons .str (.cons .str (.cons .str (.cons .str (.cons .str (.cons .str (.cons .str (.cons .str (.cons .str (.cons .str .nil))))))))))) (nm en) (Int.natCast_nonneg _) ?_ (by decide)) (.add_str (by omega))) .str (.add_str (by rw [len_append]; omega))) ?_
  · rw [Int.toNat_natCast]
    have := congrArg (Option.map T.str) (nameS_get hp)
    rw [← List.getElem?_map] at this
    exact this
  · show Out.ret _ = Out.ret _
    rw [show spell c w = Str.ofString "&" ++ nameS (placeOf c w) ++ Str.ofString ";" from if_pos hc]

noncomputable def msgs : List Str := [Str.ofString "", Str.ofString ":", Str.ofString "\n", Str.ofString ": x.y: z", Str.ofString "\n.x\n:y", Str.ofString ":\n.x"]
theorem messages_ (g : Gs G p) : CallE G 1 105 [] (.list (msgs.map T.str)) := by
  refine CallE.of0 (n := 0) (by rw [g.k]; rfl) (by rw [g.k]; rfl) (by rfl) (fun L en X => ?_)
  exact .ret (fun _ => .list (.cons .str (.cons .str (.cons .str (.cons .str (.cons .str (.cons .str .nil))))))) rfl
end
end Mine
end

-- F7
section
open PySem PySem.W PyProof.Rows PySem.Calls PySem.Spec
set_option maxRecDepth 100000
set_option maxHeartbeats 8000000
namespace Mine
open PySem (Expr)

theorem sliceText_len (x : Str) (l u : Option Int) : (StrLaws.sliceText x l u).length ≤ x.length := by
  unfold StrLaws.sliceText
  split
  · exact Nat.le_refl _
  · show (List.toArray _).size ≤ _
    rw [List.size_toArray]
    exact Nat.le_trans (List.length_filterMap_le _ _) (sliceIndices_le _ _ _)
theorem strip_len (m : Str) : (strip m).length ≤ m.length := sliceText_len _ _ _

noncomputable def collv (a b : Str) : Int := b2i (decide (b.cps.toList < a.cps.toList)) - b2i (decide (a.cps.toList < b.cps.toList))
noncomputable def topAt (pile : Str) (t : Nat) : Str := strip (pile ++ (msgs[t % 6]?.getD ⟨#[]⟩))
noncomputable def cutTop (pile top : Str) : Str := StrLaws.sliceText pile none (some ((pile.length : Int) - top.length - 1))
noncomputable def goesIn (top : Str) : List Str → Bool
  | [] => false
  | w :: _ => top == Str.ofString "C" || collv top w != -1
noncomputable def pileStep (t : Nat) (st : List Str × List Str × Str) : List Str × List Str × Str :=
  match st.1 with
  | w :: r => if (topAt st.2.2 t == Str.ofString "C" || collv (topAt st.2.2 t) w != -1) = true then (r, st.2.1, locName (if (topAt st.2.2 t == Str.ofString "C") = true then none else some st.2.2) (some w))
      else (w :: r, st.2.1 ++ [topAt st.2.2 t], cutTop st.2.2 (topAt st.2.2 t))
  | [] => ([], st.2.1 ++ [topAt st.2.2 t], cutTop st.2.2 (topAt st.2.2 t))
noncomputable def pileRun (names : List Str) : Nat → List Str × List Str × Str
  | 0 => (names, [], Str.ofString "C")
  | t + 1 => pileStep t (pileRun names t)
noncomputable def pileRes (names : List Str) : List Str := (pileRun names (2 * names.length)).2.1 ++ [(pileRun names (2 * names.length)).2.2]

theorem len1C : (Str.ofString "C").length = 1 := by decide
theorem len1dot : (Str.ofString ".").length = 1 := by decide
theorem msgs_len (t : Nat) : (msgs[t % 6]?.getD ⟨#[]⟩).length ≤ 8 := by
  have : ∀ k, k < 6 → (msgs[k]?.getD ⟨#[]⟩).length ≤ 8 := by decide
  exact this _ (Nat.mod_lt _ (by decide))
theorem locName_len (l : Option Str) (w : Str) : (locName l (some w)).length = (l.getD (Str.ofString "C")).length + 1 + w.length := by
  show ((l.getD (Str.ofString "C")) ++ Str.ofString "." ++ w).length = _
  rw [len_append, len_append, len1dot]

noncomputable def PileB (n t : Nat) (st : List Str × List Str × Str) : Prop := st.2.2.length ≤ 1 + 7 * t ∧ (∀ x, x ∈ st.1 → x.length ≤ 6) ∧ st.1.length ≤ n ∧ st.2.1.length ≤ t
theorem step_bound {n t : Nat} : ∀ {st : List Str × List Str × Str}, PileB n t st → PileB n (t + 1) (pileStep t st)
  | ([], cm, pl), ⟨h1, h2, h3, h4⟩ => by
    have hcut : (cutTop pl (topAt pl t)).length ≤ 1 + 7 * (t + 1) := Nat.le_trans (sliceText_len _ _ _) (by simp only at h1; omega)
    exact ⟨hcut, fun x hx => (nomatch hx), Nat.zero_le _, by show (cm ++ [_]).length ≤ _; simp; exact h4⟩
  | (w :: r, cm, pl), ⟨h1, h2, h3, h4⟩ => by
    have h1' : pl.length ≤ 1 + 7 * t := h1
    have hcut : (cutTop pl (topAt pl t)).length ≤ 1 + 7 * (t + 1) := Nat.le_trans (sliceText_len _ _ _) (by omega)
    have hw : w.length ≤ 6 := h2 w (.head _)
    by_cases hc : (topAt pl t == Str.ofString "C" || collv (topAt pl t) w != -1) = true
    · have e : pileStep t (w :: r, cm, pl) = (r, cm, locName (if (topAt pl t == Str.ofString "C") = true then none else some pl) (some w)) := if_pos hc
      rw [e]
      refine ⟨?_, fun x hx => h2 x (.tail _ hx), Nat.le_of_succ_le h3, Nat.le_succ_of_le h4⟩
      show (locName _ _).length ≤ _
      rw [locName_len]
      by_cases hC : (topAt pl t == Str.ofString "C") = true
      · rw [if_pos hC]; show (Str.ofString "C").length + 1 + w.length ≤ _; rw [len1C]; omega
      · rw [if_neg hC]; show pl.length + 1 + w.length ≤ _; omega
    · have e : pileStep t (w :: r, cm, pl) = (w :: r, cm ++ [topAt pl t], cutTop pl (topAt pl t)) := if_neg hc
      rw [e]
      exact ⟨hcut, h2, h3, by show (cm ++ [_]).length ≤ _; simp; exact h4⟩
theorem pile_bound {names : List Str} (hn : ∀ x, x ∈ names → x.length ≤ 6) : ∀ t, PileB names.length t (pileRun names t)
  | 0 => ⟨by show (Str.ofString "C").length ≤ _; rw [len1C]; omega, hn, Nat.le_refl _, Nat.le_refl _⟩
  | t + 1 => step_bound (pile_bound hn t)

section
variable {G : Cx} {p : Params} {C : Cx} {X : List Addr} {K : Out → Prop} {rest : List Stmt}
theorem Gs.f (g : Gs G p) {n : Nat} {env : Env} {x : Str} {f : Addr} (hk : env.kindOf x = some .globalImplicit := by rfl) (hn : nsIn (hd.heap_39 p) mainGlobals x = some (some (.ref f)) := by rfl) (hf : ∃ o fd, (hd.heap_39 p).lookup f = some o ∧ o.data = .func fd := by exact ⟨_, _, rfl, rfl⟩) : IsF (G.at' n env) x f :=
  ⟨hk, g.fn _ _ hn, by rw [show (G.at' n env).K = hd.heap_39 p from g.k]; exact hf⟩

/-- a call says nothing of its frame -/
theorem CallE.at {n m : Nat} {env : Env} {f : Addr} {ts : List T} {t : T} (c : CallE G n f ts t) : CallE (G.at' m env) n f ts t := ⟨c.run⟩
theorem OpR.ne_list0 {l : List T} (hf : l.all T.flat1 = true) : OpR C X (compareOp .NotEq) (.list l) (.list []) (.bool (!l.isEmpty)) := by
  cases l with
  | nil => exact .ne_list (by rfl)
  | cons a l => exact .ne_list_len (by simp)

theorem pile_ (g : Gs G p) (names : List Str) (hn : ∀ x, x ∈ names → x.length ≤ 6) (hl : names.length ≤ 6) : CallE G 2 112 [.list (names.map T.str)] (.list ((pileRes names).map T.str)) := by
  refine CallE.of1 (n := 1) (x := Str.ofString "names") (by rw [g.k]; rfl) (by rw [g.k]; rfl) (by intro _; rfl) (by exact .inl rfl) (fun L en X => ?_)
  have flatS : ∀ (l : List Str) t, t ∈ l.map T.str → t.flat = true := fun l t ht => by obtain ⟨i, _, rfl⟩ := List.mem_map.mp ht; rfl
  have flat1S : ∀ (l : List Str), (l.map T.str).all T.flat1 = true := fun l => by rw [List.all_eq_true]; intro t ht; obtain ⟨i, _, rfl⟩ := List.mem_map.mp ht; rfl
  have big : 1000 ≤ sizeLine := by decide
  refine .let_ en (h := fun _ => .call0 en.ok g.f (messages_ g).at (Nat.le_refl 1)) (hr := ?_)
  refine .ownSlice en (l := names.map T.str) (fun _ => nm en) (flatS _) (by rw [List.length_map]; omega) (fun a ha => own_rest (hr := ?_))
  refine .own en (σf := []) (l := []) (fun q hq => by cases hq) (fun Y => .list .nil) (fun t ht => by cases ht) (fun b hb => own_rest (hr := ?_))
  refine .let_ en (h := fun _ => .call en.ok g.f (.cons (.tup (.cons .none (.cons .none .nil))) .nil) (loc_ g none none (by show (Str.ofString "C").length + 1 + 0 ≤ _; rw [len1C]; omega)).at (Nat.le_refl 1)) (hr := ?_)
  refine .forW (fun (t : Nat) (σ : List (Str × T)) (α : List (Addr × List T)) => σ = ([("names", .list (names.map T.str)), ("behind", .list (msgs.map T.str)), ("waiting", .ref a), ("come", .ref b), ("pile", .str (pileRun names t).2.2)] : List (Str × T)) ∧
    α = [(b, (pileRun names t).2.1.map T.str), (a, (pileRun names t).1.map T.str)]) en
    (fun _ => .range1 en.ok g.b (.bin .int (.len_list en g.b (nm en) (by rw [List.length_map]; omega)) (.mul_int ?_)) ?_ ?_) (fun t ht => by obtain ⟨i, _, rfl⟩ := List.mem_map.mp ht; rfl) ⟨_, fun q hq => hq, rfl, rfl⟩ ?_ ?_
  · exact IntMulOk.of_left (by decide)
  · omega
  · rw [List.length_map]; omega
  · rintro t tt σi αi hi ⟨rfl, rfl⟩
    have ht12 : t < 12 := by
      have := (List.getElem?_eq_some_iff.mp hi).1
      rw [rng_length, List.length_map] at this
      omega
    have htt : tt = .int (t : Int) := by
      obtain ⟨h1, h2⟩ := List.getElem?_eq_some_iff.mp hi
      rw [← h2]
      simp [rng]
    subst htt
    obtain ⟨b1, b2, b3, b4⟩ := pile_bound hn t
    have hstep : pileRun names (t + 1) = pileStep t (pileRun names t) := rfl
    rw [hstep]
    generalize hst : pileRun names t = st at b1 b2 b3 b4 ⊢
    obtain ⟨wt, cm, pl⟩ := st
    simp only at b1 b2 b3 b4 ⊢
    have hm6 : Int.fmod (t : Int) 6 = ((t % 6 : Nat) : Int) := by
      rw [Int.fmod_eq_emod_of_nonneg _ (by decide)]; omega
    have hmsg : (msgs.map T.str)[(Int.fmod (t : Int) 6).toNat]? = some (.str (msgs[t % 6]?.getD ⟨#[]⟩)) := by
      rw [hm6, Int.toNat_natCast, List.getElem?_map]
      have : t % 6 < msgs.length := Nat.mod_lt _ (by decide)
      rw [List.getElem?_eq_getElem this]; rfl
    have hml := msgs_len t
    refine ⟨[("names", .list (names.map T.str)), ("behind", .list (msgs.map T.str)), ("waiting", .ref a), ("come", .ref b), ("pile", .str pl), ("turn", .int t)], by repeat (first | exact Put.nil | (apply Put.hit; repeat (first | exact Off.nil | apply Off.cons (by decide))) | apply Put.miss (by decide)), ?_⟩
    have hlen : (pl ++ (msgs[t % 6]?.getD ⟨#[]⟩)).length ≤ sizeLine := by rw [len_append]; omega
    refine .let_ en (h := fun _ => .call en.ok g.f (.cons (.bin (nm en) (.item (t := .str (msgs[t % 6]?.getD ⟨#[]⟩)) (nm en) (.bin (nm en) .int (.mod_int (by decide))) (by rw [hm6]; exact Int.natCast_nonneg _) hmsg (by decide)) (.add_str (by omega))) .nil) (strip_ g _ hlen (Nat.le_trans (strip_len _) hlen)).at (Nat.le_refl 1)) (hr := ?_)
    change ExL _ X [("names", .list (names.map T.str)), ("behind", .list (msgs.map T.str)), ("waiting", .ref a), ("come", .ref b), ("pile", .str pl), ("turn", .int t), ("top", .str (topAt pl t))] _ _ _
    have htl : (topAt pl t).length ≤ 100 := Nat.le_trans (strip_len _) (by rw [len_append]; omega)
    generalize htop : topAt pl t = top at htl ⊢
    have hcutl : (cutTop pl top).length ≤ sizeLine := Nat.le_trans (sliceText_len _ _ _) (by omega)
    refine .iteT (b := goesIn top wt) thaw1 ?_ (fun hb => ?_) (fun hb => ?_)
    · cases wt with
      | nil => exact (EvB.and (.cmp (nm en) (.list .nil) (.ne_list0 rfl)) (fun h => by cases h) : EvB _ _ _ _ (false && false)).cast rfl
      | cons w r =>
        have hw6 : (w :: r).length ≤ 6 := Nat.le_trans b3 hl
        refine (EvB.and (.cmp (nm en) (.list .nil) (.ne_list0 (flat1S _))) (fun h => .and (.or (.cmp (nm en) .str .eq_str) (fun h2 => .or (.cmp (.call en.ok g.f (.cons (nm en) (.cons (.item (t := .str w) (nm en) .int (by decide) rfl (by rw [List.length_map]; omega)) .nil)) (strcoll_ g top w).at (Nat.le_refl 1)) (.un .int .neg) .ne_int) (fun _ => .or_nil))) (fun _ => .and_nil))).cast ?_
        simp [goesIn, collv]
    · cases wt with
      | nil => cases hb
      | cons w r =>
        have est : pileStep t (w :: r, cm, pl) = (r, cm, locName (if (top == Str.ofString "C") = true then none else some pl) (some w)) := by
          show (if (topAt pl t == Str.ofString "C" || collv (topAt pl t) w != -1) = true then _ else _) = _
          rw [htop]
          exact if_pos hb
        have hw : w.length ≤ 6 := b2 w (.head _)
        have hw6 : (w :: r).length ≤ 6 := Nat.le_trans b3 hl
        have hws : r.length + 1 ≤ 6 := hw6
        refine .popCall (fn := Str.ofString "_build_localename") (t1 := optT (if (top == Str.ofString "C") = true then none else some pl)) (t := .str w) (l := r.map T.str) en g.f (by repeat (first | exact List.Mem.head _ | apply List.Mem.tail)) (.miss .hit) .refl
          (.ifexp (.cmp (nm en) .str .eq_str) (fun h => EvE.none.cast (by rw [h]; rfl)) (fun h => (nm en).cast (by rw [h]; rfl))) (optT_flat _) rfl (by rw [List.length_map]; omega)
          (loc_ g (if (top == Str.ofString "C") = true then none else some pl) (some w) ?_).at rfl (Nat.le_refl 1) (hr := .nil (.nil ⟨_, fun q hq => ?_, rfl, ?_⟩))
        · show _ + 1 + w.length ≤ _
          split
          · show (Str.ofString "C").length + 1 + w.length ≤ _; rw [len1C]; omega
          · show pl.length + 1 + w.length ≤ _; omega
        · rw [est] at hq
          simp only [List.mem_cons, List.not_mem_nil, or_false] at hq ⊢
          rcases hq with rfl | rfl | rfl | rfl | rfl <;> simp
        · rw [est]
    · have est : pileStep t (wt, cm, pl) = (wt, cm ++ [top], cutTop pl top) := by
        cases wt with
        | nil => show ([], cm ++ [topAt pl t], cutTop pl (topAt pl t)) = _; rw [htop]
        | cons w r =>
          show (if (topAt pl t == Str.ofString "C" || collv (topAt pl t) w != -1) = true then _ else _) = _
          rw [htop]
          exact if_neg (by show ¬ goesIn top (w :: r) = true; rw [hb]; exact Bool.false_ne_true)
      refine .append en rfl (by repeat (first | exact List.Mem.head _ | apply List.Mem.tail)) .hit .refl (nm en) rfl (by rw [List.length_map]; omega) (pl := _) (hr := ?_)
      refine .let_ en (h := fun _ => .sliceS (nm en) .none (.some (.bin (.bin (.len_str en g.b (nm en) (by omega)) (.len_str en g.b (nm en) (by omega)) .sub_int) .int .sub_int)) hcutl) (hr := .nil (.nil ⟨_, fun q hq => ?_, rfl, ?_⟩))
      · rw [est] at hq
        simp only [List.mem_cons, List.not_mem_nil, or_false] at hq ⊢
        rcases hq with rfl | rfl | rfl | rfl | rfl <;> simp [cutTop]
      · rw [est, List.map_append]; rfl
  · rintro σn αn ⟨rfl, rfl⟩
    have hn12 : (rng 0 (2 * ((names.map T.str).length : Int) - 0).toNat).length = 2 * names.length := by rw [rng_length, List.length_map]; omega
    rw [hn12]
    obtain ⟨b1, b2, b3, b4⟩ := pile_bound hn (2 * names.length)
    refine .retF (thaw1 (x := Str.ofString "come")) (.bin (nm en) (.list (.cons (nm en) .nil)) (.add_list (by rw [List.length_map]; show _ + 1 ≤ _; omega))) ?_
    show Out.ret _ = Out.ret _
    rw [pileRes, List.map_append]; rfl
end
end Mine
end

-- F8
section
open PySem PySem.W PyProof.Rows PySem.Calls PySem.Spec
set_option maxRecDepth 100000
set_option maxHeartbeats 8000000
namespace Mine
open PySem (Expr)

noncomputable def ovr (rows : List (List Bool)) (i j : Nat) : Bool := ((rows[i]?.getD [])[j]?).getD false
noncomputable def rowsT (rows : List (List Bool)) : T := .list (rows.map fun r => .list (r.map T.bool))
noncomputable def keepIf (q : Nat → Bool) : T → Option T
  | .int i => if q i.toNat = true then some (.int i) else none
  | _ => none
noncomputable def lesserOf (rows : List (List Bool)) (r : Nat) : List T := (rng 0 ((r : Int) - 0).toNat).filterMap (keepIf fun a => !ovr rows r a)
noncomputable def greaterOf (rows : List (List Bool)) (r : Nat) : List T := (rng ((r : Int) + 1) (6 - ((r : Int) + 1)).toNat).filterMap (keepIf fun b => ovr rows b r)
noncomputable def aheadOf (rows : List (List Bool)) (r : Nat) : Nat := (lesserOf rows r).length + (greaterOf rows r).length
noncomputable def aheads (rows : List (List Bool)) : List Nat := (List.range 6).map (aheadOf rows)
noncomputable def aheadsI (rows : List (List Bool)) : List Int := (aheads rows).map fun (n : Nat) => (n : Int)
noncomputable def pickK (ranked : List Str) (rows : List (List Bool)) : T → Option T
  | .int k => some (.str (ranked[(aheads rows).idxOf k.toNat]?.getD ⟨#[]⟩))
  | _ => none
theorem keepIf_some {q : Nat → Bool} {t u : T} (h : keepIf q t = some u) : u = t := by
  cases t <;> simp [keepIf] at h
  exact h.2.symm
theorem mem_rng {a : Int} {n : Nat} {t : T} (h : t ∈ rng a n) : ∃ i : Nat, i < n ∧ t = .int (a + i) := by
  obtain ⟨i, hi, rfl⟩ := List.mem_map.mp h
  exact ⟨i, by simpa using hi, rfl⟩
noncomputable def rowRes (ranked : List Str) (rows : List (List Bool)) : List Str := (List.range 6).map fun k => ranked[(aheads rows).idxOf k]?.getD ⟨#[]⟩

theorem EvTs.cast {C : Cx} {Y : List Addr} {σ : List (Str × T)} {ifs : List Expr} {b b' : Bool} (h : EvTs C Y σ ifs b) (e : b = b') : EvTs C Y σ ifs b' := e ▸ h
theorem row_get {rows : List (List Bool)} {i : Nat} (h : i < rows.length) : (rows.map fun r => T.list (r.map T.bool))[i]? = some (.list ((rows[i]?.getD []).map T.bool)) := by
  rw [List.getElem?_map, List.getElem?_eq_getElem h]; rfl
theorem bit_get {rows : List (List Bool)} {i j : Nat} (h : j < (rows[i]?.getD []).length) : ((rows[i]?.getD []).map T.bool)[j]? = some (.bool (ovr rows i j)) := by
  unfold ovr
  rw [List.getElem?_map, List.getElem?_eq_getElem h]; rfl
section
variable {G : Cx} {p : Params} {C : Cx} {X : List Addr} {K : Out → Prop} {rest : List Stmt}

theorem row_ (g : Gs G p) (ranked : List Str) (rows : List (List Bool)) (hk : ranked.length = 6) (hr6 : rows.length = 6) (hrows : ∀ i j, j < i → i < 6 → j < (rows[i]?.getD []).length) (hsm : ∀ i, i < 6 → (rows[i]?.getD []).length ≤ 6) (hperm : ∀ k, k < 6 → k ∈ aheads rows) :
    CallE G 1 117 [.list (ranked.map T.str), rowsT rows] (.list ((rowRes ranked rows).map T.str)) := by
  refine CallE.of2 (n := 0) (x := Str.ofString "ranked") (y := Str.ofString "over") (by rw [g.k]; rfl) (by rw [g.k]; rfl) (by intro _ _; rfl) (by decide) (by exact .inr ⟨rfl, by decide, fun _ => rfl⟩) (by exact .inr ⟨rfl, by decide, fun _ => rfl⟩) (fun L en X => ?_)
  refine .own en (σf := []) (l := []) (fun q hq => by cases hq) (fun Y => .list .nil) (fun t ht => by cases ht) (fun b hb => own_rest (hr := ?_)) (hx := .inr ⟨rfl, by decide, _, rfl⟩)
  refine .forW (fun (r : Nat) (σ : List (Str × T)) (α : List (Addr × List T)) => σ = ([("ranked", .list (ranked.map T.str)), ("over", rowsT rows), ("ahead", .ref b)] : List (Str × T)) ∧
    α = [(b, ((aheadsI rows).take r).map T.int)]) en
    (fun _ => .range1 en.ok g.b .int (by decide) (by decide)) (fun t ht => by obtain ⟨i, _, rfl⟩ := List.mem_map.mp ht; rfl) ⟨_, fun q hq => hq, rfl, rfl⟩ ?_ ?_ (hx := .inr ⟨rfl, by decide, _, rfl⟩)
  · rintro r tt σi αi hi ⟨rfl, rfl⟩
    have hr : r < 6 := by
      have := (List.getElem?_eq_some_iff.mp hi).1
      rw [rng_length] at this
      omega
    have htt : tt = .int (r : Int) := by
      obtain ⟨h1, h2⟩ := List.getElem?_eq_some_iff.mp hi
      rw [← h2]
      simp [rng]
    subst htt
    refine ⟨[("ranked", .list (ranked.map T.str)), ("over", rowsT rows), ("ahead", .ref b), ("r", .int r)], by repeat (first | exact Put.nil | (apply Put.hit; repeat (first | exact Off.nil | apply Off.cons (by decide))) | apply Put.miss (by decide)), ?_⟩
    have big : 1000 ≤ sizeLine := by decide
    have rl : (rows.map fun r => T.list (r.map T.bool)).length ≤ sizeLine := by rw [List.length_map, hr6]; omega
    have cell : ∀ {C' : Cx} {Y : List Addr} {σ' : List (Str × T)} {e1 e2 e3 : Expr} {q1 q2 : Pos} {i j : Nat} (h1 : EvE C' Y σ' e1 (rowsT rows)) (h2 : EvE C' Y σ' e2 (.int i)) (h3 : EvE C' Y σ' e3 (.int j)) (hi : i < 6) (hj : j < (rows[i]?.getD []).length) (hsm : (rows[i]?.getD []).length ≤ 6)
        (s1 : ∀ a u, subscripted e2 false (.ref a) (.int i u) = operate [.ref a, .int i u] (getItem (.ref a) (.int i u))) (s2 : ∀ a u, subscripted e3 false (.ref a) (.int j u) = operate [.ref a, .int j u] (getItem (.ref a) (.int j u))),
        EvE C' Y σ' (.Subscript (.Subscript e1 e2 q1) e3 q2) (.bool (ovr rows i j)) := fun h1 h2 h3 hi hj hsm s1 s2 =>
      .item (.item (t := .list ((rows[_]?.getD []).map T.bool)) h1 h2 (Int.natCast_nonneg _) (by rw [Int.toNat_natCast]; exact row_get (by omega)) rl s1) h3 (Int.natCast_nonneg _) (by rw [Int.toNat_natCast]; exact bit_get hj) (by rw [List.length_map]; omega) s2
    refine .compU (ts := rng 0 ((r : Int) - 0).toNat) (keepIf fun a => !ovr rows r a) [("over", rowsT rows), ("r", .int r)] en (us := lesserOf rows r) (hus := rfl) (hit := fun _ => .range1 en.ok g.b (nm en) (by omega) (by omega)) (htest := ?_) (helt := ?_) (hsz := by rw [rng_length]; omega) (hr := ?_)
    · intro L Y' t ek ht
      obtain ⟨a, ha, rfl⟩ := mem_rng ht
      refine (EvTs.one (.not (.of (cell (i := r) (j := a) (nm' ek) (nm' ek) ((nm' ek).cast (by simp)) hr (hrows r a (by omega) hr) (hsm r hr) (by intro _ _; rfl) (by intro _ _; rfl)) .bool))).cast ?_
      simp [keepIf]
      cases ovr rows r a <;> rfl
    · intro L Y' t u ek ht hf
      rw [keepIf_some hf]
      exact nm' ek
    refine .compU (ts := rng ((r : Int) + 1) (6 - ((r : Int) + 1)).toNat) (keepIf fun b => ovr rows b r) [("over", rowsT rows), ("r", .int r)] en (us := greaterOf rows r) (hus := rfl) (hit := fun _ => .range2 en.ok g.b (.bin (nm en) .int .add_int) .int (by omega) (by omega) (by omega) (by omega)) (htest := ?_) (helt := ?_) (hsz := by rw [rng_length]; omega) (hr := ?_)
    · intro L Y' t ek ht
      obtain ⟨c, hc, rfl⟩ := mem_rng ht
      have e1 : (r : Int) + 1 + c = ((r + 1 + c : Nat) : Int) := by omega
      rw [e1]
      have h6 : r + 1 + c < 6 := by omega
      refine (EvTs.one (.of (cell (i := r + 1 + c) (j := r) (nm' ek) (nm' ek) (nm' ek) h6 (hrows _ _ (by omega) h6) (hsm _ h6) (by intro _ _; rfl) (by intro _ _; rfl)) .bool)).cast ?_
      show _ = (if ovr rows ((r + 1 + c : Nat) : Int).toNat r = true then some (T.int ((r + 1 + c : Nat) : Int)) else none).isSome
      rw [Int.toNat_natCast]
      cases ovr rows (r + 1 + c) r <;> rfl
    · intro L Y' t u ek ht hf
      rw [keepIf_some hf]
      exact nm' ek
    have hl1 : (lesserOf rows r).length ≤ 6 := Nat.le_trans (List.length_filterMap_le _ _) (by rw [rng_length]; omega)
    have hl2 : (greaterOf rows r).length ≤ 6 := Nat.le_trans (List.length_filterMap_le _ _) (by rw [rng_length]; omega)
    have hat : (aheadsI rows)[r]? = some ((aheadOf rows r : Nat) : Int) := by
      unfold aheadsI aheads
      rw [List.map_map, List.getElem?_map, List.getElem?_range hr]; rfl
    refine .append (t := .int ((aheadOf rows r : Nat) : Int)) en rfl (by repeat (first | exact List.Mem.head _ | apply List.Mem.tail)) .hit .refl ((EvE.bin (.len_list en g.b (nm en) (by omega)) (.len_list en g.b (nm en) (by omega)) .add_int).cast (by unfold aheadOf; rw [Int.natCast_add])) rfl (by rw [List.length_map, List.length_take]; omega) (pl := _) (hr := .nil ⟨_, fun q hq => ?_, rfl, ?_⟩)
    · simp only [List.mem_cons, List.not_mem_nil, or_false] at hq ⊢
      rcases hq with rfl | rfl | rfl <;> simp
    · rw [List.take_add_one, hat]; simp
  · rintro σn αn ⟨rfl, rfl⟩
    have hal : (aheadsI rows).length = 6 := by simp [aheadsI, aheads]
    rw [rng_length, List.take_of_length_le (by rw [hal]; decide)]
    refine .disown (σ' := ([("ranked", .list (ranked.map T.str)), ("over", rowsT rows), ("ahead", .list ((aheadsI rows).map T.int))] : List (Str × T))) (α₁ := []) rfl (x := Str.ofString "ahead") (by repeat (first | exact List.Mem.head _ | apply List.Mem.tail)) (fun q hq => by
      simp only [List.mem_cons, List.not_mem_nil, or_false] at hq ⊢
      rcases hq with rfl | rfl | rfl <;> simp) ?_
    have big : 1000 ≤ sizeLine := by decide
    refine .ret (fun Y => (EvE.comp (ts := rng 0 ((6 : Int) - 0).toNat) (pickK ranked rows) [("ranked", .list (ranked.map T.str)), ("ahead", .list ((aheadsI rows).map T.int))] en.ok (hit := .range1 en.ok g.b .int (by decide) (by decide)) (htest := fun L Y' t ek ht => EvTs.nil.cast ?_) (helt := ?_) (hsz := by rw [rng_length]; decide)).cast ?_) rfl
    · obtain ⟨a, ha, rfl⟩ := mem_rng ht; rfl
    · intro L Y' t u ek ht hf
      obtain ⟨k, hk6, rfl⟩ := mem_rng ht
      have e0 : (0 : Int) + k = (k : Int) := by omega
      rw [e0] at hf ⊢
      have hk6' : k < 6 := by simpa using hk6
      have hm := hperm k hk6'
      have hidx : (aheads rows).idxOf k < (aheads rows).length := List.idxOf_lt_length_of_mem hm
      have hidx6 : (aheads rows).idxOf k < 6 := by simpa [aheads] using hidx
      cases hf
      refine .item (t := .str (ranked[(aheads rows).idxOf k]?.getD ⟨#[]⟩)) (nm' ek) (.lmeth _ (nm' ek) F.slot_list_index F.type_list_index (.cons (nm' ek) .nil) (.list_index_int (j := (aheads rows).idxOf k) ?_ ?_ (by omega))) (Int.natCast_nonneg _) ?_ (by rw [List.length_map]; omega)
      · unfold aheadsI
        rw [List.getElem?_map, List.getElem?_eq_getElem hidx, List.getElem_idxOf]; rfl
      · intro i hi e
        unfold aheadsI at e
        rw [List.getElem?_map, List.getElem?_eq_getElem (by omega)] at e
        have e3 : (((aheads rows)[i] : Nat) : Int) = (k : Int) := by simpa using e
        have e2 : (aheads rows)[i] = k := by omega
        have := List.not_of_lt_findIdx (p := (· == k)) (xs := aheads rows) (i := i) hi
        simp [e2] at this
      · rw [Int.toNat_natCast, List.getElem?_map, List.getElem?_eq_getElem (by omega)]; rfl
    · congr 1
end
end Mine
end

-- F9
section
open PySem PySem.W PyProof.Rows PySem.Calls PySem.Spec
set_option maxRecDepth 100000
set_option maxHeartbeats 8000000
namespace Mine
open PySem (Expr)

noncomputable def ifNot (b : Bool) : T → Option T
  | .bool c => if c = b then none else some (.bool c)
  | _ => none
theorem ifNot_empty (b : Bool) : ∀ l : List Bool, ((l.map T.bool).filterMap (ifNot b)).isEmpty = l.all (fun c => c == b)
  | [] => rfl
  | c :: l => by
    rw [List.map_cons, List.filterMap_cons, List.all_cons, ← ifNot_empty b l]
    cases c <;> cases b <;> simp [ifNot]
theorem RepL.take' {X : List Addr} {h : Heap} : ∀ {l : List T} {vs : List Value} (k : Nat), RepL X h l vs → RepL X h (l.take k) (vs.take k)
  | _, _, 0, _ => by rw [List.take_zero, List.take_zero]; exact .empty
  | [], _, k + 1, r => by rw [r.nil']; exact .empty
  | t :: l, _, k + 1, r => by obtain ⟨v, q, rfl, r1, r2⟩ := r.cons'; exact .cons r1 (RepL.take' k r2)
theorem RepL.drop' {X : List Addr} {h : Heap} : ∀ {l : List T} {vs : List Value} (k : Nat), RepL X h l vs → RepL X h (l.drop k) (vs.drop k)
  | _, _, 0, r => r
  | [], _, k + 1, r => by rw [r.nil']; exact .empty
  | t :: l, _, k + 1, r => by obtain ⟨v, q, rfl, r1, r2⟩ := r.cons'; exact RepL.drop' k r2
theorem OpR.eq_list0 {C : Cx} {X : List Addr} {l : List T} (hf : l.all T.flat1 = true) : OpR C X (compareOp .Eq) (.list l) (.list []) (.bool l.isEmpty) := by
  cases l with
  | nil => exact .eq_list (by rfl)
  | cons a l => exact .eq_list_len (by simp)
section
variable {G : Cx} {p : Params} {C : Cx} {X : List Addr} {K : Out → Prop} {rest : List Stmt}
theorem em2_ (g : Gs G p) (want got : Str) (hw : want.length ≤ 1000) (hg : got.length ≤ 1000) : CallE G 1 21 [.str want, .str got] (.bool (em want got)) := by
  have big : 2000 ≤ sizeLine := by decide
  have h1 := split_len want dots
  exact em_ g want got (by omega) (by omega) (Nat.le_trans (parts_len _ _) (by omega)) (by omega) (fun x hx => by have := h1.2 x hx; omega) (fun h => split_two (by decide +kernel) h)

noncomputable def pairT (q : Str × Str) : T := .list [.str q.1, .str q.2]
noncomputable def emPair : T → Option T
  | .list [.str a, .str b] => some (.bool (em a b))
  | _ => none
noncomputable def taken4 (h i t n1 page : Str) : List (Str × Str) := [(page, page), (h ++ dots ++ i ++ dots ++ t, page), (dots ++ t ++ dots ++ h ++ dots, page ++ page), (h ++ dots ++ n1, h ++ n1)]
noncomputable def refused8 (h i t n1 page : Str) : List (Str × Str) := [(i, page), (i ++ dots ++ t, page), (h ++ dots ++ i, page), (h ++ dots ++ h ++ dots, page), (dots ++ t ++ dots ++ t, page), (dots ++ i ++ dots ++ i ++ dots, page), (t ++ dots ++ t, t), (dots ++ t ++ dots ++ i ++ dots ++ h ++ dots, page ++ page)]
noncomputable def byNames (h i t n1 page : Str) : Bool := ((taken4 h i t n1 page).all fun q => em q.1 q.2) && ((refused8 h i t n1 page).all fun q => !em q.1 q.2)

theorem byNames_ (g : Gs G p) (names : List Str) (page : Str) (h i t n1 : Str) (h0 : names[0]? = some h) (h1 : names[1]? = some n1) (h3 : names[3]? = some i) (h5 : names[5]? = some t) (hl : names.length = 6)
    (bh : h.length ≤ 6) (bi : i.length ≤ 6) (bt : t.length ≤ 6) (bn : n1.length ≤ 6) (bp : page.length ≤ 36) : CallE G 2 122 [.list (names.map T.str), .str page] (.bool (byNames h i t n1 page)) := by
  have d3 : (Str.ofString "...").length = 3 := by decide
  have big : 2000 ≤ sizeLine := by decide
  refine CallE.of2 (n := 1) (x := Str.ofString "names") (y := Str.ofString "page") (by rw [g.k]; rfl) (by rw [g.k]; rfl) (by intro _ _; rfl) (by decide) (by exact .inl rfl) (by exact .inl rfl) (fun L en X => ?_)
  have nl : (names.map T.str).length ≤ sizeLine := by rw [List.length_map, hl]; omega
  have gt : ∀ {k : Nat} {x : Str}, names[k]? = some x → (names.map T.str)[((k : Nat) : Int).toNat]? = some (.str x) := fun {k x} e => by rw [Int.toNat_natCast, List.getElem?_map, e]; rfl
  refine .three en (h1 := .item (t := .str h) (nm en) .int (by decide) (gt (k := 0) h0) nl) (h2 := .item (t := .str i) (nm en) .int (by decide) (gt (k := 3) h3) nl) (h3 := .item (t := .str t) (nm en) .int (by decide) (gt (k := 5) h5) nl) (hf1 := rfl) (hf2 := rfl) (hf3 := rfl) (hr := ?_)
  have cat : ∀ {C' : Cx} {Y : List Addr} {σ' : List (Str × T)} {e1 e2 : Expr} {q : Pos} {a b : Str}, EvE C' Y σ' e1 (.str a) → EvE C' Y σ' e2 (.str b) → a.length + b.length ≤ 1000 → EvE C' Y σ' (.BinOp e1 .Add e2 q) (.str (a ++ b)) := fun h1 h2 h3 => .bin h1 h2 (.add_str (by omega))
  have two : ∀ {C' : Cx} {Y : List Addr} {σ' : List (Str × T)} {e1 e2 : Expr} {q : Pos} {a b : Str}, EvE C' Y σ' e1 (.str a) → EvE C' Y σ' e2 (.str b) → starEach [e1, e2] C'.env = (false, eval e1 C'.env) :: starEach [e2] C'.env → starEach [e2] C'.env = (false, eval e2 C'.env) :: starEach [] C'.env → EvE C' Y σ' (.List [e1, e2] q) (pairT (a, b)) := fun h1 h2 s1 s2 => .list (.cons h1 (.cons h2 .nil (he := s2)) (he := s1)) (by simp only [List.length_cons, List.length_nil]; decide)
  refine .ownList en (fun Y => .cons (two (nm en) (nm en) rfl rfl) (.cons (two (cat (cat (cat (cat (nm en) .str ?_) (nm en) ?_) .str ?_) (nm en) ?_) (nm en) rfl rfl) (.cons (two (cat (cat (cat (cat .str (nm en) ?_) .str ?_) (nm en) ?_) .str ?_) (cat (nm en) (nm en) ?_) rfl rfl) .nil))) (by simp only [List.length_cons, List.length_nil]; decide) (fun a ha => own_rest (hr := ?_))
  all_goals first | omega | (simp only [len_append, d3]; omega) | skip
  refine .iadd en (by repeat (first | exact List.Mem.head _ | apply List.Mem.tail)) .hit (fun Y => .list (.cons (two (cat (cat (nm en) .str ?_) (.item (t := .str n1) (nm en) .int (by decide) (gt (k := 1) h1) nl) ?_) (cat (nm en) (.item (t := .str n1) (nm en) .int (by decide) (gt (k := 1) h1) nl) ?_) rfl rfl) .nil)) (by simp only [List.length_cons, List.length_nil]; decide) (hr := ?_)
  all_goals first | omega | (simp only [len_append, d3]; omega) | skip
  refine .ownList en (fun Y => .cons (two (nm en) (nm en) rfl rfl) (.cons (two (cat (cat (nm en) .str ?_) (nm en) ?_) (nm en) rfl rfl) (.cons (two (cat (cat (nm en) .str ?_) (nm en) ?_) (nm en) rfl rfl) (.cons (two (cat (cat (cat (nm en) .str ?_) (nm en) ?_) .str ?_) (nm en) rfl rfl) .nil)))) (by simp only [List.length_cons, List.length_nil]; decide) (fun b hb => own_rest (hr := ?_))
  all_goals first | omega | (simp only [len_append, d3]; omega) | skip
  refine .iadd en (by repeat (first | exact List.Mem.head _ | apply List.Mem.tail)) .hit (fun Y => .list (.cons (two (cat (cat (cat .str (nm en) ?_) .str ?_) (nm en) ?_) (nm en) rfl rfl) (.cons (two (cat (cat (cat (cat .str (nm en) ?_) .str ?_) (nm en) ?_) .str ?_) (nm en) rfl rfl) (.cons (two (cat (cat (nm en) .str ?_) (nm en) ?_) (nm en) rfl rfl) .nil)))) (by simp only [List.length_cons, List.length_nil]; decide) (hr := ?_)
  all_goals first | omega | (simp only [len_append, d3]; omega) | skip
  refine .iadd en (by repeat (first | exact List.Mem.head _ | apply List.Mem.tail)) .hit (fun Y => .list (.cons (two (cat (cat (cat (cat (cat (cat .str (nm en) ?_) .str ?_) (nm en) ?_) .str ?_) (nm en) ?_) .str ?_) (cat (nm en) (nm en) ?_) rfl rfl) .nil)) (by simp only [List.length_cons, List.length_nil, List.length_append]; decide) (hr := ?_)
  all_goals first | omega | (simp only [len_append, d3]; omega) | skip
  refine .disown (x := Str.ofString "refused") (l := (refused8 h i t n1 page).map pairT) (σ' := ([("names", .list (names.map T.str)), ("page", .str page), ("tail", .str t), ("inner", .str i), ("head", .str h), ("taken", .ref a), ("refused", .list ((refused8 h i t n1 page).map pairT))] : List (Str × T))) (α₁ := []) rfl (by repeat (first | exact List.Mem.head _ | apply List.Mem.tail)) (fun q hq => by
    simp only [List.mem_cons, List.not_mem_nil, or_false] at hq ⊢
    rcases hq with rfl | rfl | rfl | rfl | rfl | rfl | rfl <;> simp) ?_
  refine .disown (x := Str.ofString "taken") (l := (taken4 h i t n1 page).map pairT) (σ' := ([("names", .list (names.map T.str)), ("page", .str page), ("tail", .str t), ("inner", .str i), ("head", .str h), ("taken", .list ((taken4 h i t n1 page).map pairT)), ("refused", .list ((refused8 h i t n1 page).map pairT))] : List (Str × T))) (α₁ := []) rfl (by repeat (first | exact List.Mem.head _ | apply List.Mem.tail)) (fun q hq => by
    simp only [List.mem_cons, List.not_mem_nil, or_false] at hq ⊢
    rcases hq with rfl | rfl | rfl | rfl | rfl | rfl | rfl <;> simp) ?_
  generalize hTa : taken4 h i t n1 page = Ta
  generalize hRe : refused8 h i t n1 page = Re
  have hlt : Ta.length = 4 := by rw [← hTa]; rfl
  have hlr : Re.length = 8 := by rw [← hRe]; rfl
  have hall : ∀ q, q ∈ Ta ++ Re → q.1.length ≤ 1000 ∧ q.2.length ≤ 1000 := by
    rw [← hTa, ← hRe]
    intro q hq
    have d3' : dots.length = 3 := by decide
    simp only [taken4, refused8, List.cons_append, List.nil_append, List.mem_cons, List.not_mem_nil, or_false] at hq
    rcases hq with rfl | rfl | rfl | rfl | rfl | rfl | rfl | rfl | rfl | rfl | rfl | rfl <;> (constructor <;> first | omega | (simp only [len_append, d3']; omega))
  have hmapE : ∀ l : List (Str × Str), (l.map pairT).filterMap emPair = (l.map fun q => em q.1 q.2).map T.bool := by
    intro l
    induction l with
    | nil => rfl
    | cons q l ih => rw [List.map_cons, List.filterMap_cons, List.map_cons, List.map_cons, ← ih]; rfl
  refine .lcUT (ts := (Ta ++ Re).map pairT) (us := ((Ta ++ Re).map fun q => em q.1 q.2).map T.bool) (cl := []) (σc := []) (σi := fun tr => match tr with | .list [a, b] => [("text", b), ("want", a)] | _ => []) emPair en rfl (hit := ?_) (hcl := rfl) (hcs := fun x c e => by cases e) (hkind := rfl) (hnames := by decide) (hrd := fun L Y' h r => ⟨fun p hp => by cases hp⟩) (hasg := ?_) (htest := ?_) (helt := ?_) (hsz := by rw [List.length_map, List.length_append, hlt, hlr]; decide) (hus := hmapE _) (hr := ?_) (hp := by repeat (first | exact Put.nil | (apply Put.hit; repeat (first | exact Off.nil | apply Off.cons (by decide))) | apply Put.miss (by decide))) (hy := .inl rfl) (hs := by intro _; rfl)
  · exact fun Y => .list ((EvE.bin (nm en) (nm en) (.add_list (by rw [List.length_map, List.length_map, hlt, hlr]; decide))).cast (by rw [List.map_append]))
  · intro L Y' tt htt
    obtain ⟨q, hq, rfl⟩ := List.mem_map.mp htt
    refine AsgR.pair (σ1 := [("want", .str q.1)]) rfl rfl (.name rfl (.inl rfl) (fun p hp => .inl (by simpa using hp))) (.name rfl (.inl rfl) (fun p hp => ?_)) rfl
    have hp' : p ∈ ([("text", .str q.2), ("want", .str q.1)] : List (Str × T)) := hp
    simp only [List.mem_cons, List.not_mem_nil, or_false] at hp'
    rcases hp' with rfl | rfl
    · exact .inl rfl
    · exact .inr ⟨.head _, by show Str.ofString "want" ≠ Str.ofString "text"; decide⟩
  · intro L Y' tt ek htt
    obtain ⟨q, hq, rfl⟩ := List.mem_map.mp htt
    exact EvTs.nil
  · intro L Y' tt u ek htt hf
    obtain ⟨q, hq, rfl⟩ := List.mem_map.mp htt
    have hu : u = .bool (em q.1 q.2) := by cases hf; rfl
    subst hu
    have hb := hall q hq
    exact .call ek g.f (.cons (nm' ek) (.cons (nm' ek) .nil)) (em2_ g q.1 q.2 hb.1 hb.2).at (Nat.le_refl 1)
  generalize hM : ((Ta ++ Re).map fun q => em q.1 q.2) = M
  have hml : M.length = 12 := by rw [← hM, List.length_map, List.length_append, hlt, hlr]
  have fl : ∀ l : List Bool, (l.map T.bool).all T.flat1 = true := fun l => by rw [List.all_eq_true]; intro x hx; obtain ⟨b, _, rfl⟩ := List.mem_map.mp hx; rfl
  have flf : ∀ (b : Bool) (l : List Bool), ((l.map T.bool).filterMap (ifNot b)).all T.flat1 = true := fun b l => by
    rw [List.all_eq_true]; intro x hx
    obtain ⟨y, hy, e⟩ := List.mem_filterMap.mp hx
    obtain ⟨c, _, rfl⟩ := List.mem_map.mp hy
    simp only [ifNot] at e
    split at e
    · cases e
    · cases e; rfl
  refine .ret (fun Y => (EvE.and2 (b := ((((M.take 4).map T.bool).filterMap (ifNot true)).isEmpty)) (c := ((((M.drop 4).map T.bool).filterMap (ifNot false)).isEmpty)) (.cmp (.comp (ts := (M.take 4).map T.bool) (ifNot true) [] en.ok (hit := .list ?_) (htest := ?_) (helt := ?_) (hsz := ?_)) (.list .nil) (.eq_list0 (flf _ _))) (fun _ => .cmp (.comp (ts := (M.drop 4).map T.bool) (ifNot false) [] en.ok (hit := .list ?_) (htest := ?_) (helt := ?_) (hsz := ?_)) (.list .nil) (.eq_list0 (flf _ _)))).cast ?_) rfl
  · refine .sliceL (nm en) .none (.some .int) (by rw [List.length_map, hml]; decide) (fun h vs r => ?_)
    rw [show (some (4 : Int)) = some ((4 : Nat) : Int) from rfl, slicePick_upto']
    have := r.take' 4
    rw [← List.map_take] at this
    simpa using this
  · intro L Y' tt ek htt
    obtain ⟨c, _, rfl⟩ := List.mem_map.mp htt
    refine (EvTs.one (.cmp (nm' ek) .bool .isNot_bool)).cast ?_
    cases c <;> rfl
  · intro L Y' tt u ek htt hf
    obtain ⟨c, _, rfl⟩ := List.mem_map.mp htt
    have : u = .bool c := by cases c <;> cases hf; rfl
    rw [this]
    exact nm' ek
  · rw [List.length_map, List.length_take]; omega
  · refine .sliceL (nm en) (.some .int) .none (by rw [List.length_map, hml]; decide) (fun h vs r => ?_)
    rw [show (some (4 : Int)) = some ((4 : Nat) : Int) from rfl, slicePick_from']
    have := r.drop' 4
    rw [← List.map_drop] at this
    simpa using this
  · intro L Y' tt ek htt
    obtain ⟨c, _, rfl⟩ := List.mem_map.mp htt
    refine (EvTs.one (.cmp (nm' ek) .bool .isNot_bool)).cast ?_
    cases c <;> rfl
  · intro L Y' tt u ek htt hf
    obtain ⟨c, _, rfl⟩ := List.mem_map.mp htt
    have : u = .bool c := by cases c <;> cases hf; rfl
    rw [this]
    exact nm' ek
  · rw [List.length_map, List.length_drop]; omega
  · rw [ifNot_empty, ifNot_empty]
    have e4 : M.take 4 = Ta.map fun q => em q.1 q.2 := by rw [← hM, List.map_append, List.take_left' (by rw [List.length_map, hlt])]
    have e8 : M.drop 4 = Re.map fun q => em q.1 q.2 := by rw [← hM, List.map_append, List.drop_left' (by rw [List.length_map, hlt])]
    rw [e4, e8, List.all_map, List.all_map]
    unfold byNames
    rw [hTa, hRe]
    congr 1
    · congr 1
      · congr 1; funext q; simp
      · congr 1; funext q; simp
end
end Mine
end

-- P3
section
open PySem PySem.W PyProof.Rows PySem.Calls PySem.Spec
set_option maxRecDepth 100000
namespace Mine

noncomputable def sg (c : Nat) : Str := ⟨#[c]⟩
noncomputable def strOf (cs : List Nat) : Str := ⟨cs.toArray⟩
noncomputable def tabAt (w : Nat) : List (Nat × Str) := [tab0, tab1, tab2, tab3, tab4][w]?.getD []
noncomputable def cat (l : List Str) : Str := ⟨(l.flatMap fun x => x.cps.toList).toArray⟩
theorem cat_list (l : List Str) : (cat l).cps.toList = l.flatMap fun x => x.cps.toList := by simp [cat]
theorem cat_append (l m : List Str) : cat (l ++ m) = cat l ++ cat m := by
  apply ext_list
  rw [PySem.Str.cps_append, Array.toList_append, cat_list, cat_list, cat_list, List.flatMap_append]
theorem cat_cons (x : Str) (m : List Str) : cat (x :: m) = x ++ cat m := by
  apply ext_list
  rw [PySem.Str.cps_append, Array.toList_append, cat_list, cat_list, List.flatMap_cons]
theorem join_empty : ∀ l : List Str, (Str.join (Str.ofString "") l).cps.toList = l.flatMap fun x => x.cps.toList
  | [] => rfl
  | [x] => by simp [Str.join]
  | x :: y :: r => by
    rw [List.flatMap_cons]
    show (x ++ Str.ofString "" ++ Str.join (Str.ofString "") (y :: r)).cps.toList = _
    rw [PySem.Str.cps_append, PySem.Str.cps_append, Array.toList_append, Array.toList_append, join_empty (y :: r)]
    show x.cps.toList ++ [] ++ _ = _
    rw [List.append_nil]
theorem join_cat (l : List Str) : Txt.join (Str.ofString "") l = cat l := by
  unfold Txt.join
  rw [StrLaws.glued_eq_join]
  apply ext_list
  rw [join_empty l, cat_list]
theorem cat_sg (cs : List Nat) : cat (cs.map sg) = strOf cs := by
  apply ext_list
  rw [cat_list]
  show _ = cs
  induction cs with
  | nil => rfl
  | cons c cs ih => rw [List.map_cons, List.flatMap_cons, ih]; rfl

/-- what becomes of one sign -/
noncomputable def escL : List (Nat × Str) → Nat → List Nat
  | [], c => [c]
  | q :: l, c => (if c = q.1 then q.2.cps.toList else [c]).flatMap (escL l)
theorem esc_list : ∀ (l : List (Nat × Str)) (x : Str), (esc l x).cps.toList = x.cps.toList.flatMap (escL l)
  | [], x => by
    show x.cps.toList = _
    induction x.cps.toList with
    | nil => rfl
    | cons c r ih => rw [List.flatMap_cons, ← ih]; rfl
  | q :: l, x => by
    show (esc l (sub1 q.1 q.2 x)).cps.toList = _
    rw [esc_list l, sub1_list, List.flatMap_assoc]
    rfl
/-- the signs of the law -/
noncomputable def Sign (c : Nat) : Prop := c ∈ signs7 ∨ 256 ≤ c
theorem escL_spell {w c : Nat} (hw : w < 5) (hc : Sign c) : escL (tabAt w) c = (spell c w).cps.toList := by
  rcases hc with hc | hc
  · have : ∀ w, w < 5 → ∀ c, c ∈ signs7 → escL (tabAt w) c = (spell c w).cps.toList := by decide +kernel
    exact this w hw c hc
  · have h1 : ∀ (l : List (Nat × Str)), (∀ q, q ∈ l → q.1 < 256) → escL l c = [c] := by
      intro l
      induction l with
      | nil => intro _; rfl
      | cons q l ih =>
        intro h
        have hq := h q (.head _)
        have hne : ¬ c = q.1 := by omega
        show (if c = q.1 then q.2.cps.toList else [c]).flatMap (escL l) = _
        rw [if_neg hne, List.flatMap_cons, List.flatMap_nil, ih fun q m => h q (.tail _ m), List.append_nil]
    have h2 : ∀ w, w < 5 → ∀ q, q ∈ tabAt w → q.1 < 256 := by decide
    have h3 : ∀ w, w < 5 → ∀ d, d ∈ (tabS w).cps.toList → d < 256 := by decide +kernel
    rw [h1 _ (h2 w hw)]
    have : c ∉ (tabS w).cps.toList := fun m => by have := h3 w hw c m; omega
    rw [show spell c w = ⟨#[c]⟩ from if_neg this]
theorem esc_spell {w : Nat} (hw : w < 5) (cs : List Nat) (hc : ∀ c, c ∈ cs → Sign c) : esc (tabAt w) (strOf cs) = cat (cs.map fun c => spell c w) := by
  apply ext_list
  rw [esc_list, cat_list]
  show cs.flatMap _ = _
  induction cs with
  | nil => rfl
  | cons c cs ih =>
    rw [List.flatMap_cons, List.map_cons, List.flatMap_cons, ih fun c m => hc c (.tail _ m), escL_spell hw (hc c (.head _))]
end Mine
end

-- F10
section
open PySem PySem.W PyProof.Rows PySem.Calls PySem.Spec
set_option maxRecDepth 100000
set_option maxHeartbeats 8000000
namespace Mine
open PySem (Expr)

/- the values of the law -/
noncomputable def wOf (cs : List Int) : Nat := (Int.fmod (cs[0]?.getD 0) 5).toNat
noncomputable def strangeOf (cs : List Int) : Nat := (256 + Int.fmod (Int.fdiv (cs[0]?.getD 0) 5) 55000).toNat
noncomputable def everyOf (cs : List Int) : List Nat := [38, 60, 62, 34, 13, 9, strangeOf cs, 10]
noncomputable def signsOf (cs : List Int) : List Nat := if wOf cs = 1 ∨ wOf cs = 4 then everyOf cs else (everyOf cs).take 7
noncomputable def pickAt (cs : List Int) (k : Nat) (S : List Nat) : Nat := (Int.fmod (cs[k]?.getD 0) S.length).toNat
noncomputable def pickRun (cs : List Int) : Nat → List Nat × List Nat
  | 0 => (signsOf cs, [])
  | k + 1 => let st := pickRun cs k; (st.1.eraseIdx (pickAt cs (k + 1) st.1), st.2 ++ [st.1[pickAt cs (k + 1) st.1]?.getD 0])
noncomputable def rowOf (cs : List Int) : List Nat := (pickRun cs 6).2
noncomputable def escAt (w : Nat) : Addr := [56, 63, 70, 77, 84][w]?.getD 0

section
variable {G : Cx} {p : Params} {C : Cx} {X : List Addr} {K : Out → Prop} {rest : List Stmt}
theorem fmod_lt {a : Int} {n : Nat} (hn : 0 < n) : 0 ≤ Int.fmod a n ∧ Int.fmod a n < n := by
  rw [Int.fmod_eq_emod_of_nonneg _ (Int.natCast_nonneg n)]
  have : (0 : Int) < n := by omega
  exact ⟨Int.emod_nonneg _ (by omega), Int.emod_lt_of_pos _ this⟩
theorem escAt_ (g : Gs G p) (w : Nat) (hw : w < 5) (m : Str) (h1t : 1 ≤ G.t0) (hm : m.length ≤ 16) : CallE G 1 (escAt w) [.str m] (.str (esc (tabAt w) m)) := by
  rcases w_cases hw with rfl | rfl | rfl | rfl | rfl
  · exact esc0_ g m h1t hm
  · exact esc1_ g m h1t hm
  · exact esc2_ g m h1t hm
  · exact esc3_ g m h1t hm
  · exact esc4_ g m h1t hm
theorem escFn (w : Nat) (hw : w < 5) : ∃ o fd, (hd.heap_39 p).lookup (escAt w) = some o ∧ o.data = .func fd := by
  rcases w_cases hw with rfl | rfl | rfl | rfl | rfl
  all_goals exact ⟨_, _, rfl, rfl⟩
theorem EvE.glob' (g : Gs G p) {n : Nat} {env : Env} (en : EnvC (G.at' n env)) {x : Str} {a : Addr} {pos : Pos} {Y : List Addr} {σ : List (Str × T)} (hk : env.kindOf x = some .globalImplicit := by rfl) (hn : nsIn (hd.heap_39 p) mainGlobals x = some (some (.ref a)) := by rfl) (hdb : (x == ("__debug__" : Str)) = false := by decide) :
    EvE (G.at' n env) Y σ (.Name x pos) (.ref a) := .glob (v := .ref a) en.ok.kind en.ok.glob hk (g.fn _ _ hn) (fun _ => .mkRef) hdb

noncomputable def bodyOf (K : Frag) (a : Addr) : List Stmt := match K.lookup a with
  | some ⟨_, _, .func fd, _⟩ => (match fd.body with | .stmts b => b | _ => [])
  | _ => []
noncomputable def scopeOf (K : Frag) (a : Addr) (s : Scope) : Scope := match K.lookup a with
  | some ⟨_, _, .func fd, _⟩ => fd.scope
  | _ => s
/-- the body but for its last two statements -/
noncomputable def bodyA (K : Frag) (a : Addr) : List Stmt := (bodyOf K a).take 25
theorem body_aux {G : Cx} {K : Frag} {n k : Nat} {f L a : Addr} {cd : Value} {X : List Addr} {σ : List (Str × T)} {P : Out → Prop} {body rest : List Stmt} {oc : Value} {od : Option Addr} {osl : Array (Option Value)} {name qual nm : Str} {params : Arguments} {scope sc0 : Scope} {dV kV doc pm cdv ct : Value} {an : Option Addr}
    (ho : K.lookup f = some ⟨oc, od, .func (fnOf name qual params body scope dV kV doc pm an cdv ct), osl⟩) (hk : (body.take 25).drop k = rest) (h : ExL (G.at' n (envOfC nm scope L a cd)) X σ [] rest P) :
    ExL (G.at' n (envOfC nm (scopeOf K f sc0) L a cd)) X σ [] ((bodyA K f).drop k) P := by
  have e1 : scopeOf K f sc0 = scope := by unfold scopeOf; rw [ho]
  have e2 : bodyOf K f = body := by unfold bodyOf; rw [ho]
  unfold bodyA
  rw [e1, e2, hk]; exact h
theorem env_aux {G : Cx} {K : Frag} {n : Nat} {f L a : Addr} {cd : Value} {oc : Value} {od : Option Addr} {osl : Array (Option Value)} {name qual nm : Str} {params : Arguments} {body : List Stmt} {scope sc0 : Scope} {dV kV doc pm cdv ct : Value} {an : Option Addr}
    (ho : K.lookup f = some ⟨oc, od, .func (fnOf name qual params body scope dV kV doc pm an cdv ct), osl⟩) (h : EnvC (G.at' n (envOfC nm (scopeOf K f sc0) L a cd))) : EnvC (G.at' n (envOfC nm scope L a cd)) := by
  have e1 : scopeOf K f sc0 = scope := by unfold scopeOf; rw [ho]
  rw [e1] at h; exact h

/-- what is known of the signs in the row -/
structure RowOk (w : Nat) (R : List Nat) : Prop where
  w5 : w < 5
  len : R.length = 6
  nd : R.Nodup
  sign : ∀ c, c ∈ R → Sign c
  nl : 10 ∈ R → w = 1 ∨ w = 4
  hi : ∀ c, c ∈ R → c < 60000
noncomputable def namesOf (w : Nat) (R : List Nat) : List Str := R.map fun c => spell c w
noncomputable def spellT (w : Nat) : T → Option T
  | .str x => some (.str (spell (x.cps[0]?.getD 0) w))
  | _ => none
theorem spell_len (c w : Nat) : (spell c w).length ≤ 6 := by
  unfold spell
  split
  · rw [len_append, len_append, show (Str.ofString "&").length = 1 by decide, show (Str.ofString ";").length = 1 by decide]
    have := nameS_len (placeOf c w)
    omega
  · show 1 ≤ 6; omega
theorem cat_len (l : List Str) : (cat l).length = (l.map (·.length)).sum := by
  rw [← len_list, cat_list]
  induction l with
  | nil => rfl
  | cons x l ih => rw [List.flatMap_cons, List.length_append, len_list, ih]; simp
theorem sum_le (n : Nat) : ∀ l : List Nat, (∀ x, x ∈ l → x ≤ n) → l.sum ≤ n * l.length
  | [], _ => by simp
  | x :: l, h => by
    have h1 := h x (.head _)
    have h2 := sum_le n l fun y m => h y (.tail _ m)
    rw [List.sum_cons, List.length_cons, Nat.mul_succ]; omega
theorem names_len (w : Nat) (R : List Nat) : ∀ x, x ∈ namesOf w R → x.length ≤ 6 := fun x hx => by
  obtain ⟨c, _, rfl⟩ := List.mem_map.mp hx; exact spell_len c w
theorem cat_len6 {l : List Str} (h : ∀ x, x ∈ l → x.length ≤ 6) : (cat l).length ≤ 6 * l.length := by
  rw [cat_len]
  have := sum_le 6 (l.map (·.length)) (fun n hn => by obtain ⟨x, hx, rfl⟩ := List.mem_map.mp hn; exact h x hx)
  rwa [List.length_map] at this

theorem law_body2 (g : Gs G p) (h1t : 1 ≤ G.t0) (w : Nat) (R E : List Nat) (ok : RowOk w R) (hE : ∀ c, c ∈ E → Sign c) (hEl : E.length = 8) (L a : Addr) (cd : Value) (sc0 : Scope) (en0 : EnvC (G.at' 6 (envOfC (Str.ofString "law") (scopeOf (hd.heap_39 p) 134 sc0) L a cd)))
    (hnext : ExL (G.at' 6 (envOfC (Str.ofString "law") (scopeOf (hd.heap_39 p) 134 sc0) L a cd)) [] [(Str.ofString "which", .int w), (Str.ofString "names", .list ((namesOf w R).map T.str)), (Str.ofString "page", .str (cat (namesOf w R)))] [] ((bodyA (hd.heap_39 p) 134).drop 11) K) :
    ExL (G.at' 6 (envOfC (Str.ofString "law") (scopeOf (hd.heap_39 p) 134 sc0) L a cd)) [] [(Str.ofString "which", .int w), (Str.ofString "escape", .ref (escAt w)), (Str.ofString "every", .str (strOf E)), (Str.ofString "row", .list ((R.map sg).map T.str))] [] ((bodyA (hd.heap_39 p) 134).drop 8) K := by
  refine body_aux (by rfl) (by rfl) ?_
  have en := env_aux (by rfl) en0
  have hw := ok.w5
  have big : 100000 ≤ sizeLine := by decide
  have hsp : ∀ l : List Nat, ((l.map sg).map T.str).filterMap (spellT w) = (l.map fun c => spell c w).map T.str := by
    intro l
    induction l with
    | nil => rfl
    | cons c l ih => rw [List.map_cons, List.map_cons, List.filterMap_cons, List.map_cons, List.map_cons, ← ih]; rfl
  refine .let_ en (t := .list ((namesOf w R).map T.str)) (h := fun Y => (EvE.comp (ts := (R.map sg).map T.str) (spellT w) [("which", .int w)] en.ok (hit := .list (nm en)) (htest := ?_) (helt := ?_) (hsz := by rw [List.length_map, List.length_map, ok.len]; omega)).cast (congrArg T.list (hsp R))) (hr := ?_) (hx := .inr ⟨rfl, by decide, _, rfl⟩)
  · intro L Y' t ek ht
    rw [List.map_map] at ht
    obtain ⟨c, _, rfl⟩ := List.mem_map.mp ht
    exact EvTs.nil
  · intro L Y' t u ek ht hf
    rw [List.map_map] at ht
    obtain ⟨c, _, rfl⟩ := List.mem_map.mp ht
    cases hf
    exact .call ek g.f (.cons (nm' ek) (.cons (nm' ek) .nil)) (spell_ g c w hw).at (by show 1 ≤ 6; omega)
  have hn6 := names_len w R
  have hnl : (namesOf w R).length = 6 := by rw [namesOf, List.length_map, ok.len]
  have hfn : ∃ o fd, G.K.lookup (escAt w) = some o ∧ o.data = .func fd := by rw [g.k]; exact escFn w hw
  have hj1 : JoinOk (Str.ofString "") (R.map sg) = true := joinOk_of (by
    have := sum_le 1 ((R.map sg).map (·.length)) (fun n hn => by simp only [List.map_map] at hn; obtain ⟨c, _, rfl⟩ := List.mem_map.mp hn; exact Nat.le_refl 1)
    rw [List.length_map, List.length_map, ok.len] at this
    rw [show (Str.ofString "").length = 0 by decide]; omega)
  have hj2 : ∀ l : List Nat, l.length ≤ 16 → JoinOk (Str.ofString "") (l.map fun c => spell c w) = true := fun l hl => joinOk_of (by
    have := sum_le 6 ((l.map fun c => spell c w).map (·.length)) (fun n hn => by simp only [List.map_map] at hn; obtain ⟨c, _, rfl⟩ := List.mem_map.mp hn; exact spell_len c w)
    rw [List.length_map, List.length_map] at this
    rw [show (Str.ofString "").length = 0 by decide]; omega)
  have hRl : (strOf R).length = 6 := ok.len
  have hpg : esc (tabAt w) (Txt.join (Str.ofString "") (R.map sg)) = cat (namesOf w R) := by
    rw [join_cat, cat_sg, esc_spell hw R ok.sign]; rfl
  refine .let_ en (t := .str (cat (namesOf w R))) (h := fun Y => (EvE.callV (f := escAt w) en.ok hfn (nm en) (.cons (.methC F.slot_str_join F.type_str_join (.cons (nm en) .nil) (.join hj1)) .nil) (escAt_ g w hw (Txt.join (Str.ofString "") (R.map sg)) h1t (by rw [join_cat, cat_sg, hRl]; omega)).at (by show 1 ≤ 6; omega)).cast (congrArg T.str hpg)) (hr := ?_)
  have hEE : (strOf E ++ strOf E) = strOf (E ++ E) := by apply ext_list; rw [PySem.Str.cps_append, Array.toList_append]; rfl
  have hEEl : (E ++ E).length = 16 := by rw [List.length_append, hEl]
  have hEEs : ∀ c, c ∈ E ++ E → Sign c := fun c m => by rcases List.mem_append.mp m with m | m <;> exact hE c m
  have add : ∀ {C' : Cx} {Y : List Addr} {σ : List (Str × T)} {e1 e2 : Expr} {q : Pos}, EvE C' Y σ e1 (.str (strOf E)) → EvE C' Y σ e2 (.str (strOf E)) → EvE C' Y σ (.BinOp e1 .Add e2 q) (.str (strOf (E ++ E))) := fun h1 h2 => (EvE.bin h1 h2 (.add_str (by show E.length + E.length ≤ _; omega))).cast (congrArg T.str hEE)
  refine .ite (b := false) (h := (EvB.or (.cmp (nm en) (.methC F.slot_str_join F.type_str_join (.cons (nm en) .nil) (.join (hj2 R (by rw [ok.len]; omega)))) .ne_str) (fun _ => .or (.cmp (.callV (f := escAt w) en.ok hfn (nm en) (.cons (add (nm en) (nm en)) .nil) (escAt_ g w hw (strOf (E ++ E)) h1t (by show (E ++ E).length ≤ _; omega)).at (by show 1 ≤ 6; omega)) (.methC (ts := [.list (((E ++ E).map fun c => spell c w).map T.str)]) F.slot_str_join F.type_str_join (.cons ((EvE.comp (ts := (strOf (E ++ E)).cps.toList.map fun c => T.str ⟨#[c]⟩) (spellT w) [("which", .int w)] en.ok (hit := .str (add (nm en) (nm en))) (htest := ?_) (helt := ?_) (hsz := ?_)).cast (congrArg T.list ?_)) .nil) (.join (hj2 (E ++ E) (by omega)))) .ne_str) (fun _ => .or_nil))).cast ?_) (fun hb => by cases hb) (fun _ => .nil ?_)
  · intro L Y' t ek ht
    obtain ⟨c, _, rfl⟩ := List.mem_map.mp ht
    exact EvTs.nil
  · intro L Y' t u ek ht hf
    obtain ⟨c, _, rfl⟩ := List.mem_map.mp ht
    cases hf
    exact .call ek g.f (.cons (nm' ek) (.cons (nm' ek) .nil)) (spell_ g c w hw).at (by show 1 ≤ 6; omega)
  · rw [List.length_map]; show (E ++ E).length ≤ _; omega
  · rw [← hsp (E ++ E), List.map_map]; rfl
  · rw [join_cat, join_cat, esc_spell hw _ hEEs]
    show (cat (namesOf w R) != cat (namesOf w R) || (cat _ != cat _ || false)) = false
    simp
  refine .weak (σ' := ([("which", .int w), ("names", .list ((namesOf w R).map T.str)), ("page", .str (cat (namesOf w R)))] : List (Str × T))) (fun q hq => ?_) ?_
  · simp only [List.mem_cons, List.not_mem_nil, or_false] at hq ⊢
    rcases hq with rfl | rfl | rfl <;> simp
  exact hnext

theorem strange_hi (cs : List Int) : 256 ≤ strangeOf cs ∧ strangeOf cs < 60000 := by
  have hz : 0 ≤ Int.fmod (Int.fdiv (cs[0]?.getD 0) 5) 55000 ∧ Int.fmod (Int.fdiv (cs[0]?.getD 0) 5) 55000 < 55000 := fmod_lt (n := 55000) (by omega)
  unfold strangeOf
  omega
theorem every_sign (cs : List Int) : ∀ c, c ∈ everyOf cs → Sign c := fun c hc => by
  have := (strange_hi cs).1
  simp only [everyOf, List.mem_cons, List.not_mem_nil, or_false] at hc
  rcases hc with rfl | rfl | rfl | rfl | rfl | rfl | rfl | rfl
  all_goals first | exact .inl (by decide) | exact .inr this
theorem cons_erase_perm : ∀ (S : List Nat) (i : Nat) (h : i < S.length), (S[i] :: S.eraseIdx i).Perm S
  | a :: S, 0, _ => List.Perm.refl _
  | a :: S, i + 1, h => (List.Perm.swap a (S[i]'(Nat.lt_of_succ_lt_succ h)) (S.eraseIdx i)).trans (List.Perm.cons a (cons_erase_perm S i (Nat.lt_of_succ_lt_succ h)))
theorem pick_perm (cs : List Int) : ∀ k, k ≤ 6 → ((pickRun cs k).1 ++ (pickRun cs k).2).Perm (signsOf cs) ∧ (pickRun cs k).1.length + k = (signsOf cs).length ∧ (pickRun cs k).2.length = k := by
  have hsl : 7 ≤ (signsOf cs).length := by
    unfold signsOf
    split
    · exact Nat.le_succ 7
    · exact Nat.le_refl 7
  intro k
  induction k with
  | zero => exact fun _ => ⟨by rw [show (pickRun cs 0) = (signsOf cs, []) from rfl, List.append_nil], rfl, rfl⟩
  | succ k ih =>
    intro hk
    obtain ⟨h0, h1, h2⟩ := ih (by omega)
    have hS : 0 < (pickRun cs k).1.length := by omega
    have hf := fmod_lt (a := cs[k + 1]?.getD 0) hS
    have hpl : pickAt cs (k + 1) (pickRun cs k).1 < (pickRun cs k).1.length := by unfold pickAt; omega
    refine ⟨?_, ?_, by show (_ ++ [_]).length = _; rw [List.length_append, h2]; rfl⟩
    · show ((pickRun cs k).1.eraseIdx _ ++ ((pickRun cs k).2 ++ [(pickRun cs k).1[pickAt cs (k + 1) (pickRun cs k).1]?.getD 0])).Perm _
      refine List.Perm.trans ?_ h0
      rw [List.getElem?_eq_getElem hpl, Option.getD_some]
      generalize pickAt cs (k + 1) (pickRun cs k).1 = i at hpl ⊢
      generalize (pickRun cs k).1 = S at hpl ⊢
      generalize (pickRun cs k).2 = R
      have h3 : (S[i] :: S.eraseIdx i).Perm S := cons_erase_perm S i hpl
      have h4 : (S.eraseIdx i ++ (R ++ [S[i]])).Perm (S[i] :: (S.eraseIdx i ++ R)) := by
        rw [← List.append_assoc]
        exact List.perm_append_comm
      exact h4.trans (List.Perm.append_right R h3)
    · show ((pickRun cs k).1.eraseIdx _).length + (k + 1) = _
      rw [List.length_eraseIdx, if_pos hpl]
      omega
theorem row_ok (cs : List Int) (hw : wOf cs < 5) : RowOk (wOf cs) (rowOf cs) := by
  obtain ⟨h0, h1, h2⟩ := pick_perm cs 6 (Nat.le_refl 6)
  have hz := strange_hi cs
  have sub : ∀ c, c ∈ rowOf cs → c ∈ signsOf cs := fun c hc => h0.subset (List.mem_append_right _ hc)
  have hev : (everyOf cs).Nodup := by
    unfold everyOf
    simp only [List.nodup_cons, List.mem_cons, List.not_mem_nil, or_false, not_or, not_false_eq_true, List.nodup_nil, and_true]
    omega
  have snd : (signsOf cs).Nodup := by
    unfold signsOf
    split
    · exact hev
    · exact hev.sublist (List.take_sublist _ _)
  have sev : ∀ c, c ∈ signsOf cs → c ∈ everyOf cs := by
    intro c hc
    unfold signsOf at hc
    split at hc
    · exact hc
    · exact List.mem_of_mem_take hc
  refine ⟨hw, h2, (List.nodup_append.mp (h0.nodup_iff.mpr snd)).2.1, fun c hc => every_sign cs c (sev c (sub c hc)), fun hc => ?_, fun c hc => ?_⟩
  · by_cases q : wOf cs = 1 ∨ wOf cs = 4
    · exact q
    · have := sub 10 hc
      rw [show signsOf cs = (everyOf cs).take 7 from if_neg q] at this
      simp only [everyOf, List.take_succ_cons, List.take_zero, List.mem_cons, List.not_mem_nil, or_false] at this
      omega
  · have := sev c (sub c hc)
    simp only [everyOf, List.mem_cons, List.not_mem_nil, or_false] at this
    omega

theorem law_body (g : Gs G p) (h1t : 1 ≤ G.t0) (cs : List Int) (l : List Int) (hcl : cs.length = 7) (hcb : ∀ c, c ∈ cs → 0 ≤ c ∧ c < 2 ^ 40) (L a0 : Addr) (cd : Value) (sc0 : Scope) (en0 : EnvC (G.at' 6 (envOfC (Str.ofString "law") (scopeOf (hd.heap_39 p) 134 sc0) L a0 cd)))
    (hnext : ExL (G.at' 6 (envOfC (Str.ofString "law") (scopeOf (hd.heap_39 p) 134 sc0) L a0 cd)) [] [(Str.ofString "which", .int (wOf cs)), (Str.ofString "names", .list ((namesOf (wOf cs) (rowOf cs)).map T.str)), (Str.ofString "page", .str (cat (namesOf (wOf cs) (rowOf cs))))] [] ((bodyA (hd.heap_39 p) 134).drop 11) K) :
    ExL (G.at' 6 (envOfC (Str.ofString "law") (scopeOf (hd.heap_39 p) 134 sc0) L a0 cd)) [] [(Str.ofString "script", .list (l.map T.int)), (Str.ofString "cells", .list (cs.map T.int))] [] ((bodyA (hd.heap_39 p) 134).drop 1) K := by
  refine body_aux (by rfl) (by rfl) ?_
  have en := env_aux (by rfl) en0
  have c0 : cs[0]? = some (cs[0]?.getD 0) := by rw [List.getElem?_eq_getElem (by omega)]; rfl
  have b0 := hcb (cs[0]?.getD 0) (by rw [List.getElem?_eq_getElem (by omega)]; exact List.getElem_mem _)
  have csl : (cs.map T.int).length ≤ sizeLine := by rw [List.length_map, hcl]; decide
  have g0 : (cs.map T.int)[(0 : Int).toNat]? = some (.int (cs[0]?.getD 0)) := by rw [List.getElem?_map, show (0 : Int).toNat = 0 from rfl, c0]; rfl
  have hw5 : Int.fmod (cs[0]?.getD 0) 5 = (wOf cs : Int) := (Int.toNat_of_nonneg (fmod_lt (n := 5) (by omega)).1).symm
  have hw : wOf cs < 5 := by have := (fmod_lt (a := cs[0]?.getD 0) (n := 5) (by omega)).2; have h2 : Int.fmod (cs[0]?.getD 0) ((5 : Nat) : Int) = (wOf cs : Int) := hw5; omega
  refine .let_ en (h := fun Y => (EvE.bin (.item (t := .int (cs[0]?.getD 0)) (nm en) .int (by decide) g0 csl) .int (.mod_int (by decide))).cast (congrArg T.int hw5)) (hr := ?_) (hx := .inr ⟨rfl, by decide, _, rfl⟩)
  have big : 100000 ≤ sizeLine := by decide
  have hz : 0 ≤ Int.fmod (Int.fdiv (cs[0]?.getD 0) 5) 55000 ∧ Int.fmod (Int.fdiv (cs[0]?.getD 0) 5) 55000 < 55000 := fmod_lt (n := 55000) (by omega)
  refine .let_ en (t := .str (sg (strangeOf cs))) (h := fun Y => .call_b en.ok g.b (.cons (.bin .int (.bin (.bin (.item (t := .int (cs[0]?.getD 0)) (nm en) .int (by decide) g0 csl) .int (.div_int (by decide) ?_)) .int (.mod_int (by decide))) .add_int) .nil) (.chr (by omega) (by omega))) (hr := ?_)
  · unfold PySem.Builtin.divisionGoesByPylong
    dsimp only
    rw [show decide ((if ((5 : Int) == 0) = true then 0 else (5 : Int).natAbs.log2 / 30 + 1) > 300) = false by decide, Bool.false_and]
  have hesc : ([T.ref 56, T.ref 63, T.ref 70, T.ref 77, T.ref 84] : List T)[((wOf cs : Nat) : Int).toNat]? = some (.ref (escAt (wOf cs))) := by
    rw [Int.toNat_natCast]
    rcases w_cases hw with e | e | e | e | e <;> rw [e] <;> rfl
  refine .let_ en (t := .ref (escAt (wOf cs))) (h := fun Y => .item (.list (.cons (.glob' g en) (.cons (.glob' g en) (.cons (.glob' g en) (.cons (.glob' g en) (.cons (.glob' g en) .nil)))))) (nm en) (Int.natCast_nonneg _) hesc (by decide)) (hr := ?_)
  have hev : Str.ofString "&<>\"\r\t" ++ sg (strangeOf cs) ++ Str.ofString "\n" = strOf (everyOf cs) := by
    apply ext_list
    rfl
  refine .let_ en (t := .str (strOf (everyOf cs))) (h := fun Y => (EvE.bin (.bin .str (nm en) (.add_str ?_)) .str (.add_str ?_)).cast (congrArg T.str hev)) (hr := ?_)
  · show (Str.ofString "&<>\"\r\t").length + 1 ≤ _
    rw [show (Str.ofString "&<>\"\r\t").length = 6 by decide]; omega
  · rw [len_append, show (Str.ofString "&<>\"\r\t").length = 6 by decide, show (Str.ofString "\n").length = 1 by decide]
    show 6 + 1 + 1 ≤ _; omega
  have hsl : (signsOf cs).length = 7 ∨ (signsOf cs).length = 8 := by
    unfold signsOf
    split
    · exact .inr rfl
    · exact .inl rfl
  refine .own en (σf := [("every", .str (strOf (everyOf cs))), ("which", .int (wOf cs))]) (l := (signsOf cs).map fun c => T.str (sg c)) (fun q hq => ?_) (fun Y => EvE.call_t en.ok g.b (.cons (.ifexp (t := .str (strOf (signsOf cs))) (.cmp (nm en) (.list (.cons .int (.cons .int .nil))) (.in_ints (ns := [1, 4]))) (fun hb => (nm en).cast ?_) (fun hb => (EvE.sliceS (nm en) .none (.some .int) ?_).cast ?_)) .nil) (.list_str ?_)) (fun t ht => ?_) (fun a ha => own_rest (hr := ?_))
  · simp only [List.mem_cons, List.not_mem_nil, or_false] at hq
    rcases hq with rfl | rfl
    · exact ⟨by simp, rfl⟩
    · exact ⟨by simp, rfl⟩
  · have : wOf cs = 1 ∨ wOf cs = 4 := by simp at hb; omega
    rw [show signsOf cs = everyOf cs from if_pos this]
  · refine Nat.le_trans (sliceText_len _ _ _) ?_
    show 8 ≤ _; omega
  · have : ¬ (wOf cs = 1 ∨ wOf cs = 4) := by simp at hb; omega
    rw [show signsOf cs = (everyOf cs).take 7 from if_neg this]
    rw [StrLaws.sliceText_to ⟨by decide, by show (7 : Int) ≤ 8; decide⟩]
    rfl
  · show (signsOf cs).length ≤ _; omega
  · obtain ⟨c, _, rfl⟩ := List.mem_map.mp ht; rfl
  refine .own en (σf := []) (l := []) (fun q hq => by cases hq) (fun Y => .list .nil) (fun t ht => by cases ht) (fun b hb => own_rest (hr := ?_))
  have hrun : ∀ k, k ≤ 6 → (pickRun cs k).1.length + k = (signsOf cs).length ∧ (pickRun cs k).2.length = k := by
    intro k
    induction k with
    | zero => exact fun _ => ⟨rfl, rfl⟩
    | succ k ih =>
      intro hk
      obtain ⟨h1, h2⟩ := ih (by omega)
      have hS : 0 < (pickRun cs k).1.length := by omega
      have hf := fmod_lt (a := cs[k + 1]?.getD 0) hS
      have hpl : pickAt cs (k + 1) (pickRun cs k).1 < (pickRun cs k).1.length := by unfold pickAt; omega
      refine ⟨?_, by show (_ ++ [_]).length = _; rw [List.length_append, h2]; rfl⟩
      show ((pickRun cs k).1.eraseIdx _).length + (k + 1) = _
      rw [List.length_eraseIdx, if_pos hpl]
      omega
  refine .forW (fun (k : Nat) (σ : List (Str × T)) (α : List (Addr × List T)) => σ = ([("cells", .list (cs.map T.int)), ("which", .int (wOf cs)), ("escape", .ref (escAt (wOf cs))), ("every", .str (strOf (everyOf cs))), ("signs", .ref a), ("row", .ref b)] : List (Str × T)) ∧
    α = [(b, (pickRun cs k).2.map fun c => T.str (sg c)), (a, (pickRun cs k).1.map fun c => T.str (sg c))]) en
    (fun _ => .range2 en.ok g.b .int .int (by decide) (by decide) (by decide) (by decide)) (fun t ht => by obtain ⟨i, _, rfl⟩ := List.mem_map.mp ht; rfl) ⟨_, fun q hq => ?_, rfl, rfl⟩ ?_ ?_
  · simp only [List.mem_cons, List.not_mem_nil, or_false] at hq ⊢
    rcases hq with rfl | rfl | rfl | rfl | rfl | rfl <;> simp
  · rintro k tt σi αi hi ⟨rfl, rfl⟩
    have hk : k < 6 := by
      have := (List.getElem?_eq_some_iff.mp hi).1
      rw [rng_length] at this
      omega
    have htt : tt = .int ((k + 1 : Nat) : Int) := by
      obtain ⟨h1, h2⟩ := List.getElem?_eq_some_iff.mp hi
      rw [← h2]
      simp [rng]; omega
    subst htt
    obtain ⟨r1, r2⟩ := hrun k (by omega)
    have hst : pickRun cs (k + 1) = ((pickRun cs k).1.eraseIdx (pickAt cs (k + 1) (pickRun cs k).1), (pickRun cs k).2 ++ [(pickRun cs k).1[pickAt cs (k + 1) (pickRun cs k).1]?.getD 0]) := rfl
    rw [hst]
    generalize pickRun cs k = st at r1 r2 ⊢
    obtain ⟨S, R⟩ := st
    dsimp only at r1 r2 ⊢
    have hS : 0 < S.length := by omega
    have ck : (cs.map T.int)[((k + 1 : Nat) : Int).toNat]? = some (.int (cs[k + 1]?.getD 0)) := by
      rw [Int.toNat_natCast, List.getElem?_map, List.getElem?_eq_getElem (by omega)]; rfl
    have hf := fmod_lt (a := cs[k + 1]?.getD 0) hS
    have hlm : ((S.map fun c => T.str (sg c)).length : Int) = (S.length : Int) := by rw [List.length_map]
    have hpk : (pickAt cs (k + 1) S : Int) = Int.fmod (cs[k + 1]?.getD 0) S.length := Int.toNat_of_nonneg hf.1
    have hpl : pickAt cs (k + 1) S < S.length := by omega
    refine ⟨[("cells", .list (cs.map T.int)), ("which", .int (wOf cs)), ("escape", .ref (escAt (wOf cs))), ("every", .str (strOf (everyOf cs))), ("signs", .ref a), ("row", .ref b), ("k", .int ((k + 1 : Nat) : Int))], by repeat (first | exact Put.nil | (apply Put.hit; repeat (first | exact Off.nil | apply Off.cons (by decide))) | apply Put.miss (by decide)), ?_⟩
    refine .popAppend (a := a) (b := b) (l := S.map fun c => T.str (sg c)) (m := R.map fun c => T.str (sg c)) (k := pickAt cs (k + 1) S) (i := Int.fmod (cs[k + 1]?.getD 0) S.length) (t := .str (sg (S[pickAt cs (k + 1) S]?.getD 0))) en (by repeat (first | exact List.Mem.head _ | apply List.Mem.tail)) (by repeat (first | exact List.Mem.head _ | apply List.Mem.tail)) (.miss .hit) .hit (.head _) (thaw1 (x := Str.ofString "signs"))
      (.bin (.item (t := .int (cs[k + 1]?.getD 0)) (nm en) (nm en) (Int.natCast_nonneg _) ck csl) ((EvE.len_list en g.b (nm en) (by rw [List.length_map]; omega)).cast (by rw [List.length_map])) (.mod_int (by omega))) (by simp [Builtin.List.listFitsIndex]; omega) ?_ ?_ rfl (by rw [List.length_map]; omega) (by rw [List.length_map]; omega) (hr := .nil ⟨_, fun q hq => ?_, rfl, ?_⟩)
    · rw [List.length_map, seqIndex_of hf.1 hf.2]; rfl
    · rw [List.getElem?_map, List.getElem?_eq_getElem hpl]; rfl
    · simp only [List.mem_cons, List.not_mem_nil, or_false] at hq ⊢
      rcases hq with rfl | rfl | rfl | rfl | rfl | rfl <;> simp
    · rw [List.map_append, map_eraseIdx]; rfl
  · rintro σn αn ⟨rfl, rfl⟩
    rw [show (rng 1 ((7 : Int) - 1).toNat).length = 6 from rfl]
    have hR : (pickRun cs 6).2 = rowOf cs := rfl
    rw [hR, show ((rowOf cs).map fun c => T.str (sg c)) = ((rowOf cs).map sg).map T.str by rw [List.map_map]; rfl]
    refine .disown (x := Str.ofString "row") (l := ((rowOf cs).map sg).map T.str) (σ' := ([("which", .int (wOf cs)), ("escape", .ref (escAt (wOf cs))), ("every", .str (strOf (everyOf cs))), ("signs", .ref a), ("row", .list (((rowOf cs).map sg).map T.str))] : List (Str × T))) (α₁ := []) rfl (by repeat (first | exact List.Mem.head _ | apply List.Mem.tail)) (fun q hq => by
      simp only [List.mem_cons, List.not_mem_nil, or_false] at hq ⊢
      rcases hq with rfl | rfl | rfl | rfl | rfl <;> simp) ?_
    refine .disown (x := Str.ofString "signs") (σ' := ([("which", .int (wOf cs)), ("escape", .ref (escAt (wOf cs))), ("every", .str (strOf (everyOf cs))), ("row", .list (((rowOf cs).map sg).map T.str))] : List (Str × T))) (α₁ := []) rfl (by repeat (first | exact List.Mem.head _ | apply List.Mem.tail)) (fun q hq => by
      simp only [List.mem_cons, List.not_mem_nil, or_false] at hq ⊢
      rcases hq with rfl | rfl | rfl | rfl <;> simp) ?_
    exact law_body2 g h1t (wOf cs) (rowOf cs) (everyOf cs) (row_ok cs hw) (every_sign cs) rfl L a0 cd sc0 en0 hnext
end
end Mine
end

-- F11
section
open PySem PySem.W PyProof.Rows PySem.Calls PySem.Spec
set_option maxRecDepth 100000
set_option maxHeartbeats 8000000
namespace Mine
open PySem (Expr)

structure RanksOk (N rk : List Str) (π : List Nat) : Prop where
  nl : N.length = 6
  rl : rk.length = 6
  pl : π.Perm (List.range 6)
  get : ∀ r, r < 6 → rk[r]? = N[π[r]?.getD 0]?
  nd : N.Nodup
  srt : ∀ l' : List Str, l'.Perm N → sortedS l' = true → l' = rk
  lt : ∀ (i j : Nat) (x y : Str), i < j → rk[i]? = some x → rk[j]? = some y → x.cps.toList < y.cps.toList

/-- the places b, c, a stand so in the page -/
noncomputable def st (π : List Nat) (a b c : Nat) : Bool := decide (π[b]?.getD 0 < π[c]?.getD 0) && decide (π[c]?.getD 0 < π[a]?.getD 0)
noncomputable def setR (rows : List (List Bool)) (b a : Nat) (v : Bool) : List (List Bool) := if v = true then rows.set b ((rows[b]?.getD []).set a true) else rows
noncomputable def once1 (π : List Nat) (c b : Nat) (rows : List (List Bool)) : Nat → List (List Bool)
  | 0 => rows
  | a + 1 => setR (once1 π c b rows a) b a (st π a b c)
noncomputable def once2 (π : List Nat) (c : Nat) (rows : List (List Bool)) : Nat → List (List Bool)
  | 0 => rows
  | b + 1 => once1 π c b (once2 π c rows b) b
noncomputable def once3 (π : List Nat) : Nat → List (List Bool)
  | 0 => List.replicate 6 (List.replicate 6 false)
  | c + 1 => once2 π c (once3 π c) c
noncomputable def Six (rows : List (List Bool)) : Prop := rows.length = 6 ∧ ∀ r, r ∈ rows → r.length = 6
theorem Six.set {rows : List (List Bool)} (h : Six rows) {b a : Nat} {v : Bool} (hb : b < 6) : Six (setR rows b a v) := by
  unfold setR
  split
  · refine ⟨by rw [List.length_set]; exact h.1, fun r hr => ?_⟩
    rcases List.mem_or_eq_of_mem_set hr with hr | rfl
    · exact h.2 r hr
    · rw [List.length_set, List.getElem?_eq_getElem (by rw [h.1]; exact hb)]
      exact h.2 _ (List.getElem_mem _)
  · exact h
theorem six1 (π : List Nat) {c b : Nat} (hb : b < 6) {rows : List (List Bool)} (h : Six rows) : ∀ n, Six (once1 π c b rows n)
  | 0 => h
  | n + 1 => (six1 π hb h n).set hb
theorem six2 (π : List Nat) {c : Nat} {rows : List (List Bool)} (h : Six rows) : ∀ n, n ≤ 6 → Six (once2 π c rows n)
  | 0, _ => h
  | n + 1, hn => six1 π (by omega) (six2 π h n (by omega)) n
theorem six3 (π : List Nat) : ∀ n, n ≤ 6 → Six (once3 π n)
  | 0, _ => ⟨by simp [once3], fun r hr => by rw [List.eq_of_mem_replicate hr]; simp⟩
  | n + 1, hn => six2 π (six3 π n (by omega)) n (by omega)

noncomputable def rowsTs (rows : List (List Bool)) : List (List T) := rows.map fun r => r.map T.bool
noncomputable def idxT (N : List Str) : T → Option T
  | .str x => some (.int (N.idxOf x : Nat))
  | _ => none

theorem RanksOk.mem {N rk : List Str} {π : List Nat} (ro : RanksOk N rk π) {x : Str} (hx : x ∈ rk) : x ∈ N := by
  obtain ⟨r, hr, e⟩ := List.mem_iff_getElem.mp hx
  have := ro.get r (by rw [← ro.rl]; exact hr)
  rw [List.getElem?_eq_getElem hr, e] at this
  exact List.mem_of_getElem? this.symm
theorem idxT_map (N : List Str) : ∀ l : List Str, (l.map T.str).filterMap (idxT N) = (l.map fun x => ((N.idxOf x : Nat) : Int)).map T.int
  | [] => rfl
  | x :: l => by rw [List.map_cons, List.filterMap_cons, List.map_cons, List.map_cons, ← idxT_map N l]; rfl
theorem idxOf_get {N : List Str} (nd : N.Nodup) {i : Nat} {x : Str} (h : N[i]? = some x) : N.idxOf x = i := by
  obtain ⟨hi, rfl⟩ := List.getElem?_eq_some_iff.mp h
  have h1 : N.idxOf N[i] < N.length := List.idxOf_lt_length_of_mem (List.getElem_mem hi)
  have h2 : N[N.idxOf N[i]] = N[i] := List.getElem_idxOf h1
  have pw := List.pairwise_iff_getElem.mp nd
  rcases Nat.lt_trichotomy (N.idxOf N[i]) i with q | q | q
  · exact absurd h2 (pw _ _ h1 hi q)
  · exact q
  · exact absurd h2.symm (pw _ _ hi h1 q)
theorem RanksOk.places {N rk : List Str} {π : List Nat} (ro : RanksOk N rk π) : (rk.map T.str).filterMap (idxT N) = (π.map fun (n : Nat) => (n : Int)).map T.int := by
  have hπl : π.length = 6 := by rw [ro.pl.length_eq]; rfl
  rw [idxT_map]
  congr 1
  refine List.ext_getElem? fun r => ?_
  rw [List.getElem?_map, List.getElem?_map]
  by_cases hr : r < 6
  · have h1 := ro.get r hr
    have h2 : rk[r]? = some (rk[r]'(by rw [ro.rl]; exact hr)) := List.getElem?_eq_getElem _
    have h3 : π[r]? = some (π[r]'(by omega)) := List.getElem?_eq_getElem _
    rw [h2, h3, Option.getD_some] at h1
    rw [h2, h3, Option.map_some, Option.map_some, idxOf_get ro.nd h1.symm]
  · rw [List.getElem?_eq_none (by rw [ro.rl]; omega), List.getElem?_eq_none (by omega)]; rfl
section
variable {G : Cx} {p : Params} {C : Cx} {X : List Addr} {K : Out → Prop} {rest : List Stmt}

theorem law_body4 (g : Gs G p) (h1t : 1 ≤ G.t0) (w : Nat) (N rk : List Str) (page : Str) (π : List Nat) (ro : RanksOk N rk π) (hn6 : ∀ x, x ∈ N → x.length ≤ 6) (hrk6 : ∀ k, k < 6 → (rk[k]?.getD ⟨#[]⟩).length ≤ 6) (hp36 : page.length ≤ 36)
    (hem : ∀ a b c, a < b → b < c → c < 6 → em (Str.ofString "..." ++ Txt.join (Str.ofString "...") [rk[b]?.getD ⟨#[]⟩, rk[c]?.getD ⟨#[]⟩, rk[a]?.getD ⟨#[]⟩] ++ Str.ofString "...") page = st π a b c)
    (L a : Addr) (cd : Value) (sc0 : Scope) (en0 : EnvC (G.at' 6 (envOfC (Str.ofString "law") (scopeOf (hd.heap_39 p) 134 sc0) L a cd)))
    (hnext : ExL (G.at' 6 (envOfC (Str.ofString "law") (scopeOf (hd.heap_39 p) 134 sc0) L a cd)) [] [(Str.ofString "names", .list (N.map T.str)), (Str.ofString "page", .str page), (Str.ofString "ranked", .list (rk.map T.str)), (Str.ofString "once", rowsT (once3 π 6))] [] ((bodyA (hd.heap_39 p) 134).drop 15) K) :
    ExL (G.at' 6 (envOfC (Str.ofString "law") (scopeOf (hd.heap_39 p) 134 sc0) L a cd)) [] [(Str.ofString "which", .int w), (Str.ofString "names", .list (N.map T.str)), (Str.ofString "page", .str page)] [] ((bodyA (hd.heap_39 p) 134).drop 11) K := by
  refine body_aux (by rfl) (by rfl) ?_
  have en := env_aux (by rfl) en0
  have big : 100000 ≤ sizeLine := by decide
  have hπl : π.length = 6 := by rw [ro.pl.length_eq]; rfl
  refine .let_ en (h := fun Y => .call_b en.ok g.b (.cons (nm en) .nil) (.sorted (m := rk) (by rw [ro.nl]; decide) ro.srt)) (hr := ?_) (hx := .inr ⟨rfl, by decide, _, rfl⟩)
  have hplaces : (rk.map T.str).filterMap (idxT N) = (π.map fun (n : Nat) => (n : Int)).map T.int := ro.places
  refine .compU (ts := rk.map T.str) (idxT N) [("names", .list (N.map T.str))] en (us := (π.map fun (n : Nat) => (n : Int)).map T.int) (hus := hplaces) (hit := fun _ => .list (nm en)) (htest := ?_) (helt := ?_) (hsz := by rw [List.length_map, ro.rl]; omega) (hr := ?_)
  · intro L Y' t ek ht
    obtain ⟨x, _, rfl⟩ := List.mem_map.mp ht
    exact EvTs.nil
  · intro L Y' t u ek ht hf
    obtain ⟨x, hx, rfl⟩ := List.mem_map.mp ht
    cases hf
    have hxN : x ∈ N := ro.mem hx
    have hidx : N.idxOf x < N.length := List.idxOf_lt_length_of_mem hxN
    refine .lmeth _ (nm' ek) F.slot_list_index F.type_list_index (.cons (nm' ek) .nil) (.list_index_str (j := N.idxOf x) ?_ ?_ (by rw [ro.nl]; omega))
    · rw [List.getElem?_eq_getElem hidx, List.getElem_idxOf]
    · intro i hi e
      rw [List.getElem?_eq_getElem (by omega)] at e
      have := List.not_of_lt_findIdx (p := (· == x)) (xs := N) (i := i) hi
      simp at e
      simp [e] at this
  refine .rows (ts := rng 0 ((6 : Int) - 0).toNat) (row := List.replicate 6 (T.bool false)) (cl := []) en rfl (fun Y => .range1 en.ok g.b .int (by decide) (by decide)) rfl (fun x c e => by cases e) rfl (by decide) (fun _ => .inl rfl) (fun t ht => by rw [List.eq_of_mem_replicate ht]; rfl) (fun L Y' => (EvE.bin (.list (.cons .bool .nil)) .int (.mul_list (by decide) (by decide) (by decide))).cast rfl) (by rw [rng_length]; decide) (fun as hal hand hnin => own_rest' (hr := ?_)) (.inr ⟨rfl, by decide, _, rfl⟩)
  have has : as.length = 6 := by rw [hal, rng_length]; rfl
  rw [rows_zip, has, show List.replicate 6 (List.replicate 6 (T.bool false)) = rowsTs (once3 π 0) from rfl]
  have rkl : (rk.map T.str).length ≤ sizeLine := by rw [List.length_map, ro.rl]; omega
  have gp : ∀ {k : Nat}, k < 6 → ((π.map fun (n : Nat) => (n : Int)).map T.int)[((k : Nat) : Int).toNat]? = some (.int ((π[k]?.getD 0 : Nat) : Int)) := fun {k} hk => by
    rw [Int.toNat_natCast, List.getElem?_map, List.getElem?_map, List.getElem?_eq_getElem (by omega)]; rfl
  have gr : ∀ {k : Nat}, k < 6 → (rk.map T.str)[((k : Nat) : Int).toNat]? = some (.str (rk[k]?.getD ⟨#[]⟩)) := fun {k} hk => by
    rw [Int.toNat_natCast, List.getElem?_map, List.getElem?_eq_getElem (by have := ro.rl; omega)]; rfl
  have pil : (((π.map fun (n : Nat) => (n : Int)).map T.int)).length ≤ sizeLine := by rw [List.length_map, List.length_map, hπl]; omega
  refine .forW (fun (c : Nat) (σ : List (Str × T)) (α : List (Addr × List T)) => σ = ([("names", .list (N.map T.str)), ("page", .str page), ("ranked", .list (rk.map T.str)), ("places", .list ((π.map fun (n : Nat) => (n : Int)).map T.int)), ("once", .list (as.map .ref))] : List (Str × T)) ∧ α = as.zip (rowsTs (once3 π c))) en
    (fun _ => .range1 en.ok g.b .int (by decide) (by decide)) (fun t ht => by obtain ⟨i, _, rfl⟩ := List.mem_map.mp ht; rfl) ⟨_, fun q hq => ?_, rfl, rfl⟩ ?_ ?_
  · simp only [List.mem_cons, List.not_mem_nil, or_false] at hq ⊢
    rcases hq with rfl | rfl | rfl | rfl | rfl <;> simp
  · rintro c tt σi αi hi ⟨rfl, rfl⟩
    have hc : c < 6 := by
      have := (List.getElem?_eq_some_iff.mp hi).1
      rw [rng_length] at this
      omega
    have htt : tt = .int (c : Int) := by
      obtain ⟨h1, h2⟩ := List.getElem?_eq_some_iff.mp hi
      rw [← h2]; simp [rng]
    subst htt
    have s3 := six3 π c (by omega)
    have hstep : once3 π (c + 1) = once2 π c (once3 π c) c := rfl
    rw [hstep]
    generalize once3 π c = rows at s3 ⊢
    refine ⟨[("names", .list (N.map T.str)), ("page", .str page), ("ranked", .list (rk.map T.str)), ("places", .list ((π.map fun (n : Nat) => (n : Int)).map T.int)), ("once", .list (as.map .ref)), ("c", .int c)], by repeat (first | exact Put.nil | (apply Put.hit; repeat (first | exact Off.nil | apply Off.cons (by decide))) | apply Put.miss (by decide)), ?_⟩
    refine .forW (fun (b : Nat) (σ : List (Str × T)) (α : List (Addr × List T)) => σ = ([("names", .list (N.map T.str)), ("page", .str page), ("ranked", .list (rk.map T.str)), ("places", .list ((π.map fun (n : Nat) => (n : Int)).map T.int)), ("once", .list (as.map .ref)), ("c", .int c)] : List (Str × T)) ∧ α = as.zip (rowsTs (once2 π c rows b))) en
      (fun _ => .range1 en.ok g.b (nm en) (by omega) (by omega)) (fun t ht => by obtain ⟨i, _, rfl⟩ := List.mem_map.mp ht; rfl) ⟨_, fun q hq => hq, rfl, rfl⟩ ?_ ?_
    · rintro b tt σi αi hi ⟨rfl, rfl⟩
      have hb : b < c := by
        have := (List.getElem?_eq_some_iff.mp hi).1
        rw [rng_length] at this
        omega
      have htt : tt = .int (b : Int) := by
        obtain ⟨h1, h2⟩ := List.getElem?_eq_some_iff.mp hi
        rw [← h2]; simp [rng]
      subst htt
      have s2 := six2 π (c := c) s3 b (by omega)
      have hstep : once2 π c rows (b + 1) = once1 π c b (once2 π c rows b) b := rfl
      rw [hstep]
      generalize once2 π c rows b = rows at s2 ⊢
      refine ⟨[("names", .list (N.map T.str)), ("page", .str page), ("ranked", .list (rk.map T.str)), ("places", .list ((π.map fun (n : Nat) => (n : Int)).map T.int)), ("once", .list (as.map .ref)), ("c", .int c), ("b", .int b)], by repeat (first | exact Put.nil | (apply Put.hit; repeat (first | exact Off.nil | apply Off.cons (by decide))) | apply Put.miss (by decide)), ?_⟩
      refine .forW (fun (d : Nat) (σ : List (Str × T)) (α : List (Addr × List T)) => σ = ([("names", .list (N.map T.str)), ("page", .str page), ("ranked", .list (rk.map T.str)), ("places", .list ((π.map fun (n : Nat) => (n : Int)).map T.int)), ("once", .list (as.map .ref)), ("c", .int c), ("b", .int b)] : List (Str × T)) ∧ α = as.zip (rowsTs (once1 π c b rows d))) en
        (fun _ => .range1 en.ok g.b (nm en) (by omega) (by omega)) (fun t ht => by obtain ⟨i, _, rfl⟩ := List.mem_map.mp ht; rfl) ⟨_, fun q hq => hq, rfl, rfl⟩ ?_ ?_
      · rintro d tt σi αi hi ⟨rfl, rfl⟩
        have hd : d < b := by
          have := (List.getElem?_eq_some_iff.mp hi).1
          rw [rng_length] at this
          omega
        have htt : tt = .int (d : Int) := by
          obtain ⟨h1, h2⟩ := List.getElem?_eq_some_iff.mp hi
          rw [← h2]; simp [rng]
        subst htt
        have s1 := six1 π (c := c) (b := b) (by omega) s2 d
        have hstep : once1 π c b rows (d + 1) = setR (once1 π c b rows d) b d (st π d b c) := rfl
        rw [hstep]
        generalize once1 π c b rows d = rows at s1 ⊢
        refine ⟨[("names", .list (N.map T.str)), ("page", .str page), ("ranked", .list (rk.map T.str)), ("places", .list ((π.map fun (n : Nat) => (n : Int)).map T.int)), ("once", .list (as.map .ref)), ("c", .int c), ("b", .int b), ("a", .int d)], by repeat (first | exact Put.nil | (apply Put.hit; repeat (first | exact Off.nil | apply Off.cons (by decide))) | apply Put.miss (by decide)), ?_⟩
        refine .let_ en (t := .bool (st π d b c)) (h := fun Y => (EvE.chain2 (.item (t := .int ((π[b]?.getD 0 : Nat) : Int)) (nm en) (nm en) (Int.natCast_nonneg _) (gp (by omega)) pil) (.item (t := .int ((π[c]?.getD 0 : Nat) : Int)) (nm en) (nm en) (Int.natCast_nonneg _) (gp hc) pil) (.item (t := .int ((π[d]?.getD 0 : Nat) : Int)) (nm en) (nm en) (Int.natCast_nonneg _) (gp (by omega)) pil) .lt_int .lt_int).cast ?_) (hr := ?_)
        · unfold st
          simp
        have rk6 : ∀ k, k < 6 → (rk[k]?.getD ⟨#[]⟩).length ≤ 6 := hrk6
        have j3 : JoinOk (Str.ofString "...") [rk[b]?.getD ⟨#[]⟩, rk[c]?.getD ⟨#[]⟩, rk[d]?.getD ⟨#[]⟩] = true := joinOk_of (by
          have e1 := rk6 b (by omega); have e2 := rk6 c (by omega); have e3 := rk6 d (by omega)
          rw [show (Str.ofString "...").length = 3 by decide]
          simp only [List.map_cons, List.map_nil, List.sum_cons, List.sum_nil, List.length_cons, List.length_nil]
          omega)
        have jl : (Txt.join (Str.ofString "...") [rk[b]?.getD ⟨#[]⟩, rk[c]?.getD ⟨#[]⟩, rk[d]?.getD ⟨#[]⟩]).length ≤ 30 := by
          have e1 := rk6 b (by omega); have e2 := rk6 c (by omega); have e3 := rk6 d (by omega)
          unfold Txt.join
          rw [StrLaws.glued_eq_join]
          refine Nat.le_trans (StrLaws.join_length_le _ _) ?_
          rw [show (Str.ofString "...").length = 3 by decide]
          simp only [List.map_cons, List.map_nil, List.sum_cons, List.sum_nil, List.length_cons, List.length_nil]
          omega
        have hemd := hem d b c hd hb hc
        have wl : (Str.ofString "..." ++ Txt.join (Str.ofString "...") [rk[b]?.getD ⟨#[]⟩, rk[c]?.getD ⟨#[]⟩, rk[d]?.getD ⟨#[]⟩] ++ Str.ofString "...").length ≤ 1000 := by
          rw [len_append, len_append, show (Str.ofString "...").length = 3 by decide]; omega
        refine .ite (b := false) (h := (EvB.cmp (.call en.ok g.f (.cons (.bin (.bin .str (.methC (ts := [.list ([rk[b]?.getD ⟨#[]⟩, rk[c]?.getD ⟨#[]⟩, rk[d]?.getD ⟨#[]⟩].map T.str)]) F.slot_str_join F.type_str_join (.cons (.list (.cons (.item (t := .str (rk[b]?.getD ⟨#[]⟩)) (nm en) (nm en) (Int.natCast_nonneg _) (gr (by omega)) rkl) (.cons (.item (t := .str (rk[c]?.getD ⟨#[]⟩)) (nm en) (nm en) (Int.natCast_nonneg _) (gr hc) rkl) (.cons (.item (t := .str (rk[d]?.getD ⟨#[]⟩)) (nm en) (nm en) (Int.natCast_nonneg _) (gr (by omega)) rkl) .nil))) (by simp only [List.length_cons, List.length_nil, List.map_cons, List.map_nil]; decide)) .nil) (.join j3)) (.add_str (by rw [show (Str.ofString "...").length = 3 by decide]; omega))) .str (.add_str (by rw [len_append, show (Str.ofString "...").length = 3 by decide]; omega))) (.cons (nm en) .nil)) (em2_ g _ page wl (by omega)).at (by show 1 ≤ 6; omega)) (nm en) .isNot_bool).cast (by rw [hemd]; simp)) (fun hb => by cases hb) (fun _ => .nil ?_)
        have hab : (as.map T.ref)[((b : Nat) : Int).toNat]? = some (.ref (as[b]'(by omega))) := by
          rw [Int.toNat_natCast, List.getElem?_map, List.getElem?_eq_getElem (by omega)]; rfl
        have hrb : b < rows.length := by rw [s1.1]; omega
        have hrow : rows[b]?.getD [] = rows[b] := by rw [List.getElem?_eq_getElem hrb]; rfl
        have hrl : rows[b].length = 6 := s1.2 _ (List.getElem_mem _)
        refine .ite (h := .of (nm en) .bool) (fun hst => ?_) (fun hst => ?_)
        · refine .setRow (as := as.map T.ref) (a := as[b]'(by omega)) (l := rows[b].map T.bool) (i := (d : Int)) (j := (b : Int)) (t := .bool true) en (by repeat (first | exact List.Mem.head _ | apply List.Mem.tail)) hab (α' := as.zip ((rowsTs rows).set b ((rows[b].map T.bool).set ((d : Nat) : Int).toNat (.bool true)))) ?_ .refl .bool rfl (nm en) (nm en) (Int.natCast_nonneg _) (by rw [List.length_map, hrl]; omega) (by rw [List.length_map, hrl]; omega) (Int.natCast_nonneg _) (by rw [List.length_map]; omega) (hr := .nil (.nil ⟨_, fun q hq => ?_, rfl, ?_⟩))
          · exact zip_upd (α := Nat) (by unfold rowsTs; rw [List.length_map, has, s1.1]) (List.getElem?_eq_getElem (by omega)) (by unfold rowsTs; rw [List.getElem?_map, List.getElem?_eq_getElem hrb]; rfl)
          · simp only [List.mem_cons, List.not_mem_nil, or_false] at hq ⊢
            rcases hq with rfl | rfl | rfl | rfl | rfl | rfl | rfl <;> simp
          · rw [hst, show setR rows b d true = rows.set b ((rows[b]?.getD []).set d true) from if_pos rfl, hrow, Int.toNat_natCast]
            unfold rowsTs
            rw [List.map_set, List.map_set]
        · refine .nil (.nil ⟨_, fun q hq => ?_, rfl, ?_⟩)
          · simp only [List.mem_cons, List.not_mem_nil, or_false] at hq ⊢
            rcases hq with rfl | rfl | rfl | rfl | rfl | rfl | rfl <;> simp
          · rw [hst, show setR rows b d false = rows from if_neg Bool.false_ne_true]
      · rintro σn αn ⟨rfl, rfl⟩
        rw [rng_length, show ((b : Int) - 0).toNat = b by omega]
        refine .nil ⟨_, fun q hq => ?_, rfl, rfl⟩
        simp only [List.mem_cons, List.not_mem_nil, or_false] at hq ⊢
        rcases hq with rfl | rfl | rfl | rfl | rfl | rfl <;> simp
    · rintro σn αn ⟨rfl, rfl⟩
      rw [rng_length, show ((c : Int) - 0).toNat = c by omega]
      refine .nil ⟨_, fun q hq => ?_, rfl, rfl⟩
      simp only [List.mem_cons, List.not_mem_nil, or_false] at hq ⊢
      rcases hq with rfl | rfl | rfl | rfl | rfl <;> simp
  · rintro σn αn ⟨rfl, rfl⟩
    rw [rng_length, show ((6 : Int) - 0).toNat = 6 from rfl]
    refine .thawAll (σ' := ([("names", .list (N.map T.str)), ("page", .str page), ("ranked", .list (rk.map T.str)), ("once", .list ((rowsTs (once3 π 6)).map .list))] : List (Str × T))) (.keep (by repeat (first | exact List.Mem.head _ | apply List.Mem.tail)) (.keep (by repeat (first | exact List.Mem.head _ | apply List.Mem.tail)) (.keep (by repeat (first | exact List.Mem.head _ | apply List.Mem.tail)) (.rows (as := as) (by repeat (first | exact List.Mem.head _ | apply List.Mem.tail)) (by unfold rowsTs; rw [List.length_map, has, (six3 π 6 (Nat.le_refl 6)).1]) (fun p hp => hp) .nil)))) ?_
    have e : T.list ((rowsTs (once3 π 6)).map .list) = rowsT (once3 π 6) := by unfold rowsTs rowsT; rw [List.map_map]; rfl
    rw [e]
    exact hnext
end
end Mine
end

-- F12
section
open PySem PySem.W PyProof.Rows PySem.Calls PySem.Spec
set_option maxRecDepth 100000
set_option maxHeartbeats 8000000
namespace Mine
open PySem (Expr)

noncomputable def twC (rows : List (List Bool)) (b a : Nat) : List T := (rng ((b : Int) + 1) (6 - ((b : Int) + 1)).toNat).filterMap (keepIf fun c => ovr rows c a && (!ovr rows c b && true))
noncomputable def twRow (rows : List (List Bool)) (b : Nat) : List Bool := (List.range b).map fun a => !(twC rows b a).isEmpty
noncomputable def twiceOf (rows : List (List Bool)) : List (List Bool) := (List.range 6).map (twRow rows)
noncomputable def twA (rows : List (List Bool)) (b : Nat) : T → Option T
  | .int a => some (.bool (!(twC rows b a.toNat).isEmpty))
  | _ => none
noncomputable def twB (rows : List (List Bool)) : T → Option T
  | .int b => some (.list ((rng 0 (b - 0).toNat).filterMap (twA rows b.toNat)))
  | _ => none
theorem twA_eq (rows : List (List Bool)) (b : Nat) : (rng 0 ((b : Int) - 0).toNat).filterMap (twA rows b) = (twRow rows b).map T.bool := by
  rw [show ((b : Int) - 0).toNat = b by omega]
  unfold rng twRow
  rw [List.filterMap_map, List.map_map]
  have : (twA rows b ∘ fun (i : Nat) => T.int (0 + i)) = fun (i : Nat) => some (T.bool (!(twC rows b i).isEmpty)) := by
    funext i
    show some (T.bool (!(twC rows b ((0 : Int) + i).toNat).isEmpty)) = _
    rw [show ((0 : Int) + i).toNat = i by omega]
  rw [this, List.filterMap_eq_map']
  rfl
theorem twB_eq (rows : List (List Bool)) : T.list ((rng 0 ((6 : Int) - 0).toNat).filterMap (twB rows)) = rowsT (twiceOf rows) := by
  unfold rowsT twiceOf
  rw [show ((6 : Int) - 0).toNat = 6 from rfl]
  unfold rng
  rw [List.filterMap_map, List.map_map]
  have : (twB rows ∘ fun (i : Nat) => T.int (0 + i)) = fun (i : Nat) => some (T.list ((twRow rows i).map T.bool)) := by
    funext i
    show some (T.list ((rng 0 (((0 : Int) + i) - 0).toNat).filterMap (twA rows ((0 : Int) + i).toNat))) = _
    rw [show ((0 : Int) + i).toNat = i by omega, show ((0 : Int) + i) = (i : Int) by omega, twA_eq]
  rw [this, List.filterMap_eq_map']
  rfl

section
variable {G : Cx} {p : Params} {C : Cx} {X : List Addr} {K : Out → Prop} {rest : List Stmt}

theorem law_body5 (g : Gs G p) (N rk : List Str) (page : Str) (rows : List (List Bool)) (six : Six rows) (hk : rk.length = 6) (hperm : ∀ k, k < 6 → k ∈ aheads rows)
    (L a : Addr) (cd : Value) (sc0 : Scope) (en0 : EnvC (G.at' 6 (envOfC (Str.ofString "law") (scopeOf (hd.heap_39 p) 134 sc0) L a cd)))
    (hnext : ExL (G.at' 6 (envOfC (Str.ofString "law") (scopeOf (hd.heap_39 p) 134 sc0) L a cd)) [] [(Str.ofString "names", .list (N.map T.str)), (Str.ofString "page", .str page), (Str.ofString "ranked", .list (rk.map T.str)), (Str.ofString "twice", rowsT (twiceOf rows)), (Str.ofString "first", .list ((rowRes rk rows).map T.str))] [] ((bodyA (hd.heap_39 p) 134).drop 17) K) :
    ExL (G.at' 6 (envOfC (Str.ofString "law") (scopeOf (hd.heap_39 p) 134 sc0) L a cd)) [] [(Str.ofString "names", .list (N.map T.str)), (Str.ofString "page", .str page), (Str.ofString "ranked", .list (rk.map T.str)), (Str.ofString "once", rowsT rows)] [] ((bodyA (hd.heap_39 p) 134).drop 15) K := by
  refine body_aux (by rfl) (by rfl) ?_
  have en := env_aux (by rfl) en0
  have big : 100000 ≤ sizeLine := by decide
  have rl : (rows.map fun r => T.list (r.map T.bool)).length ≤ sizeLine := by rw [List.length_map, six.1]; omega
  have r6 : ∀ i, i < 6 → (rows[i]?.getD []).length = 6 := fun i hi => by
    rw [List.getElem?_eq_getElem (by rw [six.1]; exact hi)]; exact six.2 _ (List.getElem_mem _)
  have cell : ∀ {C' : Cx} {Y : List Addr} {σ' : List (Str × T)} {e1 e2 e3 : Expr} {q1 q2 : Pos} {i j : Nat} (h1 : EvE C' Y σ' e1 (rowsT rows)) (h2 : EvE C' Y σ' e2 (.int i)) (h3 : EvE C' Y σ' e3 (.int j)) (hi : i < 6) (hj : j < 6)
      (s1 : ∀ a u, subscripted e2 false (.ref a) (.int i u) = operate [.ref a, .int i u] (getItem (.ref a) (.int i u))) (s2 : ∀ a u, subscripted e3 false (.ref a) (.int j u) = operate [.ref a, .int j u] (getItem (.ref a) (.int j u))),
      EvE C' Y σ' (.Subscript (.Subscript e1 e2 q1) e3 q2) (.bool (ovr rows i j)) := fun h1 h2 h3 hi hj s1 s2 =>
    .item (.item (t := .list ((rows[_]?.getD []).map T.bool)) h1 h2 (Int.natCast_nonneg _) (by rw [Int.toNat_natCast]; exact row_get (by rw [six.1]; exact hi)) rl s1) h3 (Int.natCast_nonneg _) (by rw [Int.toNat_natCast]; exact bit_get (by rw [r6 _ hi]; exact hj)) (by rw [List.length_map, r6 _ hi]; omega) s2
  refine .compU (ts := rng 0 ((6 : Int) - 0).toNat) (twB rows) [("once", rowsT rows)] en (hus := rfl) (hit := fun _ => .range1 en.ok g.b .int (by decide) (by decide)) (htest := ?_) (helt := ?_) (hsz := by rw [rng_length]; decide) (hr := ?_)
  · intro L Y' t ek ht
    obtain ⟨b, hb, rfl⟩ := mem_rng ht
    exact EvTs.nil
  · intro L Y' t u ek ht hf
    obtain ⟨b, hb, rfl⟩ := mem_rng ht
    rw [show ((0 : Int) + b) = (b : Int) by omega] at hf ⊢
    have hb6 : b < 6 := by simpa using hb
    cases hf
    rw [Int.toNat_natCast]
    refine .comp (ts := rng 0 ((b : Int) - 0).toNat) (twA rows b) [("once", rowsT rows), ("b", .int b)] ek (hit := .range1 ek g.b (nm' ek) (by omega) (by omega)) (htest := ?_) (helt := ?_) (hsz := by rw [rng_length]; omega)
    · intro L Y' t ek2 ht
      obtain ⟨c, hc, rfl⟩ := mem_rng ht
      exact EvTs.nil
    · intro L Y' t u ek2 ht hf
      obtain ⟨a, ha, rfl⟩ := mem_rng ht
      rw [show ((0 : Int) + a) = (a : Int) by omega] at hf ⊢
      cases hf
      rw [Int.toNat_natCast]
      refine .cmp (.comp (ts := rng ((b : Int) + 1) (6 - ((b : Int) + 1)).toNat) (keepIf fun c => ovr rows c a && (!ovr rows c b && true)) [("once", rowsT rows), ("b", .int b), ("a", .int a)] ek2 (hit := .range2 ek2 g.b (.bin (nm' ek2) .int .add_int) .int (by omega) (by omega) (by omega) (by omega)) (htest := ?_) (helt := ?_) (hsz := by rw [rng_length]; omega)) (.list .nil) (.ne_list0 ?_)
      · intro L Y' t ek3 ht
        obtain ⟨c, hc, rfl⟩ := mem_rng ht
        have e1 : (b : Int) + 1 + c = ((b + 1 + c : Nat) : Int) := by omega
        rw [e1]
        have h6 : b + 1 + c < 6 := by omega
        have ha6 : a < 6 := by omega
        refine (EvTs.one (.and (.of (cell (i := b + 1 + c) (j := a) (nm' ek3) (nm' ek3) (nm' ek3) h6 ha6 (by intro _ _; rfl) (by intro _ _; rfl)) .bool) fun _ => .and (.not (.of (cell (i := b + 1 + c) (j := b) (nm' ek3) (nm' ek3) (nm' ek3) h6 hb6 (by intro _ _; rfl) (by intro _ _; rfl)) .bool)) fun _ => .and_nil)).cast ?_
        show _ = (if (ovr rows ((b + 1 + c : Nat) : Int).toNat a && (!ovr rows ((b + 1 + c : Nat) : Int).toNat b && true)) = true then some (T.int ((b + 1 + c : Nat) : Int)) else none).isSome
        rw [Int.toNat_natCast]
        cases ovr rows (b + 1 + c) a <;> cases ovr rows (b + 1 + c) b <;> rfl
      · intro L Y' t u ek3 ht hf
        rw [keepIf_some hf]
        exact nm' ek3
      · exact List.all_eq_true.mpr fun t ht => by
          obtain ⟨t', h1, h2⟩ := List.mem_filterMap.mp ht
          obtain ⟨c, hc, rfl⟩ := mem_rng h1
          rw [keepIf_some h2]; rfl
  rw [twB_eq]
  refine .let_ en (h := fun Y => .call en.ok g.f (.cons (nm en) (.cons (nm en) .nil)) (row_ g rk rows hk six.1 (fun i j h1 h2 => by rw [r6 i h2]; omega) (fun i hi => by rw [r6 i hi]; exact Nat.le_refl 6) hperm).at (by show 1 ≤ 6; omega)) (hr := ?_)
  refine .weak (fun q hq => ?_) hnext
  simp only [List.mem_cons, List.not_mem_nil, or_false] at hq
  rcases hq with rfl | rfl | rfl | rfl | rfl <;> simp
end
end Mine
end

-- F13
section
open PySem PySem.W PyProof.Rows PySem.Calls PySem.Spec
set_option maxRecDepth 100000
set_option maxHeartbeats 8000000
namespace Mine
open PySem (Expr)

noncomputable def stripT : T → Option T
  | .str x => some (.str (strip x))
  | _ => none
theorem stripT_map : ∀ l : List Str, (l.map T.str).filterMap stripT = (l.map strip).map T.str
  | [] => rfl
  | x :: l => by rw [List.map_cons, List.filterMap_cons, List.map_cons, List.map_cons, ← stripT_map l]; rfl
theorem flat1_strs (l : List Str) : (l.map T.str).all T.flat1 = true := by
  rw [List.all_eq_true]; intro t ht; obtain ⟨i, _, rfl⟩ := List.mem_map.mp ht; rfl
noncomputable def backT : T → Option T
  | .str x => some (.str (strip (locName (some (Str.ofString "")) (some x))))
  | _ => none
theorem backT_map : ∀ l : List Str, (∀ x, x ∈ l → strip (locName (some (Str.ofString "")) (some x)) = x) → (l.map T.str).filterMap backT = l.map T.str
  | [], _ => rfl
  | x :: l, h => by
    rw [List.map_cons, List.filterMap_cons]
    show T.str (strip (locName (some (Str.ofString "")) (some x))) :: _ = _
    rw [h x (.head _), backT_map l fun y m => h y (.tail _ m)]

section
variable {G : Cx} {p : Params} {C : Cx} {X : List Addr} {K : Out → Prop} {rest : List Stmt}

theorem law_body6 (g : Gs G p) (N rk : List Str) (page : Str) (rows tw : List (List Bool)) (six : Six rows) (hN : N.length = 6) (hk : rk.length = 6) (hn6 : ∀ x, x ∈ N → x.length ≤ 6) (hf6 : ∀ x, x ∈ rowRes rk rows → x.length ≤ 6)
    (hperm : ∀ k, k < 6 → k ∈ aheads tw) (t6 : tw.length = 6) (tl : ∀ i, i < 6 → (tw[i]?.getD []).length = i)
    (hp1 : pileRes N = rowRes rk rows ++ [Str.ofString "C"]) (hp2 : pileRes (rowRes rk rows) = rowRes rk tw ++ [Str.ofString "C"])
    (hbare : msgs.map strip = List.replicate 6 (Str.ofString "")) (hback : ∀ x, x ∈ N → strip (locName (some (Str.ofString "")) (some x)) = x)
    (L a : Addr) (cd : Value) (sc0 : Scope) (en0 : EnvC (G.at' 6 (envOfC (Str.ofString "law") (scopeOf (hd.heap_39 p) 134 sc0) L a cd)))
    (hnext : ExL (G.at' 6 (envOfC (Str.ofString "law") (scopeOf (hd.heap_39 p) 134 sc0) L a cd)) [] [(Str.ofString "names", .list (N.map T.str)), (Str.ofString "page", .str page), (Str.ofString "ranked", .list (rk.map T.str))] [] ((bodyA (hd.heap_39 p) 134).drop 20) K) :
    ExL (G.at' 6 (envOfC (Str.ofString "law") (scopeOf (hd.heap_39 p) 134 sc0) L a cd)) [] [(Str.ofString "names", .list (N.map T.str)), (Str.ofString "page", .str page), (Str.ofString "ranked", .list (rk.map T.str)), (Str.ofString "twice", rowsT tw), (Str.ofString "first", .list ((rowRes rk rows).map T.str))] [] ((bodyA (hd.heap_39 p) 134).drop 17) K := by
  refine body_aux (by rfl) (by rfl) ?_
  have en := env_aux (by rfl) en0
  have big : 100000 ≤ sizeLine := by decide
  have rl : (rowRes rk rows).length = 6 := by simp [rowRes]
  have rl2 : (rowRes rk tw).length = 6 := by simp [rowRes]
  refine .ite (b := false) (h := (EvB.or (.cmp (.call en.ok g.f (.cons (nm en) .nil) (pile_ g N hn6 (by omega)).at (by show 2 ≤ 6; omega)) (.bin (t := .list ((pileRes N).map T.str)) (nm en) (.list (.cons .str .nil)) ?_) (.ne_list (flat1_strs _))) (fun _ => .or (.cmp (.call en.ok g.f (.cons (nm en) .nil) (pile_ g (rowRes rk rows) hf6 (by omega)).at (by show 2 ≤ 6; omega)) (.bin (t := .list ((pileRes (rowRes rk rows)).map T.str)) (.call en.ok g.f (.cons (nm en) (.cons (nm en) .nil)) (row_ g rk tw hk t6 (fun i j h1 h2 => by rw [tl i h2]; exact h1) (fun i hi => by rw [tl i hi]; omega) hperm).at (by show 1 ≤ 6; omega)) (.list (.cons .str .nil)) ?_) (.ne_list (flat1_strs _))) (fun _ => .or_nil))).cast rfl) (fun hb => by cases hb) (fun _ => .nil ?_)
  · rw [hp1, List.map_append]
    exact .add_list (by rw [List.length_map, rl]; simp only [List.length_cons, List.length_nil]; omega)
  · rw [hp2, List.map_append]
    exact .add_list (by rw [List.length_map, rl2]; simp only [List.length_cons, List.length_nil]; omega)
  refine .compU (ts := msgs.map T.str) stripT [] en (us := (List.replicate 6 (Str.ofString "")).map T.str) (hus := by rw [stripT_map, hbare]) (hit := fun _ => .list (.call0 en.ok g.f (messages_ g).at (by show 1 ≤ 6; omega))) (htest := ?_) (helt := ?_) (hsz := by rw [List.length_map]; decide) (hr := ?_)
  · intro L Y' t ek ht
    obtain ⟨x, _, rfl⟩ := List.mem_map.mp ht
    exact EvTs.nil
  · intro L Y' t u ek ht hf
    obtain ⟨x, hx, rfl⟩ := List.mem_map.mp ht
    cases hf
    have hx8 : x.length ≤ 8 := by
      have : ∀ x, x ∈ msgs → x.length ≤ 8 := by decide
      exact this x hx
    exact .call ek g.f (.cons (nm' ek) .nil) (strip_ g x (by omega) (Nat.le_trans (strip_len x) (by omega))).at (by show 1 ≤ 6; omega)
  refine .ite (b := false) (h := (EvB.cmp (.bin (t := .list (((List.replicate 6 (Str.ofString "")) ++ N).map T.str)) (nm en) (.comp (ts := N.map T.str) backT [] en.ok (hit := .list (nm en)) (htest := ?_) (helt := ?_) (hsz := by rw [List.length_map, hN]; omega)) ?_) (.bin (t := .list (((List.replicate 6 (Str.ofString "")) ++ N).map T.str)) (.bin (.list (.cons .str .nil)) .int (.mul_list (by decide) (by decide) (by decide))) (nm en) ?_) (.ne_list (flat1_strs _))).cast rfl) (fun hb => by cases hb) (fun _ => .nil ?_)
  · intro L Y' t ek ht
    obtain ⟨x, _, rfl⟩ := List.mem_map.mp ht
    exact EvTs.nil
  · intro L Y' t u ek ht hf
    obtain ⟨x, hx, rfl⟩ := List.mem_map.mp ht
    cases hf
    have hx6 := hn6 x hx
    have hl : (locName (some (Str.ofString "")) (some x)).length ≤ 7 := by
      rw [locName_len]
      show (Str.ofString "").length + 1 + x.length ≤ 7
      rw [show (Str.ofString "").length = 0 by decide]; omega
    exact .call ek g.f (.cons (.call ek g.f (.cons (.tup (.cons .str (.cons (nm' ek) .nil))) .nil) (loc_ g (some (Str.ofString "")) (some x) (by show (Str.ofString "").length + 1 + x.length ≤ _; rw [show (Str.ofString "").length = 0 by decide]; omega)).at (by show 1 ≤ 6; omega)) .nil) (strip_ g _ (by omega) (Nat.le_trans (strip_len _) (by omega))).at (by show 1 ≤ 6; omega)
  · rw [backT_map N hback, List.map_append]
    exact .add_list (by rw [List.length_map, List.length_map, List.length_replicate, hN]; omega)
  · rw [List.map_append]
    exact .add_list (by rw [List.length_map, hN]; decide)
  refine .weak (fun q hq => ?_) hnext
  simp only [List.mem_cons, List.not_mem_nil, or_false] at hq
  rcases hq with rfl | rfl | rfl <;> simp
end
end Mine
end

-- F14
section
open PySem PySem.W PyProof.Rows PySem.Calls PySem.Spec
set_option maxRecDepth 100000
set_option maxHeartbeats 8000000
namespace Mine
open PySem (Expr)

noncomputable def collT (x : Str) : T → Option T
  | .str y => some (.int (collv x y))
  | _ => none
noncomputable def rowT (rk : List Str) : T → Option T
  | .str x => some (.list ((rk.map T.str).filterMap (collT x)))
  | _ => none
/-- what the lines of told must be -/
noncomputable def toldRow (k : Nat) : List Int := List.replicate k 1 ++ [0] ++ List.replicate (5 - k) (-1)
noncomputable def told : List (List T) := (List.range 6).map fun k => (toldRow k).map T.int
noncomputable def wantT : T → Option T
  | .int k => some (.list ((toldRow k.toNat).map T.int))
  | _ => none

section
variable {G : Cx} {p : Params} {C : Cx} {X : List Addr} {K : Out → Prop} {rest : List Stmt}

theorem law_body7 (g : Gs G p) (N rk : List Str) (page : Str) (hk : rk.length = 6)
    (htold : (rk.map T.str).filterMap (rowT rk) = told.map T.list)
    (L a : Addr) (cd : Value) (sc0 : Scope) (en0 : EnvC (G.at' 6 (envOfC (Str.ofString "law") (scopeOf (hd.heap_39 p) 134 sc0) L a cd)))
    (hnext : ExL (G.at' 6 (envOfC (Str.ofString "law") (scopeOf (hd.heap_39 p) 134 sc0) L a cd)) [] [(Str.ofString "names", .list (N.map T.str)), (Str.ofString "page", .str page)] [] ((bodyA (hd.heap_39 p) 134).drop 22) K) :
    ExL (G.at' 6 (envOfC (Str.ofString "law") (scopeOf (hd.heap_39 p) 134 sc0) L a cd)) [] [(Str.ofString "names", .list (N.map T.str)), (Str.ofString "page", .str page), (Str.ofString "ranked", .list (rk.map T.str))] [] ((bodyA (hd.heap_39 p) 134).drop 20) K := by
  refine body_aux (by rfl) (by rfl) ?_
  have en := env_aux (by rfl) en0
  have big : 100000 ≤ sizeLine := by decide
  refine .compU (ts := rk.map T.str) (rowT rk) [("ranked", .list (rk.map T.str))] en (us := told.map T.list) (hus := htold) (hit := fun _ => .list (nm en)) (htest := ?_) (helt := ?_) (hsz := by rw [List.length_map, hk]; omega) (hr := ?_)
  · intro L Y' t ek ht
    obtain ⟨x, _, rfl⟩ := List.mem_map.mp ht
    exact EvTs.nil
  · intro L Y' t u ek ht hf
    obtain ⟨x, hx, rfl⟩ := List.mem_map.mp ht
    cases hf
    refine .comp (ts := rk.map T.str) (collT x) [("x", .str x)] ek (hit := .list (nm' ek)) (htest := ?_) (helt := ?_) (hsz := by rw [List.length_map, hk]; omega)
    · intro L Y' t ek2 ht
      obtain ⟨y, _, rfl⟩ := List.mem_map.mp ht
      exact EvTs.nil
    · intro L Y' t u ek2 ht hf
      obtain ⟨y, _, rfl⟩ := List.mem_map.mp ht
      cases hf
      exact .call ek2 g.f (.cons (nm' ek2) (.cons (nm' ek2) .nil)) (strcoll_ g x y).at (by show 1 ≤ 6; omega)
  have hw : (rng 0 ((6 : Int) - 0).toNat).filterMap wantT = told.map T.list := rfl
  refine .ite (b := false) (h := (EvB.or (.cmp (t2 := .list (told.map T.list)) (nm en) ((EvE.comp (ts := rng 0 ((6 : Int) - 0).toNat) wantT [] en.ok (hit := .range1 en.ok g.b .int (by decide) (by decide)) (htest := ?_) (helt := ?_) (hsz := by rw [rng_length]; decide)).cast (by rw [hw])) (.ne_list rfl)) (fun _ => .or (.cmp (.comp2 (tss := told) en.ok (hit := .list (nm en)) (hit2 := ?_) (hfl := ?_) (htest := ?_)) (.list .nil) (.ne_list rfl)) (fun _ => .or_nil))).cast rfl) (fun hb => by cases hb) (fun _ => .nil ?_)
  · intro L Y' t ek ht
    obtain ⟨x, _, rfl⟩ := mem_rng ht
    exact EvTs.nil
  · intro L Y' t u ek ht hf
    obtain ⟨k, hk6, rfl⟩ := mem_rng ht
    cases hf
    have hk6' : k < 6 := by simpa using hk6
    rw [show ((0 : Int) + k) = (k : Int) by omega]
    have e1 : (((List.replicate ((k : Nat) : Int).toNat [T.int 1]).flatten ++ [T.int 0]) ++ (List.replicate ((5 : Int) - (k : Nat)).toNat [T.int (-1)]).flatten) = (toldRow ((k : Nat) : Int).toNat).map T.int := by
      have : k = 0 ∨ k = 1 ∨ k = 2 ∨ k = 3 ∨ k = 4 ∨ k = 5 := by omega
      rcases this with rfl | rfl | rfl | rfl | rfl | rfl <;> rfl
    have l1 : (List.replicate ((k : Nat) : Int).toNat [T.int 1]).flatten.length ≤ 10 := by simp; omega
    have l2 : (List.replicate ((5 : Int) - (k : Nat)).toNat [T.int (-1)]).flatten.length ≤ 10 := by simp; omega
    refine EvE.cast (.bin (.bin (.bin (.list (.cons .int .nil)) (nm' ek) (.mul_list (by omega) (by omega) (by simp only [List.length_cons, List.length_nil]; omega))) (.list (.cons .int .nil)) (.add_list (by rw [List.length_cons, List.length_nil]; omega))) (.bin (.list (.cons (.un .int .neg) .nil)) (.bin .int (nm' ek) .sub_int) (.mul_list (by omega) (by omega) (by simp only [List.length_cons, List.length_nil]; omega))) (.add_list (by rw [List.length_append, List.length_cons, List.length_nil]; omega))) (congrArg T.list e1)
  · intro L Y' ts ek hts
    exact .list (nm' ek)
  · intro ts t h1 h2
    obtain ⟨k, _, rfl⟩ := List.mem_map.mp h1
    obtain ⟨i, _, rfl⟩ := List.mem_map.mp h2
    rfl
  · intro L Y' ts t ek h1 h2
    obtain ⟨k, _, rfl⟩ := List.mem_map.mp h1
    obtain ⟨i, _, rfl⟩ := List.mem_map.mp h2
    refine (EvTs.one (.or (b := false) (.cmp (nm' ek) .bool .is_int_bool) (fun _ => .or (b := false) (.cmp (nm' ek) .bool .is_int_bool) (fun _ => .or_nil)))).cast rfl
  refine .weak (fun q hq => ?_) hnext
  simp only [List.mem_cons, List.not_mem_nil, or_false] at hq
  rcases hq with rfl | rfl <;> simp
end
end Mine
end

-- F15
section
open PySem PySem.W PyProof.Rows PySem.Calls PySem.Spec
set_option maxRecDepth 100000
set_option maxHeartbeats 8000000
namespace Mine
open PySem (Expr)

section
variable {G : Cx} {p : Params} {C : Cx} {X : List Addr} {K : Out → Prop} {rest : List Stmt}

theorem law_body8 (g : Gs G p) (N : List Str) (page n0 : Str) (hN : N.length = 6) (h0 : N[0]? = some n0) (h6 : n0.length ≤ 6) (h36 : page.length ≤ 36)
    (c1 : collv (Str.ofString "") page = -1) (c2 : collv page n0 = 1) (c3 : StrLaws.sliceText page none (some (n0.length : Int)) = n0)
    (L a : Addr) (cd : Value) (sc0 : Scope) (en0 : EnvC (G.at' 6 (envOfC (Str.ofString "law") (scopeOf (hd.heap_39 p) 134 sc0) L a cd)))
    (hnext : ExL (G.at' 6 (envOfC (Str.ofString "law") (scopeOf (hd.heap_39 p) 134 sc0) L a cd)) [] [(Str.ofString "names", .list (N.map T.str)), (Str.ofString "page", .str page)] [] ((bodyA (hd.heap_39 p) 134).drop 23) K) :
    ExL (G.at' 6 (envOfC (Str.ofString "law") (scopeOf (hd.heap_39 p) 134 sc0) L a cd)) [] [(Str.ofString "names", .list (N.map T.str)), (Str.ofString "page", .str page)] [] ((bodyA (hd.heap_39 p) 134).drop 22) K := by
  refine body_aux (by rfl) (by rfl) ?_
  have en := env_aux (by rfl) en0
  have big : 100000 ≤ sizeLine := by decide
  have hn0 : (N.map T.str)[(0 : Int).toNat]? = some (.str n0) := by
    show (N.map T.str)[0]? = _
    rw [List.getElem?_map, h0]; rfl
  have Nl : (N.map T.str).length ≤ sizeLine := by rw [List.length_map, hN]; omega
  refine .ite (b := false) (h := (EvB.cmp (.list (.cons (t := .int (-1)) ((EvE.call en.ok g.f (.cons .str (.cons (nm en) .nil)) (strcoll_ g _ page).at (by show 1 ≤ 6; omega)).cast (congrArg T.int c1)) (.cons (t := .int 1) ((EvE.call en.ok g.f (.cons (nm en) (.cons (.item (nm en) .int (by decide) hn0 Nl) .nil)) (strcoll_ g page n0).at (by show 1 ≤ 6; omega)).cast (congrArg T.int c2)) (.cons (t := .int 0) ?_ (.cons (t := .int (-1)) ((EvE.call en.ok g.f (.cons .str (.cons .str .nil)) (strcoll_ g _ _).at (by show 1 ≤ 6; omega)).cast (congrArg T.int (by decide +kernel : collv (Str.ofString "Z") (Str.ofString "a") = -1))) .nil))))) (.list (.cons (.un .int .neg) (.cons .int (.cons .int (.cons (.un .int .neg) .nil))))) (.ne_list rfl)).cast rfl) (fun hb => by cases hb) (fun _ => .nil hnext)
  refine EvE.cast (.call en.ok g.f (.cons (.item (nm en) .int (by decide) hn0 Nl) (.cons (.sliceS (nm en) .none (.some (.len_str en g.b (.item (nm en) .int (by decide) hn0 Nl) (by omega))) (by rw [c3]; omega)) .nil)) (strcoll_ g n0 _).at (by show 1 ≤ 6; omega)) (congrArg T.int ?_)
  rw [c3]
  show collv n0 n0 = 0
  unfold collv
  omega
end
end Mine
end

-- X1
section
open PySem PySem.W PyProof.Rows PySem.Calls PySem.Spec
set_option maxRecDepth 100000
set_option maxHeartbeats 8000000
namespace Mine
open PySem (Expr)

section
variable {prog : Program} {w : World} {A : Around} {E : Value → Shared → Prop} {s : Shared}
theorem seq_int_add : seqSlot? (.type "int") "__add__" = pure none := by
  have h1 : typeLookup (Value.type "int") (Str.ofString "__add__") = pure (some (.builtin "int.__add__")) := by
    have := F.slot_int_add.lookup
    rwa [show PySem.dunder "add" = Str.ofString "__add__" by decide +kernel] at this
  have h2 : isSeqSlot (some (Value.builtin "int.__add__")) = false := by decide +kernel
  unfold seqSlot?
  rw [h1, pure_bind, h2]
  rfl
theorem raise_made {α : Type} {msg : String} {Q : α → Shared → Prop} (hh : A.handled = none) (hm : (msg : Str).length ≤ sizeLine)
    (h : ∀ h' tk e, Heap.NewExc s.heap h' e "TypeError" → E (.ref e) { s with heap := h', toks := tk }) : wpAny (model prog w) A (raiseErrorMade "TypeError" msg : Sem α) Q E s :=
  raiseError_exc excClass_TypeError hh h hm
theorem nf_int : (Value.type "int" == Value.type "builtin_function_or_method") = false := by decide +kernel
theorem nf_str : (Value.type "str" == Value.type "builtin_function_or_method") = false := by decide +kernel
theorem shown_int : shownName "int" = "int" := by decide +kernel
theorem shown_str : shownName "str" = "str" := by decide +kernel
theorem radd_int_str {a : Int} {x : Str} {t u : Tok} {Q : Value → Shared → Prop} (h : Q .notImplemented s) : wpAny (model prog w) A (call (.builtin "int.__radd__") [.int a t, .str x u]) Q E s := by
  refine wpAny_call_entry F.slot_int_radd (typeIs_int s a t) F.entry_int_radd ?_ (F.args_int_radd_2 _ _)
  obtain ⟨hp, g, d, tk, os⟩ := s
  wp_walk
  exact ⟨_, rfl, h⟩
theorem add_ni {a : Int} {y : Str} {t u : Tok} {Q : Value → Shared → Prop} (h : Q .notImplemented s) : wpAny (model prog w) A (call (.builtin "int.__add__") [.int a t, .str y u]) Q E s := by
  refine wpAny_call_entry F.slot_int_add (typeIs_int s a t) F.entry_int_add ?_ (F.args_int_add_2 _ _)
  obtain ⟨hp, g, d, tk, os⟩ := s
  wp_walk
  exact ⟨_, rfl, h⟩
theorem try_int_str {a : Int} {y : Str} {t u : Tok} {Q : Option Value → Shared → Prop} (h : Q none s) : wpAny (model prog w) A (tryMethod (.int a t) (PySem.dunder "add") (.str y u)) Q E s := by
  with_reducible exact wpAny_tryMethod_declines (typeIs_int s a t) F.slot_int_add (add_ni (Q := fun v s' => v = .notImplemented ∧ Q none s') ⟨rfl, h⟩)
theorem try_str_int {a : Int} {y : Str} {t u : Tok} {Q : Option Value → Shared → Prop} (h : Q none s) : wpAny (model prog w) A (tryMethod (.int a t) (dunderR "add") (.str y u)) Q E s := by
  with_reducible exact wpAny_tryMethod_declines (typeIs_int s a t) F.slot_int_radd (radd_int_str (Q := fun v s' => v = .notImplemented ∧ Q none s') ⟨rfl, h⟩)
theorem b1_int_str {a : Int} {y : Str} {t u : Tok} {Q : Option Value → Shared → Prop} (h : Q none s) : wpAny (model prog w) A (binaryOp1 "add" (.int a t) (.str y u)) Q E s := by
  simp only [binaryOp1]
  refine wpAny_bind (wpAny_typeOf (typeIs_int s a t) (wpAny_bind (wpAny_typeOf (typeIs_str s y u) (wpAny_bind (wpAny_of_eq F.fills_int_add ?_)))))
  have hne : (Value.type "int" == Value.type "str") = false := by decide
  simp only [hne, Bool.false_eq_true, if_false]
  refine wpAny_bind (wpAny_of_eq PySem.noFill_str_add ?_)
  simp only [Bool.and_false, Bool.false_and, Bool.false_eq_true, if_false, if_true, pure_bind]
  exact wpAny_bind (try_int_str (wpAny_pure h))
theorem b1_str_int {a : Int} {x : Str} {t u : Tok} {Q : Option Value → Shared → Prop} (h : Q none s) : wpAny (model prog w) A (binaryOp1 "add" (.str x t) (.int a u)) Q E s := by
  simp only [binaryOp1]
  refine wpAny_bind (wpAny_typeOf (typeIs_str s x t) (wpAny_bind (wpAny_typeOf (typeIs_int s a u) (wpAny_bind (wpAny_of_eq PySem.noFill_str_add ?_)))))
  have hne : (Value.type "str" == Value.type "int") = false := by decide
  simp only [hne, Bool.false_eq_true, if_false]
  refine wpAny_bind (wpAny_of_eq F.fills_int_add ?_)
  simp only [Bool.false_and, Bool.and_true, Bool.not_false, Bool.false_eq_true, if_false, if_true, pure_bind]
  exact wpAny_bind (try_str_int (wpAny_pure h))
theorem concat_str_int {a : Int} {x : Str} {t u : Tok} {Q : Value → Shared → Prop} (hh : A.handled = none)
    (h : ∀ h' tk e, Heap.NewExc s.heap h' e "TypeError" → E (.ref e) { s with heap := h', toks := tk }) : wpAny (model prog w) A (call (.builtin "str.__add__") [.str x t, .int a u]) Q E s := by
  refine wpAny_call_entry F.slot_str_add (typeIs_str _ x t) F.entry_str_add ?_ (F.args_str_add_2 _ _)
  unfold Builtin.«str.__add__»
  show wpAny _ _ (Builtin.Str.strSlot "__add__" 1 { pos := [Value.str x t, Value.int a u] } >>= _) _ _ _
  have e : Builtin.Str.strSlot "__add__" 1 { pos := [Value.str x t, Value.int a u] } = pure (.str x t, x, [.int a u]) := by rfl
  rw [e, pure_bind]
  dsimp only [List.headD_cons]
  have e2 : asStr? (.int a u) = pure none := by rfl
  rw [e2, pure_bind]
  dsimp only
  refine wpAny_bind (wpAny_rule ?_)
  refine wpAny_bind (wpAny_typeNameOf' (typeIs_int s a u) nf_int ?_)
  rw [shown_int]
  exact raise_made hh (by decide +kernel) h
theorem add_int_str {a : Int} {y : Str} {t u : Tok} {Q : Value → Shared → Prop} (hh : A.handled = none)
    (h : ∀ h' tk e, Heap.NewExc s.heap h' e "TypeError" → E (.ref e) { s with heap := h', toks := tk }) : wpAny (model prog w) A (binaryOp .Add (.int a t) (.str y u)) Q E s := by
  unfold binaryOp
  refine wpAny_holding ?_
  refine wpAny_bind (b1_int_str ?_)
  refine wpAny_bind (wpAny_typeOf (typeIs_int s a t) ?_)
  refine wpAny_bind (wpAny_of_eq seq_int_add ?_)
  show wpAny _ _ (binopTypeError "+" _ _) _ _ _
  unfold binopTypeError
  refine wpAny_bind (wpAny_rule ?_)
  refine wpAny_bind (wpAny_typeNameOf' (typeIs_int s a t) nf_int (wpAny_bind (wpAny_typeNameOf' (typeIs_str s y u) nf_str ?_)))
  rw [shown_int, shown_str]
  exact raise_made hh (by decide +kernel) h
theorem add_str_int {a : Int} {x : Str} {t u : Tok} {Q : Value → Shared → Prop} (hh : A.handled = none)
    (h : ∀ h' tk e, Heap.NewExc s.heap h' e "TypeError" → E (.ref e) { s with heap := h', toks := tk }) : wpAny (model prog w) A (binaryOp .Add (.str x t) (.int a u)) Q E s := by
  unfold binaryOp
  refine wpAny_holding ?_
  refine wpAny_bind (b1_str_int ?_)
  refine wpAny_bind (wpAny_typeOf (typeIs_str s x t) ?_)
  refine wpAny_bind (wpAny_of_eq PySem.seq_str_add ?_)
  exact wpAny_bind (wpAny_rule (concat_str_int hh h))

theorem ext_sub {h h1 : Heap} (k : Heap.ExtBut h.objs.size h h1) : Sub h h1 := fun b o e => k b o (Nat.ne_of_lt (Heap.lt_size e)) e
theorem newExc_under {h h1 h' : Heap} {e : Addr} {X : String} (k : Sub h h1) (x : Heap.NewExc h1 h' e X) : Heap.NewExc h h' e X :=
  ⟨fun b o eb => x.keeps b o (k b o eb), (by
    cases q : h.get? e with
    | none => rfl
    | some o => have := k _ _ q; rw [x.new] at this; cases this), x.there⟩
/-- a tuple of another length is not taken apart -/
theorem unpack_short {t : Addr} {v1 : Value} {Q : List Value → Shared → Prop} (hh : A.handled = none) (ht : IsTup s.heap t #[v1])
    (h : ∀ h' tk e, Heap.NewExc s.heap h' e "ValueError" → E (.ref e) { s with heap := h', toks := tk }) : wpAny (model prog w) A (unpackItems (.ref t) 2 none) Q E s := by
  have hlt : t ≠ s.heap.objs.size := by obtain ⟨o, ho, _⟩ := ht; exact Nat.ne_of_lt (Heap.lt_size ho)
  unfold unpackItems
  refine wpAny_bind ?_
  unfold notIterableAtAll
  refine wpAny_bind (wpAny_specialOf ht.typeIs PyProof.Rows.slot_tuple_iter.lookup ?_)
  refine wpAny_pure ?_
  simp only [Bool.false_eq_true, if_false]
  with_reducible refine wpAny_bind (wpAny_holding (iter_tuple ht ?_))
  refine wpAny_bind (wpAny_holding ?_)
  show wpAny _ _ (pyNext _ >>= _) _ _ _
  refine wpAny_bind (next_tuple_item (i := 0) (x := v1) ⟨_, Heap.get?_push_size _ rfl, rfl, rfl⟩ (ht.push _) rfl fun h₁ hit₁ hs₁ => ?_)
  have ht₁ : IsTup h₁ t #[v1] := (ht.push _).extBut hs₁.extBut hlt
  refine wpAny_bind (wpAny_holding ?_)
  show wpAny _ _ (pyNext _ >>= _) _ _ _
  refine wpAny_bind (next_tuple_end hh hit₁ ht₁ rfl fun h₂ he₂ => wpAny_pure (wpAny_pure ?_))
  rw [if_pos (show ([v1] : List Value).length < 2 from Nat.le_refl 2)]
  refine wpAny_bind (wpAny_rule ?_)
  simp only [List.length_cons, List.length_nil]
  refine wpAny_bind (raiseError_exc excClass_ValueError hh (fun h' tk e x => h h' tk e (newExc_under (fun b o eb => ?_) x)) ?_)
  rotate_left
  · decide +kernel
  have hb := Nat.ne_of_lt (Heap.lt_size eb)
  exact he₂ b o hb (hs₁.extBut b o hb (Heap.get?_push_of_some _ eb))
theorem unpack_long {t : Addr} {v1 v2 v3 : Value} {Q : List Value → Shared → Prop} (hh : A.handled = none) (ht : IsTup s.heap t #[v1, v2, v3])
    (h : ∀ h' tk e, Heap.NewExc s.heap h' e "ValueError" → E (.ref e) { s with heap := h', toks := tk }) : wpAny (model prog w) A (unpackItems (.ref t) 2 none) Q E s := by
  have hlt : t ≠ s.heap.objs.size := by obtain ⟨o, ho, _⟩ := ht; exact Nat.ne_of_lt (Heap.lt_size ho)
  unfold unpackItems
  refine wpAny_bind ?_
  unfold notIterableAtAll
  refine wpAny_bind (wpAny_specialOf ht.typeIs PyProof.Rows.slot_tuple_iter.lookup ?_)
  refine wpAny_pure ?_
  simp only [Bool.false_eq_true, if_false]
  with_reducible refine wpAny_bind (wpAny_holding (iter_tuple ht ?_))
  with_reducible refine wpAny_bind (wpAny_holding (draw_tuple hlt 2 0 _ _ ?hi (ht.push _) (by simp) fun h₁ hit₁ hs₁ => ?_))
  case hi => exact ⟨_, Heap.get?_push_size _ rfl, rfl, rfl⟩
  have ht₁ : IsTup h₁ t #[v1, v2, v3] := (ht.push _).extBut hs₁.extBut hlt
  show wpAny _ _ (if ([v1, v2] : List Value).length < 2 then _ else _) _ _ _
  rw [if_neg (show ¬ ([v1, v2] : List Value).length < 2 by simp)]
  refine wpAny_bind (wpAny_holding (next_tuple_item (i := 2) (x := v3) hit₁ ht₁ rfl fun h₂ hit₂ hs₂ => ?_))
  rw [if_pos (by simp)]
  refine wpAny_bind (wpAny_rule ?_)
  refine wpAny_bind (raiseError_exc excClass_ValueError hh (fun h' tk e x => h h' tk e (newExc_under (fun b o eb => ?_) x)) ?_)
  rotate_left
  · decide +kernel
  have hb := Nat.ne_of_lt (Heap.lt_size eb)
  exact hs₂.extBut b o hb (hs₁.extBut b o hb (Heap.get?_push_of_some _ eb))
end
end Mine
end

-- X2
section
open PySem PySem.W PyProof.Rows PySem.Calls PySem.Spec
set_option maxRecDepth 100000
set_option maxHeartbeats 8000000
namespace Mine
open PySem (Expr)

section
variable {M : Model} {A : Around} {E : Value → Shared → Prop} {s : Shared}

/-- an exception e with its traceback T, above a heap that stays -/
structure Ex (base : Heap) (l : List Env) (h : Heap) (e T : Addr) (cls : Value) (vs : Array Value) (fl : Value) : Prop where
  st : base.StaysIn h
  ne : base.get? e = none
  nT : base.get? T = none
  ff : h.FunFrames base l
  he : ∃ oe, h.get? e = some oe ∧ oe.cls = cls ∧ oe.data = .fields vs
  v1 : vs[1]? = some (.ref T)
  Te : T ≠ e
  hT : ∃ oT ts, h.get? T = some oT ∧ oT.data = .fields ts ∧ ts[3]? = some fl
theorem Ex.sub {base : Heap} {l : List Env} {h h' : Heap} {e T : Addr} {cls : Value} {vs : Array Value} {fl : Value} (x : Ex base l h e T cls vs fl) (k : Sub h h') : Ex base l h' e T cls vs fl :=
  ⟨fun b o eb => k b o (x.st b o eb), x.ne, x.nT, x.ff.of_keeps fun b o eb _ => ⟨o, k b o eb, rfl⟩, let ⟨o, e1, e2⟩ := x.he; ⟨o, k _ _ e1, e2⟩, x.v1, x.Te, let ⟨o, ts, e1, e2⟩ := x.hT; ⟨o, ts, k _ _ e1, e2⟩⟩

theorem upd_slots {h : Heap} {T : Addr} {oT : Obj} {ts : Array Value} (hT : h.get? T = some oT) (hd : oT.data = .fields ts) (f : Obj → Obj) : h.UpToSlots (h.update T f) := fun b o eb hn =>
  ⟨o.slots, (Heap.get?_update_other _ _ (fun q => by subst q; rw [hT] at eb; cases eb; exact hn ts hd)).trans eb⟩

/-- the flight is set -/
theorem set_flight {base : Heap} {l : List Env} {e T : Addr} {cls : Value} {vs : Array Value} {fl : Value} (fr : Option Addr) {Q : Unit → Shared → Prop} (x : Ex base l s.heap e T cls vs fl)
    (h : ∀ h', Ex base l h' e T cls vs (fr.elim .none fun f => rawInt f) → s.heap.UpToSlots h' → Q () { s with heap := h' }) : wpAny M A (setFlight (.ref e) fr) Q E s := by
  obtain ⟨oe, he, hc, hd⟩ := x.he
  obtain ⟨oT, ts, hT, hdT, h3⟩ := x.hT
  have hsz : 3 < ts.size := (Array.getElem?_eq_some_iff.mp h3).1
  unfold setFlight
  refine wpAny_bind (wpAny_field he hd x.v1 ?_)
  rw [if_pos (show (Value.ref T != Value.none) = true from by simp)]
  have other : ∀ b, b ≠ T → (s.heap.update T (Obj.mapFields (·.setIfInBounds 3 (fr.elim Value.none fun f => rawInt f)))).get? b = s.heap.get? b := fun b hb => Heap.get?_update_other _ _ (Ne.symm hb)
  have sm := upd_slots hT hdT (Obj.mapFields (·.setIfInBounds 3 (fr.elim Value.none fun f => rawInt f)))
  refine wpAny_setField hT hdT hsz (h _ ⟨fun b o eb => (other b fun q => by rw [q, x.nT] at eb; cases eb).trans (x.st b o eb), x.ne, x.nT, x.ff.of_keeps fun b o eb hn => ?_, ⟨oe, (other e (Ne.symm x.Te)).trans he, hc, hd⟩, x.v1, x.Te, ?_⟩ sm)
  · obtain ⟨sl, q⟩ := sm b o eb hn
    exact ⟨_, q, rfl⟩
  · exact ⟨_, _, Heap.get?_update_self _ hT (Obj.isFreed_of_fields (Obj.data_mapFields hdT _)), Obj.data_mapFields hdT _, by simp [hsz]⟩

/-- the first note of an exception: a new traceback -/
theorem note_first {base : Heap} {env : Env} {outer : List Env} {L e : Addr} {oe : Obj} {vs : Array Value} {Q : Unit → Shared → Prop} (hfr : A.frames = some (env :: outer)) (hl : s.heap.FunFrames base (env :: outer)) (hf : env.frame = some L)
    (he : s.heap.get? e = some oe) (hd : oe.data = .fields vs) (h1 : vs[1]? = some .none) (st : base.StaysIn s.heap) (ne : base.get? e = none)
    (h : ∀ h' T, Ex base (env :: outer) h' e T oe.cls (vs.setIfInBounds 1 (.ref T)) (rawInt L) → s.heap.UpToSlots h' → Q () { s with heap := h' }) : wpAny M A (noteFrame (.ref e) env) Q E s := by
  have hene : e ∉ (env :: outer).filterMap (·.frame) := fun hm => by
    obtain ⟨_, o, ho, hnf⟩ := hl.mem hm
    rw [he] at ho; cases ho; exact hnf vs hd
  have hsz : 1 < vs.size := (Array.getElem?_eq_some_iff.mp h1).1
  unfold noteFrame
  simp only [hf]
  refine wpAny_bind (wpAny_field he hd h1 ?_)
  rw [if_neg (by decide)]
  refine wpAny_bind (wpAny_frameOf_fun hfr hl hf fun h₁ hs₁ => ?_)
  refine wpAny_bind (wpAny_entryPlaceOf fun pl hpl => ?_)
  unfold EntryCells.newEntry newFields
  refine wpAny_bind (wpAny_newObj_type ?_ (hpl.sizeOk5 _ _ _ _ _))
  have he₁ : h₁.get? e = some oe := (hs₁.2.1 e hene).trans he
  have st₁ : base.StaysIn h₁ := fun b o eb => (hs₁.2.1 b fun hm => by rw [(hl.mem hm).1] at eb; cases eb).trans (st b o eb)
  generalize hts : ([Value.none, .ref L, .none, rawInt L, .none] ++ (if pl.isEmpty then List.replicate 6 Value.none else pl)).toArray = ts
  have h3 : ts[3]? = some (rawInt L) := by rw [← hts]; simp
  have he₂ := Heap.get?_push_of_some (h := h₁) { cls := .type "traceback", dict := none, data := .fields ts } he₁
  have hTe : h₁.objs.size ≠ e := Nat.ne_of_gt (Heap.lt_size he₁)
  have keep : ∀ b o, b ≠ e → h₁.get? b = some o → ((h₁.push { cls := .type "traceback", dict := none, data := .fields ts }).update e (Obj.mapFields (·.setIfInBounds 1 (Value.ref h₁.objs.size)))).get? b = some o := fun b o hb eb =>
    (Heap.get?_update_other _ _ (Ne.symm hb)).trans (Heap.get?_push_of_some _ eb)
  have sm : s.heap.UpToSlots ((h₁.push { cls := .type "traceback", dict := none, data := .fields ts }).update e (Obj.mapFields (·.setIfInBounds 1 (Value.ref h₁.objs.size)))) := fun b o eb hn => by
    obtain ⟨sl, q⟩ := hs₁.2.2 b o eb
    exact ⟨sl, keep b _ (fun q => by subst q; rw [he] at eb; cases eb; exact hn vs hd) q⟩
  refine wpAny_setField he₂ hd hsz (h _ h₁.objs.size ⟨fun b o eb => keep b o (fun q => by rw [q, ne] at eb; cases eb) (st₁ b o eb), ne, st₁.fresh, hl.of_keeps fun b o eb hn => ?_, ⟨_, Heap.get?_update_self _ he₂ (Obj.isFreed_of_fields (Obj.data_mapFields hd _)), Obj.cls_mapFields _ _, Obj.data_mapFields hd _⟩, by simp [hsz], hTe, ?_⟩ sm)
  · obtain ⟨sl, q⟩ := sm b o eb hn
    exact ⟨_, q, rfl⟩
  · exact ⟨_, ts, (Heap.get?_update_other _ _ (Ne.symm hTe)).trans (Heap.get?_push_size _ rfl), rfl, h3⟩

/-- it has been noted here -/
theorem note_again {base : Heap} {l : List Env} {env : Env} {L e T : Addr} {cls : Value} {vs : Array Value} {Q : Unit → Shared → Prop} (hf : env.frame = some L) (x : Ex base l s.heap e T cls vs (rawInt L)) (h : Q () s) : wpAny M A (noteFrame (.ref e) env) Q E s := by
  obtain ⟨oe, he, hc, hd⟩ := x.he
  obtain ⟨oT, ts, hT, hdT, h3⟩ := x.hT
  unfold noteFrame
  simp only [hf]
  refine wpAny_bind (wpAny_field he hd x.v1 ?_)
  rw [if_pos (show (Value.ref T != Value.none) = true from by simp)]
  refine wpAny_bind (wpAny_field hT hdT h3 ?_)
  rw [if_pos (show (rawInt L == rawInt L) = true from by simp)]
  exact wpAny_pure h

/-- out of the own activation -/
theorem came_back {base : Heap} {l : List Env} {env : Env} {e T : Addr} {cls : Value} {vs : Array Value} {fl : Value} {E' : Value → Shared → Prop} (x : Ex base l s.heap e T cls vs fl)
    (h : ∀ h', Ex base l h' e T cls vs (env.frame.elim .none fun f => rawInt f) → s.heap.UpToSlots h' → E' (.ref e) { s with heap := h' }) : cameBackBy M A env E' (.ref e) s := by
  obtain ⟨oe, he, hc, hd⟩ := x.he
  unfold cameBackBy
  refine wpAny_bind (wpAny_field he hd x.v1 ?_)
  rw [if_neg (by simp)]
  exact set_flight env.frame x h

theorem leaves {base : Heap} {outer : List Env} {env : Env} {L e T : Addr} {cls : Value} {vs : Array Value} {Q : Unit → Shared → Prop} (hf : env.frame = some L) (x : Ex base (env :: outer) s.heap e T cls vs (rawInt L))
    (h : ∀ h', Ex base outer h' e T cls vs .none → s.heap.UpToSlots h' → Q () { s with heap := h' }) : wpAny M A (leaving env (.ref e)) Q E s := by
  unfold leaving
  refine wpAny_bind (note_again hf x ?_)
  refine set_flight none x fun h' x' sm => h h' ⟨x'.st, x'.ne, x'.nT, x'.ff.2.2, x'.he, x'.v1, x'.Te, x'.hT⟩ sm
theorem Ex.flying {base : Heap} {l : List Env} {h : Heap} {e T : Addr} {cls a0 : Value} {vs : Array Value} (x : Ex base l h e T cls vs .none) (h0 : vs[0]? = some a0) : Heap.FlyingW base l e cls a0 h := by
  obtain ⟨oe, he, hc, hd⟩ := x.he
  obtain ⟨oT, ts, hT, hdT, h3⟩ := x.hT
  exact ⟨x.st, x.ne, x.ff, oe, vs, T, oT, ts, he, ⟨hc, h0⟩, hd, x.v1, x.nT, x.Te, hT, hdT, h3⟩
end
end Mine
end

-- X3
section
open PySem PySem.W PyProof.Rows PySem.Calls PySem.Spec
set_option maxRecDepth 100000
set_option maxHeartbeats 8000000
namespace Mine
open PySem (Expr)

section
variable {prog : Program} {w : World} {A : Around} {E : Value → Shared → Prop} {s : Shared}
theorem entry_unchain : entryFor table "proto.unchain" = some Builtin.«proto.unchain» := entryFor_of_tree (by kernel_rfl)
theorem unchain_ {e1 e2 : Addr} {oe : Obj} {vs : Array Value} {Q : Value → Shared → Prop} (he : s.heap.get? e1 = some oe) (hd : oe.data = .fields vs) (h2 : vs[2]? = some .none) (hq : Q .none s) :
    wpAny (model prog w) A (runValue (.builtin "proto.unchain" ⟨[.ref e2, .ref e1, .ref e1, .bool false], []⟩)) Q E s := by
  refine wpAny_runValue (codeAny_builtin entry_unchain ?_)
  show wpAny _ _ (field (.ref e1) 2 >>= _) _ _ _
  refine wpAny_bind (wpAny_field he hd h2 ?_)
  rw [if_pos (by decide)]
  first | exact wpAny_pure hq | (refine wpAny_bind (wpAny_pure (wpAny_pure ?_)); exact hq)

/-- `raise X from None` while e1 is handled -/
theorem raise_from {base : Heap} {l : List Env} {env : Env} {e1 T1 : Addr} {cls : Value} {vs1 : Array Value} {x c : Sem Value} {m : Str} {u : Tok} {Q : Flow → Shared → Prop} (hh : A.handled = some (.ref e1)) (X1 : Ex base l s.heap e1 T1 cls vs1 .none) (h2 : vs1[2]? = some .none)
    (hx : ∀ Q' : Value → Shared → Prop, (∀ h' e tk, Heap.MadeExc s.heap h' e "TypeError" [.str m u] → Q' (.ref e) { s with heap := h', toks := tk }) → wpAny (model prog w) A x Q' E s)
    (hc : ∀ (s' : Shared) (Q' : Value → Shared → Prop), Q' .none s' → wpAny (model prog w) A c Q' E s')
    (h : ∀ h' e t tk, base.StaysIn h' → base.get? e = none → base.get? t = none → h'.FunFrames base l → h'.get? e = some { cls := .type "TypeError", data := .fields #[.ref t, .none, .ref e1, .none, .bool true, .none] } → h'.get? t = some { cls := .type "tuple", data := .seq #[.str m u] } →
      s.heap.UpToSlots h' → E (.ref e) { s with heap := h', toks := tk }) :
    wpAny (model prog w) A (raiseStmt env (some x) (some c)) Q E s := by
  obtain ⟨oe1, he1, hc1, hd1⟩ := X1.he
  unfold raiseStmt
  dsimp only
  refine wpAny_bind (hx _ fun h1 e tk hm => ?_)
  have X1' := X1.sub hm.keeps
  have hne : e ≠ e1 := fun q => by have := hm.new; rw [q, he1] at this; cases this
  have ne : base.get? e = none := by
    cases q : base.get? e with
    | none => rfl
    | some o => have := X1.st _ _ q; rw [hm.new] at this; cases this
  obtain ⟨t, het, ht0, htt⟩ := hm.there
  have nt : base.get? t = none := by
    cases q : base.get? t with
    | none => rfl
    | some o => have := X1.st _ _ q; rw [ht0] at this; cases this
  refine wpAny_bind (wpAny_holding (hc _ _ (wpAny_bind (wpAny_pure ?_))))
  have hT : ∀ {hp : Heap} {g d tk2 os} {o : Obj}, hp.get? e = some o → o.cls = .type "TypeError" → (⟨hp, g, d, tk2, os⟩ : Shared).TypeIs (.ref e) "TypeError" := fun {hp g d tk2 os o} q qc => ⟨_, q, qc⟩
  have hnt : ∀ {s1 : Shared} {o : Obj} {vs : Array Value} {Q' : Bool → Shared → Prop}, s1.heap.get? e = some o → o.data = .fields vs → Q' false s1 → wpAny (model prog w) A (isType (.ref e)) Q' E s1 := by
    intro s1 o vs Q' ho hd hq
    simp only [isType, loadHead]
    refine wpAny_bind (wpAny_loadPart ho ?_)
    rw [hd]; exact wpAny_pure hq
  have excF : ∀ {s1 : Shared} {Q' : Value → Shared → Prop} {msg : String}, s1.heap.get? e = some { cls := .type "TypeError", data := .fields #[.ref t, .none, .none, .none, .bool false, .none] } → Q' (.ref e) s1 → wpAny (model prog w) A (excFromValue (.ref e) msg) Q' E s1 := by
    intro s1 Q' msg ho hq
    unfold excFromValue isExcClass
    refine wpAny_bind (wpAny_bind (hnt ho rfl ?_))
    simp only [Bool.false_eq_true, if_false]
    refine wpAny_pure ?_
    simp only [Bool.false_eq_true, if_false]
    refine wpAny_bind (wpAny_isInstance (T := "TypeError") ⟨_, ho, rfl⟩ excClass_TypeError.base ?_)
    simp only [if_true]
    exact wpAny_pure hq
  refine wpAny_bind (wpAny_holding (excF het ?_))
  dsimp only
  rw [if_pos (show (Value.none == Value.none) = true from by decide)]
  refine wpAny_bind (wpAny_pure ?_)
  refine wpAny_bind (wpAny_setField het rfl (show 3 < 6 by decide) ?_)
  have het2 := Heap.get?_update_self (Obj.mapFields (·.setIfInBounds 3 Value.none)) het (Obj.isFreed_of_fields rfl)
  refine wpAny_bind (wpAny_setField het2 (Obj.data_mapFields rfl _) (by simp) ?_)
  have het3 := Heap.get?_update_self (Obj.mapFields (·.setIfInBounds 4 (Value.bool true))) het2 (Obj.isFreed_of_fields (Obj.data_mapFields rfl _))
  refine wpAny_bind (hnt het3 rfl ?_)
  simp only [Bool.false_eq_true, if_false]
  unfold raisedInstance
  refine wpAny_bind (wpAny_bind (wpAny_typeOf (T := "TypeError") ⟨_, het3, rfl⟩ (wpAny_bind (m := typeOf (.type "TypeError")) (wpAny_pure ?_))))
  rw [if_pos excClass_TypeError.metaType]
  refine wpAny_pure ?_
  unfold setFlight
  refine wpAny_bind (wpAny_bind (wpAny_field (x := .none) het3 rfl rfl ?_))
  rw [if_neg (show ¬ (Value.none != Value.none) = true by decide)]
  refine wpAny_pure ?_
  unfold raiseNew
  refine wpAny_bind (wpAny_handled ?_)
  rw [hh]
  dsimp only
  rw [if_pos (show (Value.ref e1 != Value.ref e) = true by simp; exact fun q => hne q.symm)]
  have oth : ∀ b, b ≠ e → ((h1.update e (Obj.mapFields (·.setIfInBounds 3 Value.none))).update e (Obj.mapFields (·.setIfInBounds 4 (Value.bool true)))).get? b = h1.get? b := fun b hb =>
    (Heap.get?_update_other _ _ (Ne.symm hb)).trans (Heap.get?_update_other _ _ (Ne.symm hb))
  refine wpAny_bind (wpAny_holding (unchain_ ((oth e1 (Ne.symm hne)).trans (hm.keeps _ _ he1)) hd1 h2 ?_))
  refine wpAny_bind (m := updateField e 2 (.ref e1)) (wpAny_setField het3 rfl (show 2 < 6 by decide) (wpAny_throw ?_))
  have het4 := Heap.get?_update_self (Obj.mapFields (·.setIfInBounds 2 (Value.ref e1))) het3 (Obj.isFreed_of_fields rfl)
  have oth2 : ∀ b, b ≠ e → (((h1.update e (Obj.mapFields (·.setIfInBounds 3 Value.none))).update e (Obj.mapFields (·.setIfInBounds 4 (Value.bool true)))).update e (Obj.mapFields (·.setIfInBounds 2 (Value.ref e1)))).get? b = h1.get? b := fun b hb =>
    (Heap.get?_update_other _ _ (Ne.symm hb)).trans (oth b hb)
  have old : ∀ b o, s.heap.get? b = some o → b ≠ e := fun b o eb q => by rw [q, hm.new] at eb; cases eb
  have hte : t ≠ e := fun q => by rw [q, het] at htt; injection htt with q1; injection q1 with q2; exact absurd q2 (by decide)
  refine h _ e t tk (fun b o eb => ?_) ne nt (X1'.ff.of_keeps fun b o eb hn => ?_) het4 ((oth2 t hte).trans htt) fun b o eb hn => ⟨o.slots, (oth2 b (old b o eb)).trans (hm.keeps _ _ eb)⟩
  · exact (oth2 b (fun q => by rw [q, ne] at eb; cases eb)).trans (X1'.st b o eb)
  · have : b ≠ e := fun q => by rw [q, het] at eb; cases eb; exact hn _ rfl
    exact ⟨o, (oth2 b this).trans eb, rfl⟩
end
end Mine
end

-- X4
section
open PySem PySem.W PyProof.Rows PySem.Calls PySem.Spec
set_option maxRecDepth 100000
set_option maxHeartbeats 8000000
namespace Mine
open PySem (Expr)

section
variable {M : Model} {A : Around} {E : Value → Shared → Prop} {s : Shared}
theorem execs_append (env : Env) : ∀ l1 l2 : List Stmt, execs (l1 ++ l2) env = (do
    match ← execs l1 env with
    | .next => execs l2 env
    | f => pure f)
  | [], l2 => by
    rw [List.nil_append]
    show _ = (pure Flow.next >>= _)
    rw [pure_bind]
  | b :: l1, l2 => by
    rw [List.cons_append, execs_cons, execs_cons, bind_assoc]
    refine congrArg (exec b env >>= ·) (funext fun f => ?_)
    cases f with
    | next => exact execs_append env l1 l2
    | _ => exact (pure_bind _ _).symm
theorem wpAny_append {l1 l2 : List Stmt} {env : Env} {Q : Flow → Shared → Prop}
    (h : wpAny M A (execs l1 env) (fun f s' => match f with | .next => wpAny M A (execs l2 env) Q E s' | f => Q f s') E s) : wpAny M A (execs (l1 ++ l2) env) Q E s := by
  rw [execs_append]
  refine wpAny_bind (wpAny_mono h (fun f s' h' => ?_) fun _ _ x => x)
  cases f <;> first | exact h' | exact wpAny_pure h'
end

section
variable {C : Cx} {X : List Addr} {σ σ' σ1 : List (Str × T)} {α α' α1 : List (Addr × List T)} {cls : String} {rest : List Stmt}

/-- an expression that raises a fresh exception of the class cls -/
structure RzE (C : Cx) (X : List Addr) (σ : List (Str × T)) (e : Expr) (cls : String) : Prop where
  run : ∀ (A : Around) (E : Value → Shared → Prop) (s : Shared) (Q : Value → Shared → Prop), StOk C X σ A s → (∀ h' tk ex, Heap.NewExc s.heap h' ex cls → E (.ref ex) { s with heap := h', toks := tk }) → wpAny (model C.prog C.w) A (eval e C.env) Q E s
theorem RzE.binL {l r : Expr} {op : Operator} {pos : Pos} (h : RzE C X σ l cls) : RzE C X σ (.BinOp l op r pos) cls := .mk fun A E s Q o hq => wpAny_BinOp (h.run A E s _ o hq)
theorem RzE.bin {l r : Expr} {op : Operator} {pos : Pos} {t1 t2 : T} (h1 : EvE C X σ l t1) (h2 : EvE C X σ r t2)
    (ho : ∀ (A : Around) (E : Value → Shared → Prop) (s : Shared) (Q : Value → Shared → Prop) (v1 v2 : Value), OkA C.n A → Rep X s.heap t1 v1 → Rep X s.heap t2 v2 → (∀ h' tk ex, Heap.NewExc s.heap h' ex cls → E (.ref ex) { s with heap := h', toks := tk }) → wpAny (model C.prog C.w) A (binaryOp op v1 v2) Q E s) :
    RzE C X σ (.BinOp l op r pos) cls := .mk fun A E s Q o hq => wpAny_BinOp (h1.run A E s _ o fun v1 ha tk1 k1 l1 r1 => h2.run A E _ _ (o.step k1 l1) fun v2 hb tk2 k2 l2 r2 =>
    ho A E _ Q v1 v2 o.a (r1.sub k2) r2 fun h' tk ex x => hq h' tk ex (newExc_under (k1.trans k2) x))
theorem RzE.int_str {l r : Expr} {pos : Pos} {a : Int} {y : Str} (h1 : EvE C X σ l (.int a)) (h2 : EvE C X σ r (.str y)) : RzE C X σ (.BinOp l .Add r pos) "TypeError" := .bin h1 h2 fun A E s Q v1 v2 o r1 r2 hq => by
  obtain ⟨t, rfl⟩ := r1.int; obtain ⟨u, rfl⟩ := r2.str
  exact add_int_str o.hd hq
theorem RzE.str_int {l r : Expr} {pos : Pos} {a : Int} {y : Str} (h1 : EvE C X σ l (.str y)) (h2 : EvE C X σ r (.int a)) : RzE C X σ (.BinOp l .Add r pos) "TypeError" := .bin h1 h2 fun A E s Q v1 v2 o r1 r2 hq => by
  obtain ⟨t, rfl⟩ := r1.str; obtain ⟨u, rfl⟩ := r2.int
  exact add_str_int o.hd hq

/-- statements that raise -/
structure RzL (C : Cx) (X : List Addr) (σ : List (Str × T)) (α : List (Addr × List T)) (b : List Stmt) (cls : String) : Prop where
  run : ∀ (A : Around) (E : Value → Shared → Prop) (s : Shared) (B : Addr → Obj → Prop) (Q : Flow → Shared → Prop), OkA C.n A → BOk C X B → St C X B σ α s.heap → C.t0 ≤ s.toks →
    (∀ h1 h' tk ex, (∃ σ' α', St C X B σ' α' h1) → Heap.NewExc h1 h' ex cls → E (.ref ex) { s with heap := h', toks := tk }) → wpAny (model C.prog C.w) A (execs b C.env) Q E s
theorem RzL.next {b : List Stmt} (h1 : ExL C X σ α b (fun o => o = .next σ1 α1)) (h2 : RzL C X σ1 α1 rest cls) : RzL C X σ α (b ++ rest) cls := .mk fun A E s B Q ao bo S t hq => by
  refine wpAny_append (h1.run A E s B _ ao bo S t fun out f h' tk k p l => ?_)
  subst k
  obtain ⟨rfl, S1⟩ := p
  exact h2.run A E _ B Q ao bo S1 (Nat.le_trans t l) fun h1 h2 tk2 ex e x => hq h1 h2 tk2 ex e x
theorem RzL.ite {test : Expr} {body orelse : List Stmt} {pos : Pos} {b : Bool} (h : EvB C X σ test b) (hα : α = []) (h1 : b = true → RzL C X σ α body cls) (h2 : b = false → RzL C X σ α orelse cls) : RzL C X σ α (.If test body orelse pos :: rest) cls := .mk fun A E s B Q ao bo S t hq => by
  subst hα
  refine wpAny_execs_cons (wpAny_If (h.run A E s _ (S.ok bo ao t) fun h' tk k l => ?_))
  cases b with
  | true => rw [if_pos rfl]; exact (h1 rfl).run A E _ B _ ao bo (S.grow k) (Nat.le_trans t l) fun h1 h2 tk2 ex e x => hq h1 h2 tk2 ex e x
  | false => rw [if_neg Bool.false_ne_true]; exact (h2 rfl).run A E _ B _ ao bo (S.grow k) (Nat.le_trans t l) fun h1 h2 tk2 ex e x => hq h1 h2 tk2 ex e x
theorem RzL.ret {e : Expr} {pos : Pos} (h : RzE C X σ e cls) (hα : α = []) : RzL C X σ α (.Return (some e) pos :: rest) cls := .mk fun A E s B Q ao bo S t hq => by
  subst hα
  exact wpAny_execs_cons (wpAny_Return_some (h.run A E s _ (S.ok bo ao t) fun h' tk ex x => hq _ h' tk ex ⟨_, _, S⟩ x))
/-- a tuple of one or three items, two names -/
theorem RzL.unpack {x y : Str} {ts : List T} {e : Expr} {p1 p2 tpos pos : Pos} {k : Nat} (hts : ts.length = 1 ∨ ts.length = 3) (h : EvE C X σ e (.tup ts)) (hα : α = [])
    (hl : (assignEach [.Name x p1, .Name y p2] C.env).length = 2 := by rfl) (hst : (assignEach [.Name x p1, .Name y p2] C.env).findIdx? (·.1) = none := by rfl)
    (hs : swapsWithSole [.Tuple [.Name x p1, .Name y p2] k tpos] e pos.line C.env = pure false := by rfl)
    (hw : swappedStores [.Tuple [.Name x p1, .Name y p2] k tpos] e C.env = pure none := by rfl) :
    RzL C X σ α (.Assign [.Tuple [.Name x p1, .Name y p2] k tpos] e pos :: rest) "ValueError" := .mk fun A E s B Q ao bo S t hq => by
  subst hα
  refine wpAny_execs_cons (Assign_Tuple (hs := hs) (hw := hw) (h.run A E s _ (S.ok bo ao t) fun v h' tk' k' l r => ?_))
  obtain ⟨a, vs, n, rfl, ha, e, q⟩ := r.tup
  rw [assign_Tuple]
  refine wpAny_bind (wpAny_standAt ?_)
  unfold unpack
  rw [hl, hst]
  refine wpAny_bind (wpAny_holding ?_)
  have hv := q.length
  rcases hts with hts | hts
  · match vs, hv with
    | [v1], _ => exact unpack_short ao.hd (isTup_of e) fun h2 tk ex x => hq h' h2 tk ex ⟨_, _, S.grow k'⟩ x
    | [], hv => rw [hts] at hv; cases hv
    | _ :: _ :: _, hv => rw [hts] at hv; simp at hv
  · match vs, hv with
    | [v1, v2, v3], _ => exact unpack_long ao.hd (isTup_of e) fun h2 tk ex x => hq h' h2 tk ex ⟨_, _, S.grow k'⟩ x
    | [], hv => rw [hts] at hv; cases hv
    | [_], hv => rw [hts] at hv; cases hv
    | [_, _], hv => rw [hts] at hv; cases hv
    | _ :: _ :: _ :: _ :: _, hv => rw [hts] at hv; simp at hv
end
end Mine
end

-- X5
section
open PySem PySem.W PyProof.Rows PySem.Calls PySem.Spec
set_option maxRecDepth 100000
set_option maxHeartbeats 8000000
namespace Mine
open PySem (Expr)

/-- a call of a def: into its body -/
theorem call_enter {G : Cx} {n : Nat} {f : Addr} {x : Str} {t1 : T} {oc : Value} {od : Option Addr} {osl : Array (Option Value)} {name qual : Str} {params : Arguments} {body : List Stmt} {scope : Scope} {dV kV doc pm cdv ct : Value} {an : Option Addr}
    {A : Around} {E : Value → Shared → Prop} {s : Shared} {Q : Value → Shared → Prop} {v1 : Value} {X : List Addr}
    (ho : G.K.lookup f = some ⟨oc, od, .func (fnOf name qual params body scope dV kV doc pm an cdv ct), osl⟩) (hcd : codeIn G.K cdv qual = true)
    (hbind : ∀ v1 : Value, bindArgs (fnOf name qual params body scope dV kV doc pm an cdv ct) ⟨[v1], []⟩ = pure [(x, v1)])
    (hkind : scope.names.lookup x = some .local)
    (oa : OkA (n + 1) A) (g : Gl G.K G.mg G.mb s.heap) (r : Rep X s.heap t1 v1)
    (h : ∀ s', EnvC (G.at' n (envOfC qual scope s.heap.objs.size f cdv)) → St (G.at' n (envOfC qual scope s.heap.objs.size f cdv)) X (fun a o => s.heap.get? a = some o) [(x, t1)] [] s'.heap → (∃ h tk, s' = { s with heap := h, toks := tk }) → s.toks ≤ s'.toks →
      OkA n (A.deeper (envOfC qual scope s.heap.objs.size f cdv)) →
      wpAny (model G.prog G.w) (A.deeper (envOfC qual scope s.heap.objs.size f cdv)) (execs body (envOfC qual scope s.heap.objs.size f cdv)) (fun fl s'' => Q (match fl with | .ret v => v | _ => .none) s'')
        (fun e s'' => wpAny (model G.prog G.w) (A.deeper (envOfC qual scope s.heap.objs.size f cdv)) (leaving (envOfC qual scope s.heap.objs.size f cdv) e) (fun _ s3 => E e s3) (fun e' s3 => E e' s3) s'') s')
    (hco : scope.isCoroutine = false) (hgen : scope.isGenerator = false) (hk : scope.kind = .function) : wpAny (model G.prog G.w) A (call (.ref f) [v1]) Q E s := by
  refine wpAny_call ?_
  refine codeAny_call_function (fd := fnOf name qual params body scope dV kV doc pm an cdv ct) (body := body) (by have := oa.dp; omega) (g.k _ _ ho) rfl hco hgen rfl (codeRec_of g.k hcd) ?_
  rw [hbind v1]
  refine wpAny_pure (wpAny_with_toks (Nat.le_refl _) (wpAny_newFunctionEnv_cells hk (fun y hy => ?_) fun env he s' z htk => ⟨g.lim.keeps z.toInCall.keep, ?_⟩))
  · simp only [List.mem_singleton] at hy
    subst hy
    exact .inl hkind
  have he' : env = envOfC qual scope s.heap.objs.size f cdv := he
  subst he'
  have SS : St (G.at' n (envOfC qual scope s.heap.objs.size f cdv)) X (fun a o => s.heap.get? a = some o) [(x, t1)] [] s'.heap := by
    refine ⟨z.toInCall.keep, ⟨_, z.toInCall.ns⟩, fun k c e => ⟨_, z.cell k c e⟩, fun o e => ?_, fun k c e o eo => ?_, List.nodup_nil, fun p hp => (nomatch hp), fun p hp => (nomatch hp), ⟨fun p hp => ?_⟩⟩
    · rw [show (Cx.env (G.at' n (envOfC qual scope s.heap.objs.size f cdv))).locals = s.heap.objs.size from rfl, get_size] at e; cases e
    · have h1 := z.above k c (mem_of_lookup e)
      have h2 := Heap.lt_size eo
      exact Nat.lt_irrefl _ (Nat.lt_trans h1 h2)
    · simp only [List.mem_singleton] at hp
      subst hp
      exact ⟨v1, .inl ⟨hkind, _, z.toInCall.ns, bindL_on hkind _ _ (by simp) (by simp)⟩, r.sub z.toInCall.keep⟩
  have EC : EnvC (G.at' n (envOfC qual scope s.heap.objs.size f cdv)) := ⟨⟨hk, rfl, rfl⟩, z.apart⟩
  refine codeAny_func ?_
  obtain ⟨h₁, tk, hs', _⟩ := z.toInCall.done
  exact h s' EC SS ⟨h₁, tk, hs'⟩ htk ⟨oa.hd, by have := oa.dp; show A.depth + 1 + n < _; omega, by have := oa.un; show A.units + 3 + 8 * n + 40 < _; omega⟩

theorem frames_in {base h h1 : Heap} {env : Env} {outer : List Env} {L : Addr} {m : Str → Option Value} (hk : env.scope.kind = .function) (hf : env.frame = some L) (nL : base.get? L = none) (ns : h1.Ns L m) (k : Sub h h1) (ff : h.FunFrames base outer) : h1.FunFrames base (env :: outer) := by
  refine ⟨by rw [hk]; decide, ?_, ff.of_keeps fun b o e _ => ⟨o, k b o e, rfl⟩⟩
  obtain ⟨o, es, ep, e, d, _⟩ := ns
  exact ⟨L, o, hf, nL, e, fun vs q => by rw [d] at q; cases q⟩

section
variable {G : Cx}
/-- a def whose whole body is: try .. except (TypeError, ValueError): raise TypeError(msg) from None, where the try raises -/
theorem locale_raises {f : Addr} {x : Str} {t1 : T} {oc : Value} {od : Option Addr} {osl : Array (Option Value)} {name qual : Str} {params : Arguments} {scope : Scope} {dV kV doc pm cdv ct : Value} {an : Option Addr}
    {tb : List Stmt} {msg : Str} {p1 p2 np tpos cpos rpos hpos pos q3 q4 : Pos} {kk k3 k4 : Nat} {cls : String} {b1 b2 : Bool}
    (ho : G.K.lookup f = some ⟨oc, od, .func (fnOf name qual params [.Try tb [.ExceptHandler (some (.Tuple [.Name (Str.ofString "TypeError") p1, .Name (Str.ofString "ValueError") p2] kk tpos)) none [.Raise (some (.Call (.Name (Str.ofString "TypeError") np) [.Constant (.str msg) k3 q3] [] cpos)) (some (.Constant .none k4 q4)) rpos] hpos] [] [] pos] scope dV kV doc pm an cdv ct), osl⟩)
    (hcd : codeIn G.K cdv qual = true)
    (hbind : ∀ v1 : Value, bindArgs (fnOf name qual params [.Try tb [.ExceptHandler (some (.Tuple [.Name (Str.ofString "TypeError") p1, .Name (Str.ofString "ValueError") p2] kk tpos)) none [.Raise (some (.Call (.Name (Str.ofString "TypeError") np) [.Constant (.str msg) k3 q3] [] cpos)) (some (.Constant .none k4 q4)) rpos] hpos] [] [] pos] scope dV kV doc pm an cdv ct) ⟨[v1], []⟩ = pure [(x, v1)])
    (hkind : scope.names.lookup x = some .local)
    (hT : ∀ L, IsB (G.at' 0 (envOfC qual scope L f cdv)) (Str.ofString "TypeError") (.type "TypeError")) (hV : ∀ L, IsB (G.at' 0 (envOfC qual scope L f cdv)) (Str.ofString "ValueError") (.type "ValueError"))
    (hs1 : isSubtype (.type cls) (.type "TypeError") = pure b1) (hs2 : isSubtype (.type cls) (.type "ValueError") = pure b2) (hb : (b1 || b2) = true)
    (hraise : ∀ L, EnvC (G.at' 0 (envOfC qual scope L f cdv)) → ∀ X, RzL (G.at' 0 (envOfC qual scope L f cdv)) X [(x, t1)] [] tb cls)
    (hco : scope.isCoroutine = false) (hgen : scope.isGenerator = false) (hk : scope.kind = .function)
    {A : Around} {E : Value → Shared → Prop} {s : Shared} {Q : Value → Shared → Prop} {v1 : Value} {X : List Addr} {base : Heap} {outer : List Env}
    (oa : OkA 1 A) (hA : A.frames = some outer) (st : base.StaysIn s.heap) (ff : s.heap.FunFrames base outer) (gb : ∀ h : Heap, base.StaysIn h → Gl G.K G.mg G.mb h) (lv : Live X s.heap) (ht : G.t0 ≤ s.toks) (r : Rep X s.heap t1 v1)
    (hE : ∀ h' e T t u tk, (∃ w, Ex base outer h' e T (.type "TypeError") #[.ref t, .ref T, w, .none, .bool true, .none] .none) → h'.TupAt t [.str msg u] → base.get? t = none → s.heap.UpToSlots h' → E (.ref e) { s with heap := h', toks := tk }) :
    wpAny (model G.prog G.w) A (call (.ref f) [v1]) Q E s := by
  refine call_enter ho hcd hbind hkind oa (gb _ st) r (fun s' EC S0 hs' l0 oa' => ?_) hco hgen hk
  obtain ⟨h0, tk0, rfl⟩ := hs'
  have hfr : (A.deeper (envOfC qual scope s.heap.objs.size f cdv)).frames = some (envOfC qual scope s.heap.objs.size f cdv :: outer) := Around.frames_deeper hA
  generalize hA' : A.deeper (envOfC qual scope s.heap.objs.size f cdv) = A' at hfr oa' ⊢
  have nL : base.get? s.heap.objs.size = none := st.fresh
  refine wpAny_execs_cons ?_
  rw [arm_exec_Try]
  refine wpAny_bind (wpAny_standAt (wpAny_tryStmt_except ?_))
  refine (hraise s.heap.objs.size EC X).run A' _ _ (fun a o => s.heap.get? a = some o) _ oa' ⟨fun h hh => gb h fun b o e => hh b o (st b o e), fun a m => lv a m⟩ S0 (Nat.le_trans ht l0) fun h1 h2 tk2 ex hS hx => ?_
  obtain ⟨σ', α', S1⟩ := hS
  obtain ⟨m1, ns1⟩ := S1.ns
  have k1 : Sub s.heap h1 := S1.b
  have ff2 : h2.FunFrames base (envOfC qual scope s.heap.objs.size f cdv :: outer) := frames_in (m := m1) hk rfl nL (ns1.keeps hx.keeps) (Sub.trans k1 hx.keeps) ff
  obtain ⟨ob, t0, he, hc0, hd0⟩ := hx.there
  have st2 : base.StaysIn h2 := fun b o e => hx.keeps b o (k1 b o (st b o e))
  have ne : base.get? ex = none := by
    cases q : base.get? ex with
    | none => rfl
    | some o => have := k1 _ _ (st _ _ q); rw [hx.new] at this; cases this
  refine note_first hfr ff2 rfl he hd0 rfl st2 ne fun h3 T1 x3 sm3 => ?_
  refine set_flight none x3 fun h4 x4 sm4 => ?_
  rw [hc0] at x4
  have g4 := gb _ x4.st
  refine wpAny_handleBy_tup2 (T1 := "TypeError") (T2 := "ValueError") excClass_TypeError.base (isSubtype_of_subB (by decide +kernel)) excClass_ValueError.base (isSubtype_of_subB (by decide +kernel)) hs1 hs2 ?_
  refine Tuple_ (args_cons (name_bui EC.ok (hT _) g4 (args_cons (name_bui EC.ok (hV _) g4 (args_nil ?_)))))
  have x5 := x4.sub (Sub.push h4 { cls := .type "tuple", data := .seq [Value.type "TypeError", Value.type "ValueError"].toArray })
  refine wpAny_newObj_type ⟨_, rfl, IsTup.new _ _, let ⟨oe, q1, q2, _⟩ := x5.he; ⟨oe, q1, q2⟩, ?_⟩
  rw [if_pos hb]
  refine set_flight none x5 fun h6 x6 sm6 => ?_
  have g6 := gb _ x6.st
  refine wpAny_execs_cons ?_
  rw [arm_exec_Raise]
  simp only [evalOpt, Option.map]
  refine wpAny_bind (wpAny_standAt (raise_from (m := msg) (u := tk2) rfl x6 rfl (fun Q' hq' => ?_) (fun s' Q' hq' => ?_) ?_))
  · refine wpAny_bind (Call_ (name_bui EC.ok (hT _) g6 (PyProof.Rows.callWith_type1 (args_cons (Constant_str (args_nil (wpAny_call_exc F.excCall_TypeError (fun h7 e7 hm => ?_) (show 1 ≤ sizeLine by decide))))))))
    exact wpAny_bind (wpAny_standAt (wpAny_pure (hq' h7 e7 _ hm)))
  · exact wpAny_bind (Constant_none (wpAny_bind (wpAny_standAt (wpAny_pure hq'))))
  · intro h7 e7 t7 tk7 st7 ne7 nt7 ff7 he7 ht7 sm7
    unfold notedBy
    refine note_first (A := A'.mark (some (.ref ex))) hfr ff7 rfl he7 rfl rfl st7 ne7 fun h8 T8 x8 sm8 => ?_
    refine came_back x8 fun h9 x9 sm9 => ?_
    refine leaves rfl x9 fun h10 x10 sm10 => ?_
    have smA : s.heap.UpToSlots h4 := (Heap.UpToSlots.of_keeps (Sub.trans k1 hx.keeps)).trans (sm3.trans sm4)
    have smB : h7.UpToSlots h10 := sm8.trans (sm9.trans sm10)
    exact hE h10 e7 T8 t7 tk2 tk7 ⟨_, x10⟩ (Heap.TupAt.of_slots ⟨_, _, ht7, rfl, rfl⟩ smB) nt7 (smA.trans ((Heap.UpToSlots.of_keeps (Sub.push _ _)).trans (sm6.trans (sm7.trans smB))))
end
end Mine
end

-- X6
section
open PySem PySem.W PyProof.Rows PySem.Calls PySem.Spec
set_option maxRecDepth 100000
set_option maxHeartbeats 8000000
namespace Mine
open PySem (Expr)

theorem plain_kind {scope : Scope} (hk : scope.kind = .function) (b : Bool) : (scope.kind == .class || (scope.kind == .module && b)) = false := by rw [hk]; rfl
theorem ns_not {h : Heap} {L : Addr} {m : Str → Option Value} (ns : h.Ns L m) {b : Addr} {o : Obj} (e : h.get? b = some o) (hd : (∃ vs, o.data = .fields vs) ∨ (∃ vs n, o.data = .seq vs n)) : b ≠ L := fun q => by
  obtain ⟨o', es, ep, e', d, _⟩ := ns
  rw [q, e'] at e; cases e
  rcases hd with ⟨vs, hd⟩ | ⟨vs, n, hd⟩ <;> (rw [d] at hd; cases hd)
theorem upTo_same {h0 h h' : Heap} {L : Addr} (u : h0.UpToSlots h) (hs : Heap.SameBut L h h') (hL : h0.get? L = none) : h0.UpToSlots h' := fun b o e hn => by
  obtain ⟨sl, q⟩ := u b o e hn
  exact ⟨sl, (hs.2 b (fun q => by rw [q, hL] at e; cases e)).trans q⟩
theorem stays_same {h0 h h' : Heap} {L : Addr} (u : h0.StaysIn h) (hs : Heap.SameBut L h h') (hL : h0.get? L = none) : h0.StaysIn h' := fun b o e => (hs.2 b (fun q => by rw [q, hL] at e; cases e)).trans (u b o e)

section
variable {G : Cx}
/-- a def whose whole body is: try: return f2(x) except TypeError as n: return str(n), where f2(x) raises TypeError(msg) -/
theorem words_raises {f f2 : Addr} {x n fn2 : Str} {t1 : T} {oc : Value} {od : Option Addr} {osl : Array (Option Value)} {name qual : Str} {params : Arguments} {scope : Scope} {dV kV doc pm cdv ct : Value} {an : Option Addr}
    {msg : Str} {pa pb pc pd pe pf pg ph pi pj pk : Pos}
    (ho : G.K.lookup f = some ⟨oc, od, .func (fnOf name qual params [.Try [.Return (some (.Call (.Name fn2 pa) [.Name x pb] [] pc)) pd] [.ExceptHandler (some (.Name (Str.ofString "TypeError") pe)) (some n) [.Return (some (.Call (.Name (Str.ofString "str") pf) [.Name n pg] [] ph)) pi] pj] [] [] pk] scope dV kV doc pm an cdv ct), osl⟩)
    (hcd : codeIn G.K cdv qual = true)
    (hbind : ∀ v1 : Value, bindArgs (fnOf name qual params [.Try [.Return (some (.Call (.Name fn2 pa) [.Name x pb] [] pc)) pd] [.ExceptHandler (some (.Name (Str.ofString "TypeError") pe)) (some n) [.Return (some (.Call (.Name (Str.ofString "str") pf) [.Name n pg] [] ph)) pi] pj] [] [] pk] scope dV kV doc pm an cdv ct) ⟨[v1], []⟩ = pure [(x, v1)])
    (hkind : scope.names.lookup x = some .local) (hkn : scope.names.lookup n = some .local)
    (hT : ∀ L, IsB (G.at' 1 (envOfC qual scope L f cdv)) (Str.ofString "TypeError") (.type "TypeError")) (hS : ∀ L, IsB (G.at' 1 (envOfC qual scope L f cdv)) (Str.ofString "str") (.type "str"))
    (hF : ∀ L, IsF (G.at' 1 (envOfC qual scope L f cdv)) fn2 f2)
    (hcall : ∀ (A : Around) (E : Value → Shared → Prop) (s : Shared) (Q : Value → Shared → Prop) (v1 : Value) (X : List Addr) (base : Heap) (outer : List Env), OkA 1 A → A.frames = some outer → base.StaysIn s.heap → s.heap.FunFrames base outer → (∀ h : Heap, base.StaysIn h → Gl G.K G.mg G.mb h) → Live X s.heap → G.t0 ≤ s.toks → Rep X s.heap t1 v1 →
      (∀ h' e T t u tk, (∃ w, Ex base outer h' e T (.type "TypeError") #[.ref t, .ref T, w, .none, .bool true, .none] .none) → h'.TupAt t [.str msg u] → base.get? t = none → s.heap.UpToSlots h' → E (.ref e) { s with heap := h', toks := tk }) →
      wpAny (model G.prog G.w) A (call (.ref f2) [v1]) Q E s)
    (hco : scope.isCoroutine = false) (hgen : scope.isGenerator = false) (hk : scope.kind = .function) (hdx : (x == ("__debug__" : Str)) = false) (hdn : (n == ("__debug__" : Str)) = false) (hdf : (fn2 == ("__debug__" : Str)) = false)
    {A : Around} {E : Value → Shared → Prop} {s : Shared} {Q : Value → Shared → Prop} {v1 : Value} {X : List Addr} {base : Heap} {outer : List Env}
    (oa : OkA 2 A) (hA : A.frames = some outer) (st : base.StaysIn s.heap) (ff : s.heap.FunFrames base outer) (gb : ∀ h : Heap, base.StaysIn h → Gl G.K G.mg G.mb h) (lv : Live X s.heap) (ht : G.t0 ≤ s.toks) (r : Rep X s.heap t1 v1)
    (hq : ∀ h' u tk, base.StaysIn h' → s.heap.UpToSlots h' → Q (.str msg u) { s with heap := h', toks := tk }) :
    wpAny (model G.prog G.w) A (call (.ref f) [v1]) Q E s := by
  refine call_enter ho hcd hbind hkind oa (gb _ st) r (fun s' EC S0 hs' l0 oa' => ?_) hco hgen hk
  obtain ⟨h0, tk0, rfl⟩ := hs'
  have hfr : (A.deeper (envOfC qual scope s.heap.objs.size f cdv)).frames = some (envOfC qual scope s.heap.objs.size f cdv :: outer) := Around.frames_deeper hA
  generalize hA' : A.deeper (envOfC qual scope s.heap.objs.size f cdv) = A' at hfr oa' ⊢
  have nL : base.get? s.heap.objs.size = none := st.fresh
  have nL' : s.heap.get? s.heap.objs.size = none := get_size _
  have k0 : Sub s.heap h0 := S0.b
  have st0 : base.StaysIn h0 := fun b o e => k0 b o (st b o e)
  obtain ⟨m0, ns0⟩ := S0.ns
  have ff0 : h0.FunFrames base (envOfC qual scope s.heap.objs.size f cdv :: outer) := frames_in (m := m0) hk rfl nL ns0 k0 ff
  have g0 := gb _ st0
  obtain ⟨ob2, fd2, hl2, hd2⟩ := (hF s.heap.objs.size).fn
  refine wpAny_execs_cons ?_
  rw [arm_exec_Try]
  refine wpAny_bind (wpAny_standAt (wpAny_tryStmt_except ?_))
  obtain ⟨v1', hr1, rv1⟩ := mem_read (List.Mem.head _) S0.rd
  have rv1' : Rep X h0 t1 v1' := rv1
  refine wpAny_execs_cons (wpAny_Return_some (Call_ (name_f EC.ok (hF _) g0 (PyProof.Rows.callWith_def hd2 (args_cons (wpAny_Name (load_of EC.ok.kind hr1 (args_nil ⟨g0.k _ _ hl2, ?_⟩)) hdx))) hdf)))
  refine hcall A' _ _ _ v1' X base _ oa' hfr st0 ff0 gb (lv.sub k0) (Nat.le_trans ht l0) rv1' fun h1 e T t u tk1 hx ht1 nt sm1 => ?_
  obtain ⟨w, x1⟩ := hx
  refine wpAny_looks_onW hfr rfl (x1.flying (a0 := .ref t) rfl) fun h2 hh2 sm2 => ?_
  refine wpAny_landsW hh2 fun h3 fl3 sm3 => ?_
  have g3 := gb _ fl3.1
  obtain ⟨ob, hob, hobc⟩ := fl3.there
  refine wpAny_handleBy_cons (codeAny_handlers_test (name_bui EC.ok (hT _) g3 ?_)) (by intro q; cases q)
  refine wpAny_excMatches_type (X := "TypeError") (b := true) ⟨ob, hob, hobc⟩ excClass_TypeError.base (isSubtype_of_subB (by decide +kernel)) excClass_TypeError.self ?_
  refine codeAny_handlers_suite_as ?_
  refine lands_againW fl3 fun h4 fl4 sm4 => ?_
  have u4 : h0.UpToSlots h4 := sm1.trans (sm2.trans (sm3.trans sm4))
  have u4s : s.heap.UpToSlots h4 := (Heap.UpToSlots.of_keeps k0).trans u4
  have ns4 : h4.Ns s.heap.objs.size m0 := u4.ns ns0
  have ht4 : h4.TupAt t [.str msg u] := ((ht1.of_slots sm2).of_slots sm3).of_slots sm4
  obtain ⟨oe, ws, hoe, hoec, hoed, hoe0⟩ := fl4.first
  obtain ⟨ot, nt4, hot, hotc, hotd⟩ := ht4
  refine wpAny_storeName_local (env := envOfC qual scope s.heap.objs.size f cdv) hkn ns4 (fun h5 ns5 hs5 => ?_) (plain_kind hk _)
  have st5 := stays_same fl4.1 hs5 nL
  have u5 := upTo_same u4s hs5 nL'
  have g5 := gb _ st5
  have hoe5 : h5.get? e = some oe := (hs5.2 e (ns_not ns4 hoe (.inl ⟨_, hoed⟩))).trans hoe
  have hot5 : h5.get? t = some ot := (hs5.2 t (ns_not ns4 hot (.inr ⟨_, _, hotd⟩))).trans hot
  refine wpAny_execs_cons (wpAny_Return_some (Call_ (name_bui EC.ok (hS _) g5 (PyProof.Rows.callWith_type1 (args_cons (wpAny_Name (wpAny_loadName_local EC.ok.kind hkn ns5 (if_pos rfl) (args_nil ?_)) hdn))))))
  refine P.str_of_exc_one F.excStr_TypeError (by have := oa'.un; show A'.units + 2 < _; omega) ⟨oe, ws, hoe5, hoec, hoed, hoe0⟩ ⟨ot, nt4, hot5, hotc, hotd⟩ ?_
  refine wpAny_bind (wpAny_bindName (wpAny_storeName_local (env := envOfC qual scope s.heap.objs.size f cdv) hkn ns5 (fun h6 ns6 hs6 => ?_) (plain_kind hk _)))
  unfold unbindBehindTheSuite
  refine wpAny_onRaise (wpAny_unbindName_local (env := envOfC qual scope s.heap.objs.size f cdv) (v := .none) hkn ns6 (if_pos rfl) (plain_kind hk _) fun h7 _ ns7 hs7 => ?_)
  exact hq h7 u _ (stays_same (stays_same st5 hs6 nL) hs7 nL) (upTo_same (upTo_same u5 hs6 nL') hs7 nL')
end
end Mine
end

-- X7
section
open PySem PySem.W PyProof.Rows PySem.Calls PySem.Spec
set_option maxRecDepth 100000
set_option maxHeartbeats 8000000
namespace Mine
open PySem (Expr)

noncomputable def refusal : Str := Str.ofString "Locale must be None, a string, or an iterable of two strings -- language code, encoding."
noncomputable def BadPair (ts : List T) : Prop := (ts.length = 1 ∨ ts.length = 3) ∨ (∃ i y, ts = [.int i, .str y]) ∨ (∃ i y, ts = [.str y, .int i] ∧ y.length ≤ 6)
section
variable {G : Cx} {p : Params} {C : Cx} {X : List Addr} {σ σ1 : List (Str × T)} {α α1 : List (Addr × List T)} {cls : String} {rest : List Stmt}
theorem RzL.step {b : Stmt} (h1 : ExL C X σ α [b] (fun o => o = .next σ1 α1)) (h2 : RzL C X σ1 α1 rest cls) : RzL C X σ α (b :: rest) cls := .next (b := [b]) h1 h2
theorem sub_TV : isSubtype (.type "TypeError") (.type "ValueError") = pure false := isSubtype_of_subB (by decide +kernel)
theorem sub_VT : isSubtype (.type "ValueError") (.type "TypeError") = pure false := isSubtype_of_subB (by decide +kernel)

theorem loc_bad (g : Gs G p) (ts : List T) (hbad : BadPair ts) (A : Around) (E : Value → Shared → Prop) (s : Shared) (Q : Value → Shared → Prop) (v1 : Value) (X : List Addr) (base : Heap) (outer : List Env) (oa : OkA 1 A) (hA : A.frames = some outer) (st : base.StaysIn s.heap) (ff : s.heap.FunFrames base outer)
    (gb : ∀ h : Heap, base.StaysIn h → Gl G.K G.mg G.mb h) (lv : Live X s.heap) (ht : G.t0 ≤ s.toks) (r : Rep X s.heap (.tup ts) v1)
    (hE : ∀ h' e T t u tk, (∃ w, Ex base outer h' e T (.type "TypeError") #[.ref t, .ref T, w, .none, .bool true, .none] .none) → h'.TupAt t [.str refusal u] → base.get? t = none → s.heap.UpToSlots h' → E (.ref e) { s with heap := h', toks := tk }) :
    wpAny (model G.prog G.w) A (call (.ref 42) [v1]) Q E s := by
  have big : 100000 ≤ sizeLine := by decide
  rcases hbad with hl | ⟨i, y, rfl⟩ | ⟨i, y, rfl, hy⟩
  · refine locale_raises (x := Str.ofString "localetuple") (t1 := .tup ts) (cls := "ValueError") (b1 := false) (b2 := true) (by rw [g.k]; rfl) (by rw [g.k]; rfl) (by intro _; rfl) (by rfl) (fun L => g.b (n := 0)) (fun L => g.b (n := 0)) sub_VT excClass_ValueError.self rfl (fun L en X => ?_) (by rfl) (by rfl) (by rfl) oa hA st ff gb lv ht r hE
    exact .unpack hl (nm en) rfl
  · refine locale_raises (x := Str.ofString "localetuple") (t1 := .tup [.int i, .str y]) (cls := "TypeError") (b1 := true) (b2 := false) (by rw [g.k]; rfl) (by rw [g.k]; rfl) (by intro _; rfl) (by rfl) (fun L => g.b (n := 0)) (fun L => g.b (n := 0)) excClass_TypeError.self sub_TV rfl (fun L en X => ?_) (by rfl) (by rfl) (by rfl) oa hA st ff gb lv ht r hE
    refine .step (.unpack2 en (h := nm en) (hf1 := rfl) (hf2 := rfl) (hr := .nil rfl)) ?_
    refine .step (.ite (b := false) (h := .cmp (nm en) .none .is_int_none) (fun hb => by cases hb) (fun _ => .nil (.nil rfl))) ?_
    refine .ite (b := false) (h := .cmp (nm en) .none .is_str_none) rfl (fun hb => by cases hb) (fun _ => ?_)
    exact .ret (.binL (.int_str (nm en) .str)) rfl
  · refine locale_raises (x := Str.ofString "localetuple") (t1 := .tup [.str y, .int i]) (cls := "TypeError") (b1 := true) (b2 := false) (by rw [g.k]; rfl) (by rw [g.k]; rfl) (by intro _; rfl) (by rfl) (fun L => g.b (n := 0)) (fun L => g.b (n := 0)) excClass_TypeError.self sub_TV rfl (fun L en X => ?_) (by rfl) (by rfl) (by rfl) oa hA st ff gb lv ht r hE
    refine .step (.unpack2 en (h := nm en) (hf1 := rfl) (hf2 := rfl) (hr := .nil rfl)) ?_
    refine .step (.ite (b := false) (h := .cmp (nm en) .none .is_str_none) (fun hb => by cases hb) (fun _ => .nil (.nil rfl))) ?_
    refine .ite (b := false) (h := .cmp (nm en) .none .is_int_none) rfl (fun hb => by cases hb) (fun _ => ?_)
    exact .ret (.str_int (.bin (nm en) .str (.add_str (by rw [show (Str.ofString ".").length = 1 by decide]; omega))) (nm en)) rfl

theorem words_bad (g : Gs G p) (ts : List T) (hbad : BadPair ts) {A : Around} {E : Value → Shared → Prop} {s : Shared} {Q : Value → Shared → Prop} {v1 : Value} {X : List Addr} {base : Heap} {outer : List Env} (oa : OkA 2 A) (hA : A.frames = some outer) (st : base.StaysIn s.heap) (ff : s.heap.FunFrames base outer)
    (gb : ∀ h : Heap, base.StaysIn h → Gl G.K G.mg G.mb h) (lv : Live X s.heap) (ht : G.t0 ≤ s.toks) (r : Rep X s.heap (.tup ts) v1)
    (hq : ∀ h' u tk, base.StaysIn h' → s.heap.UpToSlots h' → Q (.str refusal u) { s with heap := h', toks := tk }) :
    wpAny (model G.prog G.w) A (call (.ref 129) [v1]) Q E s :=
  words_raises (x := Str.ofString "pair") (n := Str.ofString "error") (f2 := 42) (t1 := .tup ts) (by rw [g.k]; rfl) (by rw [g.k]; rfl) (by intro _; rfl) (by rfl) (by rfl) (fun L => g.b (n := 1)) (fun L => g.b (n := 1)) (fun L => g.f (n := 1)) (loc_bad g ts hbad) (by rfl) (by rfl) (by rfl) (by decide) (by decide) (by decide) oa hA st ff gb lv ht r hq

theorem words_ok (g : Gs G p) (l e : Option Str) (hl : (l.getD (Str.ofString "C")).length + 1 + (e.getD ⟨#[]⟩).length ≤ sizeLine) : CallE G 2 129 [.tup [optT l, optT e]] (.str (locName l e)) := by
  refine CallE.of1 (n := 1) (x := Str.ofString "pair") (by rw [g.k]; rfl) (by rw [g.k]; rfl) (by intro _; rfl) (by exact .inl rfl) (fun L en X => ?_)
  refine .try_ ?_
  exact .ret (fun _ => .call en.ok g.f (.cons (nm en) .nil) (loc_ g l e hl).at (by show 1 ≤ 1; omega)) rfl
end
end Mine
end

-- X8
section
open PySem PySem.W PyProof.Rows PySem.Calls PySem.Spec
set_option maxRecDepth 100000
set_option maxHeartbeats 8000000
namespace Mine
open PySem (Expr)

/-- all but Z stays -/
noncomputable abbrev SubZ (Z : Addr) (h h' : Heap) : Prop := ∀ b o, b ≠ Z → h.get? b = some o → h'.get? b = some o
theorem ns_subZ {Z L : Addr} {h h' : Heap} {m : Str → Option Value} (ns : h.Ns L m) (k : SubZ Z h h') (hn : L ≠ Z) : h'.Ns L m := by
  obtain ⟨o, es, ep, e, r⟩ := ns
  exact ⟨o, es, ep, k _ _ hn e, r⟩
section
variable {C : Cx} {Y : List Addr} {σ σ' : List (Str × T)}
/-- a comprehension of texts whose elements may change the one frame Z -/
theorem lc_raise {x : Str} {px : Pos} {elt iter : Expr} {scope : Scope} {pos : Pos} {cl : List (Str × Addr)} {ts : List T} {us : List Str} (Z : Addr) (mZ : Str → Option Value)
    (hit : EvI C Y σ iter ts) (hcl : closureFor scope C.env = pure cl) (hcs : ∀ x c, cl.lookup x = some c → ∃ z, C.env.cells.lookup z = some c) (hkind : scope.kind = .function)
    (hnames : ∀ x ∈ scope.names, x.2 = .local → scope.names.lookup x.1 = some .local) (hx : ∀ L, LcVar (cEnv scope cl L C.env) x)
    (hlen : us.length = ts.length) (hsz : ts.length ≤ sizeLine) {A : Around} {E : Value → Shared → Prop} {s : Shared} {Q : Value → Shared → Prop} (o : StOk C Y σ A s) (hZ : s.heap.Ns Z mZ)
    (hgl : ∀ h : Heap, SubZ Z s.heap h → Gl C.K C.mg C.mb h)
    (helt : ∀ (L D : Addr) (i : Nat) (t : T) (u : Str) (E' : Value → Shared → Prop) (s1 : Shared) (Q1 : Value → Shared → Prop), SubZ Z s.heap s1.heap → ts[i]? = some t → us[i]? = some u → StOk (C.at' C.n (cEnv scope cl L C.env)) (D :: Y) [(x, t)] A s1 → s1.heap.Ns Z mZ →
      (∀ v h' tk, SubZ Z s1.heap h' → h'.Ns Z mZ → s1.toks ≤ tk → (∃ t, v = .str u t) → Q1 v { s1 with heap := h', toks := tk }) → wpAny (model C.prog C.w) A (eval elt (cEnv scope cl L C.env)) Q1 E' s1)
    (hq : ∀ D h' tk ys n, SubZ Z s.heap h' → h'.Ns Z mZ → s.toks ≤ tk → s.heap.get? D = none → h'.get? D = some (lstObj ys n) → RepL [] h' (us.map T.str) ys → Q (.ref D) { s with heap := h', toks := tk })
    (hs : ∀ x, foldedSetIterable iter C.env x = pure x) :
    wpAny (model C.prog C.w) A (eval (.ListComp elt [⟨.Name x px, iter, [], 0⟩] scope pos) C.env) Q E s := by
  rw [eval_ListComp]
  refine wpAny_comprehension_free rfl hs hcl hkind hnames (hit.run A E s _ o fun I fp wr P Wt h' tk' W w0 k l hP hwr hns hfp hlet => ?_)
  refine wpAny_newObj_type (new_cEnv fun cenv he hloc => ?_)
  rw [he, hloc]
  dsimp only
  generalize hD : h'.objs.size = D
  have hL : (h'.push { cls := .type "list", data := .seq ([] : List Value).toArray }).objs.size = D + 1 := by rw [Heap.size_push, hD]
  rw [hL]
  generalize hL' : D + 1 = L
  generalize hH1 : h'.push { cls := .type "list", data := .seq ([] : List Value).toArray } = H1 at hL ⊢
  have hDL : D < L := by omega
  have hH1s : H1.objs.size = L := by omega
  have oldD : ∀ (b : Nat) o, s.heap.get? b = some o → b < D := fun b o e => by rw [← hD]; exact Heap.lt_size (k b o e)
  have zold : ∃ oZ, s.heap.get? Z = some oZ := by obtain ⟨oZ, es, ep, e, _⟩ := hZ; exact ⟨oZ, e⟩
  have zD : @LT.lt Nat _ Z D := by obtain ⟨oZ, e⟩ := zold; exact oldD Z oZ e
  have fpD : ∀ b : Nat, b ∈ fp → b < D := fun b hb => by obtain ⟨o, e, _⟩ := hfp b hb; rw [← hD]; exact Heap.lt_size e
  have fpZ : ∀ b : Nat, b ∈ fp → b ≠ Z := fun b hb q => by
    obtain ⟨o1, e, h1⟩ := hfp b hb
    obtain ⟨oZ, eZ⟩ := zold
    rcases h1 with h1 | ⟨_, l1, n1, h1⟩
    · rw [q, eZ] at h1; cases h1
    · rw [q, k _ _ eZ] at e
      cases e
      have := ns_noSeq hZ _ eZ l1 n1
      rcases h1 with rfl | rfl
      · exact this.1 rfl
      · exact this.2 rfl
  have wrD : ∀ b : Nat, b ∈ wr → b < D := fun b hb => fpD b (W.sub b hb)
  have oldwr : ∀ b o, s.heap.get? b = some o → b ∉ wr := fun b o e m => by rw [hwr b m] at e; cases e
  have zwr : Z ∉ wr := by obtain ⟨oZ, e⟩ := zold; exact oldwr Z oZ e
  have hDn : h'.get? D = none := by rw [← hD]; exact get_size h'
  have hDs : s.heap.get? D = none := by rw [← hD]; exact not_old k
  generalize hH2 : pushCells (H1.push { cls := .type "dict", data := .dict #[] }) scope.names = H2
  have up : ∀ b o, h'.get? b = some o → H2.get? b = some o := fun b o e => by
    rw [← hH2]; exact pushCells_keeps _ _ b o (Heap.get?_push_of_some _ (by rw [← hH1]; exact Heap.get?_push_of_some _ e))
  have cellsAt : ∀ x c, (cellsFrom (L + 1) scope.names cl).lookup x = some c → c ∉ wr := fun x c e m => by
    rcases cellsFrom_lookup _ _ _ _ _ e with h | h
    · have := wrD c m; omega
    · obtain ⟨z, hz⟩ := hcs x c h
      obtain ⟨o', e'⟩ := o.c z c hz
      exact oldwr c o' e' m
  have cn2 : CellsNew H2 (L + 1) (cellsFrom (L + 1) scope.names cl) := by
    have hsz2 : (H1.push { cls := .type "dict", data := .dict #[] }).objs.size = L + 1 := by rw [Heap.size_push, hH1s]
    have := cells_new scope.names (H1.push { cls := .type "dict", data := .dict #[] }) (L + 1) cl (by rw [hsz2]; exact Nat.le_refl _) (by
      have low : ∀ x (c : Nat), cl.lookup x = some c → c < L + 1 := fun x c e => by
        obtain ⟨z, hz⟩ := hcs x c e
        obtain ⟨o', e'⟩ := o.c z c hz
        have := oldD c o' e'
        omega
      refine ⟨fun x c e => ?_, fun x c e l => absurd l (Nat.not_le_of_lt (low x c e)), fun x y c c' e e' hne l => absurd l (Nat.not_le_of_lt (low x c e))⟩
      obtain ⟨z, hz⟩ := hcs x c e
      obtain ⟨o', e'⟩ := o.c z c hz
      exact ⟨o', Heap.get?_push_of_some _ (by rw [← hH1]; exact Heap.get?_push_of_some _ (k _ _ e'))⟩)
    rw [hsz2, hH2] at this
    exact this
  have ns2 : ∃ m, H2.Ns L m := by
    have := (Heap.Ns.new H1 (.type "dict")).keeps (pushCells_keeps scope.names _)
    rw [hH1s, hH2] at this
    exact ⟨_, this⟩
  have d2 : H2.get? D = some (lstObj [] 0) := by
    rw [← hH2]
    refine pushCells_keeps _ _ D _ (Heap.get?_push_of_some _ ?_)
    rw [← hH1, ← hD]
    exact Heap.get?_push_size _ rfl
  have zL : L ≠ Z := by intro q; rw [q] at hDL; exact Nat.lt_irrefl _ (Nat.lt_trans zD hDL)
  have zD' : D ≠ Z := by intro q; rw [q] at zD; exact Nat.lt_irrefl _ zD
  have z2 : H2.Ns Z mZ := (hZ.keeps k).keeps up
  have loop : ∀ s₂ : Shared, s₂ = { s with heap := H2, toks := tk' } → codeAny (model C.prog C.w) A (.compLoop (.ListComp elt [⟨.Name x px, iter, [], 0⟩] scope pos) 0 (.ref I) (.ref D) (cEnv scope cl L C.env)) (compPost (model C.prog C.w) A E none Q (.ref D) L) s₂ := by
    rintro s₂ rfl
    refine compLoop_any (fun n s' => ∃ i hi ti ys nn, s' = { s with heap := hi, toks := ti } ∧ tk' ≤ ti ∧ i ≤ ts.length ∧ n = ts.length + 1 - i ∧ Wt i hi ∧ hi.get? D = some (lstObj ys nn) ∧ RepL [] hi ((us.take i).map T.str) ys ∧ (∃ m, hi.Ns L m) ∧
      CellsNew hi (L + 1) (cellsFrom (L + 1) scope.names cl) ∧ hi.Ns Z mZ ∧ (∀ b o, b ∉ wr → b ≠ Z → h'.get? b = some o → hi.get? b = some o)) ?_ (ts.length + 1)
      ⟨0, H2, tk', [], 0, rfl, Nat.le_refl _, Nat.zero_le _, rfl, W.frame _ _ _ w0 (fun b _ o e => up b o e), d2, .empty, ns2, cn2, z2, fun b o _ _ e => up b o e⟩
    rintro n s' ⟨i, hi, ti, ys, nn, rfl, lti, hile, rfl, wi, di, ri, nsi, cni, zi, keepi⟩
    have flat : ∀ l : List Str, ∀ t, t ∈ l.map T.str → t.flat = true := fun l t ht => by obtain ⟨a, _, rfl⟩ := List.mem_map.mp ht; rfl
    have lys : ys.length ≤ i := by rw [ri.length, List.length_map, List.length_take]; omega
    have subi : SubZ Z s.heap hi := fun b o hb e => keepi b o (oldwr b o e) hb (k b o e)
    have turn : ∀ {h1 : Heap}, (∀ b o, b ∉ wr → hi.get? b = some o → h1.get? b = some o) → h1.get? D = some (lstObj ys nn) ∧ (∃ m, h1.Ns L m) ∧ CellsNew h1 (L + 1) (cellsFrom (L + 1) scope.names cl) ∧ h1.Ns Z mZ ∧ (∀ b o, b ∉ wr → b ≠ Z → h'.get? b = some o → h1.get? b = some o) ∧ SubZ Z s.heap h1 := fun {h1} hk => by
      refine ⟨hk D _ (fun m => Nat.lt_irrefl _ (wrD D m)) di, ?_, ⟨fun x c e => ?_, fun x c e l => ?_, cni.ap⟩, ?_, fun b o hb hz e => hk b o hb (keepi b o hb hz e), fun b o hz e => hk b o (oldwr b o e) (subi b o hz e)⟩
      · obtain ⟨m, oL, es, ep, e, r⟩ := nsi
        exact ⟨m, oL, es, ep, hk L _ (fun m => by have := wrD L m; omega) e, r⟩
      · obtain ⟨o', e'⟩ := cni.live x c e
        exact ⟨o', hk c _ (cellsAt x c e) e'⟩
      · obtain ⟨v, o', e', r⟩ := cni.cell x c e l
        exact ⟨v, o', hk c _ (cellsAt x c e) e', r⟩
      · obtain ⟨oZ, es, ep, e, r⟩ := zi
        exact ⟨oZ, es, ep, hk Z _ zwr e, r⟩
    by_cases hlt : i < ts.length
    · refine wpAny_with_toks (n := ti) (Nat.le_refl _) (W.item i _ _ _ hlt wi fun v h1 tk1 hv w1 hk1 hl1 => ?_)
      obtain ⟨d1, ns1, cn1, z1, keep1, sub1⟩ := turn hk1
      obtain ⟨t, ht', rt⟩ := hP i v hv
      have Yn' : ∀ b, b ∈ D :: Y → b ∈ Y ∨ h'.get? b = none := fun b m => by
        cases m with
        | head => exact .inr hDn
        | tail _ m => exact .inl m
      have rt1 : Rep (D :: Y) h1 t v := (rt.more Yn').sees (fun _ m => m) fun b o hb ⟨ll, nl, hl⟩ e => by
        have nz : b ≠ Z := fun q => by
          subst q
          obtain ⟨oZ, eZ⟩ := zold
          rw [k _ _ eZ] at e
          cases e
          have := ns_noSeq hZ _ eZ ll nl
          rcases hl with rfl | rfl
          · exact this.1 rfl
          · exact this.2 rfl
        refine keep1 b o (fun m => ?_) nz e
        have := (hns 0 h' b w0 m).2 o e ll nl
        rcases hl with rfl | rfl
        · exact this.1 rfl
        · exact this.2 rfl
      refine hlet (i + 1) _ _ v _ _ w1 ?_
      refine (AsgR.name (C := C.at' C.n (cEnv scope cl L C.env)) (Y := D :: Y) (t := t) (σ := []) (σt := [(x, t)]) hkind (hx L) (fun p hp => .inl (by simpa using hp))).run A _ _ _ v o.a ns1 cn1 ⟨fun p hp => nomatch hp⟩ rt1 fun h2 tk2 l2 rd2 ns2' cn2' hmods => ?_
      obtain ⟨mods, hm1, hm2⟩ := hmods
      have lowm : ∀ b : Nat, b < L → b ∉ mods := fun b hb m => Nat.lt_irrefl _ (Nat.lt_of_lt_of_le hb (hm1 b m).1)
      have d2' : h2.get? D = some (lstObj ys nn) := hm2 D _ (lowm D hDL) d1
      have sub2 : SubZ Z s.heap h2 := fun b o hz e => hm2 b o (lowm b (Nat.lt_trans (oldD b o e) hDL)) (sub1 b o hz e)
      have z2' : h2.Ns Z mZ := by
        obtain ⟨oZ, es, ep, e, r⟩ := z1
        exact ⟨oZ, es, ep, hm2 Z _ (lowm Z (Nat.lt_trans zD hDL)) e, r⟩
      have ok2 : StOk (C.at' C.n (cEnv scope cl L C.env)) (D :: Y) [(x, t)] A { s with heap := h2, toks := tk2 } := by
        refine ⟨o.a, fun b m => ?_, hgl _ sub2, rd2, ?_, fun x c e => cn2'.live x c e⟩
        · cases m with
          | head => exact ⟨_, d2'⟩
          | tail _ m =>
            obtain ⟨o', e'⟩ := o.l b m
            by_cases hz : b = Z
            · subst hz; obtain ⟨oZ, _, _, e, _⟩ := z2'; exact ⟨oZ, e⟩
            · exact ⟨o', sub2 _ _ hz e'⟩
        · exact Nat.le_trans o.t (Nat.le_trans l (Nat.le_trans lti (Nat.le_trans hl1 l2)))
      rw [List.forIn_nil]
      refine wpAny_pure ?_
      rw [if_pos rfl]
      have hui : us[i]? = some us[i] := List.getElem?_eq_getElem (by omega)
      refine helt L D i t us[i] _ _ _ sub2 ht' hui ok2 z2' fun y h4 tk4 k4 z4 l4 hy => ?_
      refine wpAny_list_append_plain (hsz := by rw [List.size_toArray]; omega) ⟨nn, k4 _ _ zD' d2'⟩ fun h5 hpl hs5 => ?_
      obtain ⟨n5, e5⟩ := hpl
      have k5 : ∀ b o, b ≠ D → b ≠ Z → h2.get? b = some o → h5.get? b = some o := fun b o hb hz e => (hs5.2 b hb).trans (k4 b o hz e)
      have l5 : ti ≤ tk4 := Nat.le_trans hl1 (Nat.le_trans l2 l4)
      refine ⟨ts.length + 1 - (i + 1), by omega, i + 1, h5, tk4, ys ++ [y], n5, rfl, Nat.le_trans lti l5, hlt, rfl, ?_, by rw [e5]; simp, ?_, ?_, ⟨fun x c e => ?_, fun x c e l => ?_, cn2'.ap⟩, z4.sameBut hs5 (Ne.symm zD'), fun b o hb hz e => ?_⟩
      · exact W.frame _ _ _ w1 fun b hb o e => k5 b o (Nat.ne_of_lt (fpD b hb)) (fpZ b hb) (hm2 b o (lowm b (by have := fpD b hb; omega)) e)
      · rw [List.take_add_one, hui, List.map_append]
        refine RepL.append (ri.flatAny (flat _)) ?_
        obtain ⟨ty, rfl⟩ := hy
        exact .cons .mkStr .empty
      · obtain ⟨m, e⟩ := ns2'
        exact ⟨m, (ns_subZ e k4 zL).sameBut hs5 (by show L ≠ D; omega)⟩
      · obtain ⟨o', e'⟩ := cn2'.live x c e
        by_cases hz : c = Z
        · subst hz; obtain ⟨oZ, _, _, e, _⟩ := z4.sameBut hs5 (Ne.symm zD'); exact ⟨oZ, e⟩
        · exact same_live hs5 ⟨_, e5⟩ c ⟨o', k4 _ _ hz e'⟩
      · obtain ⟨v, o', e', r⟩ := cn2'.cell x c e l
        have l' : @LE.le Nat _ (L + 1) c := l
        have hcD : @LT.lt Nat _ D c := by omega
        have hcZ : c ≠ Z := by intro q; rw [q] at hcD; exact Nat.lt_irrefl _ (Nat.lt_trans zD hcD)
        exact ⟨v, o', (hs5.2 c (Nat.ne_of_gt hcD)).trans (k4 _ _ hcZ e'), r⟩
      · have hbD : @LT.lt Nat _ b D := by rw [← hD]; exact Heap.lt_size e
        exact k5 b o (Nat.ne_of_lt hbD) hz (hm2 b o (lowm b (by omega)) (keep1 b o hb hz e))
    · have hin : i = ts.length := by omega
      subst hin
      refine wpAny_with_toks (n := ti) (Nat.le_refl _) (W.done _ _ _ wi fun h1 tk1 hk1 hl1 => ?_)
      obtain ⟨d1, ⟨m, nsm⟩, cn1, z1, keep1, sub1⟩ := turn hk1
      have hLn : s.heap.get? L = none := by
        cases e : s.heap.get? L with
        | none => rfl
        | some o => have := oldD L o e; omega
      refine ⟨m, nsm, fun hz hsz => ?_⟩
      refine hq D hz tk1 ys nn (fun b o hb e => (hsz.2 b (fun q => by rw [q, hLn] at e; cases e)).trans (sub1 b o hb e)) (z1.sameBut hsz (Ne.symm zL)) (Nat.le_trans l (Nat.le_trans lti hl1)) hDs ((hsz.2 D (Nat.ne_of_lt hDL)).trans d1) ?_
      rw [List.take_of_length_le (by omega)] at ri
      exact ri.flatAny (flat _)
  exact codeAny_compStart_list (loop _ rfl) (W.self 0 _ _ _ (W.frame _ _ _ w0 fun b _ o e => up b o e) (loop _ rfl))
end
end Mine
end

-- X9
section
open PySem PySem.W PyProof.Rows PySem.Calls PySem.Spec
set_option maxRecDepth 100000
set_option maxHeartbeats 8000000
namespace Mine
open PySem (Expr)

theorem ns_same {h : Heap} {L : Addr} {m m' : Str → Option Value} (a : h.Ns L m) (b : h.Ns L m') (x : Str) : m x = m' x := by
  obtain ⟨o, es, ep, e1, e2, _, e3⟩ := a
  obtain ⟨o', es', ep', e1', e2', _, e3'⟩ := b
  rw [e1] at e1'; cases e1'
  rw [e2] at e2'; cases e2'
  rw [← e3 x, e3' x]
section
variable {C : Cx} {X : List Addr} {σ : List (Str × T)} {B : Addr → Obj → Prop} {h h' : Heap}
/-- the own frame may turn, but for its names -/
theorem St.subZ (S : St C X B σ [] h) {m : Str → Option Value} (k : SubZ C.env.locals h h') (ns : h.Ns C.env.locals m) (ns' : h'.Ns C.env.locals m) : St C X B σ [] h' := by
  have ne : ∀ a o, B a o → a ≠ C.env.locals := fun a o e q => S.nb o (q ▸ e)
  have cell : ∀ {c : Addr} {v : Option Value}, h.IsCell c v → h'.IsCell c v := fun {c v} ic => by
    obtain ⟨o, e, d⟩ := ic
    exact ⟨o, k c o (Ne.symm (ns_ne_cell ns ⟨o, e, d⟩)) e, d⟩
  refine ⟨fun a o e => k a o (ne a o e) (S.b a o e), ⟨m, ns'⟩, fun n c e => let ⟨v, ic⟩ := S.cl n c e; ⟨v, cell ic⟩, S.nb, S.cb, S.nd, fun p hp => (nomatch hp), fun p hp => (nomatch hp), ⟨fun p hp => ?_⟩⟩
  obtain ⟨v, hv, rv⟩ := S.rd.val p hp
  refine ⟨v, ?_, rv.sees (fun _ m => m) fun b o _ ⟨l, n, hl⟩ e => k b o (fun q => ?_) e⟩
  · rcases hv with ⟨a, m', b, c⟩ | ⟨a, a', c, b, d⟩
    · exact .inl ⟨a, m, ns', (ns_same ns b p.1).trans c⟩
    · exact .inr ⟨a, a', c, b, cell d⟩
  · have := ns_noSeq ns o (q ▸ e) l n
    rcases hl with rfl | rfl
    · exact this.1 rfl
    · exact this.2 rfl
end

theorem okEnv {C : Cx} {X : List Addr} {σ : List (Str × T)} {A : Around} {s : Shared} (_ : StOk C X σ A s) (h : EnvOk C) : EnvOk C := h
noncomputable def pairsT (n0 n1 n2 : Str) : List T := [.tup [.str (Str.ofString ""), .none], .tup [.none, .str (Str.ofString "")], .tup [.str n0], .tup [.str n0, .str n1, .str n2], .tup [.int 7, .str n0], .tup [.str n0, .int 7]]
noncomputable def pairsU : List Str := [Str.ofString "", Str.ofString "C."] ++ List.replicate 4 refusal

section
variable {G : Cx} {p : Params}
theorem stays_hide (h : Heap) (Z : Addr) : (h.hide Z).StaysIn h := fun _ _ e => Heap.of_hide e
theorem hide_self (h : Heap) (Z : Addr) : (h.hide Z).get? Z = none := hideAll_none [Z] (h := h) (.head _)
theorem word_ (g : Gs G p) (h1t : 1 ≤ G.t0) (n0 n1 n2 : Str) (h0 : n0.length ≤ 6) {A : Around} {E : Value → Shared → Prop} {s : Shared} {Q : Value → Shared → Prop} {v : Value} {X : List Addr} {Z : Addr} {mZ : Str → Option Value} {env : Env} {i : Nat} {t : T} {u : Str}
    (oa : OkA 2 A) (hA : A.frames = some [env]) (hk : env.scope.kind = .function) (hf : env.frame = some Z) (ns : s.heap.Ns Z mZ) (gl : ∀ h : Heap, SubZ Z s.heap h → Gl G.K G.mg G.mb h) (lv : Live X s.heap) (ht : G.t0 ≤ s.toks) (r : Rep X s.heap t v)
    (hi : (pairsT n0 n1 n2)[i]? = some t) (hu : pairsU[i]? = some u)
    (hq : ∀ v h' tk, SubZ Z s.heap h' → h'.Ns Z mZ → s.toks ≤ tk → (∃ t, v = .str u t) → Q v { s with heap := h', toks := tk }) : wpAny (model G.prog G.w) A (call (.ref 129) [v]) Q E s := by
  have gs := gl _ (fun b o _ e => e)
  have big : 100000 ≤ sizeLine := by decide
  have good : ∀ (l e : Option Str), (l.getD (Str.ofString "C")).length + 1 + (e.getD ⟨#[]⟩).length ≤ sizeLine → t = .tup [optT l, optT e] → u = locName l e → wpAny (model G.prog G.w) A (call (.ref 129) [v]) Q E s := fun l e hl ht' hu' => by
    subst ht' hu'
    exact (words_ok g l e hl).run A E s Q [v] X oa gs lv ht (.cons r .empty) fun v h' tk k l r => hq v h' tk (fun b o _ e => k b o e) (ns.keeps k) l r.str
  have bad : ∀ ts, BadPair ts → t = .tup ts → u = refusal → wpAny (model G.prog G.w) A (call (.ref 129) [v]) Q E s := fun ts hb ht' hu' => by
    subst ht' hu'
    have ff : s.heap.FunFrames (s.heap.hide Z) [env] := by
      obtain ⟨o, es, ep, e, d, _⟩ := ns
      exact ⟨by rw [hk]; decide, ⟨Z, o, hf, hide_self _ _, e, fun vs q => by rw [d] at q; cases q⟩, trivial⟩
    refine wpAny_with_toks (Nat.le_refl _) (words_bad g ts hb oa hA (stays_hide s.heap Z) ff (fun h hh => gl h fun b o hb e => hh b o ((Heap.hide_ne _ hb).trans e)) lv ht r fun h' w tk st um l => ?_)
    exact hq _ h' tk (fun b o hb e => st b o ((Heap.hide_ne _ hb).trans e)) (um.ns ns) l ⟨w, rfl⟩
  have hi6 : i < 6 := by
    have := (List.getElem?_eq_some_iff.mp hi).1
    exact this
  have : i = 0 ∨ i = 1 ∨ i = 2 ∨ i = 3 ∨ i = 4 ∨ i = 5 := by omega
  rcases this with rfl | rfl | rfl | rfl | rfl | rfl
  · cases hi; cases hu
    exact good (some (Str.ofString "")) none (by show (Str.ofString "").length + 1 + 0 ≤ _; rw [show (Str.ofString "").length = 0 by decide]; omega) rfl rfl
  · cases hi; cases hu
    exact good none (some (Str.ofString "")) (by show (Str.ofString "C").length + 1 + (Str.ofString "").length ≤ _; rw [show (Str.ofString "").length = 0 by decide, show (Str.ofString "C").length = 1 by decide]; omega) rfl (by decide +kernel)
  · cases hi; cases hu
    exact bad _ (.inl (.inl rfl)) rfl rfl
  · cases hi; cases hu
    exact bad _ (.inl (.inr rfl)) rfl rfl
  · cases hi; cases hu
    exact bad _ (.inr (.inl ⟨_, _, rfl⟩)) rfl rfl
  · cases hi; cases hu
    exact bad _ (.inr (.inr ⟨_, _, rfl, h0⟩)) rfl rfl

theorem body_wp {K : Frag} {f : Addr} {k : Nat} {oc : Value} {od : Option Addr} {osl : Array (Option Value)} {name qual : Str} {params : Arguments} {body rest : List Stmt} {scope sc0 : Scope} {dV kV doc pm cdv ct : Value} {an : Option Addr} {P : Scope → List Stmt → Prop}
    (ho : K.lookup f = some ⟨oc, od, .func (fnOf name qual params body scope dV kV doc pm an cdv ct), osl⟩) (hk : body.drop k = rest) (h : P scope rest) : P (scopeOf K f sc0) ((bodyOf K f).drop k) := by
  have e1 : scopeOf K f sc0 = scope := by unfold scopeOf; rw [ho]
  have e2 : bodyOf K f = body := by unfold bodyOf; rw [ho]
  rw [e1, e2, hk]; exact h

noncomputable def EndP (G : Cx) (N : List Str) (page n0 n1 n2 : Str) (L a : Addr) (cd : Value) (sc : Scope) (b : List Stmt) : Prop :=
  EnvC (G.at' 6 (envOfC (Str.ofString "law") sc L a cd)) → ∀ (A : Around) (E : Value → Shared → Prop) (s : Shared) (B : Addr → Obj → Prop) (Q : Flow → Shared → Prop), OkA 6 A → A.frames = some [envOfC (Str.ofString "law") sc L a cd] → BOk (G.at' 6 (envOfC (Str.ofString "law") sc L a cd)) [] B →
      St (G.at' 6 (envOfC (Str.ofString "law") sc L a cd)) [] B [(Str.ofString "names", .list (N.map T.str)), (Str.ofString "page", .str page), (Str.ofString "refusal", .str refusal), (Str.ofString "pairs", .list (pairsT n0 n1 n2))] [] s.heap → G.t0 ≤ s.toks →
      (∀ h' tk, (∀ a o, B a o → h'.get? a = some o) → Q (.ret (.bool true)) { s with heap := h', toks := tk }) → wpAny (model G.prog G.w) A (execs b (envOfC (Str.ofString "law") sc L a cd)) Q E s
theorem law_end (g : Gs G p) (h1t : 1 ≤ G.t0) (N : List Str) (page : Str) (n0 n1 n2 ii tt : Str) (h0 : N[0]? = some n0) (h1 : N[1]? = some n1) (h3 : N[3]? = some ii) (h5 : N[5]? = some tt) (hN : N.length = 6) (hn6 : ∀ x, x ∈ N → x.length ≤ 6) (h36 : page.length ≤ 36)
    (hby : byNames n0 ii tt n1 page = true) (L a : Addr) (cd : Value) (sc0 : Scope) : EndP G N page n0 n1 n2 L a cd (scopeOf (hd.heap_39 p) 134 sc0) ((bodyOf (hd.heap_39 p) 134).drop 25) := by
  refine body_wp (K := hd.heap_39 p) (f := 134) (k := 25) (sc0 := sc0) (P := EndP G N page n0 n1 n2 L a cd) (by rfl) (by rfl) ?_
  intro en A E s B Q oa hA bo S tk hq
  have big : 100000 ≤ sizeLine := by decide
  obtain ⟨mZ, nsZ⟩ := S.ns
  have b0 : n0.length ≤ 6 := hn6 _ (List.mem_of_getElem? h0)
  obtain ⟨ob, fd, hl, hfd⟩ : ∃ o fd, G.K.lookup 129 = some o ∧ o.data = .func fd := by rw [g.k]; exact ⟨_, _, rfl, rfl⟩
  refine wpAny_execs_cons (wpAny_If (wpAny_isTrue_Compare1 (hm := by with_unfolding_all rfl) ?_))
  have o := S.ok bo oa tk
  have gl : ∀ h : Heap, SubZ L s.heap h → Gl G.K G.mg G.mb h := fun h kk => bo.gl h fun a o e => kk a o (fun q => S.nb o (q ▸ e)) (S.b a o e)
  refine lc_raise (C := G.at' 6 (envOfC (Str.ofString "law") _ L a cd)) (Y := []) (σ := _) (ts := pairsT n0 n1 n2) (us := pairsU) L mZ (.list (nm en)) (by rfl) ?_ (by rfl) (by decide) ?_ (by rfl) (show 6 ≤ sizeLine by decide) o nsZ gl ?_ ?_ (by intro _; rfl)
  · intro x c e; cases e
  · first | exact fun _ => .inl rfl | exact fun _ => .inr ⟨rfl, by decide, _, rfl, Nat.lt_succ_self _⟩
  · intro L' D i t u E' s1 Q1 k1 hi hu ok1 ns1 hq1
    have ek := okEnv ok1 (EnvOk.comp en.ok (by rfl))
    have g1 := gl _ k1
    obtain ⟨v, hr, rv⟩ := mem_read (List.Mem.head _) ok1.r
    refine Call_ (name_f ek g.f g1 (PyProof.Rows.callWith_def hfd (args_cons (wpAny_Name (load_of ek.kind hr (args_nil ⟨g1.k _ _ hl, ?_⟩)) (by decide)))))
    exact word_ g h1t n0 n1 n2 b0 (oa.le (by decide)) hA rfl rfl ns1 (fun h kk => gl h fun b o hb e => kk b o hb (k1 b o hb e)) ok1.l ok1.t rv hi hu hq1
  · intro D h' tk' ys n k ns' l hD hd' rl
    have S1 := S.subZ (C := G.at' 6 (envOfC (Str.ofString "law") _ L a cd)) k nsZ ns'
    have o1 : StOk (G.at' 6 (envOfC (Str.ofString "law") _ L a cd)) _ _ A { s with heap := h', toks := tk' } := S1.ok bo oa (Nat.le_trans tk l)
    have er : Rep [] h' (.list (pairsU.map T.str)) (.ref D) := .mkList (by simp) hd' rl
    refine EvE.run (t := .list (pairsU.map T.str)) ?he2 A E _ _ o1 fun v2 h2 tk2 k2 l2 r2 => ?_
    case he2 => exact EvE.bin (.list (.cons .str (.cons .str .nil))) (.bin (.list (.cons (nm en) .nil)) .int (.mul_list (by decide) (by decide) (by decide))) (.add_list (by decide))
    refine (OpR.ne_list (C := G.at' 6 G.env) (X := []) (flat1_strs _)).run A E _ _ (.ref D) v2 oa (Nat.le_trans tk (Nat.le_trans l l2)) Live.nil (er.sub k2) r2 fun v3 hp3 tk3 k3 l3 r3 => ?_
    rw [r3.bool]
    refine wpAny_truthy_bool ?_
    rw [if_neg Bool.false_ne_true]
    refine wpAny_execs_nil ?_
    have S3 := (S1.grow k2).grow k3
    refine (ExL.ret (C := G.at' 6 (envOfC (Str.ofString "law") _ L a cd)) (rest := []) (K := fun o => o = .ret (.bool true)) (t := .bool true) (fun Y => (EvE.call en.ok g.f (.cons (nm en) (.cons (nm en) .nil)) (byNames_ g N page n0 ii tt n1 h0 h1 h3 h5 hN b0 (hn6 _ (List.mem_of_getElem? h3)) (hn6 _ (List.mem_of_getElem? h5)) (hn6 _ (List.mem_of_getElem? h1)) h36).at (by show 2 ≤ 6; omega)).cast (congrArg T.bool hby)) rfl).run A E _ B Q oa bo S3 (Nat.le_trans tk (Nat.le_trans l (Nat.le_trans l2 l3))) fun out f h4 tk4 ko po l4 => ?_
    subst ko
    obtain ⟨v, rfl, p1, p2⟩ := po
    rw [p2.bool]
    exact hq h4 tk4 p1
end
end Mine
end

-- F16
section
open PySem PySem.W PyProof.Rows PySem.Calls PySem.Spec
set_option maxRecDepth 100000
set_option maxHeartbeats 8000000
namespace Mine
open PySem (Expr)

section
variable {G : Cx} {p : Params} {K : Out → Prop}
theorem law_body9 (g : Gs G p) (N : List Str) (page n0 n1 n2 : Str) (hN : N.length = 6) (h0 : N[0]? = some n0) (h1 : N[1]? = some n1) (h2 : N[2]? = some n2)
    (L a : Addr) (cd : Value) (sc0 : Scope) (en0 : EnvC (G.at' 6 (envOfC (Str.ofString "law") (scopeOf (hd.heap_39 p) 134 sc0) L a cd)))
    (hK : K (.next [(Str.ofString "names", .list (N.map T.str)), (Str.ofString "page", .str page), (Str.ofString "refusal", .str refusal), (Str.ofString "pairs", .list (pairsT n0 n1 n2))] [])) :
    ExL (G.at' 6 (envOfC (Str.ofString "law") (scopeOf (hd.heap_39 p) 134 sc0) L a cd)) [] [(Str.ofString "names", .list (N.map T.str)), (Str.ofString "page", .str page)] [] ((bodyA (hd.heap_39 p) 134).drop 23) K := by
  refine body_aux (by rfl) (by rfl) ?_
  have en := env_aux (by rfl) en0
  have big : 100000 ≤ sizeLine := by decide
  have Nl : (N.map T.str).length ≤ sizeLine := by rw [List.length_map, hN]; omega
  have get : ∀ {k : Nat} {x : Str}, N[k]? = some x → (N.map T.str)[((k : Nat) : Int).toNat]? = some (.str x) := fun {k x} e => by
    rw [Int.toNat_natCast, List.getElem?_map, e]; rfl
  refine .let_ en (t := .str refusal) (h := fun Y => .str) (hr := ?_)
  have i0 : ∀ {Y : List Addr} {σ : List (Str × T)} {C' : Cx} {e : Expr} {q q2 : Pos} {k2 : Nat}, EvE C' Y σ e (.list (N.map T.str)) → EvE C' Y σ (.Subscript e (.Constant (.int 0) k2 q2) q) (.str n0) := fun h => .item h .int (by decide) (get (k := 0) h0) Nl
  have i1 : ∀ {Y : List Addr} {σ : List (Str × T)} {C' : Cx} {e : Expr} {q q2 : Pos} {k2 : Nat}, EvE C' Y σ e (.list (N.map T.str)) → EvE C' Y σ (.Subscript e (.Constant (.int 1) k2 q2) q) (.str n1) := fun h => .item h .int (by decide) (get (k := 1) h1) Nl
  have i2 : ∀ {Y : List Addr} {σ : List (Str × T)} {C' : Cx} {e : Expr} {q q2 : Pos} {k2 : Nat}, EvE C' Y σ e (.list (N.map T.str)) → EvE C' Y σ (.Subscript e (.Constant (.int 2) k2 q2) q) (.str n2) := fun h => .item h .int (by decide) (get (k := 2) h2) Nl
  refine .let_ en (t := .list (pairsT n0 n1 n2)) (h := fun Y => .list (.cons (.tup (.cons .str (.cons .none .nil))) (.cons (.tup (.cons .none (.cons .str .nil))) (.cons (.tup (.cons (i0 (nm en)) .nil)) (.cons (.tup (.cons (i0 (nm en)) (.cons (i1 (nm en)) (.cons (i2 (nm en)) .nil)))) (.cons (.tup (.cons .int (.cons (i0 (nm en)) .nil))) (.cons (.tup (.cons (i0 (nm en)) (.cons .int .nil))) .nil)))))) (show 6 ≤ sizeLine by decide)) (hr := ?_)
  refine .weak (fun q hq => ?_) (.nil hK)
  simp only [List.mem_cons, List.not_mem_nil, or_false] at hq
  rcases hq with rfl | rfl | rfl | rfl <;> simp
end
end Mine
end

-- F17
section
open PySem PySem.W PyProof.Rows PySem.Calls PySem.Spec
set_option maxRecDepth 100000
set_option maxHeartbeats 8000000
namespace Mine
open PySem (Expr)

section
variable {G : Cx} {p : Params} {K : Out → Prop}
structure Facts (w : Nat) (R : List Nat) (rk : List Str) (π : List Nat) (n0 n1 n2 n3 n5 : Str) : Prop where
  ro : RanksOk (namesOf w R) rk π
  hem : ∀ a b c, a < b → b < c → c < 6 → em (Str.ofString "..." ++ Txt.join (Str.ofString "...") [rk[b]?.getD ⟨#[]⟩, rk[c]?.getD ⟨#[]⟩, rk[a]?.getD ⟨#[]⟩] ++ Str.ofString "...") (cat (namesOf w R)) = st π a b c
  hperm1 : ∀ k, k < 6 → k ∈ aheads (once3 π 6)
  hperm2 : ∀ k, k < 6 → k ∈ aheads (twiceOf (once3 π 6))
  hp1 : pileRes (namesOf w R) = rowRes rk (once3 π 6) ++ [Str.ofString "C"]
  hp2 : pileRes (rowRes rk (once3 π 6)) = rowRes rk (twiceOf (once3 π 6)) ++ [Str.ofString "C"]
  hback : ∀ x, x ∈ namesOf w R → strip (locName (some (Str.ofString "")) (some x)) = x
  htold : (rk.map T.str).filterMap (rowT rk) = told.map T.list
  c1 : collv (Str.ofString "") (cat (namesOf w R)) = -1
  c2 : collv (cat (namesOf w R)) n0 = 1
  c3 : StrLaws.sliceText (cat (namesOf w R)) none (some (n0.length : Int)) = n0
  hby : byNames n0 n3 n5 n1 (cat (namesOf w R)) = true
  h0 : (namesOf w R)[0]? = some n0
  h1 : (namesOf w R)[1]? = some n1
  h2 : (namesOf w R)[2]? = some n2
  h3 : (namesOf w R)[3]? = some n3
  h5 : (namesOf w R)[5]? = some n5
theorem msgs_bare : msgs.map strip = List.replicate 6 (Str.ofString "") := by decide +kernel
theorem rk_mem {N rk : List Str} {π : List Nat} (ro : RanksOk N rk π) (hn6 : ∀ x, x ∈ N → x.length ≤ 6) (k : Nat) : (rk[k]?.getD ⟨#[]⟩).length ≤ 6 := by
  cases h : rk[k]? with
  | none => exact Nat.zero_le 6
  | some x => exact hn6 x (ro.mem (List.mem_of_getElem? h))
theorem tw_len (rows : List (List Bool)) : (twiceOf rows).length = 6 ∧ ∀ i, i < 6 → ((twiceOf rows)[i]?.getD []).length = i := by
  refine ⟨by simp [twiceOf], fun i hi => ?_⟩
  unfold twiceOf
  rw [List.getElem?_map, List.getElem?_range hi]
  simp [twRow]
theorem mid_walk (g : Gs G p) (h1t : 1 ≤ G.t0) (w : Nat) (R : List Nat) (ok : RowOk w R) {rk : List Str} {π : List Nat} {n0 n1 n2 n3 n5 : Str} (F : Facts w R rk π n0 n1 n2 n3 n5) (L a : Addr) (cd : Value) (sc0 : Scope)
    (en0 : EnvC (G.at' 6 (envOfC (Str.ofString "law") (scopeOf (hd.heap_39 p) 134 sc0) L a cd)))
    (hK : K (.next [(Str.ofString "names", .list ((namesOf w R).map T.str)), (Str.ofString "page", .str (cat (namesOf w R))), (Str.ofString "refusal", .str refusal), (Str.ofString "pairs", .list (pairsT n0 n1 n2))] [])) :
    ExL (G.at' 6 (envOfC (Str.ofString "law") (scopeOf (hd.heap_39 p) 134 sc0) L a cd)) [] [(Str.ofString "which", .int w), (Str.ofString "names", .list ((namesOf w R).map T.str)), (Str.ofString "page", .str (cat (namesOf w R)))] [] ((bodyA (hd.heap_39 p) 134).drop 11) K := by
  have hn6 := names_len w R
  have hN : (namesOf w R).length = 6 := by rw [namesOf, List.length_map, ok.len]
  have h36 : (cat (namesOf w R)).length ≤ 36 := by have := cat_len6 hn6; rw [hN] at this; exact this
  have six := six3 π 6 (Nat.le_refl 6)
  have hr6 : ∀ x, x ∈ rowRes rk (once3 π 6) → x.length ≤ 6 := fun x hx => by
    obtain ⟨k, _, rfl⟩ := List.mem_map.mp hx
    exact rk_mem F.ro hn6 _
  have b0 : n0.length ≤ 6 := hn6 _ (List.mem_of_getElem? F.h0)
  refine law_body4 g h1t w _ rk _ π F.ro hn6 (fun k _ => rk_mem F.ro hn6 k) h36 F.hem L a cd sc0 en0 ?_
  refine law_body5 g _ rk _ _ six F.ro.rl F.hperm1 L a cd sc0 en0 ?_
  refine law_body6 g _ rk _ _ _ six hN F.ro.rl hn6 hr6 F.hperm2 (tw_len _).1 (tw_len _).2 F.hp1 F.hp2 msgs_bare F.hback L a cd sc0 en0 ?_
  refine law_body7 g _ rk _ F.ro.rl F.htold L a cd sc0 en0 ?_
  refine law_body8 g _ _ n0 hN F.h0 b0 h36 F.c1 F.c2 F.c3 L a cd sc0 en0 ?_
  exact law_body9 g _ _ n0 n1 n2 hN F.h0 F.h1 F.h2 L a cd sc0 en0 hK

/-- the whole body: first statement, the middle, the end -/
theorem first_let2 {n : Nat} {env : Env} {A : Around} {E : Value → Shared → Prop} {s : Shared} {B : Addr → Obj → Prop} {Q : Flow → Shared → Prop} {σ σ' σe : List (Str × T)} {x : Str} {px pos : Pos} {e : Expr} {t : T} {rest r1 r2 : List Stmt}
    (h1 : G.t0 = 1) (en : EnvC (G.at' n env)) (h : ∀ Y, EvE { G with t0 := 0, n := n, env := env } Y σ e t) (ao : OkA n A) (bo : BOk (G.at' n env) [] B) (S : St (G.at' n env) [] B σ [] s.heap) (hx : env.kindOf x = some .local) (hp : Put x t σ σ') (hsp : rest = r1 ++ r2)
    (hr : ExL (G.at' n env) [] σ' [] r1 (fun o => o = .next σe [])) (hend : ∀ h' tk, St (G.at' n env) [] B σe [] h' → 1 ≤ tk → wpAny (model G.prog G.w) A (execs r2 env) Q E { s with heap := h', toks := tk })
    (hsw : swapsWith e (some (.Name x px)) pos.line env = pure false) : wpAny (model G.prog G.w) A (execs (.Assign [.Name x px] e pos :: rest) env) Q E s := by
  subst hsp
  have S0 : St { G with t0 := 0, n := n, env := env } [] B σ [] s.heap := ⟨S.b, S.ns, S.cl, S.nb, S.cb, S.nd, S.own, S.ob, S.rd⟩
  have b0 : BOk { G with t0 := 0, n := n, env := env } [] B := ⟨bo.gl, bo.live⟩
  refine wpAny_execs_cons (wpAny_Assign_Name ((h _).run A E s _ (S0.ok b0 ao (Nat.zero_le _)) fun v h' tk k l r => ?_) hsw)
  refine store_strict en.ok.kind (S.grow k).ns hx fun h'' Z => ?_
  have S2 := (S.grow k).store en.ap Z hp.mem r
  refine wpAny_append (hr.run A E _ B _ ao bo S2 (by rw [show (Cx.at' G n env).t0 = G.t0 from rfl, h1]; exact Nat.le_add_left 1 tk) fun out f h3 tk3 ko po l3 => ?_)
  subst ko
  obtain ⟨rfl, S3⟩ := po
  exact hend h3 tk3 S3 (Nat.le_trans (Nat.le_add_left 1 tk) l3)
end
end Mine
end

-- Q0
section
open PySem PySem.W PyProof.Rows PySem.Calls PySem.Spec
set_option maxRecDepth 100000
set_option maxHeartbeats 8000000
namespace Mine
open PySem (Expr)

/-- all orders of a list -/
noncomputable def permsF : Nat → List Nat → List (List Nat)
  | 0, _ => [[]]
  | k + 1, l => l.flatMap fun x => (permsF k (l.erase x)).map (x :: ·)
theorem mem_permsF : ∀ (π l : List Nat), π.Perm l → π ∈ permsF l.length l
  | [], l, h => by
    have : l = [] := List.nil_perm.mp h
    subst this
    exact List.mem_singleton.mpr rfl
  | x :: π, l, h => by
    have hx : x ∈ l := h.subset (List.mem_cons_self ..)
    have h2 : π.Perm (l.erase x) := by
      have := h.erase x
      simpa using this
    have hl : l.length = (l.erase x).length + 1 := by
      rw [List.length_erase_of_mem hx]
      have := List.length_pos_of_mem hx
      omega
    rw [hl]
    show x :: π ∈ l.flatMap _
    refine List.mem_flatMap.mpr ⟨x, hx, List.mem_map.mpr ⟨π, mem_permsF π _ h2, rfl⟩⟩

/-- the pile on ranks: what waits, what has come, the pile from its top -/
noncomputable def simStep : List Nat × List Nat × List Nat → List Nat × List Nat × List Nat
  | (x :: r, c, []) => (r, c, [x])
  | (x :: r, c, t :: s) => if t < x then (x :: r, c ++ [t], s) else (r, c, x :: t :: s)
  | ([], c, t :: s) => ([], c ++ [t], s)
  | ([], c, []) => ([], c, [])
noncomputable def simRun (ρ : List Nat) : Nat → List Nat × List Nat × List Nat
  | 0 => (ρ, [], [])
  | t + 1 => simStep (simRun ρ t)
noncomputable def simOk (ρ : List Nat) : Bool := (List.range 12).all fun t => !((simRun ρ t).1.isEmpty && (simRun ρ t).2.2.isEmpty)
noncomputable def comeOf (rows : List (List Bool)) : List Nat := (List.range 6).map fun k => (aheads rows).idxOf k
noncomputable def invOf (π : List Nat) : List Nat := (List.range 6).map fun i => π.idxOf i
noncomputable def permOk (rows : List (List Bool)) : Bool := (List.range 6).all fun k => (aheads rows).contains k
noncomputable def checkπ (π : List Nat) : Bool :=
  let rows := once3 π 6
  let tw := twiceOf rows
  permOk rows && permOk tw && simOk (invOf π) && (simRun (invOf π) 12 == ([], comeOf rows, [])) && simOk (comeOf rows) && (simRun (comeOf rows) 12 == ([], comeOf tw, []))
end Mine
end

-- Q1
section
open PySem PySem.W PyProof.Rows PySem.Calls PySem.Spec
set_option maxRecDepth 100000
set_option maxHeartbeats 8000000
namespace Mine
open PySem (Expr)

open PySem.Builtin.Str (occurrences lastOccurrence partsBetween strSub subAt strKind)
open StrLaws (At occ_eq occ_first occ_head_from)

theorem at_iff {x y : Str} {hi i : Nat} : At x y hi i ↔ i + y.length ≤ hi ∧ (x.cps.toList.drop i).take y.length = y.cps.toList := by
  unfold At
  rw [StrLaws.subAt_eq, beq_iff_eq]
theorem from_nat (len a : Nat) : fromIndex len (a : Int) = a := by
  unfold fromIndex
  rw [if_neg (by omega)]
  omega
theorem find4_spec (x y : Str) (a b : Nat) (hb : b ≤ x.length) :
    (find4 x y a b = -1 ∧ ∀ i, a ≤ i → ¬ At x y b i) ∨ ∃ i : Nat, find4 x y a b = i ∧ a ≤ i ∧ At x y b i ∧ ∀ k, a ≤ k → k < i → ¬ At x y b k := by
  unfold find4
  rw [from_nat, from_nat, Nat.min_eq_left hb, occ_eq]
  rcases occ_first x y b 1 (Nat.le_refl 1) (List.range' a (b + 1 - a)) a (fun i hi => by have := List.mem_range'_1.mp hi; omega) with ⟨h0, hn⟩ | ⟨pre, c, post, e, h0, hc, hn⟩
  · rw [h0]
    exact .inl ⟨rfl, fun i hi hA => hn i (by have := hA.1; rw [List.mem_range'_1]; omega) hA⟩
  · have hs := StrLaws.range'_split_from e
    refine .inr ⟨c, ?_, hs.1, hc, fun k h1 h2 => hn k (hs.2 k h1 h2)⟩
    generalize (forIn (List.range' a (b + 1 - a)) ((#[] : Array Nat), a) (StrLaws.occBody x y b 1)).run.fst = arr at h0
    have h1 : arr.toList[0]? = some c := by simpa using h0
    cases hL : arr.toList with
    | nil => rw [hL] at h1; cases h1
    | cons d t => rw [hL] at h1; simp at h1; rw [h1]
theorem rfind4_spec (x y : Str) (b : Nat) (hb : b ≤ x.length) :
    (rfind4 x y 0 b = -1 ∧ ∀ i, ¬ At x y b i) ∨ ∃ i : Nat, rfind4 x y 0 b = i ∧ At x y b i ∧ ∀ k, i < k → ¬ At x y b k := by
  unfold rfind4
  rw [show (0 : Int) = ((0 : Nat) : Int) from rfl, from_nat, from_nat, Nat.min_eq_left hb, StrLaws.last_eq]
  have key := StrLaws.last_run x y b (List.range' 0 (b + 1 - 0)) [] none (fun _ h => nomatch h) (fun _ h => nomatch h) (by simpa using List.pairwise_lt_range' (s := 0) (n := b + 1 - 0))
  have mem : ∀ i, At x y b i → i ∈ [] ++ List.range' 0 (b + 1 - 0) := fun i hi => by have := hi.1; simp [List.mem_range'] <;> omega
  cases hr : (forIn (List.range' 0 (b + 1 - 0)) none (StrLaws.lastBody x y b)).run with
  | none => rw [hr] at key; exact .inl ⟨rfl, fun i hi => key i (mem i hi) hi⟩
  | some a => rw [hr] at key; exact .inr ⟨a, rfl, key.1, fun k hk hA => key.2 k (mem k hA) hk hA⟩

/- tokens -/
noncomputable def inn : List Nat := [97, 109, 112, 108, 116, 103, 113, 117, 111, 35, 49, 51, 48, 57, 120, 68, 65]
noncomputable def Tok (t : List Nat) : Prop := (∃ c, t = [c] ∧ c ≠ 38 ∧ c ≠ 59 ∧ c ∉ inn) ∨ ∃ m, t = 38 :: (m ++ [59]) ∧ ∀ d, d ∈ m → d ∈ inn
theorem Tok.pos {t : List Nat} (h : Tok t) : 0 < t.length := by
  rcases h with ⟨c, rfl, _⟩ | ⟨m, rfl, _⟩ <;> simp
theorem head_of {l t : List Nat} {i a n : Nat} (h : (l.drop i).take n = a :: t) : l[i]? = some a := by
  have h1 := congrArg (·[0]?) h
  simp only [List.getElem?_cons_zero] at h1
  cases n with
  | zero => simp at h1
  | succ n => rw [List.getElem?_take_of_lt (Nat.succ_pos n), List.getElem?_drop] at h1; exact h1
theorem code_eq : ∀ (m m' rest : List Nat), 59 ∉ m → 59 ∉ m' → (m ++ 59 :: rest).take (m'.length + 1) = m' ++ [59] → m = m'
  | [], [], _, _, _, _ => rfl
  | [], d :: m', _, _, h2, h => by simp at h; simp [h.1] at h2
  | d :: m, [], _, h1, _, h => by simp at h; simp [h] at h1
  | d :: m, d' :: m', rest, h1, h2, h => by
    simp only [List.cons_append, List.length_cons, List.take_succ_cons, List.cons.injEq] at h
    simp only [List.mem_cons, not_or] at h1 h2
    rw [h.1, code_eq m m' rest h1.2 h2.2 h.2]
theorem tok_align {t : List Nat} (ht : Tok t) : ∀ (toks : List (List Nat)), (∀ u, u ∈ toks → Tok u) → ∀ i, i + t.length ≤ toks.flatten.length → (toks.flatten.drop i).take t.length = t → ∃ k, toks[k]? = some t ∧ i = (toks.take k).flatten.length
  | [], _, i, h, _ => by
    have h1 := ht.pos
    have h2 : i + t.length ≤ 0 := h
    omega
  | u :: toks, hu, i, h, e => by
    have hU := hu u (List.mem_cons_self ..)
    rw [List.flatten_cons] at h e
    by_cases hi : i < u.length
    · have hd : ∀ a t', t = a :: t' → u[i]? = some a := fun a t' q => by
        have := head_of (e.trans q)
        rwa [List.getElem?_append_left hi] at this
      have n38 : 38 ∉ inn := by decide
      have n59 : 59 ∉ inn := by decide
      rcases hU with ⟨c, rfl, c1, c2, c3⟩ | ⟨m, rfl, hm⟩
      · have i0 : i = 0 := by simp at hi; exact hi
        subst i0
        rcases ht with ⟨c', rfl, _⟩ | ⟨m', rfl, _⟩
        · have := hd c' [] rfl
          simp at this
          exact ⟨0, by simp [this], rfl⟩
        · have := hd 38 _ rfl
          simp at this
          exact absurd this c1
      · by_cases i0 : i = 0
        · subst i0
          rcases ht with ⟨c', rfl, c1, _⟩ | ⟨m', rfl, hm'⟩
          · have := hd c' [] rfl
            simp at this
            exact absurd this.symm c1
          · rw [List.drop_zero, List.cons_append, List.append_assoc] at e
            simp only [List.length_cons, List.length_append, List.length_nil, List.take_succ_cons, List.cons.injEq, true_and, Nat.zero_add, List.singleton_append] at e
            have := code_eq m m' toks.flatten (fun q => n59 (hm _ q)) (fun q => n59 (hm' _ q)) e
            subst this
            exact ⟨0, rfl, rfl⟩
        · have hin : ∀ a, (38 :: (m ++ [59]))[i]? = some a → a ∈ inn ∨ a = 59 := fun a q => by
            obtain ⟨j, rfl⟩ : ∃ j, i = j + 1 := ⟨i - 1, by omega⟩
            rw [List.getElem?_cons_succ] at q
            have := List.mem_of_getElem? q
            rcases List.mem_append.mp this with q | q
            · exact .inl (hm a q)
            · exact .inr (List.mem_singleton.mp q)
          rcases ht with ⟨c', rfl, c1, c2, c3⟩ | ⟨m', rfl, _⟩
          · rcases hin _ (hd c' [] rfl) with q | q
            · exact absurd q c3
            · exact absurd q c2
          · rcases hin _ (hd 38 _ rfl) with q | q
            · exact absurd q n38
            · exact absurd q (by decide)
    · have hle : u.length ≤ i := Nat.le_of_not_lt hi
      rw [List.drop_append, List.drop_eq_nil_of_le hle, List.nil_append] at e
      obtain ⟨k, h1, h2⟩ := tok_align ht toks (fun v hv => hu v (List.mem_cons_of_mem _ hv)) (i - u.length) (by rw [List.length_append] at h; omega) e
      refine ⟨k + 1, h1, ?_⟩
      rw [List.take_succ_cons, List.flatten_cons, List.length_append]
      omega
theorem tok_at {t : List Nat} : ∀ (toks : List (List Nat)) (k : Nat), toks[k]? = some t → (toks.flatten.drop (toks.take k).flatten.length).take t.length = t ∧ (toks.take (k + 1)).flatten.length = (toks.take k).flatten.length + t.length
  | [], _, h => by simp at h
  | u :: toks, 0, h => by
    simp at h
    subst h
    simp
  | u :: toks, k + 1, h => by
    simp only [List.getElem?_cons_succ] at h
    obtain ⟨h1, h2⟩ := tok_at toks k h
    rw [List.take_succ_cons, List.take_succ_cons, List.flatten_cons, List.flatten_cons, List.flatten_cons, List.length_append, List.length_append, List.drop_append]
    refine ⟨?_, by omega⟩
    rw [List.drop_eq_nil_of_le (by omega), List.nil_append, show u.length + (toks.take k).flatten.length - u.length = (toks.take k).flatten.length by omega]
    exact h1

/-- texts of index lists -/
structure Tks (tk : Nat → Str) : Prop where
  tok : ∀ i, i < 6 → Tok (tk i).cps.toList
  inj : ∀ i j, i < 6 → j < 6 → tk i = tk j → i = j
noncomputable def text (tk : Nat → Str) (ix : List Nat) : Str := cat (ix.map tk)
noncomputable def bd (tk : Nat → Str) (ix : List Nat) (k : Nat) : Nat := (text tk (ix.take k)).length
theorem text_list (tk : Nat → Str) (ix : List Nat) : (text tk ix).cps.toList = (ix.map fun i => (tk i).cps.toList).flatten := by
  unfold text
  rw [cat_list, List.flatMap_map, List.flatMap_def]
theorem bd_eq (tk : Nat → Str) (ix : List Nat) (k : Nat) : bd tk ix k = ((ix.map fun i => (tk i).cps.toList).take k).flatten.length := by
  unfold bd
  rw [← len_list, text_list, List.map_take]
section
variable {tk : Nat → Str} {ix : List Nat} (T : Tks tk) (h6 : ∀ i, i ∈ ix → i < 6)
include T h6
theorem pos_ {x : Nat} (hx : x < 6) : 0 < (tk x).length := by rw [← len_list]; exact (T.tok x hx).pos
theorem bd_succ {k x : Nat} (h : ix[k]? = some x) : bd tk ix (k + 1) = bd tk ix k + (tk x).length := by
  rw [bd_eq, bd_eq, ← len_list]
  exact (tok_at _ k (by rw [List.getElem?_map, h]; rfl)).2
theorem bd_step {k : Nat} (h : k < ix.length) : bd tk ix k < bd tk ix (k + 1) := by
  have e : ix[k]? = some ix[k] := List.getElem?_eq_getElem h
  rw [bd_succ T h6 e]
  have := pos_ T h6 (h6 _ (List.getElem_mem h))
  omega
theorem bd_mono {j : Nat} : ∀ {k : Nat}, j ≤ k → k ≤ ix.length → bd tk ix j ≤ bd tk ix k := by
  intro k hjk hk
  induction k with
  | zero => have : j = 0 := by omega
            subst this; exact Nat.le_refl _
  | succ k ih =>
    rcases Nat.lt_or_ge k j with q | q
    · have : j = k + 1 := by omega
      subst this; exact Nat.le_refl _
    · have := ih q (by omega)
      have := bd_step T h6 (k := k) (by omega)
      omega
theorem bd_lt {j k : Nat} (hjk : j < k) (hk : k ≤ ix.length) : bd tk ix j < bd tk ix k := by
  have h1 := bd_step T h6 (k := j) (by omega)
  have h2 := bd_mono T h6 (j := j + 1) (k := k) hjk hk
  omega
theorem bd_le_iff {j k : Nat} (hj : j ≤ ix.length) (hk : k ≤ ix.length) : bd tk ix j ≤ bd tk ix k ↔ j ≤ k := by
  refine ⟨fun h => ?_, fun h => bd_mono T h6 h hk⟩
  rcases Nat.lt_or_ge k j with q | q
  · have := bd_lt T h6 q hj; omega
  · exact q
theorem bd_inj {j k : Nat} (hj : j ≤ ix.length) (hk : k ≤ ix.length) (h : bd tk ix j = bd tk ix k) : j = k := by
  have h1 := (bd_le_iff T h6 hj hk).mp (by omega)
  have h2 := (bd_le_iff T h6 hk hj).mp (by omega)
  omega
theorem at_tok {x : Nat} (hx : x < 6) {hi i : Nat} (hhi : hi ≤ (text tk ix).length) : At (text tk ix) (tk x) hi i ↔ ∃ k, ix[k]? = some x ∧ i = bd tk ix k ∧ bd tk ix (k + 1) ≤ hi := by
  rw [at_iff, text_list]
  constructor
  · rintro ⟨h1, h2⟩
    rw [← len_list] at h1 h2
    obtain ⟨k, h3, h4⟩ := tok_align (T.tok x hx) _ (fun u hu => by
      obtain ⟨j, hj, rfl⟩ := List.mem_map.mp hu
      exact T.tok j (h6 j hj)) i (by rw [← text_list, len_list (text tk ix)]; omega) h2
    rw [List.getElem?_map, Option.map_eq_some_iff] at h3
    obtain ⟨j, h5, h7⟩ := h3
    have hj : j < 6 := h6 j (List.mem_of_getElem? h5)
    have : j = x := T.inj j x hj hx (ext_list h7)
    subst this
    refine ⟨k, h5, by rw [bd_eq]; exact h4, ?_⟩
    rw [bd_succ T h6 h5, bd_eq, ← len_list, ← h4]
    exact h1
  · rintro ⟨k, h1, rfl, h2⟩
    rw [bd_succ T h6 h1] at h2
    refine ⟨h2, ?_⟩
    rw [bd_eq, ← len_list]
    exact (tok_at _ k (by rw [List.getElem?_map, h1]; rfl)).1
end
theorem bd_zero (tk : Nat → Str) (ix : List Nat) : bd tk ix 0 = 0 := by rw [bd_eq]; rfl
theorem bd_all (tk : Nat → Str) (ix : List Nat) : bd tk ix ix.length = (text tk ix).length := by unfold bd; rw [List.take_length]
end Mine
end

-- Q2
section
open PySem PySem.W PyProof.Rows PySem.Calls PySem.Spec
set_option maxRecDepth 100000
set_option maxHeartbeats 8000000
namespace Mine
open PySem (Expr)

open PySem.Builtin.Str (occurrences lastOccurrence partsBetween strSub subAt strKind)
open StrLaws (At occ_eq occ_first occ_head_from)

noncomputable def firstAt (ix : List Nat) (x : Nat) : Nat → Nat → Option Nat
  | _, 0 => none
  | i, n + 1 => if ix[i]? = some x then some i else firstAt ix x (i + 1) n
theorem firstAt_spec (ix : List Nat) (x : Nat) : ∀ (n i : Nat), (firstAt ix x i n = none ∧ ∀ k, i ≤ k → k < i + n → ix[k]? ≠ some x) ∨ ∃ k, firstAt ix x i n = some k ∧ i ≤ k ∧ k < i + n ∧ ix[k]? = some x ∧ ∀ j, i ≤ j → j < k → ix[j]? ≠ some x
  | 0, i => .inl ⟨rfl, fun k h1 h2 => by omega⟩
  | n + 1, i => by
    unfold firstAt
    by_cases h : ix[i]? = some x
    · rw [if_pos h]
      exact .inr ⟨i, rfl, Nat.le_refl _, by omega, h, fun j h1 h2 => by omega⟩
    · rw [if_neg h]
      rcases firstAt_spec ix x n (i + 1) with ⟨h1, h2⟩ | ⟨k, h1, h2, h3, h4, h5⟩
      · refine .inl ⟨h1, fun k h3 h4 => ?_⟩
        by_cases q : k = i
        · subst q; exact h
        · exact h2 k (by omega) (by omega)
      · refine .inr ⟨k, h1, by omega, by omega, h4, fun j h6 h7 => ?_⟩
        by_cases q : j = i
        · subst q; exact h
        · exact h5 j (by omega) h7
noncomputable def tailI (ix : List Nat) (e : Nat) : List (Option Nat) → Nat → Bool
  | [], _ => true
  | none :: r, i => tailI ix e r i
  | some x :: r, i => match firstAt ix x i (e - i) with
    | none => false
    | some k => tailI ix e r (k + 1)
noncomputable def wd (tk : Nat → Str) : Option Nat → Str
  | none => ⟨#[]⟩
  | some x => tk x
theorem at_nil {x : Str} {hi i : Nat} (h : hi ≤ x.length) : At x ⟨#[]⟩ hi i ↔ i ≤ hi := by
  rw [at_iff]
  show i + 0 ≤ hi ∧ (x.cps.toList.drop i).take 0 = [] ↔ _
  simp
section
variable {tk : Nat → Str} {ix : List Nat} (T : Tks tk) (h6 : ∀ i, i ∈ ix → i < 6)
include T h6
theorem bd_len {k : Nat} (hk : k ≤ ix.length) : bd tk ix k ≤ (text tk ix).length := by
  rw [← bd_all]; exact bd_mono T h6 hk (Nat.le_refl _)
theorem tail_spec {e : Nat} (he : e ≤ ix.length) : ∀ (parts : List (Option Nat)), (∀ x, some x ∈ parts → x < 6) → ∀ i, i ≤ e → emTail (text tk ix) (bd tk ix e) (parts.map (wd tk)) (bd tk ix i) = tailI ix e parts i
  | [], _, _, _ => rfl
  | none :: r, hp, i, hi => by
    have hb := bd_len T h6 he
    have hm := bd_mono T h6 hi he
    have e1 : find4 (text tk ix) ⟨#[]⟩ (bd tk ix i) (bd tk ix e) = (bd tk ix i : Int) := by
      rcases find4_spec (text tk ix) ⟨#[]⟩ (bd tk ix i) (bd tk ix e) hb with ⟨_, h2⟩ | ⟨k, h1, h2, h3, h4⟩
      · exact absurd ((at_nil hb).mpr hm) (h2 _ (Nat.le_refl _))
      · rcases Nat.lt_or_ge (bd tk ix i) k with q | q
        · exact absurd ((at_nil hb).mpr hm) (h4 _ (Nat.le_refl _) q)
        · rw [h1, show k = bd tk ix i by omega]
    rw [List.map_cons]
    show (if find4 (text tk ix) ⟨#[]⟩ (bd tk ix i) (bd tk ix e) < 0 then false else emTail (text tk ix) (bd tk ix e) (r.map (wd tk)) (find4 (text tk ix) ⟨#[]⟩ (bd tk ix i) (bd tk ix e) + (⟨#[]⟩ : Str).length)) = tailI ix e r i
    rw [e1, if_neg (by omega)]
    rw [show ((bd tk ix i : Int) + ((⟨#[]⟩ : Str).length : Int)) = bd tk ix i by show (bd tk ix i : Int) + ((0 : Nat) : Int) = _; omega]
    exact tail_spec he r (fun x hx => hp x (List.mem_cons_of_mem _ hx)) i hi
  | some x :: r, hp, i, hi => by
    have hx : x < 6 := hp x (List.mem_cons_self ..)
    have hb := bd_len T h6 he
    have ht : ∀ {j : Nat}, At (text tk ix) (tk x) (bd tk ix e) j ↔ ∃ k, ix[k]? = some x ∧ j = bd tk ix k ∧ k + 1 ≤ e := fun {j} => by
      rw [at_tok T h6 hx hb]
      constructor
      · rintro ⟨k, h1, h2, h3⟩
        have hk := (List.getElem?_eq_some_iff.mp h1).1
        exact ⟨k, h1, h2, (bd_le_iff T h6 (by omega) he).mp h3⟩
      · rintro ⟨k, h1, h2, h3⟩
        exact ⟨k, h1, h2, bd_mono T h6 h3 he⟩
    rw [List.map_cons]
    show (if find4 (text tk ix) (tk x) (bd tk ix i) (bd tk ix e) < 0 then false else emTail (text tk ix) (bd tk ix e) (r.map (wd tk)) (find4 (text tk ix) (tk x) (bd tk ix i) (bd tk ix e) + (tk x).length)) = (match firstAt ix x i (e - i) with
      | none => false
      | some k => tailI ix e r (k + 1))
    rcases firstAt_spec ix x (e - i) i with ⟨f1, f2⟩ | ⟨k, f1, f2, f3, f4, f5⟩
    · rw [f1]
      rcases find4_spec (text tk ix) (tk x) (bd tk ix i) (bd tk ix e) hb with ⟨g1, _⟩ | ⟨j, g1, g2, g3, g4⟩
      · rw [g1, if_pos (by decide)]
      · obtain ⟨k, k1, k2, k3⟩ := ht.mp g3
        have hk := (List.getElem?_eq_some_iff.mp k1).1
        rw [k2] at g2
        have := (bd_le_iff T h6 (by omega) (by omega)).mp g2
        exact absurd k1 (f2 k this (by omega))
    · rw [f1]
      have hk := (List.getElem?_eq_some_iff.mp f4).1
      have hA : At (text tk ix) (tk x) (bd tk ix e) (bd tk ix k) := ht.mpr ⟨k, f4, rfl, by omega⟩
      have hle : bd tk ix i ≤ bd tk ix k := bd_mono T h6 f2 (by omega)
      rcases find4_spec (text tk ix) (tk x) (bd tk ix i) (bd tk ix e) hb with ⟨_, g2⟩ | ⟨j, g1, g2, g3, g4⟩
      · exact absurd hA (g2 _ hle)
      · have hj : j = bd tk ix k := by
          obtain ⟨k', k1, k2, k3⟩ := ht.mp g3
          have hk' := (List.getElem?_eq_some_iff.mp k1).1
          rw [k2] at g2
          have q1 := (bd_le_iff T h6 (by omega) (by omega)).mp g2
          rcases Nat.lt_trichotomy k' k with q | q | q
          · exact absurd k1 (f5 k' q1 q)
          · rw [k2, q]
          · have := bd_lt T h6 q (by omega)
            exact absurd hA (g4 _ hle (by omega))
        rw [g1, hj, if_neg (by omega)]
        show emTail (text tk ix) (bd tk ix e) (r.map (wd tk)) ((bd tk ix k : Int) + (tk x).length) = _
        rw [show ((bd tk ix k : Int) + (tk x).length) = (bd tk ix (k + 1) : Nat) by rw [bd_succ T h6 f4]; omega]
        exact tail_spec he r (fun y hy => hp y (List.mem_cons_of_mem _ hy)) (k + 1) (by omega)
theorem starts_ {x : Nat} (hx : x < 6) : Txt.startswith (text tk ix) (tk x) = decide (ix[0]? = some x) := by
  have e : Txt.startswith (text tk ix) (tk x) = true ↔ At (text tk ix) (tk x) (text tk ix).length 0 := by
    unfold Txt.startswith At
    rw [Bool.and_eq_true, decide_eq_true_eq]
  have e2 : At (text tk ix) (tk x) (text tk ix).length 0 ↔ ix[0]? = some x := by
    rw [at_tok T h6 hx (Nat.le_refl _)]
    constructor
    · rintro ⟨k, h1, h2, _⟩
      have hk := (List.getElem?_eq_some_iff.mp h1).1
      have : 0 = k := bd_inj T h6 (Nat.zero_le _) (by omega) (by rw [bd_zero]; exact h2)
      rw [this]; exact h1
    · intro h1
      have hk := (List.getElem?_eq_some_iff.mp h1).1
      exact ⟨0, h1, (bd_zero ..).symm, bd_len T h6 hk⟩
  rw [Bool.eq_iff_iff, e, e2, decide_eq_true_eq]
theorem ends_ {x : Nat} (hx : x < 6) (h1 : 1 ≤ ix.length) : Txt.endswith (text tk ix) (tk x) = decide (ix[ix.length - 1]? = some x) := by
  have e : Txt.endswith (text tk ix) (tk x) = true ↔ (tk x).length ≤ (text tk ix).length ∧ At (text tk ix) (tk x) (text tk ix).length ((text tk ix).length - (tk x).length) := by
    unfold Txt.endswith At
    rw [Bool.and_eq_true, decide_eq_true_eq]
    constructor
    · rintro ⟨a, b⟩; exact ⟨by omega, by omega, b⟩
    · rintro ⟨a, b, c⟩; exact ⟨by omega, c⟩
  rw [Bool.eq_iff_iff, e, decide_eq_true_eq, at_tok T h6 hx (Nat.le_refl _)]
  constructor
  · rintro ⟨h0, k, h2, h3, _⟩
    have hk := (List.getElem?_eq_some_iff.mp h2).1
    have h4 := bd_succ T h6 h2
    have h5 : bd tk ix (k + 1) = bd tk ix ix.length := by rw [bd_all, h4]; omega
    have := bd_inj T h6 (by omega) (Nat.le_refl _) h5
    rw [show ix.length - 1 = k by omega]; exact h2
  · intro h2
    have h4 := bd_succ T h6 h2
    rw [show ix.length - 1 + 1 = ix.length by omega, bd_all] at h4
    refine ⟨by omega, _, h2, by omega, ?_⟩
    rw [show ix.length - 1 + 1 = ix.length by omega, bd_all]
    exact Nat.le_refl _
end
end Mine
end

-- Q3
section
open PySem PySem.W PyProof.Rows PySem.Calls PySem.Spec
set_option maxRecDepth 100000
set_option maxHeartbeats 8000000
namespace Mine
open PySem (Expr)

open PySem.Builtin.Str (occurrences lastOccurrence partsBetween strSub subAt strKind)
open StrLaws (At occ_eq occ_first occ_head_from ChainG partsFrom)

noncomputable def headI (parts : List (Option Nat)) : Option Nat := parts[0]?.getD none
noncomputable def lastI (parts : List (Option Nat)) : Option Nat := parts[parts.length - 1]?.getD none
noncomputable def cutI (parts : List (Option Nat)) : List (Option Nat) := if headI parts = none then parts else parts.eraseIdx 0
noncomputable def cutLI (parts : List (Option Nat)) : List (Option Nat) := if lastI parts = none then parts else parts.eraseIdx (parts.length - 1)
noncomputable def emI (ix : List Nat) (parts : List (Option Nat)) : Bool :=
  if headI parts ≠ none ∧ ix[0]? ≠ headI parts then false
  else if lastI (cutI parts) ≠ none ∧ ix[ix.length - 1]? ≠ lastI (cutI parts) then false
  else if headI parts ≠ none ∧ lastI (cutI parts) ≠ none ∧ ix.length < 2 then false
  else tailI ix (ix.length - (if lastI (cutI parts) = none then 0 else 1)) (cutLI (cutI parts)) (if headI parts = none then 0 else 1)
theorem wd_get (tk : Nat → Str) (parts : List (Option Nat)) (k : Nat) : (parts.map (wd tk))[k]?.getD ⟨#[]⟩ = wd tk (parts[k]?.getD none) := by
  rw [List.getElem?_map]
  cases parts[k]? <;> rfl
theorem mem_getD {parts : List (Option Nat)} {k x : Nat} (h : parts[k]?.getD none = some x) : some x ∈ parts := by
  cases e : parts[k]? with
  | none => rw [e] at h; cases h
  | some y => rw [e] at h; simp at h; subst h; exact List.mem_of_getElem? e
section
variable {tk : Nat → Str} {ix : List Nat} (T : Tks tk) (h6 : ∀ i, i ∈ ix → i < 6)
include T h6
theorem wd_len {o : Option Nat} (ho : ∀ x, o = some x → x < 6) : (wd tk o).length = 0 ↔ o = none := by
  cases o with
  | none => exact ⟨fun _ => rfl, fun _ => rfl⟩
  | some x =>
    have := pos_ T h6 (ho x rfl)
    exact ⟨fun h => by rw [show (wd tk (some x)).length = (tk x).length from rfl] at h; omega, fun h => by cases h⟩
theorem em_spec (want : Str) {parts : List (Option Nat)} (hp : ∀ x, some x ∈ parts → x < 6) (hix : 1 ≤ ix.length) : emWs want (text tk ix) (parts.map (wd tk)) = emI ix parts := by
  have p1 : ∀ x, some x ∈ cutI parts → x < 6 := fun x hx => by
    unfold cutI at hx
    split at hx
    · exact hp x hx
    · exact hp x (List.mem_of_mem_eraseIdx hx)
  have p2 : ∀ x, some x ∈ cutLI (cutI parts) → x < 6 := fun x hx => by
    unfold cutLI at hx
    split at hx
    · exact p1 x hx
    · exact p1 x (List.mem_of_mem_eraseIdx hx)
  have hh : ∀ x, headI parts = some x → x < 6 := fun x e => hp x (mem_getD e)
  have hl : ∀ x, lastI (cutI parts) = some x → x < 6 := fun x e => p1 x (mem_getD e)
  have e1 : emHead (parts.map (wd tk)) = wd tk (headI parts) := wd_get tk parts 0
  have e2 : emCut (parts.map (wd tk)) = (cutI parts).map (wd tk) := by
    unfold emCut cutI
    rw [e1]
    by_cases q : headI parts = none
    · rw [if_pos q, if_pos ((wd_len T h6 hh).mpr q)]
    · rw [if_neg q, if_neg (fun r => q ((wd_len T h6 hh).mp r)), map_eraseIdx]
  have e3 : ∀ ps : List (Option Nat), emLast (ps.map (wd tk)) = wd tk (lastI ps) := fun ps => by
    unfold emLast lastI
    rw [List.length_map]
    exact wd_get tk ps _
  have e4 : emCutL ((cutI parts).map (wd tk)) = (cutLI (cutI parts)).map (wd tk) := by
    unfold emCutL cutLI
    rw [e3]
    by_cases q : lastI (cutI parts) = none
    · rw [if_pos q, if_pos ((wd_len T h6 hl).mpr q)]
    · rw [if_neg q, if_neg (fun r => q ((wd_len T h6 hl).mp r)), List.length_map, map_eraseIdx]
  unfold emWs emI
  rw [e2, e3, e4, e1]
  generalize headI parts = hd' at hh ⊢
  generalize lastI (cutI parts) = ls at hl ⊢
  generalize cutLI (cutI parts) = rest at p2 ⊢
  have c1 : ((wd tk hd').length ≠ 0 ∧ Txt.startswith (text tk ix) (wd tk hd') = false) ↔ (hd' ≠ none ∧ ix[0]? ≠ hd') := by
    cases hd' with
    | none => exact ⟨fun h => absurd rfl h.1, fun h => absurd rfl h.1⟩
    | some x =>
      rw [show wd tk (some x) = tk x from rfl, starts_ T h6 (hh x rfl), decide_eq_false_iff_not]
      have := pos_ T h6 (hh x rfl)
      exact ⟨fun h => ⟨by simp, h.2⟩, fun h => ⟨by omega, h.2⟩⟩
  have c2 : ((wd tk ls).length ≠ 0 ∧ Txt.endswith (text tk ix) (wd tk ls) = false) ↔ (ls ≠ none ∧ ix[ix.length - 1]? ≠ ls) := by
    cases ls with
    | none => exact ⟨fun h => absurd rfl h.1, fun h => absurd rfl h.1⟩
    | some x =>
      rw [show wd tk (some x) = tk x from rfl, ends_ T h6 (hl x rfl) hix, decide_eq_false_iff_not]
      have := pos_ T h6 (hl x rfl)
      exact ⟨fun h => ⟨by simp, h.2⟩, fun h => ⟨by omega, h.2⟩⟩
  by_cases q1 : hd' ≠ none ∧ ix[0]? ≠ hd'
  · rw [if_pos (c1.mpr q1), if_pos q1]
  rw [if_neg (fun h => q1 (c1.mp h)), if_neg q1]
  by_cases q2 : ls ≠ none ∧ ix[ix.length - 1]? ≠ ls
  · rw [if_pos (c2.mpr q2), if_pos q2]
  rw [if_neg (fun h => q2 (c2.mp h)), if_neg q2]
  have a1 : (wd tk hd').length = bd tk ix (if hd' = none then 0 else 1) := by
    cases hd' with
    | none => rw [if_pos rfl, bd_zero]; rfl
    | some x =>
      have h0 : ix[0]? = some x := by
        by_cases q : ix[0]? = some x
        · exact q
        · exact absurd ⟨by simp, q⟩ q1
      rw [if_neg (by simp), show (1 : Nat) = 0 + 1 from rfl, bd_succ T h6 h0, bd_zero, Nat.zero_add]; rfl
  have a2 : ((text tk ix).length : Int) - (wd tk ls).length = bd tk ix (ix.length - (if ls = none then 0 else 1)) := by
    cases ls with
    | none => rw [if_pos rfl, Nat.sub_zero, bd_all]; show _ - ((0 : Nat) : Int) = _; omega
    | some x =>
      have h0 : ix[ix.length - 1]? = some x := by
        by_cases q : ix[ix.length - 1]? = some x
        · exact q
        · exact absurd ⟨by simp, q⟩ q2
      have := bd_succ T h6 h0
      rw [show ix.length - 1 + 1 = ix.length by omega, bd_all] at this
      rw [if_neg (by simp), this, show wd tk (some x) = tk x from rfl]; omega
  rw [a1, a2]
  have c3 : ((bd tk ix (if hd' = none then 0 else 1) : Int) > bd tk ix (ix.length - (if ls = none then 0 else 1))) ↔ (hd' ≠ none ∧ ls ≠ none ∧ ix.length < 2) := by
    have k1 : (if hd' = none then 0 else 1) ≤ ix.length := by split <;> omega
    have k2 : ix.length - (if ls = none then 0 else 1) ≤ ix.length := Nat.sub_le _ _
    have := bd_le_iff T h6 k1 k2
    by_cases r1 : hd' = none <;> by_cases r2 : ls = none <;> simp only [r1, r2, if_true, if_false, ne_eq, not_true_eq_false, not_false_eq_true, false_and, true_and, and_false, iff_false, reduceCtorEq] at this k1 k2 ⊢ <;> omega
  by_cases q3 : hd' ≠ none ∧ ls ≠ none ∧ ix.length < 2
  · rw [if_pos (c3.mpr q3), if_pos q3]
  rw [if_neg (fun h => q3 (c3.mp h)), if_neg q3]
  refine tail_spec T h6 (Nat.sub_le _ _) rest p2 _ ?_
  by_cases r1 : hd' = none <;> by_cases r2 : ls = none <;> simp only [r1, r2, if_true, if_false, ne_eq, not_true_eq_false, not_false_eq_true, false_and, true_and, and_false, Nat.not_lt] at q3 ⊢ <;> omega
end

/- dots -/
noncomputable def joinL : List (List Nat) → List Nat
  | [] => []
  | [p] => p
  | p :: q :: r => p ++ ([46, 46, 46] ++ joinL (q :: r))
theorem dots_list : dots.cps.toList = [46, 46, 46] := by decide +kernel
theorem at_dots {x : Str} {i : Nat} (h : At x dots x.length i) : x.cps.toList[i]? = some 46 := by
  rw [at_iff, dots_list] at h
  exact head_of h.2
theorem parts_spec (x : Str) : ∀ (ps : List (List Nat)) (p : List Nat), (∀ q, q ∈ p :: ps → 46 ∉ q) → ∀ (a : Nat) (cuts : List Nat) (f : Nat), a ≤ x.length → x.cps.toList.drop a = joinL (p :: ps) → ChainG x dots x.length a cuts f → (∀ k, f ≤ k → ¬ At x dots x.length k) →
    partsFrom x 3 a cuts = (p :: ps).map fun q => ⟨q.toArray⟩ := by
  have d3 : dots.length = 3 := by decide
  have hsub : ∀ a b : Nat, ∀ l : List Nat, (x.cps.toList.drop a).take (b - a) = l → strSub x a b = ⟨l.toArray⟩ := fun a b l h => ext_list ((StrLaws.strSub_toList x a b).trans h)
  intro ps
  induction ps with
  | nil =>
    intro p hp a cuts f ha hd hc hn
    have no : ∀ k, a ≤ k → ¬ At x dots x.length k := fun k hk hA => by
      have h1 := at_dots hA
      have h2 : (x.cps.toList.drop a)[k - a]? = some 46 := by rw [List.getElem?_drop, show a + (k - a) = k by omega]; exact h1
      rw [hd] at h2
      exact hp p (List.mem_cons_self ..) (List.mem_of_getElem? h2)
    cases cuts with
    | nil =>
      show [strSub x a x.length] = [_]
      rw [hsub a x.length p (by rw [hd]; show List.take _ p = p; rw [List.take_of_length_le]; have := congrArg List.length hd; rw [List.length_drop, len_list] at this; show p.length ≤ _; have e : (joinL [p]).length = p.length := rfl; omega)]
    | cons c r => exact absurd hc.2.1 (no c hc.1)
  | cons q ps ih =>
    intro p hp a cuts f ha hd hc hn
    have hd' : x.cps.toList.drop a = p ++ ([46, 46, 46] ++ joinL (q :: ps)) := hd
    have hlen := congrArg List.length hd'
    rw [List.length_drop, len_list, List.length_append, List.length_append] at hlen
    have l3 : ([46, 46, 46] : List Nat).length = 3 := rfl
    have yes : At x dots x.length (a + p.length) := by
      rw [at_iff, d3, dots_list]
      refine ⟨by omega, ?_⟩
      rw [← List.drop_drop, hd', List.drop_append, List.drop_eq_nil_of_le (Nat.le_refl _), List.nil_append, Nat.sub_self, List.drop_zero]
      rfl
    have no : ∀ k, a ≤ k → k < a + p.length → ¬ At x dots x.length k := fun k hk hk2 hA => by
      have h1 := at_dots hA
      have h2 : (x.cps.toList.drop a)[k - a]? = some 46 := by rw [List.getElem?_drop, show a + (k - a) = k by omega]; exact h1
      rw [hd', List.getElem?_append_left (by omega)] at h2
      exact hp p (List.mem_cons_self ..) (List.mem_of_getElem? h2)
    cases cuts with
    | nil =>
      have : f = a := hc
      exact absurd yes (hn _ (by omega))
    | cons c r =>
      obtain ⟨h1, h2, h3, h4⟩ := hc
      have hcp : c = a + p.length := by
        rcases Nat.lt_trichotomy c (a + p.length) with w | w | w
        · exact absurd h2 (no c h1 w)
        · exact w
        · exact absurd yes (h3 _ (by omega) w)
      subst hcp
      rw [d3] at h4
      show strSub x a (a + p.length) :: partsFrom x 3 (a + p.length + 3) r = _
      rw [ih q (fun z hz => hp z (List.mem_cons_of_mem _ hz)) (a + p.length + 3) r f (by omega) ?_ h4 hn]
      · rw [hsub a (a + p.length) p (by rw [hd', Nat.add_sub_cancel_left, List.take_left'] ; rfl)]
        rfl
      · rw [show a + p.length + 3 = a + (p.length + 3) by omega, ← List.drop_drop, hd', List.drop_append, List.drop_eq_nil_of_le (by omega), List.nil_append, Nat.add_sub_cancel_left]
        rfl
theorem split_spec {x : Str} {p q : List Nat} {ps : List (List Nat)} (hp : ∀ z, z ∈ p :: q :: ps → 46 ∉ z) (hx : x.cps.toList = joinL (p :: q :: ps)) : Txt.contains x dots = true ∧ Txt.split x dots = (p :: q :: ps).map fun z => ⟨z.toArray⟩ := by
  have d3 : dots.length = 3 := by decide
  have hx' : x.cps.toList = p ++ ([46, 46, 46] ++ joinL (q :: ps)) := hx
  have hlen := congrArg List.length hx'
  rw [len_list, List.length_append, List.length_append] at hlen
  have l3 : ([46, 46, 46] : List Nat).length = 3 := rfl
  have yes : At x dots x.length p.length := by
    rw [at_iff, d3, dots_list]
    refine ⟨by omega, ?_⟩
    rw [hx', List.drop_append, List.drop_eq_nil_of_le (Nat.le_refl _), List.nil_append, Nat.sub_self, List.drop_zero]
    rfl
  refine ⟨(StrLaws.found_iff x dots).mpr ⟨_, yes.1, yes.2⟩, ?_⟩
  have hg : ¬ (decide (x.length < dots.length) || decide (strKind x < strKind dots)) = true := by
    rw [Bool.or_eq_true, decide_eq_true_eq, decide_eq_true_eq, show strKind dots = 1 by decide +kernel, d3]
    have := kind_pos x
    omega
  unfold Txt.split
  rw [if_neg hg]
  obtain ⟨f, hc, hn⟩ := StrLaws.occ_tight x dots (by omega)
  rcases StrLaws.occ_head x dots (x.length + 1) (by omega) with ⟨_, h0⟩ | ⟨j, r, e, _, _⟩
  · exact absurd yes (h0 _)
  · rw [if_neg (by rw [e]; simp), StrLaws.partsBetween_eq, d3]
    exact parts_spec x (q :: ps) p hp 0 _ f (Nat.zero_le _) (by rw [List.drop_zero]; exact hx) hc hn
theorem no_dots {x : Str} (h : 46 ∉ x.cps.toList) : Txt.contains x dots = false := by
  cases e : Txt.contains x dots with
  | false => rfl
  | true =>
    obtain ⟨i, h1, h2⟩ := (StrLaws.found_iff x dots).mp e
    exact absurd (List.mem_of_getElem? (at_dots ⟨h1, h2⟩)) h
end Mine
end

-- Q4
section
open PySem PySem.W PyProof.Rows PySem.Calls PySem.Spec
set_option maxRecDepth 100000
set_option maxHeartbeats 8000000
namespace Mine
open PySem (Expr)

noncomputable def tokB : List Nat → Bool
  | [c] => c != 38 && c != 59 && !inn.contains c
  | 38 :: r => r.getLast? == some 59 && r.dropLast.all inn.contains
  | _ => false
theorem tokB_tok {t : List Nat} (h : tokB t = true) : Tok t := by
  unfold tokB at h
  split at h
  · rename_i c
    simp only [Bool.and_eq_true, bne_iff_ne, Bool.not_eq_true', List.contains_eq_mem, decide_eq_false_iff_not] at h
    exact .inl ⟨c, rfl, h.1.1, h.1.2, h.2⟩
  · rename_i r _
    simp only [Bool.and_eq_true, beq_iff_eq, List.all_eq_true, List.contains_eq_mem, decide_eq_true_eq] at h
    obtain ⟨h1, h2⟩ := h
    have hne : r ≠ [] := fun q => by rw [q] at h1; cases h1
    refine .inr ⟨r.dropLast, ?_, h2⟩
    rw [List.getLast?_eq_some_getLast hne] at h1
    rw [show [59] = [r.getLast hne] by rw [Option.some.inj h1], List.dropLast_concat_getLast hne]
  · cases h
structure NameOk (x : Str) : Prop where
  tok : Tok x.cps.toList
  dot : 46 ∉ x.cps.toList
  col : 58 ∉ x.cps.toList
  nl : 10 ∉ x.cps.toList
  c : x ≠ Str.ofString "C"
theorem spell_hi {c w : Nat} (hw : w < 5) (hc : 256 ≤ c) : (spell c w).cps.toList = [c] := by
  have h3 : ∀ w, w < 5 → ∀ d, d ∈ (tabS w).cps.toList → d < 256 := by decide +kernel
  have : c ∉ (tabS w).cps.toList := fun m => by have := h3 w hw c m; omega
  rw [show spell c w = ⟨#[c]⟩ from if_neg this]
theorem spell_ok {w c : Nat} (hw : w < 5) (hc : Sign c) (h10 : c = 10 → w = 1 ∨ w = 4) : NameOk (spell c w) := by
  have hC : (Str.ofString "C").cps.toList = [67] := by decide +kernel
  rcases hc with hc | hc
  · have h1 : ∀ w, w < 5 → ∀ c, c ∈ signs7 → tokB (spell c w).cps.toList = true ∧ 46 ∉ (spell c w).cps.toList ∧ 58 ∉ (spell c w).cps.toList ∧ ((c = 10 → w = 1 ∨ w = 4) → 10 ∉ (spell c w).cps.toList) ∧ (spell c w).cps.toList ≠ [67] := by decide +kernel
    obtain ⟨a1, a2, a3, a4, a5⟩ := h1 w hw c hc
    exact ⟨tokB_tok a1, a2, a3, a4 h10, fun q => a5 (by rw [q, hC])⟩
  · have e := spell_hi hw hc
    have hin : ∀ d, d ∈ inn → d < 256 := by decide
    refine ⟨by rw [e]; exact .inl ⟨c, rfl, by omega, by omega, fun m => by have := hin c m; omega⟩, by rw [e]; simp; omega, by rw [e]; simp; omega, by rw [e]; simp; omega, fun q => ?_⟩
    rw [q, hC] at e
    simp at e
    omega
theorem spell_inj {w c d : Nat} (hw : w < 5) (hc : Sign c) (hd : Sign d) (h : spell c w = spell d w) : c = d := by
  have lo : ∀ w, w < 5 → ∀ c, c ∈ signs7 → ∀ e, e ∈ (spell c w).cps.toList → e < 256 := by decide +kernel
  rcases hc with hc | hc <;> rcases hd with hd | hd
  · have h1 : ∀ w, w < 5 → ∀ c, c ∈ signs7 → ∀ d, d ∈ signs7 → (spell c w).cps.toList = (spell d w).cps.toList → c = d := by decide +kernel
    exact h1 w hw c hc d hd (by rw [h])
  · have := lo w hw c hc d (by rw [h, spell_hi hw hd]; simp)
    omega
  · have := lo w hw d hd c (by rw [← h, spell_hi hw hc]; simp)
    omega
  · have := spell_hi hw hc
    rw [h, spell_hi hw hd] at this
    simpa using this.symm

section
variable {w : Nat} {R : List Nat} (ok : RowOk w R)
noncomputable def tkOf (w : Nat) (R : List Nat) (i : Nat) : Str := (namesOf w R)[i]?.getD ⟨#[]⟩
include ok
theorem tk_get {i : Nat} (hi : i < 6) : ∃ c, R[i]? = some c ∧ tkOf w R i = spell c w ∧ (namesOf w R)[i]? = some (tkOf w R i) := by
  have h : i < R.length := by rw [ok.len]; exact hi
  have e : (namesOf w R)[i]? = some (spell R[i] w) := by unfold namesOf; rw [List.getElem?_map, List.getElem?_eq_getElem h]; rfl
  refine ⟨R[i], List.getElem?_eq_getElem h, ?_, ?_⟩
  · unfold tkOf; rw [e]; rfl
  · unfold tkOf; rw [e]; rfl
theorem tk_ok {i : Nat} (hi : i < 6) : NameOk (tkOf w R i) := by
  obtain ⟨c, h1, h2, _⟩ := tk_get ok hi
  have hm := List.mem_of_getElem? h1
  rw [h2]
  exact spell_ok ok.w5 (ok.sign c hm) fun q => ok.nl (q ▸ hm)
theorem tks_of : Tks (tkOf w R) := by
  refine ⟨fun i hi => (tk_ok ok hi).tok, fun i j hi hj e => ?_⟩
  obtain ⟨c, h1, h2, _⟩ := tk_get ok hi
  obtain ⟨d, h3, h4, _⟩ := tk_get ok hj
  rw [h2, h4] at e
  have := spell_inj ok.w5 (ok.sign c (List.mem_of_getElem? h1)) (ok.sign d (List.mem_of_getElem? h3)) e
  subst this
  have pw := List.pairwise_iff_getElem.mp ok.nd
  obtain ⟨hi', e1⟩ := List.getElem?_eq_some_iff.mp h1
  obtain ⟨hj', e2⟩ := List.getElem?_eq_some_iff.mp h3
  rcases Nat.lt_trichotomy i j with q | q | q
  · exact absurd (e1.trans e2.symm) (pw i j hi' hj' q)
  · exact q
  · exact absurd (e2.trans e1.symm) (pw j i hj' hi' q)
theorem names_eq : namesOf w R = (List.range 6).map (tkOf w R) := by
  refine List.ext_getElem? fun i => ?_
  by_cases hi : i < 6
  · obtain ⟨_, _, _, h⟩ := tk_get ok hi
    rw [h, List.getElem?_map, List.getElem?_range hi]; rfl
  · rw [List.getElem?_eq_none (by rw [namesOf, List.length_map, ok.len]; omega), List.getElem?_eq_none (by simp; omega)]
theorem page_eq : cat (namesOf w R) = text (tkOf w R) [0, 1, 2, 3, 4, 5] := by rw [names_eq ok]; rfl
end

/- the matches -/
theorem parts_map (tk : Nat → Str) (parts : List (Option Nat)) : (parts.map fun o => (wd tk o).cps.toList).map (fun z => (⟨z.toArray⟩ : Str)) = parts.map (wd tk) := by
  rw [List.map_map]
  refine List.map_congr_left fun o _ => ?_
  show (⟨(wd tk o).cps.toList.toArray⟩ : Str) = wd tk o
  exact ext_list rfl
theorem em_text {tk : Nat → Str} {ix : List Nat} (T : Tks tk) (hd : ∀ i, i < 6 → 46 ∉ (tk i).cps.toList) (h6 : ∀ i, i ∈ ix → i < 6) (hix : 1 ≤ ix.length) {want : Str} {o1 o2 : Option Nat} {os : List (Option Nat)} (hp : ∀ x, some x ∈ o1 :: o2 :: os → x < 6)
    (hw : want.cps.toList = joinL ((o1 :: o2 :: os).map fun o => (wd tk o).cps.toList)) : em want (text tk ix) = emI ix (o1 :: o2 :: os) := by
  have hz : ∀ z, z ∈ (o1 :: o2 :: os).map (fun o => (wd tk o).cps.toList) → 46 ∉ z := fun z hz => by
    obtain ⟨o, ho, rfl⟩ := List.mem_map.mp hz
    cases o with
    | none => intro m; cases m
    | some x => exact hd x (hp x ho)
  obtain ⟨h1, h2⟩ := split_spec (x := want) (p := (wd tk o1).cps.toList) (q := (wd tk o2).cps.toList) (ps := os.map fun o => (wd tk o).cps.toList) hz hw
  unfold em
  rw [if_neg (by rw [h1]; decide), h2]
  have := parts_map tk (o1 :: o2 :: os)
  rw [show ((wd tk o1).cps.toList :: (wd tk o2).cps.toList :: os.map fun o => (wd tk o).cps.toList) = (o1 :: o2 :: os).map fun o => (wd tk o).cps.toList from rfl, this]
  exact em_spec T h6 want hp hix
theorem em_plain {want got : Str} (h : 46 ∉ want.cps.toList) : em want got = (want == got) := by
  unfold em
  rw [if_pos (no_dots h)]
theorem three (i j k : Nat) (hi : i < 6) (hj : j < 6) (hk : k < 6) : emI [0, 1, 2, 3, 4, 5] [none, some i, some j, some k, none] = (decide (i < j) && decide (j < k)) := by
  have : ∀ i, i < 6 → ∀ j, j < 6 → ∀ k, k < 6 → emI [0, 1, 2, 3, 4, 5] [none, some i, some j, some k, none] = (decide (i < j) && decide (j < k)) := by decide +kernel
  exact this i hi j hj k hk
end Mine
end

-- Q5
section
open PySem PySem.W PyProof.Rows PySem.Calls PySem.Spec
set_option maxRecDepth 100000
set_option maxHeartbeats 8000000
namespace Mine
open PySem (Expr)

theorem app_list (a b : Str) : (a ++ b).cps.toList = a.cps.toList ++ b.cps.toList := by rw [PySem.Str.cps_append, Array.toList_append]
theorem text_app (tk : Nat → Str) (a b : List Nat) : text tk a ++ text tk b = text tk (a ++ b) := by
  unfold text
  rw [List.map_append, cat_append]
theorem text_one (tk : Nat → Str) (i : Nat) : text tk [i] = tk i := by
  apply ext_list
  rw [text_list]
  simp
theorem join3 (x y z : Str) : (Txt.join dots [x, y, z]).cps.toList = x.cps.toList ++ ([46, 46, 46] ++ (y.cps.toList ++ ([46, 46, 46] ++ z.cps.toList))) := by
  unfold Txt.join
  rw [StrLaws.glued_eq_join]
  show (x ++ dots ++ (y ++ dots ++ z)).cps.toList = _
  simp only [app_list, dots_list, List.append_assoc]
section
variable {tk : Nat → Str} (T : Tks tk) (hd : ∀ i, i < 6 → 46 ∉ (tk i).cps.toList)
include T hd
theorem em_three {i j k : Nat} (hi : i < 6) (hj : j < 6) (hk : k < 6) : em (Str.ofString "..." ++ Txt.join (Str.ofString "...") [tk i, tk j, tk k] ++ Str.ofString "...") (text tk [0, 1, 2, 3, 4, 5]) = (decide (i < j) && decide (j < k)) := by
  rw [← three i j k hi hj hk]
  refine em_text T hd (by decide) (by decide) (fun x hx => ?_) ?_
  · simp only [List.mem_cons, List.not_mem_nil, or_false, reduceCtorEq, false_or, or_false, Option.some.injEq] at hx
    rcases hx with rfl | rfl | rfl <;> assumption
  · show (dots ++ Txt.join dots [tk i, tk j, tk k] ++ dots).cps.toList = _
    rw [app_list, app_list, join3, dots_list]
    simp only [List.map_cons, List.map_nil, joinL, wd, List.append_assoc, List.nil_append, List.append_nil]
theorem text_free {ix : List Nat} (h6 : ∀ i, i ∈ ix → i < 6) : 46 ∉ (text tk ix).cps.toList := fun m => by
  rw [text_list, List.mem_flatten] at m
  obtain ⟨l, hl, hm⟩ := m
  obtain ⟨i, hi, rfl⟩ := List.mem_map.mp hl
  exact hd i (h6 i hi) hm
theorem byNames_ok : byNames (tk 0) (tk 3) (tk 5) (tk 1) (text tk [0, 1, 2, 3, 4, 5]) = true := by
  have h6 : ∀ i, i ∈ [0, 1, 2, 3, 4, 5] → i < 6 := by decide
  have hpp : text tk [0, 1, 2, 3, 4, 5] ++ text tk [0, 1, 2, 3, 4, 5] = text tk [0, 1, 2, 3, 4, 5, 0, 1, 2, 3, 4, 5] := text_app ..
  have hh1 : tk 0 ++ tk 1 = text tk [0, 1] := by rw [← text_one tk 0, ← text_one tk 1, text_app]; rfl
  have e : ∀ {ix : List Nat} (want : Str) (o1 o2 : Option Nat) (os : List (Option Nat)), (∀ i, i ∈ ix → i < 6) → 1 ≤ ix.length → (∀ x, some x ∈ o1 :: o2 :: os → x < 6) → want.cps.toList = joinL ((o1 :: o2 :: os).map fun o => (wd tk o).cps.toList) → em want (text tk ix) = emI ix (o1 :: o2 :: os) :=
    fun want o1 o2 os h1 h2 h3 h4 => em_text T hd h1 h2 h3 h4
  have lst : ∀ {want : Str} {l : List Nat}, want.cps.toList = l → ∀ m, m = l → want.cps.toList = m := fun h m q => h.trans q.symm
  have t1 : em (text tk [0, 1, 2, 3, 4, 5]) (text tk [0, 1, 2, 3, 4, 5]) = true := by rw [em_plain (text_free T hd h6)]; exact beq_self_eq_true _
  have t2 : em (tk 0 ++ dots ++ tk 3 ++ dots ++ tk 5) (text tk [0, 1, 2, 3, 4, 5]) = true := by
    rw [e _ (some 0) (some 3) [some 5] h6 (by decide) (by simp) (by simp only [app_list, dots_list, List.map_cons, List.map_nil, joinL, wd, List.append_assoc, List.nil_append, List.append_nil])]; decide +kernel
  have t3 : em (dots ++ tk 5 ++ dots ++ tk 0 ++ dots) (text tk [0, 1, 2, 3, 4, 5] ++ text tk [0, 1, 2, 3, 4, 5]) = true := by
    rw [hpp, e _ none (some 5) [some 0, none] (by decide) (by decide) (by simp) (by simp only [app_list, dots_list, List.map_cons, List.map_nil, joinL, wd, List.append_assoc, List.nil_append, List.append_nil])]; decide +kernel
  have t4 : em (tk 0 ++ dots ++ tk 1) (tk 0 ++ tk 1) = true := by
    rw [hh1, e _ (some 0) (some 1) [] (by decide) (by decide) (by simp) (by simp only [app_list, dots_list, List.map_cons, List.map_nil, joinL, wd, List.append_assoc, List.nil_append, List.append_nil])]; decide +kernel
  have r1 : em (tk 3) (text tk [0, 1, 2, 3, 4, 5]) = false := by
    rw [em_plain (hd 3 (by omega))]
    have a1 : bd tk [0, 1, 2, 3, 4, 5] 4 = bd tk [0, 1, 2, 3, 4, 5] 3 + (tk 3).length := bd_succ T h6 (k := 3) (x := 3) rfl
    have a2 := bd_lt T h6 (j := 0) (k := 3) (by omega) (by simp)
    have a3 := bd_mono T h6 (j := 4) (k := 6) (by omega) (by simp)
    have a4 : bd tk [0, 1, 2, 3, 4, 5] 6 = (text tk [0, 1, 2, 3, 4, 5]).length := bd_all ..
    rw [bd_zero] at a2
    exact beq_eq_false_iff_ne.mpr fun q => by have := congrArg PySem.Str.length q; omega
  have r2 : em (tk 3 ++ dots ++ tk 5) (text tk [0, 1, 2, 3, 4, 5]) = false := by
    rw [e _ (some 3) (some 5) [] h6 (by decide) (by simp) (by simp only [app_list, dots_list, List.map_cons, List.map_nil, joinL, wd, List.append_assoc, List.nil_append, List.append_nil])]; decide +kernel
  have r3 : em (tk 0 ++ dots ++ tk 3) (text tk [0, 1, 2, 3, 4, 5]) = false := by
    rw [e _ (some 0) (some 3) [] h6 (by decide) (by simp) (by simp only [app_list, dots_list, List.map_cons, List.map_nil, joinL, wd, List.append_assoc, List.nil_append, List.append_nil])]; decide +kernel
  have r4 : em (tk 0 ++ dots ++ tk 0 ++ dots) (text tk [0, 1, 2, 3, 4, 5]) = false := by
    rw [e _ (some 0) (some 0) [none] h6 (by decide) (by simp) (by simp only [app_list, dots_list, List.map_cons, List.map_nil, joinL, wd, List.append_assoc, List.nil_append, List.append_nil])]; decide +kernel
  have r5 : em (dots ++ tk 5 ++ dots ++ tk 5) (text tk [0, 1, 2, 3, 4, 5]) = false := by
    rw [e _ none (some 5) [some 5] h6 (by decide) (by simp) (by simp only [app_list, dots_list, List.map_cons, List.map_nil, joinL, wd, List.append_assoc, List.nil_append, List.append_nil])]; decide +kernel
  have r6 : em (dots ++ tk 3 ++ dots ++ tk 3 ++ dots) (text tk [0, 1, 2, 3, 4, 5]) = false := by
    rw [e _ none (some 3) [some 3, none] h6 (by decide) (by simp) (by simp only [app_list, dots_list, List.map_cons, List.map_nil, joinL, wd, List.append_assoc, List.nil_append, List.append_nil])]; decide +kernel
  have r7 : em (tk 5 ++ dots ++ tk 5) (tk 5) = false := by
    have := e (ix := [5]) (tk 5 ++ dots ++ tk 5) (some 5) (some 5) [] (by decide) (by decide) (by simp) (by simp only [app_list, dots_list, List.map_cons, List.map_nil, joinL, wd, List.append_assoc, List.nil_append, List.append_nil])
    rw [text_one] at this
    rw [this]; decide +kernel
  have r8 : em (dots ++ tk 5 ++ dots ++ tk 3 ++ dots ++ tk 0 ++ dots) (text tk [0, 1, 2, 3, 4, 5] ++ text tk [0, 1, 2, 3, 4, 5]) = false := by
    rw [hpp, e _ none (some 5) [some 3, some 0, none] (by decide) (by decide) (by simp) (by simp only [app_list, dots_list, List.map_cons, List.map_nil, joinL, wd, List.append_assoc, List.nil_append, List.append_nil])]; decide +kernel
  unfold byNames taken4 refused8
  simp only [List.all_cons, List.all_nil, t1, t2, t3, t4, r1, r2, r3, r4, r5, r6, r7, r8, Bool.not_false, Bool.and_self]
end
end Mine
end

-- Q6
section
open PySem PySem.W PyProof.Rows PySem.Calls PySem.Spec
set_option maxRecDepth 100000
set_option maxHeartbeats 8000000
namespace Mine
open PySem (Expr)

open StrLaws (At)
theorem nl_str : Str.ofString "\n" = ⟨#[10]⟩ := by decide +kernel
theorem col_str : Str.ofString ":" = ⟨#[58]⟩ := by decide +kernel
theorem dot_str : Str.ofString "." = ⟨#[46]⟩ := by decide +kernel
theorem at_one {x : Str} {c hi i : Nat} : At x ⟨#[c]⟩ hi i ↔ i + 1 ≤ hi ∧ x.cps.toList[i]? = some c := by
  rw [at_iff]
  show i + 1 ≤ hi ∧ (x.cps.toList.drop i).take 1 = [c] ↔ _
  rw [← StrLaws.take1_drop, beq_iff_eq]
theorem chr_find (x : Str) (c a b : Nat) (hb : b ≤ x.length) : (find4 x ⟨#[c]⟩ a b = -1 ∧ ∀ i, a ≤ i → i < b → x.cps.toList[i]? ≠ some c) ∨ ∃ i : Nat, find4 x ⟨#[c]⟩ a b = i ∧ a ≤ i ∧ i < b ∧ x.cps.toList[i]? = some c ∧ ∀ k, a ≤ k → k < i → x.cps.toList[k]? ≠ some c := by
  rcases find4_spec x ⟨#[c]⟩ a b hb with ⟨h1, h2⟩ | ⟨i, h1, h2, h3, h4⟩
  · exact .inl ⟨h1, fun i h3 h4 h5 => h2 i h3 (at_one.mpr ⟨h4, h5⟩)⟩
  · have h5 := at_one.mp h3
    exact .inr ⟨i, h1, h2, h5.1, h5.2, fun k h6 h7 h8 => h4 k h6 h7 (at_one.mpr ⟨by omega, h8⟩)⟩
theorem find_is (x y : Str) : Txt.find x y = find4 x y ((0 : Nat) : Int) (x.length : Nat) := by
  unfold Txt.find find4
  rw [from_nat, from_nat, Nat.min_self]
  cases PySem.Builtin.Str.occurrences x y 0 x.length 1 <;> rfl
section
variable {p g : Str} (h10 : 10 ∉ p.cps.toList) (h58 : 58 ∉ p.cps.toList) (hg : g.cps.toList = [] ∨ (∃ r, g.cps.toList = 58 :: r) ∨ ∃ r, g.cps.toList = 10 :: r)
include h10 h58 hg
theorem strip_end : stripEnd (p ++ g) = p.length := by
  have hl : (p ++ g).cps.toList = p.cps.toList ++ g.cps.toList := app_list p g
  have hlen : (p ++ g).length = p.length + g.length := len_append p g
  have low : ∀ {i : Nat}, i < p.length → (p ++ g).cps.toList[i]? = p.cps.toList[i]? := fun {i} hi => by rw [hl, List.getElem?_append_left (by rw [len_list]; exact hi)]
  have l10 : ∀ {i : Nat}, i < p.length → (p ++ g).cps.toList[i]? ≠ some 10 := fun {i} hi e => by rw [low hi] at e; exact h10 (List.mem_of_getElem? e)
  have l58 : ∀ {i : Nat}, i < p.length → (p ++ g).cps.toList[i]? ≠ some 58 := fun {i} hi e => by rw [low hi] at e; exact h58 (List.mem_of_getElem? e)
  have at_ : (p ++ g).cps.toList[p.length]? = g.cps.toList[0]? := by rw [hl, ← len_list p, List.getElem?_append_right (Nat.le_refl _), Nat.sub_self]
  have noCol : ∀ e : Nat, e ≤ p.length → find4 (p ++ g) ⟨#[58]⟩ ((0 : Nat) : Int) (e : Nat) = -1 := fun e he => by
    rcases chr_find (p ++ g) 58 0 e (by omega) with ⟨h, _⟩ | ⟨i, _, _, h3, h4, _⟩
    · exact h
    · exact absurd h4 (l58 (by omega))
  have fin : stripEnd0 (p ++ g) = (p.length : Nat) → stripEnd (p ++ g) = p.length := fun e => by
    unfold stripEnd
    rw [e, col_str, show (0 : Int) = ((0 : Nat) : Int) from rfl, noCol _ (Nat.le_refl _), if_neg (by decide)]
  rcases hg with hg | ⟨r, hg⟩ | ⟨r, hg⟩
  · have g0 : g.length = 0 := by rw [← len_list, hg]; rfl
    refine fin ?_
    unfold stripEnd0
    rw [nl_str, find_is]
    rcases chr_find (p ++ g) 10 0 (p ++ g).length (Nat.le_refl _) with ⟨h, _⟩ | ⟨i, _, _, h3, h4, _⟩
    · rw [h, if_neg (by decide), hlen, g0]; rfl
    · exact absurd h4 (l10 (by omega))
  · have g1 : 1 ≤ g.length := by rw [← len_list, hg]; simp
    have e0 : ∃ e : Nat, stripEnd0 (p ++ g) = (e : Int) ∧ p.length + 1 ≤ e ∧ e ≤ (p ++ g).length := by
      unfold stripEnd0
      rw [nl_str, find_is]
      rcases chr_find (p ++ g) 10 0 (p ++ g).length (Nat.le_refl _) with ⟨h, _⟩ | ⟨i, h1, _, h3, h4, _⟩
      · rw [h, if_neg (by decide)]
        exact ⟨_, rfl, by omega, Nat.le_refl _⟩
      · rw [h1, if_pos (by omega)]
        refine ⟨i, rfl, ?_, by omega⟩
        rcases Nat.lt_trichotomy i p.length with q | q | q
        · exact absurd h4 (l10 q)
        · rw [q, at_, hg] at h4; cases h4
        · exact q
    obtain ⟨e, e1, e2, e3⟩ := e0
    unfold stripEnd
    rw [e1, col_str, show (0 : Int) = ((0 : Nat) : Int) from rfl]
    have hc : (p ++ g).cps.toList[p.length]? = some 58 := by rw [at_, hg]; rfl
    rcases chr_find (p ++ g) 58 0 e e3 with ⟨_, h2⟩ | ⟨i, h1, _, h3, h4, h5⟩
    · exact absurd hc (h2 _ (Nat.zero_le _) (by omega))
    · have : i = p.length := by
        rcases Nat.lt_trichotomy i p.length with q | q | q
        · exact absurd h4 (l58 q)
        · exact q
        · exact absurd hc (h5 _ (Nat.zero_le _) q)
      rw [h1, if_pos (by omega), this]
  · refine fin ?_
    have g1 : 1 ≤ g.length := by rw [← len_list, hg]; simp
    have hc : (p ++ g).cps.toList[p.length]? = some 10 := by rw [at_, hg]; rfl
    unfold stripEnd0
    rw [nl_str, find_is]
    rcases chr_find (p ++ g) 10 0 (p ++ g).length (Nat.le_refl _) with ⟨_, h2⟩ | ⟨i, h1, _, h3, h4, h5⟩
    · exact absurd hc (h2 _ (Nat.zero_le _) (by omega))
    · have : i = p.length := by
        rcases Nat.lt_trichotomy i p.length with q | q | q
        · exact absurd h4 (l10 q)
        · exact q
        · exact absurd hc (h5 _ (Nat.zero_le _) q)
      rw [h1, if_pos (by omega), this]
theorem strip_bare (hd : 46 ∉ p.cps.toList) : strip (p ++ g) = p := by
  have hl : (p ++ g).cps.toList = p.cps.toList ++ g.cps.toList := app_list p g
  have hlen : (p ++ g).length = p.length + g.length := len_append p g
  have e := strip_end h10 h58 hg
  have s : stripStart (p ++ g) = 0 := by
    unfold stripStart
    rw [e, dot_str]
    rcases rfind4_spec (p ++ g) ⟨#[46]⟩ p.length (by omega) with ⟨h, _⟩ | ⟨i, _, h2, _⟩
    · rw [h, if_neg (by decide)]
    · have h3 := at_one.mp h2
      rw [hl, List.getElem?_append_left (by rw [len_list]; omega)] at h3
      exact absurd (List.mem_of_getElem? h3.2) hd
  unfold strip
  rw [s, e, StrLaws.sliceText_plain (by rw [len_list]; omega)]
  apply ext_list
  show ((p ++ g).cps.toList.drop 0).take ((p.length : Int) - 0).toNat = _
  rw [hl, List.drop_zero, show ((p.length : Int) - 0).toNat = p.cps.toList.length by rw [len_list]; omega, List.take_left']
  rfl
theorem strip_last {q n : Str} (hp : p = q ++ Str.ofString "." ++ n) (hn : 46 ∉ n.cps.toList) : strip (p ++ g) = n := by
  have hl : (p ++ g).cps.toList = p.cps.toList ++ g.cps.toList := app_list p g
  have hlen : (p ++ g).length = p.length + g.length := len_append p g
  have pl : p.cps.toList = q.cps.toList ++ ([46] ++ n.cps.toList) := by rw [hp, app_list, app_list, dot_str, List.append_assoc]
  have plen : p.length = q.length + 1 + n.length := by rw [hp, len_append, len_append, dot_str]; rfl
  have e := strip_end h10 h58 hg
  have s : stripStart (p ++ g) = (q.length : Int) + 1 := by
    unfold stripStart
    rw [e, dot_str]
    have hat : (p ++ g).cps.toList[q.length]? = some 46 := by
      rw [hl, List.getElem?_append_left (by rw [len_list]; omega), pl, ← len_list q, List.getElem?_append_right (Nat.le_refl _), Nat.sub_self]; rfl
    rcases rfind4_spec (p ++ g) ⟨#[46]⟩ p.length (by omega) with ⟨_, h⟩ | ⟨i, h1, h2, h3⟩
    · exact absurd (at_one.mpr ⟨by omega, hat⟩) (h q.length)
    · have h4 := at_one.mp h2
      have : i = q.length := by
        rcases Nat.lt_trichotomy i q.length with w | w | w
        · exact absurd (at_one.mpr ⟨by omega, hat⟩) (h3 _ w)
        · exact w
        · have h5 := h4.2
          rw [hl, List.getElem?_append_left (by rw [len_list]; omega), pl, List.getElem?_append_right (by rw [len_list]; omega), len_list, List.getElem?_append_right (by simp; omega)] at h5
          exact absurd (List.mem_of_getElem? h5) hn
      rw [h1, this, if_pos (by omega)]
  unfold strip
  rw [s, e, StrLaws.sliceText_plain (by rw [len_list]; omega)]
  apply ext_list
  show ((p ++ g).cps.toList.drop ((q.length : Int) + 1).toNat).take ((p.length : Int) - ((q.length : Int) + 1)).toNat = _
  rw [hl, pl, show ((q.length : Int) + 1).toNat = q.cps.toList.length + 1 by rw [len_list]; omega, show ((p.length : Int) - ((q.length : Int) + 1)).toNat = n.cps.toList.length by rw [len_list]; omega, List.append_assoc, List.drop_append,
    List.drop_eq_nil_of_le (by omega), List.nil_append, Nat.add_sub_cancel_left, List.append_assoc]
  show List.take _ (n.cps.toList ++ g.cps.toList) = _
  rw [List.take_left']
  rfl
end
end Mine
end

-- Q7
section
open PySem PySem.W PyProof.Rows PySem.Calls PySem.Spec
set_option maxRecDepth 100000
set_option maxHeartbeats 8000000
namespace Mine
open PySem (Expr)

noncomputable def pileS (nm : Nat → Str) : List Nat → Str
  | [] => Str.ofString "C"
  | x :: s => pileS nm s ++ Str.ofString "." ++ nm x
structure Nms (nm : Nat → Str) : Prop where
  ok : ∀ r, r < 6 → NameOk (nm r)
  lt : ∀ a b, a < 6 → b < 6 → ((nm a).cps.toList < (nm b).cps.toList ↔ a < b)
theorem msgs_head : ∀ k, k < 6 → ((msgs[k]?.getD ⟨#[]⟩).cps.toList = [] ∨ (msgs[k]?.getD ⟨#[]⟩).cps.toList.head? = some 58 ∨ (msgs[k]?.getD ⟨#[]⟩).cps.toList.head? = some 10) := by decide +kernel
theorem msg_ok (t : Nat) : (msgs[t % 6]?.getD ⟨#[]⟩).cps.toList = [] ∨ (∃ r, (msgs[t % 6]?.getD ⟨#[]⟩).cps.toList = 58 :: r) ∨ ∃ r, (msgs[t % 6]?.getD ⟨#[]⟩).cps.toList = 10 :: r := by
  have hd : ∀ {l : List Nat} {c : Nat}, l.head? = some c → ∃ r, l = c :: r := fun {l c} h => by
    cases l with
    | nil => cases h
    | cons a r => cases h; exact ⟨r, rfl⟩
  rcases msgs_head (t % 6) (Nat.mod_lt _ (by decide)) with h | h | h
  · exact .inl h
  · exact .inr (.inl (hd h))
  · exact .inr (.inr (hd h))
section
variable {nm : Nat → Str} (H : Nms nm)
include H
theorem pile_free (c : Nat) (hc : c = 10 ∨ c = 58) : ∀ s : List Nat, (∀ x, x ∈ s → x < 6) → c ∉ (pileS nm s).cps.toList
  | [], _ => by
    have : ∀ d, d ∈ (Str.ofString "C").cps.toList → d ≠ 10 ∧ d ≠ 58 := by decide +kernel
    intro m
    have := this c m
    omega
  | x :: s, h => by
    have ih := pile_free c hc s fun y hy => h y (List.mem_cons_of_mem _ hy)
    have hx := H.ok x (h x (List.mem_cons_self ..))
    intro m
    rw [pileS, app_list, app_list, dot_str, List.mem_append, List.mem_append] at m
    rcases m with (m | m) | m
    · exact ih m
    · have : c = 46 := List.mem_singleton.mp m
      omega
    · rcases hc with rfl | rfl
      · exact hx.nl m
      · exact hx.col m
theorem top_bare (t : Nat) : topAt (pileS nm []) t = Str.ofString "C" := by
  unfold topAt
  exact strip_bare (pile_free H 10 (.inl rfl) [] (by simp)) (pile_free H 58 (.inr rfl) [] (by simp)) (msg_ok t) (by show 46 ∉ (Str.ofString "C").cps.toList; decide +kernel)
theorem top_last (t : Nat) {x : Nat} {s : List Nat} (h : ∀ y, y ∈ x :: s → y < 6) : topAt (pileS nm (x :: s)) t = nm x := by
  unfold topAt
  exact strip_last (pile_free H 10 (.inl rfl) _ h) (pile_free H 58 (.inr rfl) _ h) (msg_ok t) rfl (H.ok x (h x (List.mem_cons_self ..))).dot
theorem cut_ {x : Nat} {s : List Nat} : cutTop (pileS nm (x :: s)) (nm x) = pileS nm s := by
  unfold cutTop
  have l : (pileS nm (x :: s)).length = (pileS nm s).length + 1 + (nm x).length := by rw [pileS, len_append, len_append, dot_str]; rfl
  rw [StrLaws.sliceText_to (by rw [len_list, l]; omega)]
  apply ext_list
  show ((pileS nm (x :: s)).cps.toList.drop 0).take (((pileS nm (x :: s)).length : Int) - (nm x).length - 1 - 0).toNat = _
  rw [List.drop_zero, show (((pileS nm (x :: s)).length : Int) - (nm x).length - 1 - 0).toNat = (pileS nm s).cps.toList.length by rw [len_list, l]; omega, pileS, app_list, app_list, List.append_assoc, List.take_left']
  rfl
theorem coll_lt {a b : Nat} (ha : a < 6) (hb : b < 6) : collv (nm a) (nm b) = if a < b then -1 else if b < a then 1 else 0 := by
  unfold collv
  have h1 := H.lt a b ha hb
  have h2 := H.lt b a hb ha
  by_cases q : a < b
  · rw [decide_eq_true (h1.mpr q), decide_eq_false (fun w => by have := h2.mp w; omega), if_pos q]; rfl
  · by_cases q2 : b < a
    · rw [decide_eq_false (fun w => q (h1.mp w)), decide_eq_true (h2.mpr q2), if_neg q, if_pos q2]; rfl
    · rw [decide_eq_false (fun w => q (h1.mp w)), decide_eq_false (fun w => q2 (h2.mp w)), if_neg q, if_neg q2]; rfl
noncomputable def stOf (nm : Nat → Str) (st : List Nat × List Nat × List Nat) : List Str × List Str × Str := (st.1.map nm, st.2.1.map nm, pileS nm st.2.2)
theorem step_ (t : Nat) (st : List Nat × List Nat × List Nat) (hw : ∀ x, x ∈ st.1 → x < 6) (hs : ∀ x, x ∈ st.2.2 → x < 6) (hne : (st.1.isEmpty && st.2.2.isEmpty) = false) : pileStep t (stOf nm st) = stOf nm (simStep st) ∧ (∀ x, x ∈ (simStep st).1 → x < 6) ∧ ∀ x, x ∈ (simStep st).2.2 → x < 6 := by
  obtain ⟨w, c, s⟩ := st
  have mo : ∀ (l : List Nat) (x : Nat), l.map nm ++ [nm x] = (l ++ [x]).map nm := fun l x => by simp
  cases w with
  | nil =>
    cases s with
    | nil => cases hne
    | cons x s =>
      refine ⟨?_, hw, fun y hy => hs y (List.mem_cons_of_mem _ hy)⟩
      show (([] : List Str), c.map nm ++ [topAt (pileS nm (x :: s)) t], cutTop (pileS nm (x :: s)) (topAt (pileS nm (x :: s)) t)) = ([], (c ++ [x]).map nm, pileS nm s)
      rw [top_last H t hs, cut_ H, mo]
  | cons v w =>
    have hv : v < 6 := hw v (List.mem_cons_self ..)
    cases s with
    | nil =>
      refine ⟨?_, fun y hy => hw y (List.mem_cons_of_mem _ hy), fun y hy => by rw [List.mem_singleton.mp hy]; exact hv⟩
      show (if (topAt (pileS nm []) t == Str.ofString "C" || collv (topAt (pileS nm []) t) (nm v) != -1) = true then (w.map nm, c.map nm, locName (if (topAt (pileS nm []) t == Str.ofString "C") = true then none else some (pileS nm [])) (some (nm v))) else _) = (w.map nm, c.map nm, pileS nm [v])
      rw [top_bare H t, beq_self_eq_true, Bool.true_or, if_pos rfl, if_pos rfl]
      rfl
    | cons x s =>
      have hx : x < 6 := hs x (List.mem_cons_self ..)
      have hC : (nm x == Str.ofString "C") = false := beq_eq_false_iff_ne.mpr (H.ok x hx).c
      have e : pileStep t (stOf nm (v :: w, c, x :: s)) = (if (topAt (pileS nm (x :: s)) t == Str.ofString "C" || collv (topAt (pileS nm (x :: s)) t) (nm v) != -1) = true then (w.map nm, c.map nm, locName (if (topAt (pileS nm (x :: s)) t == Str.ofString "C") = true then none else some (pileS nm (x :: s))) (some (nm v)))
        else (nm v :: w.map nm, c.map nm ++ [topAt (pileS nm (x :: s)) t], cutTop (pileS nm (x :: s)) (topAt (pileS nm (x :: s)) t))) := rfl
      rw [e, top_last H t hs, hC, Bool.false_or, coll_lt H hx hv, cut_ H, mo]
      show _ = stOf nm (if x < v then (v :: w, c ++ [x], s) else (w, c, v :: x :: s)) ∧ (∀ y, y ∈ (if x < v then (v :: w, c ++ [x], s) else (w, c, v :: x :: s)).1 → y < 6) ∧ ∀ y, y ∈ (if x < v then (v :: w, c ++ [x], s) else (w, c, v :: x :: s)).2.2 → y < 6
      by_cases q : x < v
      · rw [if_pos q, if_pos q, if_neg (by decide)]
        exact ⟨rfl, hw, fun y hy => hs y (List.mem_cons_of_mem _ hy)⟩
      · rw [if_neg q, if_neg q, if_pos (by split <;> decide), if_neg Bool.false_ne_true]
        refine ⟨rfl, fun y hy => hw y (List.mem_cons_of_mem _ hy), fun y hy => ?_⟩
        rcases List.mem_cons.mp hy with rfl | hy
        · exact hv
        · exact hs y hy
theorem run_ (ρ : List Nat) (hρ : ∀ x, x ∈ ρ → x < 6) (ok : simOk ρ = true) : ∀ t, t ≤ 12 → pileRun (ρ.map nm) t = stOf nm (simRun ρ t) ∧ (∀ x, x ∈ (simRun ρ t).1 → x < 6) ∧ ∀ x, x ∈ (simRun ρ t).2.2 → x < 6
  | 0, _ => ⟨rfl, hρ, fun x hx => by cases hx⟩
  | t + 1, h => by
    obtain ⟨h1, h2, h3⟩ := run_ ρ hρ ok t (by omega)
    have hne : ((simRun ρ t).1.isEmpty && (simRun ρ t).2.2.isEmpty) = false := by
      have : (!((simRun ρ t).1.isEmpty && (simRun ρ t).2.2.isEmpty)) = true := List.all_eq_true.mp ok t (List.mem_range.mpr (by omega))
      rwa [Bool.not_eq_true'] at this
    have := step_ H t (simRun ρ t) h2 h3 hne
    show pileStep t (pileRun (ρ.map nm) t) = stOf nm (simStep (simRun ρ t)) ∧ _
    rw [h1]
    exact this
theorem res_ (ρ : List Nat) (hρ : ∀ x, x ∈ ρ → x < 6) (hl : ρ.length = 6) (ok : simOk ρ = true) {c : List Nat} (hc : simRun ρ 12 = ([], c, [])) : pileRes (ρ.map nm) = c.map nm ++ [Str.ofString "C"] := by
  unfold pileRes
  rw [List.length_map, hl, (run_ H ρ hρ ok 12 (Nat.le_refl _)).1, hc]
  rfl
end
end Mine
end

-- Q8
section
open PySem PySem.W PyProof.Rows PySem.Calls PySem.Spec
set_option maxRecDepth 100000
set_option maxHeartbeats 8000000
namespace Mine
open PySem (Expr)

theorem lt_total {a b : Str} (h : ¬ a.cps.toList < b.cps.toList) (h2 : ¬ b.cps.toList < a.cps.toList) : a = b := ext_list (List.le_antisymm (List.not_lt.mp h2) (List.not_lt.mp h))
theorem rising_pw : ∀ (l : List Str) (p : Str), risingS p l = true → (p :: l).Pairwise (fun a b => ¬ b.cps.toList < a.cps.toList)
  | [], p, _ => List.pairwise_singleton _ _
  | x :: r, p, h => by
    have h' : (!ltCps x.cps.toList p.cps.toList && risingS x r) = true := h
    rw [Bool.and_eq_true, Bool.not_eq_true', ltCps_eq, decide_eq_false_iff_not] at h'
    have ih := rising_pw r x h'.2
    refine List.pairwise_cons.mpr ⟨fun y hy => ?_, ih⟩
    rcases List.mem_cons.mp hy with rfl | hy
    · exact h'.1
    · have h3 := (List.pairwise_cons.mp ih).1 y hy
      rw [List.not_lt] at h3 ⊢
      exact List.le_trans (List.not_lt.mp h'.1) h3
theorem sorted_pw : ∀ (l : List Str), sortedS l = true → l.Pairwise (fun a b => ¬ b.cps.toList < a.cps.toList)
  | [], _ => List.Pairwise.nil
  | x :: r, h => rising_pw r x h
noncomputable def insS (x : Str) : List Str → List Str
  | [] => [x]
  | y :: r => if x.cps.toList < y.cps.toList then x :: y :: r else y :: insS x r
theorem insS_perm (x : Str) : ∀ l, (insS x l).Perm (x :: l)
  | [] => .refl _
  | y :: r => by
    unfold insS
    split
    · exact .refl _
    · exact ((insS_perm x r).cons y).trans (.swap x y r)
theorem insS_pw (x : Str) : ∀ l, l.Pairwise (fun a b => a.cps.toList < b.cps.toList) → x ∉ l → (insS x l).Pairwise (fun a b => a.cps.toList < b.cps.toList)
  | [], _, _ => List.pairwise_singleton _ _
  | y :: r, h, hx => by
    obtain ⟨h1, h2⟩ := List.pairwise_cons.mp h
    unfold insS
    split
    · rename_i q
      refine List.pairwise_cons.mpr ⟨fun z hz => ?_, h⟩
      rcases List.mem_cons.mp hz with rfl | hz
      · exact q
      · exact List.lt_trans q (h1 z hz)
    · rename_i q
      have hxy : x ≠ y := fun e => hx (e ▸ List.mem_cons_self ..)
      have q2 : y.cps.toList < x.cps.toList := by
        by_cases w : y.cps.toList < x.cps.toList
        · exact w
        · exact absurd (lt_total q w) hxy
      refine List.pairwise_cons.mpr ⟨fun z hz => ?_, insS_pw x r h2 fun m => hx (List.mem_cons_of_mem _ m)⟩
      rcases List.mem_cons.mp ((insS_perm x r).subset hz) with rfl | hz
      · exact q2
      · exact h1 z hz
theorem sort_ex : ∀ (N : List Str), N.Nodup → ∃ rk : List Str, rk.Perm N ∧ rk.Pairwise (fun a b => a.cps.toList < b.cps.toList)
  | [], _ => ⟨[], .refl _, .nil⟩
  | x :: r, h => by
    obtain ⟨h1, h2⟩ := List.nodup_cons.mp h
    obtain ⟨rk, h3, h4⟩ := sort_ex r h2
    exact ⟨insS x rk, (insS_perm x rk).trans (h3.cons x), insS_pw x rk h4 fun m => h1 (h3.subset m)⟩
theorem idx_range : ∀ {N : List Str}, N.Nodup → N.map N.idxOf = List.range N.length := fun {N} h => by
  refine List.ext_getElem? fun i => ?_
  rw [List.getElem?_map]
  by_cases hi : i < N.length
  · rw [List.getElem?_eq_getElem hi, List.getElem?_range hi, Option.map_some, idxOf_get h (List.getElem?_eq_getElem hi)]
  · rw [List.getElem?_eq_none (by omega), List.getElem?_eq_none (by simp; omega)]; rfl
theorem ranks_ex (N : List Str) (h : N.Nodup) (hl : N.length = 6) : ∃ rk π, RanksOk N rk π := by
  obtain ⟨rk, hp, hs⟩ := sort_ex N h
  have rl : rk.length = 6 := hp.length_eq.trans hl
  refine ⟨rk, rk.map N.idxOf, hl, rl, ?_, fun r hr => ?_, h, fun l' h1 h2 => ?_, fun i j x y hij hi hj => ?_⟩
  · have := hp.map N.idxOf
    rw [idx_range h, hl] at this
    exact this
  · have hr' : r < rk.length := by rw [rl]; exact hr
    have e : rk[r]? = some rk[r] := List.getElem?_eq_getElem hr'
    have hm : rk[r] ∈ N := hp.subset (List.getElem_mem hr')
    rw [List.getElem?_map, e]
    show some rk[r] = N[N.idxOf rk[r]]?
    rw [List.getElem?_eq_getElem (List.idxOf_lt_length_of_mem hm), List.getElem_idxOf]
  · refine List.Perm.eq_of_pairwise (le := fun a b => ¬ b.cps.toList < a.cps.toList) (fun a b _ _ q1 q2 => lt_total q2 q1) (sorted_pw l' h2) (hs.imp fun q => List.lt_asymm q) (h1.trans hp.symm)
  · obtain ⟨hi', rfl⟩ := List.getElem?_eq_some_iff.mp hi
    obtain ⟨hj', rfl⟩ := List.getElem?_eq_some_iff.mp hj
    exact List.pairwise_iff_getElem.mp hs i j hi' hj' hij
end Mine
end

-- Q9
section
open PySem PySem.W PyProof.Rows PySem.Calls PySem.Spec
set_option maxRecDepth 100000
set_option maxHeartbeats 8000000
namespace Mine
open PySem (Expr)

section
variable {w : Nat} {R : List Nat}
theorem lt_append : ∀ (l : List Nat) (a : Nat) (r : List Nat), l < l ++ a :: r
  | [], a, r => of_decide_eq_true (StrLaws.lt_nil_cons a r)
  | x :: l, a, r => by
    refine of_decide_eq_true ?_
    rw [List.cons_append, StrLaws.lt_cons_cons, decide_eq_true (lt_append l a r)]
    simp
/-- what one order of the six must show -/
structure Perm6 (π : List Nat) : Prop where
  p1 : ∀ k, k < 6 → k ∈ aheads (once3 π 6)
  p2 : ∀ k, k < 6 → k ∈ aheads (twiceOf (once3 π 6))
  o1 : simOk (invOf π) = true
  s1 : simRun (invOf π) 12 = ([], comeOf (once3 π 6), [])
  o2 : simOk (comeOf (once3 π 6)) = true
  s2 : simRun (comeOf (once3 π 6)) 12 = ([], comeOf (twiceOf (once3 π 6)), [])
theorem facts_of (ok : RowOk w R) (hall : ∀ π : List Nat, π.Perm (List.range 6) → Perm6 π) : ∃ rk π n0 n1 n2 n3 n5, Facts w R rk π n0 n1 n2 n3 n5 := by
  have TK := tks_of ok
  have hd : ∀ i, i < 6 → 46 ∉ (tkOf w R i).cps.toList := fun i hi => (tk_ok ok hi).dot
  have hNe := names_eq ok
  have hpg := page_eq ok
  have hl : (namesOf w R).length = 6 := by rw [hNe]; simp
  have nd : (namesOf w R).Nodup := by
    unfold namesOf
    exact List.pairwise_map.mpr (ok.nd.imp_of_mem fun {a b} ha hb hne e => hne (spell_inj ok.w5 (ok.sign a ha) (ok.sign b hb) e))
  obtain ⟨rk, π, ro⟩ := ranks_ex (namesOf w R) nd hl
  have P := hall π ro.pl
  have gN : ∀ i, i < 6 → (namesOf w R)[i]? = some (tkOf w R i) := fun i hi => let ⟨_, _, _, h⟩ := tk_get ok hi; h
  have πl : π.length = 6 := by rw [ro.pl.length_eq]; rfl
  have πlt : ∀ r, r < 6 → π[r]?.getD 0 < 6 := fun r hr => by
    rw [List.getElem?_eq_getElem (by omega)]
    exact List.mem_range.mp (ro.pl.subset (List.getElem_mem _))
  have rkπ : ∀ r, r < 6 → rk[r]? = some (tkOf w R (π[r]?.getD 0)) := fun r hr => (ro.get r hr).trans (gN _ (πlt r hr))
  have rkD : ∀ r, r < 6 → rk[r]?.getD ⟨#[]⟩ = tkOf w R (π[r]?.getD 0) := fun r hr => by rw [rkπ r hr]; rfl
  have H : Nms (fun r => rk[r]?.getD ⟨#[]⟩) := by
    refine ⟨fun r hr => by show NameOk (rk[r]?.getD ⟨#[]⟩); rw [rkD r hr]; exact tk_ok ok (πlt r hr), fun a b ha hb => ?_⟩
    have lt : ∀ {i j : Nat}, i < j → j < 6 → (rk[i]?.getD ⟨#[]⟩).cps.toList < (rk[j]?.getD ⟨#[]⟩).cps.toList := fun {i j} hij hj => by
      rw [rkD i (by omega), rkD j hj]
      exact ro.lt i j _ _ hij (rkπ i (by omega)) (rkπ j hj)
    constructor
    · intro h
      rcases Nat.lt_trichotomy a b with q | q | q
      · exact q
      · subst q; exact absurd h (List.lt_irrefl _)
      · exact absurd (lt q ha) (List.lt_asymm h)
    · exact fun q => lt q hb
  have rkL : rk = (List.range 6).map fun r => rk[r]?.getD ⟨#[]⟩ := by
    refine List.ext_getElem? fun i => ?_
    by_cases hi : i < 6
    · rw [List.getElem?_map, List.getElem?_range hi, Option.map_some, rkπ i hi]; rfl
    · rw [List.getElem?_eq_none (by rw [ro.rl]; omega), List.getElem?_eq_none (by simp; omega)]
  have πnd : π.Nodup := ro.pl.nodup_iff.mpr List.nodup_range
  have hinv : namesOf w R = (invOf π).map fun r => rk[r]?.getD ⟨#[]⟩ := by
    rw [hNe]
    unfold invOf
    rw [List.map_map]
    refine List.map_congr_left fun i hi => ?_
    have hi6 := List.mem_range.mp hi
    have hm : i ∈ π := ro.pl.symm.subset hi
    have h1 : π.idxOf i < π.length := List.idxOf_lt_length_of_mem hm
    show tkOf w R i = rk[π.idxOf i]?.getD ⟨#[]⟩
    rw [rkD _ (by omega), List.getElem?_eq_getElem h1, List.getElem_idxOf]
    rfl
  have inv6 : ∀ x, x ∈ invOf π → x < 6 := fun x hx => by
    obtain ⟨i, hi, rfl⟩ := List.mem_map.mp hx
    have := List.idxOf_lt_length_of_mem (ro.pl.symm.subset hi)
    omega
  have come6 : ∀ rows : List (List Bool), (∀ k, k < 6 → k ∈ aheads rows) → ∀ x, x ∈ comeOf rows → x < 6 := fun rows hr x hx => by
    obtain ⟨k, hk, rfl⟩ := List.mem_map.mp hx
    have := List.idxOf_lt_length_of_mem (hr k (List.mem_range.mp hk))
    have e : (aheads rows).length = 6 := by simp [aheads]
    omega
  have rr : ∀ rows : List (List Bool), rowRes rk rows = (comeOf rows).map fun r => rk[r]?.getD ⟨#[]⟩ := fun rows => by unfold rowRes comeOf; rw [List.map_map]; rfl
  have cl := fun a b ha hb => coll_lt H (a := a) (b := b) ha hb
  have pg1 : ∃ a r, (text (tkOf w R) [0, 1, 2, 3, 4, 5]).cps.toList = (tkOf w R 0).cps.toList ++ a :: r := by
    have e : text (tkOf w R) [0, 1, 2, 3, 4, 5] = tkOf w R 0 ++ (tkOf w R 1 ++ text (tkOf w R) [2, 3, 4, 5]) := by rw [← text_one (tkOf w R) 0, ← text_one (tkOf w R) 1, text_app, text_app]; rfl
    rw [e, app_list, app_list]
    have := (tk_ok ok (i := 1) (by omega)).tok.pos
    cases h : (tkOf w R 1).cps.toList with
    | nil => rw [h] at this; cases this
    | cons a r => exact ⟨a, _, rfl⟩
  have pgL : ∃ a r, (text (tkOf w R) [0, 1, 2, 3, 4, 5]).cps.toList = a :: r := by
    obtain ⟨a, r, hr⟩ := pg1
    cases h : (text (tkOf w R) [0, 1, 2, 3, 4, 5]).cps.toList with
    | nil => rw [h] at hr; have := congrArg List.length hr; simp at this
    | cons a r => exact ⟨a, r, rfl⟩
  refine ⟨rk, π, tkOf w R 0, tkOf w R 1, tkOf w R 2, tkOf w R 3, tkOf w R 5, ro, fun a b c hab hbc hc => ?_, P.p1, P.p2, ?_, ?_, fun x hx => ?_, ?_, ?_, ?_, ?_, ?_, gN 0 (by omega), gN 1 (by omega), gN 2 (by omega), gN 3 (by omega), gN 5 (by omega)⟩
  · rw [hpg, rkD a (by omega), rkD b (by omega), rkD c hc, em_three TK hd (πlt b (by omega)) (πlt c hc) (πlt a (by omega))]
    rfl
  · rw [rr, hinv]
    exact res_ H (invOf π) inv6 (by simp [invOf]) P.o1 P.s1
  · rw [rr, rr]
    exact res_ H _ (come6 _ P.p1) (by simp [comeOf]) P.o2 P.s2
  · obtain ⟨i, hi, rfl⟩ : ∃ i, i < 6 ∧ x = tkOf w R i := by
      rw [hNe] at hx
      obtain ⟨i, hi, rfl⟩ := List.mem_map.mp hx
      exact ⟨i, List.mem_range.mp hi, rfl⟩
    have no := tk_ok ok hi
    have e : locName (some (Str.ofString "")) (some (tkOf w R i)) = (Str.ofString "" ++ Str.ofString "." ++ tkOf w R i) ++ ⟨#[]⟩ := (PySem.Str.append_empty _).symm
    have free : ∀ c, c ≠ 46 → c ∉ (tkOf w R i).cps.toList → c ∉ (Str.ofString "" ++ Str.ofString "." ++ tkOf w R i).cps.toList := fun c h1 h2 m => by
      rw [app_list, app_list, dot_str, List.mem_append, List.mem_append] at m
      rcases m with (m | m) | m
      · cases m
      · exact h1 (List.mem_singleton.mp m)
      · exact h2 m
    rw [e]
    exact strip_last (free 10 (by decide) no.nl) (free 58 (by decide) no.col) (.inl rfl) rfl no.dot
  · rw [rkL]
    show ([T.str (rk[0]?.getD ⟨#[]⟩), T.str (rk[1]?.getD ⟨#[]⟩), T.str (rk[2]?.getD ⟨#[]⟩), T.str (rk[3]?.getD ⟨#[]⟩), T.str (rk[4]?.getD ⟨#[]⟩), T.str (rk[5]?.getD ⟨#[]⟩)] : List T).filterMap (rowT ([0, 1, 2, 3, 4, 5].map fun r => rk[r]?.getD ⟨#[]⟩)) = _
    have row : ∀ a, a < 6 → rowT ([0, 1, 2, 3, 4, 5].map fun r => rk[r]?.getD ⟨#[]⟩) (T.str (rk[a]?.getD ⟨#[]⟩)) = some (.list ((toldRow a).map T.int)) := fun a ha => by
      show some (T.list [T.int (collv (rk[a]?.getD ⟨#[]⟩) (rk[0]?.getD ⟨#[]⟩)), T.int (collv (rk[a]?.getD ⟨#[]⟩) (rk[1]?.getD ⟨#[]⟩)), T.int (collv (rk[a]?.getD ⟨#[]⟩) (rk[2]?.getD ⟨#[]⟩)), T.int (collv (rk[a]?.getD ⟨#[]⟩) (rk[3]?.getD ⟨#[]⟩)), T.int (collv (rk[a]?.getD ⟨#[]⟩) (rk[4]?.getD ⟨#[]⟩)), T.int (collv (rk[a]?.getD ⟨#[]⟩) (rk[5]?.getD ⟨#[]⟩))]) = _
      have c0 := cl a 0 ha (by decide); have c1 := cl a 1 ha (by decide); have c2 := cl a 2 ha (by decide); have c3 := cl a 3 ha (by decide); have c4 := cl a 4 ha (by decide); have c5 := cl a 5 ha (by decide)
      rw [c0, c1, c2, c3, c4, c5]
      have : a = 0 ∨ a = 1 ∨ a = 2 ∨ a = 3 ∨ a = 4 ∨ a = 5 := by omega
      rcases this with rfl | rfl | rfl | rfl | rfl | rfl <;> rfl
    simp only [List.filterMap_cons, List.filterMap_nil, row 0 (by decide), row 1 (by decide), row 2 (by decide), row 3 (by decide), row 4 (by decide), row 5 (by decide)]
    rfl
  · rw [hpg]
    obtain ⟨a, r, hr⟩ := pgL
    unfold collv
    rw [show (Str.ofString "").cps.toList = [] from rfl, hr]
    have e1 : decide (a :: r < ([] : List Nat)) = false := StrLaws.lt_cons_nil a r
    have e2 : decide (([] : List Nat) < a :: r) = true := StrLaws.lt_nil_cons a r
    rw [e1, e2]; rfl
  · rw [hpg]
    obtain ⟨a, r, hr⟩ := pg1
    unfold collv
    rw [hr, decide_eq_true (lt_append _ a r), decide_eq_false (List.lt_asymm (lt_append _ a r))]; rfl
  · rw [hpg]
    obtain ⟨a, r, hr⟩ := pg1
    rw [StrLaws.sliceText_to (by rw [hr, List.length_append, len_list]; omega)]
    apply ext_list
    show ((text (tkOf w R) [0, 1, 2, 3, 4, 5]).cps.toList.drop 0).take (((tkOf w R 0).length : Int) - 0).toNat = _
    rw [List.drop_zero, hr, show (((tkOf w R 0).length : Int) - 0).toNat = (tkOf w R 0).cps.toList.length by rw [len_list]; omega, List.take_left']
    rfl
  · rw [hpg]; exact byNames_ok TK hd
end
end Mine
end

-- Q10
section
open PySem PySem.W PyProof.Rows PySem.Calls PySem.Spec
set_option maxRecDepth 100000
set_option maxHeartbeats 8000000
namespace Mine
open PySem (Expr)

theorem ck01 : ((permsF 4 [2, 3, 4, 5]).map fun l => 0 :: 1 :: l).all checkπ = true := by decide +kernel
theorem ck02 : ((permsF 4 [1, 3, 4, 5]).map fun l => 0 :: 2 :: l).all checkπ = true := by decide +kernel
theorem ck03 : ((permsF 4 [1, 2, 4, 5]).map fun l => 0 :: 3 :: l).all checkπ = true := by decide +kernel
theorem ck04 : ((permsF 4 [1, 2, 3, 5]).map fun l => 0 :: 4 :: l).all checkπ = true := by decide +kernel
theorem ck05 : ((permsF 4 [1, 2, 3, 4]).map fun l => 0 :: 5 :: l).all checkπ = true := by decide +kernel
theorem ck10 : ((permsF 4 [2, 3, 4, 5]).map fun l => 1 :: 0 :: l).all checkπ = true := by decide +kernel
theorem ck12 : ((permsF 4 [0, 3, 4, 5]).map fun l => 1 :: 2 :: l).all checkπ = true := by decide +kernel
theorem ck13 : ((permsF 4 [0, 2, 4, 5]).map fun l => 1 :: 3 :: l).all checkπ = true := by decide +kernel
theorem ck14 : ((permsF 4 [0, 2, 3, 5]).map fun l => 1 :: 4 :: l).all checkπ = true := by decide +kernel
theorem ck15 : ((permsF 4 [0, 2, 3, 4]).map fun l => 1 :: 5 :: l).all checkπ = true := by decide +kernel
theorem ck20 : ((permsF 4 [1, 3, 4, 5]).map fun l => 2 :: 0 :: l).all checkπ = true := by decide +kernel
theorem ck21 : ((permsF 4 [0, 3, 4, 5]).map fun l => 2 :: 1 :: l).all checkπ = true := by decide +kernel
theorem ck23 : ((permsF 4 [0, 1, 4, 5]).map fun l => 2 :: 3 :: l).all checkπ = true := by decide +kernel
theorem ck24 : ((permsF 4 [0, 1, 3, 5]).map fun l => 2 :: 4 :: l).all checkπ = true := by decide +kernel
theorem ck25 : ((permsF 4 [0, 1, 3, 4]).map fun l => 2 :: 5 :: l).all checkπ = true := by decide +kernel
theorem ck30 : ((permsF 4 [1, 2, 4, 5]).map fun l => 3 :: 0 :: l).all checkπ = true := by decide +kernel
theorem ck31 : ((permsF 4 [0, 2, 4, 5]).map fun l => 3 :: 1 :: l).all checkπ = true := by decide +kernel
theorem ck32 : ((permsF 4 [0, 1, 4, 5]).map fun l => 3 :: 2 :: l).all checkπ = true := by decide +kernel
theorem ck34 : ((permsF 4 [0, 1, 2, 5]).map fun l => 3 :: 4 :: l).all checkπ = true := by decide +kernel
theorem ck35 : ((permsF 4 [0, 1, 2, 4]).map fun l => 3 :: 5 :: l).all checkπ = true := by decide +kernel
theorem ck40 : ((permsF 4 [1, 2, 3, 5]).map fun l => 4 :: 0 :: l).all checkπ = true := by decide +kernel
theorem ck41 : ((permsF 4 [0, 2, 3, 5]).map fun l => 4 :: 1 :: l).all checkπ = true := by decide +kernel
theorem ck42 : ((permsF 4 [0, 1, 3, 5]).map fun l => 4 :: 2 :: l).all checkπ = true := by decide +kernel
theorem ck43 : ((permsF 4 [0, 1, 2, 5]).map fun l => 4 :: 3 :: l).all checkπ = true := by decide +kernel
theorem ck45 : ((permsF 4 [0, 1, 2, 3]).map fun l => 4 :: 5 :: l).all checkπ = true := by decide +kernel
theorem ck50 : ((permsF 4 [1, 2, 3, 4]).map fun l => 5 :: 0 :: l).all checkπ = true := by decide +kernel
theorem ck51 : ((permsF 4 [0, 2, 3, 4]).map fun l => 5 :: 1 :: l).all checkπ = true := by decide +kernel
theorem ck52 : ((permsF 4 [0, 1, 3, 4]).map fun l => 5 :: 2 :: l).all checkπ = true := by decide +kernel
theorem ck53 : ((permsF 4 [0, 1, 2, 4]).map fun l => 5 :: 3 :: l).all checkπ = true := by decide +kernel
theorem ck54 : ((permsF 4 [0, 1, 2, 3]).map fun l => 5 :: 4 :: l).all checkπ = true := by decide +kernel
theorem check_all {π : List Nat} (h : π.Perm (List.range 6)) : checkπ π = true := by
  have hm := mem_permsF π _ h
  have hl : (List.range 6).length = 6 := rfl
  rw [hl] at hm
  have two : ∀ (k : Nat) (l : List Nat), permsF (k + 2) l = l.flatMap fun x => (l.erase x).flatMap fun y => (permsF k ((l.erase x).erase y)).map fun z => x :: y :: z := fun k l => by
    show l.flatMap (fun x => ((l.erase x).flatMap fun y => (permsF k ((l.erase x).erase y)).map (y :: ·)).map (x :: ·)) = _
    refine congrArg (l.flatMap ·) (funext fun x => ?_)
    rw [List.map_flatMap]
    refine congrArg ((l.erase x).flatMap ·) (funext fun y => ?_)
    rw [List.map_map]; rfl
  rw [two 4, show List.range 6 = [0, 1, 2, 3, 4, 5] from rfl] at hm
  obtain ⟨x, hx, hm⟩ := List.mem_flatMap.mp hm
  obtain ⟨y, hy, hm⟩ := List.mem_flatMap.mp hm
  simp only [List.mem_cons, List.not_mem_nil, or_false] at hx
  rcases hx with rfl | rfl | rfl | rfl | rfl | rfl
  · have hy' : y ∈ [1, 2, 3, 4, 5] := hy
    simp only [List.mem_cons, List.not_mem_nil, or_false] at hy'
    rcases hy' with rfl | rfl | rfl | rfl | rfl
    · exact List.all_eq_true.mp ck01 π hm
    · exact List.all_eq_true.mp ck02 π hm
    · exact List.all_eq_true.mp ck03 π hm
    · exact List.all_eq_true.mp ck04 π hm
    · exact List.all_eq_true.mp ck05 π hm
  · have hy' : y ∈ [0, 2, 3, 4, 5] := hy
    simp only [List.mem_cons, List.not_mem_nil, or_false] at hy'
    rcases hy' with rfl | rfl | rfl | rfl | rfl
    · exact List.all_eq_true.mp ck10 π hm
    · exact List.all_eq_true.mp ck12 π hm
    · exact List.all_eq_true.mp ck13 π hm
    · exact List.all_eq_true.mp ck14 π hm
    · exact List.all_eq_true.mp ck15 π hm
  · have hy' : y ∈ [0, 1, 3, 4, 5] := hy
    simp only [List.mem_cons, List.not_mem_nil, or_false] at hy'
    rcases hy' with rfl | rfl | rfl | rfl | rfl
    · exact List.all_eq_true.mp ck20 π hm
    · exact List.all_eq_true.mp ck21 π hm
    · exact List.all_eq_true.mp ck23 π hm
    · exact List.all_eq_true.mp ck24 π hm
    · exact List.all_eq_true.mp ck25 π hm
  · have hy' : y ∈ [0, 1, 2, 4, 5] := hy
    simp only [List.mem_cons, List.not_mem_nil, or_false] at hy'
    rcases hy' with rfl | rfl | rfl | rfl | rfl
    · exact List.all_eq_true.mp ck30 π hm
    · exact List.all_eq_true.mp ck31 π hm
    · exact List.all_eq_true.mp ck32 π hm
    · exact List.all_eq_true.mp ck34 π hm
    · exact List.all_eq_true.mp ck35 π hm
  · have hy' : y ∈ [0, 1, 2, 3, 5] := hy
    simp only [List.mem_cons, List.not_mem_nil, or_false] at hy'
    rcases hy' with rfl | rfl | rfl | rfl | rfl
    · exact List.all_eq_true.mp ck40 π hm
    · exact List.all_eq_true.mp ck41 π hm
    · exact List.all_eq_true.mp ck42 π hm
    · exact List.all_eq_true.mp ck43 π hm
    · exact List.all_eq_true.mp ck45 π hm
  · have hy' : y ∈ [0, 1, 2, 3, 4] := hy
    simp only [List.mem_cons, List.not_mem_nil, or_false] at hy'
    rcases hy' with rfl | rfl | rfl | rfl | rfl
    · exact List.all_eq_true.mp ck50 π hm
    · exact List.all_eq_true.mp ck51 π hm
    · exact List.all_eq_true.mp ck52 π hm
    · exact List.all_eq_true.mp ck53 π hm
    · exact List.all_eq_true.mp ck54 π hm
theorem perm6 (π : List Nat) (h : π.Perm (List.range 6)) : Perm6 π := by
  have c := check_all h
  unfold checkπ at c
  simp only [Bool.and_eq_true, beq_iff_eq] at c
  obtain ⟨⟨⟨⟨⟨h1, h2⟩, h3⟩, h4⟩, h5⟩, h6⟩ := c
  have pm : ∀ rows : List (List Bool), permOk rows = true → ∀ k, k < 6 → k ∈ aheads rows := fun rows hr k hk => by
    have := List.all_eq_true.mp hr k (List.mem_range.mpr hk)
    simpa using this
  exact ⟨pm _ h1, pm _ h2, h3, h4, h5, h6⟩
theorem facts_ (w : Nat) (R : List Nat) (ok : RowOk w R) : ∃ rk π n0 n1 n2 n3 n5, Facts w R rk π n0 n1 n2 n3 n5 := facts_of ok perm6
end Mine
end

-- T2
section
open PySem PySem.W PyProof.Rows PySem.Calls PySem.Spec
set_option maxRecDepth 100000
set_option maxHeartbeats 8000000
namespace Mine
set_option pp.deepTerms false
set_option pp.deepTerms.threshold 4
set_option pp.maxSteps 6000
theorem cells_seven : ∀ (l : List Int) (k : Nat) (cs : List Int), (cellsFold l k cs).length = cs.length
  | [], _, _ => rfl
  | x :: r, k, cs => by show (cellsFold r (k + 1) (cs.set _ _)).length = _; rw [cells_seven r, List.length_set]
theorem cells_small : ∀ (l : List Int) (k : Nat) (cs : List Int) (m : Int), (∀ c, c ∈ cs → 0 ≤ c ∧ c ≤ m) → 0 ≤ m → ∀ c, c ∈ cellsFold l k cs → 0 ≤ c ∧ c ≤ m + 1000000 * l.length
  | [], _, _, m, h, _ => fun c hc => by have := h c hc; simp only [List.length_nil]; omega
  | x :: r, k, cs, m, h, hm => fun c hc => by
    have hf : 0 ≤ Int.fmod x 1000000 ∧ Int.fmod x 1000000 < 1000000 := fmod_lt (n := 1000000) (by omega)
    have := cells_small r (k + 1) (cs.set (k % 7) ((cs[k % 7]?.getD 0) + Int.fmod x 1000000)) (m + 1000000) (fun d hd => by
      rcases List.mem_or_eq_of_mem_set hd with hd | rfl
      · have := h d hd; omega
      · have h0 : 0 ≤ cs[k % 7]?.getD 0 ∧ cs[k % 7]?.getD 0 ≤ m := by
          cases e : cs[k % 7]? with
          | none => exact ⟨Int.le_refl 0, hm⟩
          | some d => exact h d (List.mem_of_getElem? e)
        omega) (by omega) c hc
    rw [List.length_cons]
    omega
theorem final : PySem.Challenge.rw_xp0025_01.Holds := by
  refine holds_law hd.law fun said => holds_open (q := hd.view_39) (loose := []) (Xt := fun s => xlAt hd.view_39 [] s && recOk (RowW.records PySem.Challenge.rw_xp0025_01.row.toRowW) s) (XP := XL hd.view_39 []) (Yf := (kHook hd.heap_39 hd.keys hd.keysOk).obs) (Ya := (kHook hd.heap_39 hd.keys hd.keysOk).val) (YP := (kHook hd.heap_39 hd.keys hd.keysOk).says) (N := 1284) hd.left (kHook hd.heap_39 hd.keys hd.keysOk).of (kHook hd.heap_39 hd.keys hd.keysOk).keeps (fun s e => xl_of s (Bool.and_eq_true_iff.mp e).1) XL.keeps (by rfl) (by rfl) (by rfl) (fun s e => recFacts_of (Bool.and_eq_true_iff.mp e).2) (by rfl) said (by decide +kernel) ⟨rfl, rfl, rfl, rfl, rfl, by decide +kernel⟩ ⟨[.list []], by decide +kernel, by decide +kernel⟩ ?_
  k_go0
  rename_i w s₀ s₁ mg mb G1 Y1 fa ofn pm doc ho hgens KX X1 V1 GL T1 B1 TE TW wA wO M1 wc1 wc2 hcd l hs hlay0 hL1 hr1 hl2 as1 as2 la lvs las hL ra hw r0 hI hrA hcond htriv K0 hD h₁ tk₁ F1 c1 c2 c3 c4 d1 d2 d3 d4 N0 X0
  have good : ∀ h' tk, (∀ b o, s₁.heap.get? b = some o → h'.get? b = some o) → GoodW Challenge.rw_xp0025_01.row.claim (classAt s₀.heap) (ExcName.means s₀.heap) [ofPy (PyData.list (List.map PyData.int l))] s₁ (Except.ok (Flow.ret (Value.bool true))) { s₁ with heap := h', toks := tk } := by
    intro h' tk hk
    refine ⟨.inl ⟨.bool true, .bool true, [], rfl, raisesW_false (by wrow_none_raised), .bool true, by kc_post, fun _ => ⟨List.nodup_nil, fun a ha => by cases ha⟩⟩, hk, rfl, hgens⟩
  clear hD d1 d2 d3 d4
  dsimp only at F1 X0 ⊢
  have gs : Gs { prog := Challenge.rw_xp0025_01.row.prog, w := w, K := hd.heap_39 w.params, mg := mg, mb := mb, t0 := 1, n := 0, env := default } w.params := ⟨rfl, fun x v e => mg_of KX T1.g e, fun x e => mg_none_of KX T1.g e⟩
  have gs0 : Gs { prog := Challenge.rw_xp0025_01.row.prog, w := w, K := hd.heap_39 w.params, mg := mg, mb := mb, t0 := 0, n := 0, env := default } w.params := ⟨rfl, fun x v e => mg_of KX T1.g e, fun x e => mg_none_of KX T1.g e⟩
  have gl : Gl (hd.heap_39 w.params) mg mb s₁.heap := ⟨KX, T1.g, T1.b, T1.builtins, T1.nolimit⟩
  have hl : l.length ≤ 63 := by omega
  have hscr : Rep [] h₁ (.list (l.map T.int)) (.ref la) := by
    cases hw with
    | list e _ => 
      obtain ⟨o, e1, e2, n, e3⟩ := hL
      rw [e] at e1
      cases e1
      injection e3 with e4 e5
      have e6 := congrArg Array.toList e4
      simp only [List.toList_toArray] at e6
      exact .mkList (n := 0) (by simp) (F1.keep _ _ e) (e6 ▸ ints_rep hI)
  have hcl : (cellsOf l).length = 7 := cells_seven l 0 _
  have hcb : ∀ c, c ∈ cellsOf l → 0 ≤ c ∧ c < 2 ^ 40 := fun c hc => by
    have := cells_small l 0 [1, 0, 1, 5, 1, 0, 1] 5 (by decide) (by decide) c hc
    omega
  have hw5 : wOf (cellsOf l) < 5 := by
    have : 0 ≤ Int.fmod ((cellsOf l)[0]?.getD 0) 5 ∧ Int.fmod ((cellsOf l)[0]?.getD 0) 5 < 5 := fmod_lt (n := 5) (by omega)
    unfold wOf
    omega
  have ok := row_ok (cellsOf l) hw5
  obtain ⟨rk, π, n0, n1, n2, n3, n5, FF⟩ := facts_ _ _ ok
  have hnl : (namesOf (wOf (cellsOf l)) (rowOf (cellsOf l))).length = 6 := by rw [namesOf, List.length_map, ok.len]
  have hn6 := names_len (wOf (cellsOf l)) (rowOf (cellsOf l))
  have h36 : (cat (namesOf (wOf (cellsOf l)) (rowOf (cellsOf l)))).length ≤ 36 := by have := cat_len6 hn6; rw [hnl] at this; exact this
  refine first_let2 (G := { prog := Challenge.rw_xp0025_01.row.prog, w := w, K := hd.heap_39 w.params, mg := mg, mb := mb, t0 := 1, n := 0, env := default }) (n := 6) (t := .list ((cellsOf l).map T.int)) (σ' := [(Str.ofString "script", .list (l.map T.int)), (Str.ofString "cells", .list ((cellsOf l).map T.int))]) (B := fun b o => s₁.heap.get? b = some o) (σ := [(Str.ofString "script", .list (l.map T.int))]) (r1 := (bodyA (hd.heap_39 w.params) 134).drop 1) (r2 := (bodyOf (hd.heap_39 w.params) 134).drop 25) (σe := [(Str.ofString "names", .list ((namesOf (wOf (cellsOf l)) (rowOf (cellsOf l))).map T.str)), (Str.ofString "page", .str (cat (namesOf (wOf (cellsOf l)) (rowOf (cellsOf l))))), (Str.ofString "refusal", .str refusal), (Str.ofString "pairs", .list (pairsT n0 n1 n2))]) rfl ?en ?h ?ao ?bo ?S ?hx ?hp ?hsp ?hr ?hend ?hsw
  case en => exact ⟨⟨rfl, rfl, rfl⟩, cells_apart _ _⟩
  case h => exact fun Y => .call ⟨rfl, rfl, rfl⟩ (gs0.f (n := 6)) (.cons (nm' ⟨rfl, rfl, rfl⟩) .nil) ((cells_ gs0 l (by omega)).at (m := 6)) (by show 1 ≤ 6; omega)
  case ao => exact ⟨rfl, by show 1 + claimMargin + 1 + 6 < recursionLimit; decide, by show 4 + 3 + 8 * 6 + 40 < cLine; decide⟩
  case bo => exact ⟨fun h hh => gl.sub hh, fun a ha => by cases ha⟩
  case S =>
    refine ⟨F1.keep, ⟨_, F1.ns⟩, fun n c e => ?_, fun o e => ?_, fun n c e o eo => ?_, List.nodup_nil, fun p hp => (nomatch hp), fun p hp => (nomatch hp), ⟨fun p hp => ?_⟩⟩
    · obtain ⟨o, v, m, e2⟩ := cells_are X0 _ (mem_of_lookup e)
      exact ⟨v, o, (N0 _ m).1, e2⟩
    · have := get_size s₁.heap
      rw [show (Cx.env (Cx.at' _ 6 _)).locals = s₁.heap.objs.size from rfl, this] at e; cases e
    · obtain ⟨o', v, m, e2⟩ := cells_are X0 _ (mem_of_lookup e)
      have := (N0 _ m).2.2
      rw [this] at eo; cases eo
    · simp only [List.mem_cons, List.not_mem_nil, or_false] at hp
      subst hp
      exact ⟨_, .inl ⟨rfl, _, F1.ns, rfl⟩, hscr⟩
  case hx => rfl
  case hp => repeat (first | exact Put.nil | (apply Put.hit; repeat (first | exact Off.nil | apply Off.cons (by decide))) | apply Put.miss (by decide))
  case hsp => rfl
  case hsw => rfl
  case hr =>
    refine law_body gs (Nat.le_refl 1) (cellsOf l) l hcl hcb _ _ _ default ⟨⟨rfl, rfl, rfl⟩, cells_apart _ _⟩ ?_
    exact mid_walk gs (Nat.le_refl 1) _ _ ok FF _ _ _ default ⟨⟨rfl, rfl, rfl⟩, cells_apart _ _⟩ rfl
  case hend =>
    intro h' tk S tk1
    refine law_end gs (Nat.le_refl 1) _ _ n0 n1 n2 n3 n5 FF.h0 FF.h1 FF.h3 FF.h5 hnl hn6 h36 FF.hby _ _ _ default ⟨⟨rfl, rfl, rfl⟩, cells_apart _ _⟩ _ _ _ (fun b o => s₁.heap.get? b = some o) _ ⟨rfl, by show 1 + claimMargin + 1 + 6 < recursionLimit; decide, by show 4 + 3 + 8 * 6 + 40 < cLine; decide⟩ rfl ⟨fun h hh => gl.sub hh, fun a ha => by cases ha⟩ S tk1 fun h2 tk2 p1 => ?_
    exact good h2 tk2 p1
end Mine
end

theorem PySem.Challenge.cw_xp0025_01_holds : PySem.Challenge.rw_xp0025_01.Holds :=
  Mine.final
