import PyProof.Rows.All
import Wide.All
import OpenK.AllK
import Wide.FinOn
import Lean
import PySem.Challenge.RW_re0043_01
open PySem PySem.W PyProof.Rows
set_option Elab.async false
set_option maxRecDepth 100000
set_option maxHeartbeats 8000000
set_option linter.unusedVariables false
set_option linter.unusedSimpArgs false

namespace Mine
open_top hd for PySem.Challenge.rw_re0043_01

/-! ## Data instead of heap -/
structure Froz where
  ob : Addr → Option Obj
  tk : Tok → Option Str

structure Sub (g g' : Froz) : Prop where
  ob : ∀ b o, g.ob b = some o → g'.ob b = some o
  tk : ∀ t x, g.tk t = some x → g'.tk t = some x
theorem Sub.refl (g : Froz) : Sub g g := ⟨fun _ _ e => e, fun _ _ e => e⟩
theorem Sub.trans {g g' g'' : Froz} (a : Sub g g') (b : Sub g' g'') : Sub g g'' := ⟨fun x o e => b.ob x o (a.ob x o e), fun t x e => b.tk t x (a.tk t x e)⟩
/-- the keys of a dict are texts whose tokens are known -/
def KeyTok (T : Tok → Option Str) (o : Obj) : Prop := ∀ es ep, o.data = .dict es ep → ∀ e ∈ es, ∃ k t, e.key = .str k t ∧ T t = some k
theorem KeyTok.mono {T T' : Tok → Option Str} {o : Obj} (h : KeyTok T o) (hs : ∀ t x, T t = some x → T' t = some x) : KeyTok T' o := fun es ep hd e he => by
  obtain ⟨k, t, h1, h2⟩ := h es ep hd e he
  exact ⟨k, t, h1, hs t k h2⟩

inductive D where
  | none
  | bool (b : Bool)
  | int (i : Int)
  | str (x : Str)
  | list (l : List D)
  | tup (l : List D)
  | dict (l : List (Str × D))
  | range (a b c : Int)
  | wlist (l : List D)

abbrev lstO (vs : List Value) (n : Nat) : Obj := { cls := .type "list", dict := none, data := .seq vs.toArray n, slots := #[] }
abbrev tupO (vs : List Value) (n : Nat) : Obj := { cls := .type "tuple", dict := none, data := .seq vs.toArray n, slots := #[] }

section
variable (prog : Program) (w : World)
mutual
inductive Rep (g : Froz) : Value → D → Prop where
  | none : Rep g .none .none
  | bool (b : Bool) : Rep g (.bool b) (.bool b)
  | int (i : Int) (t : Tok) : Rep g (.int i t) (.int i)
  | str (x : Str) (t : Tok) : g.tk t = some x → Rep g (.str x t) (.str x)
  | list {a : Addr} {vs : List Value} {n : Nat} {ds : List D} : g.ob a = some (lstO vs n) → Reps g vs ds → Rep g (.ref a) (.list ds)
  | wlist {a : Addr} {o : Obj} {vs : List Value} {n : Nat} {ds : List D} : g.ob a = some o → o.cls = .type "list" → o.data = .seq vs.toArray n → Reps g vs ds → Rep g (.ref a) (.wlist ds)
  | tup {a : Addr} {vs : List Value} {n : Nat} {ds : List D} : g.ob a = some (tupO vs n) → Reps g vs ds → Rep g (.ref a) (.tup ds)
  | dict {a : Addr} {o : Obj} {kvs : List (Str × Value)} {ds : List (Str × D)} : g.ob a = some o → o.IsDictOf (strKind prog w) kvs → KeyTok g.tk o → (a == sysModules) = false → RepsKV g kvs ds → Rep g (.ref a) (.dict ds)
  | range {r : Addr} {a b c : Int} {t u v : Tok} : g.ob r = some { cls := .type "range", dict := none, data := .fields #[.int a t, .int b u, .int c v], slots := #[] } → Rep g (.ref r) (.range a b c)
inductive Reps (g : Froz) : List Value → List D → Prop where
  | nil : Reps g [] []
  | cons {v : Value} {d : D} {vs : List Value} {ds : List D} : Rep g v d → Reps g vs ds → Reps g (v :: vs) (d :: ds)
inductive RepsKV (g : Froz) : List (Str × Value) → List (Str × D) → Prop where
  | nil : RepsKV g [] []
  | cons {k : Str} {v : Value} {d : D} {vs : List (Str × Value)} {ds : List (Str × D)} : Rep g v d → RepsKV g vs ds → RepsKV g ((k, v) :: vs) ((k, d) :: ds)
end
end

section
variable {prog : Program} {w : World} {g g' : Froz}
mutual
theorem Rep.mono (hs : Sub g g') : ∀ {v : Value} {d : D}, Rep prog w g v d → Rep prog w g' v d
  | _, _, .none => .none
  | _, _, .bool b => .bool b
  | _, _, .int i t => .int i t
  | _, _, .str x t e => .str x t (hs.tk _ _ e)
  | _, _, .list e1 r => .list (hs.ob _ _ e1) (r.mono hs)
  | _, _, .wlist e1 e2 e3 r => .wlist (hs.ob _ _ e1) e2 e3 (r.mono hs)
  | _, _, .tup e1 r => .tup (hs.ob _ _ e1) (r.mono hs)
  | _, _, .dict e1 e2 e3 e4 r => .dict (hs.ob _ _ e1) e2 (e3.mono hs.tk) e4 (r.mono hs)
  | _, _, .range e => .range (hs.ob _ _ e)
theorem Reps.mono (hs : Sub g g') : ∀ {v : List Value} {d : List D}, Reps prog w g v d → Reps prog w g' v d
  | _, _, .nil => .nil
  | _, _, .cons a b => .cons (a.mono hs) (b.mono hs)
theorem RepsKV.mono (hs : Sub g g') : ∀ {v : List (Str × Value)} {d : List (Str × D)}, RepsKV prog w g v d → RepsKV prog w g' v d
  | _, _, .nil => .nil
  | _, _, .cons a b => .cons (a.mono hs) (b.mono hs)
end
theorem Reps.length : ∀ {v : List Value} {d : List D}, Reps prog w g v d → v.length = d.length
  | _, _, .nil => rfl
  | _, _, .cons _ b => by simp [b.length]
theorem Reps.get : ∀ {v : List Value} {d : List D}, Reps prog w g v d → ∀ {i : Nat} {x : D}, d[i]? = some x → ∃ y, v[i]? = some y ∧ Rep prog w g y x
  | _, _, .nil, i, x, h => by simp at h
  | _, _, .cons a b, 0, x, h => by simp at h; subst h; exact ⟨_, by simp, a⟩
  | _, _, .cons a b, i + 1, x, h => by
    have := b.get (i := i) (x := x) (by simpa using h)
    obtain ⟨y, h1, h2⟩ := this
    exact ⟨y, by simpa using h1, h2⟩
theorem Reps.get' : ∀ {v : List Value} {d : List D}, Reps prog w g v d → ∀ {i : Nat} {y : Value}, v[i]? = some y → ∃ x, d[i]? = some x ∧ Rep prog w g y x
  | _, _, .nil, i, x, h => by simp at h
  | _, _, .cons a b, 0, x, h => by simp at h; subst h; exact ⟨_, by simp, a⟩
  | _, _, .cons a b, i + 1, x, h => by
    have := b.get' (i := i) (y := x) (by simpa using h)
    obtain ⟨y, h1, h2⟩ := this
    exact ⟨y, by simpa using h1, h2⟩
theorem Reps.append : ∀ {v₁ v₂ : List Value} {d₁ d₂ : List D}, Reps prog w g v₁ d₁ → Reps prog w g v₂ d₂ → Reps prog w g (v₁ ++ v₂) (d₁ ++ d₂)
  | _, _, _, _, .nil, h => h
  | _, _, _, _, .cons a b, h => .cons a (b.append h)
theorem Reps.snoc {vs : List Value} {ds : List D} {v : Value} {d : D} (h : Reps prog w g vs ds) (r : Rep prog w g v d) : Reps prog w g (vs ++ [v]) (ds ++ [d]) := h.append (.cons r .nil)
theorem Reps.of_get : ∀ {v : List Value} {d : List D}, v.length = d.length → (∀ (i : Nat) (y : Value) (x : D), v[i]? = some y → d[i]? = some x → Rep prog w g y x) → Reps prog w g v d
  | [], [], _, _ => .nil
  | y :: v, x :: d, hl, h => .cons (h 0 y x (by simp) (by simp)) (Reps.of_get (by simpa using hl) fun i a b h1 h2 => h (i + 1) a b (by simpa using h1) (by simpa using h2))
theorem Reps.take {v : List Value} {d : List D} (h : Reps prog w g v d) (n : Nat) : Reps prog w g (v.take n) (d.take n) := by
  induction n generalizing v d with
  | zero => simpa using Reps.nil
  | succ n ih =>
    cases h with
    | nil => simpa using Reps.nil
    | cons a b => simpa using Reps.cons a (ih b)
theorem Reps.drop {v : List Value} {d : List D} (h : Reps prog w g v d) (n : Nat) : Reps prog w g (v.drop n) (d.drop n) := by
  induction n generalizing v d with
  | zero => simpa using h
  | succ n ih =>
    cases h with
    | nil => simpa using Reps.nil
    | cons a b => simpa using ih b
theorem Reps.reverse {v : List Value} {d : List D} (h : Reps prog w g v d) : Reps prog w g v.reverse d.reverse := by
  induction v generalizing d with
  | nil => cases h; simpa using Reps.nil
  | cons x v ih => cases h with | cons a b => simpa using (ih b).snoc a
theorem RepsKV.keys : ∀ {v : List (Str × Value)} {d : List (Str × D)}, RepsKV prog w g v d → v.map (·.1) = d.map (·.1)
  | _, _, .nil => rfl
  | _, _, .cons _ b => by simp [b.keys]
theorem RepsKV.length {v : List (Str × Value)} {d : List (Str × D)} (h : RepsKV prog w g v d) : v.length = d.length := by
  have := congrArg List.length h.keys; simpa using this
theorem RepsKV.get : ∀ {v : List (Str × Value)} {d : List (Str × D)}, RepsKV prog w g v d → ∀ {i : Nat} {k : Str} {x : D}, d[i]? = some (k, x) → ∃ y, v[i]? = some (k, y) ∧ Rep prog w g y x
  | _, _, .nil, i, k, x, h => by simp at h
  | _, _, .cons a b, 0, k, x, h => by simp at h; obtain ⟨rfl, rfl⟩ := h; exact ⟨_, by simp, a⟩
  | _, _, .cons a b, i + 1, k, x, h => by
    obtain ⟨y, h1, h2⟩ := b.get (i := i) (k := k) (x := x) (by simpa using h)
    exact ⟨y, by simpa using h1, h2⟩
theorem RepsKV.append : ∀ {v₁ v₂ : List (Str × Value)} {d₁ d₂ : List (Str × D)}, RepsKV prog w g v₁ d₁ → RepsKV prog w g v₂ d₂ → RepsKV prog w g (v₁ ++ v₂) (d₁ ++ d₂)
  | _, _, _, _, .nil, h => h
  | _, _, _, _, .cons a b, h => .cons a (b.append h)
end

/-- the value at a key -/
def atKey (l : List (Str × D)) (k : Str) : Option D := (l.find? fun kv => kv.1 = k).map (·.2)

section
variable {prog : Program} {w : World} {g : Froz}
theorem RepsKV.at : ∀ {v : List (Str × Value)} {d : List (Str × D)}, RepsKV prog w g v d → ∀ {k : Str} {x : D}, atKey d k = some x → ∃ y, valueAt v k = some y ∧ Rep prog w g y x
  | _, _, .nil, k, x, h => by simp [atKey] at h
  | _, _, .cons (k := k') (ds := ds') a b, k, x, h => by
    by_cases e : k' = k
    · subst e
      simp [atKey] at h
      subst h
      exact ⟨_, by simp [valueAt], a⟩
    · have h' : atKey ds' k = some x := by simpa [atKey, List.find?_cons, e] using h
      obtain ⟨y, h1, h2⟩ := b.at h'
      exact ⟨y, by simpa [valueAt, List.find?_cons, e] using h1, h2⟩
theorem RepsKV.not_at {v : List (Str × Value)} {d : List (Str × D)} (h : RepsKV prog w g v d) {k : Str} : (valueAt v k).isSome = (atKey d k).isSome := by
  induction v generalizing d with
  | nil => cases h; rfl
  | cons p v ih =>
    cases h with
    | cons a b =>
      rename_i k' y x ds
      by_cases e : k' = k
      · simp [valueAt, atKey, List.find?_cons, e]
      · have := ih b
        simp only [valueAt, atKey, List.find?_cons, e, decide_false] at this ⊢
        exact this
end

/-! ## The judgements -/
structure Rm (n : Nat) (A : Around) : Prop where
  handled : A.handled = none
  depth : A.depth + n < recursionLimit
  units : A.units + 8 * n + 40 < cLine
theorem Rm.le {n m : Nat} {A : Around} (h : Rm n A) (hm : m ≤ n) : Rm m A := ⟨h.handled, by have := h.depth; omega, by have := h.units; omega⟩
theorem Rm.deeper {n : Nat} {A : Around} {env : Env} (h : Rm (n + 1) A) : Rm n (A.deeper env) :=
  ⟨h.handled, by have := h.depth; show A.depth + 1 + n < recursionLimit; omega, by have := h.units; show A.units + 3 + 8 * n + 40 < cLine; omega⟩

structure EnvOk (sc : Scope) (env : Env) : Prop where
  scope : env.scope = sc
  globals : env.globals = mainGlobals
  builtins : env.builtins = builtinsNs
  kind : sc.kind = .function

/-- the state goes on, nothing is lost -/
def Kp (s s' : Shared) : Prop := Keeps s s' ∧ s.toks ≤ s'.toks

structure Grow (g : Froz) (s : Shared) (g' : Froz) (s' : Shared) : Prop where
  keep : ∀ b o, s.heap.get? b = some o → s'.heap.get? b = some o
  sub : Sub g g'
  new : ∀ b o, g'.ob b = some o → g.ob b = some o ∨ s.heap.get? b = none
  ins : ∀ b o, g'.ob b = some o → s'.heap.get? b = some o
  toks : s.toks ≤ s'.toks
  tks : ∀ t x, g'.tk t = some x → t ≠ 0 ∧ t < s'.toks
theorem Grow.trans {g g' g'' : Froz} {s s' s'' : Shared} (a : Grow g s g' s') (b : Grow g' s' g'' s'') : Grow g s g'' s'' :=
  ⟨fun x o e => b.keep x o (a.keep x o e), a.sub.trans b.sub, fun x o e => by
    rcases b.new x o e with q | q
    · exact a.new x o q
    · right
      cases r : s.heap.get? x with
      | none => rfl
      | some o' => (rw [a.keep x o' r] at q; cases q), b.ins, Nat.le_trans a.toks b.toks, b.tks⟩

/-- freeze one object -/
def Froz.put (g : Froz) (a : Addr) (o : Obj) : Froz := ⟨fun b => if b = a then some o else g.ob b, g.tk⟩
/-- note one token -/
def Froz.tok (g : Froz) (t : Tok) (x : Str) : Froz := ⟨g.ob, fun u => if u = t then some x else g.tk u⟩
theorem Froz.put_self {g : Froz} {a : Addr} {o : Obj} : (g.put a o).ob a = some o := by simp [Froz.put]
theorem Froz.tok_self {g : Froz} {t : Tok} {x : Str} : (g.tok t x).tk t = some x := by simp [Froz.tok]
theorem Froz.put_sub {g : Froz} {a : Addr} {o : Obj} (hn : g.ob a = none) : Sub g (g.put a o) := ⟨fun b x e => by
  show (if b = a then some o else g.ob b) = some x
  by_cases h : b = a
  · subst h; rw [hn] at e; cases e
  · rw [if_neg h]; exact e, fun _ _ e => e⟩
theorem Grow.put_sub {g g' : Froz} {s s' : Shared} {a : Addr} {o : Obj} (G : Grow g s g' s') (ho : s'.heap.get? a = some o) : Sub g' (g'.put a o) := ⟨fun b x e => by
  show (if b = a then some o else g'.ob b) = some x
  by_cases q : b = a
  · subst q; rw [if_pos rfl, ← ho]; exact G.ins b x e
  · rw [if_neg q]; exact e, fun _ _ e => e⟩
theorem Grow.put {g g' : Froz} {s s' : Shared} {a : Addr} {o : Obj} (G : Grow g s g' s') (ho : s'.heap.get? a = some o) (hn : s.heap.get? a = none) : Grow g s (g'.put a o) s' := by
  refine ⟨G.keep, G.sub.trans (G.put_sub ho), fun b x e => ?_, fun b x e => ?_, G.toks, G.tks⟩
  · by_cases q : b = a
    · subst q; exact .inr hn
    · have e' : (if b = a then some o else g'.ob b) = some x := e
      rw [if_neg q] at e'; exact G.new b x e'
  · have e' : (if b = a then some o else g'.ob b) = some x := e
    by_cases q : b = a
    · subst q; rw [if_pos rfl] at e'; rw [ho]; exact e'
    · rw [if_neg q] at e'; exact G.ins b x e'

/-- where a name's value lies -/
def Loc (h : Heap) (env : Env) (x : Str) (v : Value) : Prop :=
  (env.kindOf x = some .local ∧ ∃ m, h.Ns env.locals m ∧ m x = some v) ∨
  ((env.kindOf x = some .cell ∨ env.kindOf x = some .free) ∧ ∃ c, env.cells.lookup x = some c ∧ h.IsCell c (some v))
theorem Loc.keeps {h h' : Heap} {env : Env} {x : Str} {v : Value} (l : Loc h env x v) (hk : ∀ b o, h.get? b = some o → h'.get? b = some o) : Loc h' env x v := by
  rcases l with ⟨k, m, hn, hm⟩ | ⟨k, c, hc, hi⟩
  · exact .inl ⟨k, m, hn.keeps hk, hm⟩
  · exact .inr ⟨k, c, hc, hi.keeps hk⟩
theorem ns_unique {h : Heap} {a : Addr} {m m' : Str → Option Value} (x : h.Ns a m) (y : h.Ns a m') : m = m' := by
  obtain ⟨o, es, ep, ho, hd, _, hm⟩ := x
  obtain ⟨o', es', ep', ho', hd', _, hm'⟩ := y
  rw [ho] at ho'
  cases ho'
  rw [hd] at hd'
  cases hd'
  funext n
  rw [← hm, ← hm']

abbrev St := Str → Option D

section
variable (prog : Program) (w : World) (hb : Heap)
structure Ok (g : Froz) (s : Shared) : Prop where
  base : ∀ b o, hb.get? b = some o → g.ob b = some o
  ins : ∀ b o, g.ob b = some o → s.heap.get? b = some o
  tks : ∀ t x, g.tk t = some x → t ≠ 0 ∧ t < s.toks
  pos : 0 < s.toks
def Rd (g : Froz) (h : Heap) (env : Env) (σ : St) : Prop := ∀ x d, σ x = some d → ∃ v, Loc h env x v ∧ Rep prog w g v d

/-- an expression gives a datum -/
def Ev (n : Nat) (sc : Scope) (σ : St) (e : Expr) (d : D) : Prop :=
  ∀ (A : Around) (env : Env) (g : Froz) (s : Shared) (Q : Value → Shared → Prop) (E : Value → Shared → Prop), Rm n A → EnvOk sc env → Ok hb g s → Rd prog w g s.heap env σ →
    (∀ v g' s', Kp s s' → Grow g s g' s' → Rep prog w g' v d → Q v s') → wpAny (model prog w) A (eval e env) Q E s
/-- several expressions in a row -/
def Evs (n : Nat) (sc : Scope) (σ : St) (es : List Expr) (ds : List D) : Prop :=
  ∀ (A : Around) (env : Env) (pos : Pos) (g : Froz) (s : Shared) (Q : List Value → Shared → Prop) (E : Value → Shared → Prop), Rm n A → EnvOk sc env → Ok hb g s → Rd prog w g s.heap env σ →
    (∀ vs g' s', Kp s s' → Grow g s g' s' → Reps prog w g' vs ds → Q vs s') → wpAny (model prog w) A (spliced (backTo pos (starEach es env))) Q E s
/-- a test -/
def Tr (n : Nat) (sc : Scope) (σ : St) (e : Expr) (b : Bool) : Prop :=
  ∀ (A : Around) (env : Env) (g : Froz) (s : Shared) (Q : Bool → Shared → Prop) (E : Value → Shared → Prop), Rm n A → EnvOk sc env → Ok hb g s → Rd prog w g s.heap env σ →
    (∀ s', Kp s s' → Q b s') → wpAny (model prog w) A (isTrue e env (eval e env)) Q E s
/-- a callee -/
def Fn (n : Nat) (f : Value) (ds : List D) (d : D) : Prop :=
  ∀ (A : Around) (g : Froz) (s : Shared) (vs : List Value) (Q : Value → Shared → Prop) (E : Value → Shared → Prop), Rm n A → Ok hb g s → Reps prog w g vs ds →
    (∀ v g' s', Kp s s' → Grow g s g' s' → Rep prog w g' v d → Q v s') → wpAny (model prog w) A (call f vs) Q E s
end

section
variable {prog : Program} {w : World} {hb : Heap}
theorem kp_refl (s : Shared) : Kp s s := ⟨⟨s.heap, s.toks, rfl, fun _ _ e => e⟩, Nat.le_refl _⟩
theorem kp_trans {s s' s'' : Shared} (a : Kp s s') (b : Kp s' s'') : Kp s s'' := by
  obtain ⟨⟨h, t, rfl, k⟩, l⟩ := a
  obtain ⟨⟨h', t', rfl, k'⟩, l'⟩ := b
  exact ⟨⟨h', t', rfl, fun x o e => k' x o (k x o e)⟩, Nat.le_trans l l'⟩
theorem kp_heap {s s' : Shared} (a : Kp s s') : ∀ b o, s.heap.get? b = some o → s'.heap.get? b = some o := by
  obtain ⟨⟨h, t, rfl, k⟩, l⟩ := a; exact k
theorem kp_tok (s : Shared) {t : Nat} (h : s.toks ≤ t) : Kp s { s with toks := t } := ⟨⟨s.heap, t, rfl, fun _ _ e => e⟩, h⟩
theorem kp_tok1 (s : Shared) : Kp s { s with toks := s.toks + 1 } := kp_tok s (Nat.le_succ _)
theorem kp_push (s : Shared) (o : Obj) : Kp s { s with heap := s.heap.push o } := ⟨⟨_, s.toks, rfl, fun _ _ e => Heap.get?_push_of_some _ e⟩, Nat.le_refl _⟩
theorem kp_of {s : Shared} {h' : Heap} {tk : Nat} (hk : ∀ b o, s.heap.get? b = some o → h'.get? b = some o) (ht : s.toks ≤ tk) : Kp s { s with heap := h', toks := tk } := ⟨⟨h', tk, rfl, hk⟩, ht⟩
theorem Ok.grow {g g' : Froz} {s s' : Shared} (o : Ok hb g s) (G : Grow g s g' s') : Ok hb g' s' := ⟨fun b x e => G.sub.ob b x (o.base b x e), G.ins, G.tks, Nat.lt_of_lt_of_le o.pos G.toks⟩
theorem Rd.grow {g g' : Froz} {s s' : Shared} {env : Env} {σ : St} (r : Rd prog w g s.heap env σ) (G : Grow g s g' s') : Rd prog w g' s'.heap env σ := fun x d e => by
  obtain ⟨v, l, q⟩ := r x d e
  exact ⟨v, l.keeps G.keep, q.mono G.sub⟩
/-- the frozen part stays, the heap grows -/
theorem Ok.at {g : Froz} {s s' : Shared} (o : Ok hb g s) (k : Kp s s') : Grow g s g s' :=
  ⟨kp_heap k, Sub.refl g, fun _ _ e => .inl e, fun b x e => kp_heap k b x (o.ins b x e), k.2, fun t x e => ⟨(o.tks t x e).1, Nat.lt_of_lt_of_le (o.tks t x e).2 k.2⟩⟩
theorem Ok.stay {g : Froz} {s s' : Shared} (o : Ok hb g s) (k : Kp s s') : Ok hb g s' := o.grow (o.at k)
theorem Rd.stay {g : Froz} {s s' : Shared} {env : Env} {σ : St} (o : Ok hb g s) (r : Rd prog w g s.heap env σ) (k : Kp s s') : Rd prog w g s'.heap env σ := r.grow (o.at k)
theorem Ok.inb {g : Froz} {s : Shared} (o : Ok hb g s) : ∀ b x, hb.get? b = some x → s.heap.get? b = some x := fun b x e => o.ins b x (o.base b x e)
theorem size_none (h : Heap) : h.get? h.objs.size = none := by
  cases q : h.get? h.objs.size with
  | none => rfl
  | some x => exact absurd (Heap.lt_size q) (Nat.lt_irrefl _)
theorem grow_push {g : Froz} {s : Shared} {ob : Obj} (o : Ok hb g s) (hf : ob.isFreed = false) : Grow g s (g.put s.heap.objs.size ob) { s with heap := s.heap.push ob } :=
  Grow.put (o.at (kp_push s ob)) (Heap.get?_push_size _ hf) (size_none _)
theorem Ok.fresh {g : Froz} {s : Shared} (o : Ok hb g s) : g.ob s.heap.objs.size = none := by
  cases q : g.ob s.heap.objs.size with
  | none => rfl
  | some x => exact absurd (Heap.lt_size (o.ins _ _ q)) (Nat.lt_irrefl _)
theorem Ok.freshT {g : Froz} {s : Shared} (o : Ok hb g s) : g.tk s.toks = none := by
  cases q : g.tk s.toks with
  | none => rfl
  | some x => exact absurd (o.tks _ _ q).2 (Nat.lt_irrefl _)
theorem grow_tok {g : Froz} {s : Shared} (o : Ok hb g s) (x : Str) : Grow g s (g.tok s.toks x) { s with toks := s.toks + 1 } := by
  refine ⟨fun _ _ e => e, ⟨fun _ _ e => e, fun t y e => ?_⟩, fun _ _ e => .inl e, o.ins, Nat.le_succ _, fun t y e => ?_⟩
  · show (if t = s.toks then some x else g.tk t) = some y
    by_cases q : t = s.toks
    · subst q; rw [o.freshT] at e; cases e
    · rw [if_neg q]; exact e
  · have e' : (if t = s.toks then some x else g.tk t) = some y := e
    by_cases q : t = s.toks
    · subst q; exact ⟨Nat.ne_of_gt o.pos, Nat.lt_succ_self _⟩
    · rw [if_neg q] at e'; exact ⟨(o.tks t y e').1, Nat.lt_succ_of_lt (o.tks t y e').2⟩
/-- a new text -/
theorem new_str {g : Froz} {s : Shared} (o : Ok hb g s) (x : Str) {Q : Value → Shared → Prop} (h : ∀ v g' s', Kp s s' → Grow g s g' s' → Rep prog w g' v (.str x) → Q v s') : Q (.str x s.toks) { s with toks := s.toks + 1 } :=
  h _ _ _ (kp_tok1 s) (grow_tok o x) (.str x _ Froz.tok_self)

theorem Ev.le {n m : Nat} {sc : Scope} {σ : St} {e : Expr} {d : D} (h : Ev prog w hb n sc σ e d) (hm : n ≤ m) : Ev prog w hb m sc σ e d := fun A env g s Q E r => h A env g s Q E (r.le hm)
theorem Fn.le {n m : Nat} {f : Value} {ds : List D} {d : D} (h : Fn prog w hb n f ds d) (hm : n ≤ m) : Fn prog w hb m f ds d := fun A g s vs Q E r => h A g s vs Q E (r.le hm)
end
section
variable {prog : Program} {w : World} {hb : Heap} {n : Nat} {sc : Scope} {σ : St}

/-! ### constants, names -/
theorem Ev.int {i : Int} {k : Nat} {pos : Pos} : Ev prog w hb n sc σ (.Constant (.int i) k pos) (.int i) := fun A env g s Q E _ _ o _ h =>
  wpAny_Constant_int (h _ g _ (kp_tok1 s) (o.at (kp_tok1 s)) (.int i _))
theorem Ev.str {x : Str} {k : Nat} {pos : Pos} : Ev prog w hb n sc σ (.Constant (.str x) k pos) (.str x) := fun A env g s Q E _ _ o _ h =>
  wpAny_Constant_str (new_str o x h)
theorem Ev.bool {b : Bool} {k : Nat} {pos : Pos} : Ev prog w hb n sc σ (.Constant (.bool b) k pos) (.bool b) := fun A env g s Q E _ _ o _ h =>
  wpAny_Constant_bool (h _ g _ (kp_refl s) (o.at (kp_refl s)) (.bool b))
theorem Ev.none {k : Nat} {pos : Pos} : Ev prog w hb n sc σ (.Constant .none k pos) .none := fun A env g s Q E _ _ o _ h =>
  wpAny_Constant_none (h _ g _ (kp_refl s) (o.at (kp_refl s)) .none)
theorem load_loc {M : Model} {A : Around} {E : Value → Shared → Prop} {s : Shared} {env : Env} {x : Str} {v : Value} {Q : Value → Shared → Prop} (hk : env.scope.kind = .function) (l : Loc s.heap env x v) (h : Q v s)
    (hn : (x == ("__classdict__" : Str)) = false := by decide) : wpAny M A (loadName env x) Q E s := by
  rcases l with ⟨k, m, hn', hm⟩ | ⟨k | k, c, hc, hi⟩
  · exact wpAny_loadName_local hk k hn' hm h
  · exact wpAny_loadName_cell hk k hc hi h
  · exact wpAny_loadName_free hk k hc hi h hn
theorem Ev.name {x : Str} {pos : Pos} {d : D} (hx : σ x = some d) (hd : (x == ("__debug__" : Str)) = false := by decide) (hn : (x == ("__classdict__" : Str)) = false := by decide) : Ev prog w hb n sc σ (.Name x pos) d := fun A env g s Q E _ eo o r h => by
  obtain ⟨v, l, q⟩ := r x d hx
  exact wpAny_Name (load_loc (by rw [eo.scope]; exact eo.kind) l (h v g s (kp_refl s) (o.at (kp_refl s)) q) hn) hd

/-! ### operations -/
variable (prog w hb)
def Op2 (n : Nat) (t : Value → Value → Sem Value) (d₁ d₂ d : D) : Prop :=
  ∀ (A : Around) (g : Froz) (s : Shared) (v₁ v₂ : Value) (Q : Value → Shared → Prop) (E : Value → Shared → Prop), Rm n A → Ok hb g s → Rep prog w g v₁ d₁ → Rep prog w g v₂ d₂ →
    (∀ v g' s', Kp s s' → Grow g s g' s' → Rep prog w g' v d → Q v s') → wpAny (model prog w) A (t v₁ v₂) Q E s
def Op1 (n : Nat) (t : Value → Sem Value) (d₁ d : D) : Prop :=
  ∀ (A : Around) (g : Froz) (s : Shared) (v₁ : Value) (Q : Value → Shared → Prop) (E : Value → Shared → Prop), Rm n A → Ok hb g s → Rep prog w g v₁ d₁ →
    (∀ v g' s', Kp s s' → Grow g s g' s' → Rep prog w g' v d → Q v s') → wpAny (model prog w) A (t v₁) Q E s
def Tru (n : Nat) (d : D) (b : Bool) : Prop :=
  ∀ (A : Around) (g : Froz) (s : Shared) (v : Value) (Q : Bool → Shared → Prop) (E : Value → Shared → Prop), Rm n A → Ok hb g s → Rep prog w g v d →
    (∀ s', Kp s s' → Q b s') → wpAny (model prog w) A (truthy v) Q E s
variable {prog w hb}
theorem Ev.bin {l r : Expr} {op : Operator} {pos : Pos} {d₁ d₂ d : D} (hl : Ev prog w hb n sc σ l d₁) (hr : Ev prog w hb n sc σ r d₂) (ho : Op2 prog w hb n (binaryOp op) d₁ d₂ d) : Ev prog w hb n sc σ (.BinOp l op r pos) d :=
  fun A env g s Q E rm eo o rd h => wpAny_BinOp (hl A env g s _ _ rm eo o rd fun v₁ g₁ s₁ k₁ G₁ q₁ => hr A env g₁ s₁ _ _ rm eo (o.grow G₁) (rd.grow G₁) fun v₂ g₂ s₂ k₂ G₂ q₂ =>
    ho A g₂ s₂ v₁ v₂ _ _ rm ((o.grow G₁).grow G₂) (q₁.mono G₂.sub) q₂ fun v g' s' k G q => h v g' s' (kp_trans k₁ (kp_trans k₂ k)) ((G₁.trans G₂).trans G) q)
theorem Ev.cmp {l r : Expr} {op : CmpOp} {pos : Pos} {d₁ d₂ d : D} (hl : Ev prog w hb n sc σ l d₁) (hr : Ev prog w hb n sc σ r d₂) (ho : Op2 prog w hb n (compareOp op) d₁ d₂ d)
    (hm : behindInMarks op r = false := by with_unfolding_all rfl) : Ev prog w hb n sc σ (.Compare l [op] [r] pos) d :=
  fun A env g s Q E rm eo o rd h => wpAny_Compare1 (hl A env g s _ _ rm eo o rd fun v₁ g₁ s₁ k₁ G₁ q₁ => hr A env g₁ s₁ _ _ rm eo (o.grow G₁) (rd.grow G₁) fun v₂ g₂ s₂ k₂ G₂ q₂ =>
    ho A g₂ s₂ v₁ v₂ _ _ rm ((o.grow G₁).grow G₂) (q₁.mono G₂.sub) q₂ fun v g' s' k G q => h v g' s' (kp_trans k₁ (kp_trans k₂ k)) ((G₁.trans G₂).trans G) q) hm
theorem Ev.un {x : Expr} {op : UnaryOp} {pos : Pos} {d₁ d : D} (hl : Ev prog w hb n sc σ x d₁) (ho : Op1 prog w hb n (unaryOp op) d₁ d) : Ev prog w hb n sc σ (.UnaryOp op x pos) d :=
  fun A env g s Q E rm eo o rd h => wpAny_UnaryOp (hl A env g s _ _ rm eo o rd fun v₁ g₁ s₁ k₁ G₁ q₁ =>
    ho A g₁ s₁ v₁ _ _ rm (o.grow G₁) q₁ fun v g' s' k G q => h v g' s' (kp_trans k₁ k) (G₁.trans G) q)

section
variable {a b : Int}
theorem op_add_int : Op2 prog w hb n (binaryOp .Add) (.int a) (.int b) (.int (a + b)) := fun A g s v₁ v₂ Q E _ o q₁ q₂ h => by
  cases q₁; cases q₂; exact P.add_int (h _ g _ (kp_tok1 s) (o.at (kp_tok1 s)) (.int _ _))
theorem op_sub_int : Op2 prog w hb n (binaryOp .Sub) (.int a) (.int b) (.int (a - b)) := fun A g s v₁ v₂ Q E _ o q₁ q₂ h => by
  cases q₁; cases q₂; exact P.sub_int (h _ g _ (kp_tok1 s) (o.at (kp_tok1 s)) (.int _ _))
theorem op_mul_int (hm : IntMulOk a b) : Op2 prog w hb n (binaryOp .Mult) (.int a) (.int b) (.int (a * b)) := fun A g s v₁ v₂ Q E _ o q₁ q₂ h => by
  cases q₁; cases q₂; exact P.mul_int (h _ g _ (kp_tok1 s) (o.at (kp_tok1 s)) (.int _ _)) hm
theorem op_neg_int : Op1 prog w hb n (unaryOp .USub) (.int a) (.int (-a)) := fun A g s v₁ Q E _ o q₁ h => by
  cases q₁; exact P.neg_int (h _ g _ (kp_tok1 s) (o.at (kp_tok1 s)) (.int _ _))
theorem op_eq_int : Op2 prog w hb n (compareOp .Eq) (.int a) (.int b) (.bool (a == b)) := fun A g s v₁ v₂ Q E _ o q₁ q₂ h => by
  cases q₁; cases q₂; exact P.eq_int (h _ g _ (kp_refl s) (o.at (kp_refl s)) (.bool _))
theorem op_ne_int : Op2 prog w hb n (compareOp .NotEq) (.int a) (.int b) (.bool (a != b)) := fun A g s v₁ v₂ Q E _ o q₁ q₂ h => by
  cases q₁; cases q₂; exact P.ne_int (h _ g _ (kp_refl s) (o.at (kp_refl s)) (.bool _))
theorem op_ge_int : Op2 prog w hb n (compareOp .GtE) (.int a) (.int b) (.bool (decide (a ≥ b))) := fun A g s v₁ v₂ Q E _ o q₁ q₂ h => by
  cases q₁; cases q₂; exact P.ge_int (h _ g _ (kp_refl s) (o.at (kp_refl s)) (.bool _))
theorem op_le_int : Op2 prog w hb n (compareOp .LtE) (.int a) (.int b) (.bool (decide (a ≤ b))) := fun A g s v₁ v₂ Q E _ o q₁ q₂ h => by
  cases q₁; cases q₂; exact P.le_int (h _ g _ (kp_refl s) (o.at (kp_refl s)) (.bool _))
theorem op_iadd_int : Op2 prog w hb n (inplaceOp .Add) (.int a) (.int b) (.int (a + b)) := fun A g s v₁ v₂ Q E _ o q₁ q₂ h => by
  cases q₁; cases q₂; exact P.iadd_int (h _ g _ (kp_tok1 s) (o.at (kp_tok1 s)) (.int _ _))
theorem op_floordiv_int (h0 : b ≠ 0) (hp : Builtin.divisionGoesByPylong a b = false) : Op2 prog w hb n (binaryOp .FloorDiv) (.int a) (.int b) (.int (a.fdiv b)) := fun A g s v₁ v₂ Q E _ o q₁ q₂ h => by
  cases q₁; cases q₂; exact floordiv_int h0 (h _ g _ (kp_tok1 s) (o.at (kp_tok1 s)) (.int _ _)) (.inl hp)
theorem op_pow_int (h0 : 0 ≤ b) (hsz : (Builtin.Int.intBits a : Int) * b ≤ 2 ^ 27) : Op2 prog w hb n (binaryOp .Pow) (.int a) (.int b) (.int (a ^ b.toNat)) := fun A g s v₁ v₂ Q E _ o q₁ q₂ h => by
  cases q₁; cases q₂; exact pow_int h0 hsz (h _ g _ (kp_tok1 s) (o.at (kp_tok1 s)) (.int _ _))
end
theorem op_eq_bool {a b : Bool} : Op2 prog w hb n (compareOp .Eq) (.bool a) (.bool b) (.bool (a == b)) := fun A g s v₁ v₂ Q E _ o q₁ q₂ h => by
  cases q₁; cases q₂; exact eq_bool (h _ g _ (kp_refl s) (o.at (kp_refl s)) (.bool _))
theorem str_beq (x y : Str) : (x.cps.toList == y.cps.toList) = decide (x = y) := by
  obtain ⟨⟨a⟩⟩ := x
  obtain ⟨⟨b⟩⟩ := y
  simp only [Str.mk.injEq, Array.mk.injEq]
  by_cases h : a = b
  · simp [h]
  · simp [h]
theorem op_eq_str {x y : Str} : Op2 prog w hb n (compareOp .Eq) (.str x) (.str y) (.bool (decide (x = y))) := fun A g s v₁ v₂ Q E _ o q₁ q₂ h => by
  cases q₁; cases q₂; rw [← str_beq] at h; exact P.eq_str (h _ g _ (kp_refl s) (o.at (kp_refl s)) (.bool _))
theorem op_add_str {x y : Str} (hl : (x ++ y).length ≤ sizeLine) : Op2 prog w hb n (binaryOp .Add) (.str x) (.str y) (.str (x ++ y)) := fun A g s v₁ v₂ Q E _ o q₁ q₂ h => by
  cases q₁; cases q₂
  rename_i t ht u hu
  refine P.add_str ?_
  split
  · rename_i e
    have e' : x = Str.empty := by
      obtain ⟨⟨a⟩⟩ := x
      have : a.length = 0 := by simpa [Str.length] using e
      have : a = [] := List.eq_nil_of_length_eq_zero this
      subst this; rfl
    subst e'
    refine h _ g _ (kp_refl s) (o.at (kp_refl s)) ?_
    have : Str.empty ++ y = y := Str.empty_append y
    rw [this]; exact .str _ _ hu
  · split
    · rename_i e
      have e' : y = Str.empty := by
        obtain ⟨⟨a⟩⟩ := y
        have : a.length = 0 := by simpa [Str.length] using e
        have : a = [] := List.eq_nil_of_length_eq_zero this
        subst this; rfl
      subst e'
      refine h _ g _ (kp_refl s) (o.at (kp_refl s)) ?_
      have : x ++ Str.empty = x := by
        obtain ⟨⟨a⟩⟩ := x
        show Str.mk (_ ++ _) = _
        simp [Str.empty]
      rw [this]; exact .str _ _ ht
    · exact ⟨hl, new_str o _ h⟩

/-! ### tests -/
theorem tru_bool {b : Bool} : Tru prog w hb n (.bool b) b := fun A g s v Q E _ o q h => by cases q; exact wpAny_truthy_bool (h s (kp_refl s))
theorem tru_none : Tru prog w hb n .none false := fun A g s v Q E _ o q h => by cases q; exact (fun _ _ _ => h s (kp_refl s))
theorem Tr.val {e : Expr} {d : D} {b : Bool} (he : Ev prog w hb n sc σ e d) (ht : Tru prog w hb n d b)
    (hi : ∀ env : Env, isTrue e env (eval e env) = (do let v ← eval e env; standAt e.pos; holding [v] (truthy v)) := by intro _; rfl) : Tr prog w hb n sc σ e b :=
  fun A env g s Q E rm eo o rd h => wpAny_isTrue_value (he A env g s _ _ rm eo o rd fun v g' s' k G q => ht A g' s' v _ _ rm (o.grow G) q fun s'' k' => h s'' (kp_trans k k')) (hi env)
theorem Tr.cmp {l r : Expr} {op : CmpOp} {pos : Pos} {d₁ d₂ : D} {b : Bool} (hl : Ev prog w hb n sc σ l d₁) (hr : Ev prog w hb n sc σ r d₂) (ho : Op2 prog w hb n (compareOp op) d₁ d₂ (.bool b))
    (hm : behindInMarks op r = false := by with_unfolding_all rfl) : Tr prog w hb n sc σ (.Compare l [op] [r] pos) b :=
  fun A env g s Q E rm eo o rd h => wpAny_isTrue_Compare1 (hl A env g s _ _ rm eo o rd fun v₁ g₁ s₁ k₁ G₁ q₁ => hr A env g₁ s₁ _ _ rm eo (o.grow G₁) (rd.grow G₁) fun v₂ g₂ s₂ k₂ G₂ q₂ =>
    ho A g₂ s₂ v₁ v₂ _ _ rm ((o.grow G₁).grow G₂) (q₁.mono G₂.sub) q₂ fun v g' s' k G q => by cases q; exact wpAny_truthy_bool (h s' (kp_trans k₁ (kp_trans k₂ k)))) hm
theorem Tr.not {x : Expr} {pos : Pos} {b : Bool} (h : Tr prog w hb n sc σ x b) : Tr prog w hb n sc σ (.UnaryOp .Not x pos) (!b) :=
  fun A env g s Q E rm eo o rd hq => wpAny_isTrue_Not (h A env g s _ _ rm eo o rd fun s' k => hq s' k)
variable (prog w hb) in
def TrAll (op : BoolOp) (n : Nat) (sc : Scope) (σ : St) (es : List Expr) (b : Bool) : Prop :=
  ∀ (A : Around) (env : Env) (g : Froz) (s : Shared) (Q : Bool → Shared → Prop) (E : Value → Shared → Prop), Rm n A → EnvOk sc env → Ok hb g s → Rd prog w g s.heap env σ →
    (∀ s', Kp s s' → Q b s') → wpAny (model prog w) A (allTrue op es env) Q E s
theorem TrAll.or_nil : TrAll prog w hb .Or n sc σ [] false := fun A env g s Q E _ _ o _ h => wpAny_allTrue_Or_nil (h s (kp_refl s))
theorem TrAll.and_nil : TrAll prog w hb .And n sc σ [] true := fun A env g s Q E _ _ o _ h => wpAny_allTrue_And_nil (h s (kp_refl s))
theorem TrAll.or_tt {x : Expr} {es : List Expr} (h : Tr prog w hb n sc σ x true) : TrAll prog w hb .Or n sc σ (x :: es) true := fun A env g s Q E rm eo o rd hq =>
  wpAny_allTrue_Or_cons (h A env g s _ _ rm eo o rd fun s' k => by simpa using hq s' k)
theorem TrAll.or_ff {x : Expr} {es : List Expr} {b : Bool} (h : Tr prog w hb n sc σ x false) (h' : TrAll prog w hb .Or n sc σ es b) : TrAll prog w hb .Or n sc σ (x :: es) b := fun A env g s Q E rm eo o rd hq =>
  wpAny_allTrue_Or_cons (h A env g s _ _ rm eo o rd fun s' k => by simpa using h' A env g s' _ _ rm eo (o.stay k) (rd.stay o k) fun s'' k' => hq s'' (kp_trans k k'))
theorem TrAll.and_ff {x : Expr} {es : List Expr} (h : Tr prog w hb n sc σ x false) : TrAll prog w hb .And n sc σ (x :: es) false := fun A env g s Q E rm eo o rd hq =>
  wpAny_allTrue_And_cons (h A env g s _ _ rm eo o rd fun s' k => by simpa using hq s' k)
theorem TrAll.and_tt {x : Expr} {es : List Expr} {b : Bool} (h : Tr prog w hb n sc σ x true) (h' : TrAll prog w hb .And n sc σ es b) : TrAll prog w hb .And n sc σ (x :: es) b := fun A env g s Q E rm eo o rd hq =>
  wpAny_allTrue_And_cons (h A env g s _ _ rm eo o rd fun s' k => by simpa using h' A env g s' _ _ rm eo (o.stay k) (rd.stay o k) fun s'' k' => hq s'' (kp_trans k k'))
theorem Tr.boolOp {op : BoolOp} {es : List Expr} {pos : Pos} {b : Bool} (h : TrAll prog w hb op n sc σ es b) : Tr prog w hb n sc σ (.BoolOp op es pos) b := fun A env g s Q E rm eo o rd hq =>
  wpAny_isTrue_BoolOp (h A env g s _ _ rm eo o rd hq)
/-- `x or y` of two tests, by values -/
theorem TrAll.or2 {x y : Expr} {b c : Bool} (h : Tr prog w hb n sc σ x b) (h' : b = false → Tr prog w hb n sc σ y c) : TrAll prog w hb .Or n sc σ [x, y] (b || c) := by
  cases b with
  | true => exact TrAll.or_tt h
  | false =>
    cases c with
    | true => exact TrAll.or_ff h (TrAll.or_tt (h' rfl))
    | false => exact TrAll.or_ff h (TrAll.or_ff (h' rfl) TrAll.or_nil)
theorem TrAll.and2 {x y : Expr} {b c : Bool} (h : Tr prog w hb n sc σ x b) (h' : b = true → Tr prog w hb n sc σ y c) : TrAll prog w hb .And n sc σ [x, y] (b && c) := by
  cases b with
  | false => exact TrAll.and_ff h
  | true =>
    cases c with
    | false => exact TrAll.and_tt h (TrAll.and_ff (h' rfl))
    | true => exact TrAll.and_tt h (TrAll.and_tt (h' rfl) TrAll.and_nil)
/-- `x and y` as a value, both bools -/
theorem Ev.and2 {x y : Expr} {pos : Pos} {b c : Bool} (hx : Ev prog w hb n sc σ x (.bool b)) (hy : b = true → Ev prog w hb n sc σ y (.bool c)) : Ev prog w hb n sc σ (.BoolOp .And [x, y] pos) (.bool (b && c)) :=
  fun A env g s Q E rm eo o rd h => wpAny_And2 (hx A env g s _ _ rm eo o rd fun v g₁ s₁ k₁ G₁ q₁ => by
    cases q₁
    refine wpAny_truthy_bool ?_
    cases b with
    | false => exact h _ g₁ s₁ k₁ G₁ (.bool _)
    | true => exact hy rfl A env g₁ s₁ _ _ rm eo (o.grow G₁) (rd.grow G₁) fun v g' s' k G q => h v g' s' (kp_trans k₁ k) (G₁.trans G) (by simpa using q))

/-! ### argument rows, displays -/
theorem Evs.nil : Evs prog w hb n sc σ [] [] := fun A env pos g s Q E _ _ o _ h => wpAny_items_nil (h [] g s (kp_refl s) (o.at (kp_refl s)) .nil)
theorem Evs.cons {e : Expr} {es : List Expr} {d : D} {ds : List D} (he : Ev prog w hb n sc σ e d) (hes : Evs prog w hb n sc σ es ds)
    (hst : ∀ env : Env, starEach (e :: es) env = (false, eval e env) :: starEach es env := by intro _; rfl) : Evs prog w hb n sc σ (e :: es) (d :: ds) :=
  fun A env pos g s Q E rm eo o rd h => wpAny_items_cons (he A env g s _ _ rm eo o rd fun v g₁ s₁ k₁ G₁ q₁ => hes A env pos g₁ s₁ _ _ rm eo (o.grow G₁) (rd.grow G₁) fun vs g₂ s₂ k₂ G₂ q₂ =>
    h _ g₂ s₂ (kp_trans k₁ k₂) (G₁.trans G₂) (.cons (q₁.mono G₂.sub) q₂)) (hst env)
theorem Ev.list {es : List Expr} {pos : Pos} {ds : List D} (h : Evs prog w hb n sc σ es ds) (hl : ds.length ≤ sizeLine) : Ev prog w hb n sc σ (.List es pos) (.list ds) :=
  fun A env g s Q E rm eo o rd hq => wpAny_List (h A env pos g s _ _ rm eo o rd fun vs g₁ s₁ k₁ G₁ q₁ => ⟨by rw [q₁.length]; exact hl, hq _ (g₁.put s₁.heap.objs.size (lstO vs 0)) _ (kp_trans k₁ (kp_push _ _))
    (G₁.trans (grow_push (o.grow G₁) rfl)) (.list Froz.put_self (q₁.mono (Froz.put_sub (o.grow G₁).fresh)))⟩)
theorem Ev.tup {es : List Expr} {k : Nat} {pos : Pos} {ds : List D} (h : Evs prog w hb n sc σ es ds) (hl : ds.length ≤ sizeLine) : Ev prog w hb n sc σ (.Tuple es k pos) (.tup ds) :=
  fun A env g s Q E rm eo o rd hq => wpAny_Tuple (h A env pos g s _ _ rm eo o rd fun vs g₁ s₁ k₁ G₁ q₁ => ⟨by rw [q₁.length]; exact hl, hq _ (g₁.put s₁.heap.objs.size (tupO vs 0)) _ (kp_trans k₁ (kp_push _ _))
    (G₁.trans (grow_push (o.grow G₁) rfl)) (.tup Froz.put_self (q₁.mono (Froz.put_sub (o.grow G₁).fresh)))⟩)
end
/-- what the top gives -/
structure Bs (K : Frag) (hb : Heap) : Prop where
  inK : K.In hb
  gl : ∃ mg, hb.Ns mainGlobals mg
  bl : ∃ mb, hb.Ns builtinsNs mb ∧ ∀ x : Str, x ≠ "__name__" → mb x = bootBuiltins x
  nolimit : hb.NoLimit
  nobook : NoneBooked hb

section
variable {prog : Program} {w : World} {hb : Heap} {n : Nat} {sc : Scope} {σ : St} {K : Frag}

variable (prog w hb) in
/-- a name that is a callee -/
def Cal (sc : Scope) (e : Expr) (f : Value) : Prop :=
  ∀ (A : Around) (env : Env) (g : Froz) (s : Shared) (Q : Value → Shared → Prop) (E : Value → Shared → Prop), EnvOk sc env → Ok hb g s → Q f s → wpAny (model prog w) A (eval e env) Q E s
theorem Cal.glob {x : Str} {p : Pos} {f : Value} (B : Bs K hb) (hx : sc.names.lookup x = some .globalImplicit) (hf : nsIn K mainGlobals x = some (some f)) (hd : (x == ("__debug__" : Str)) = false := by decide) : Cal prog w hb sc (.Name x p) f :=
  fun A env g s Q E eo o h => by
    obtain ⟨mg, hg⟩ := B.gl
    exact Calls.Name_function_global (by rw [eo.scope]; exact eo.kind) (by unfold Env.kindOf; rw [eo.scope]; exact hx) (Calls.loadGlobal_global (by rw [eo.globals]; exact hg.keeps o.inb) (mg_of B.inK hg hf) h) hd
theorem Cal.boot {x : Str} {p : Pos} {f : Value} (B : Bs K hb) (hx : sc.names.lookup x = some .globalImplicit) (hf : nsIn K mainGlobals x = some none) (hv : bootBuiltins x = some f) (hn : x ≠ "__name__") (hd : (x == ("__debug__" : Str)) = false := by decide) :
    Cal prog w hb sc (.Name x p) f := fun A env g s Q E eo o h => by
    obtain ⟨mg, hg⟩ := B.gl
    obtain ⟨mb, hm, hb'⟩ := B.bl
    exact Calls.Name_function_global (by rw [eo.scope]; exact eo.kind) (by unfold Env.kindOf; rw [eo.scope]; exact hx) (Calls.loadGlobal_builtin (by rw [eo.globals]; exact hg.keeps o.inb) (mg_none_of B.inK hg hf) (by rw [eo.builtins]; exact hm.keeps o.inb) ((hb' x hn).trans hv) h) hd

/-- what may be called plainly -/
inductive Callable (hb : Heap) : Value → Prop where
  | fn {a : Addr} {o : Obj} {fd : FuncData} : hb.get? a = some o → o.data = .func fd → Callable hb (.ref a)
  | builtin (id : String) : Callable hb (.builtin id)
  | type (T : String) : Callable hb (.type T)
theorem Ev.call {x : Str} {p pos : Pos} {e : Expr} {es : List Expr} {f : Value} {ds : List D} {d : D} (hc : Cal prog w hb sc (.Name x p) f) (hcl : Callable hb f) (ha : Evs prog w hb n sc σ (e :: es) ds) (hf : Fn prog w hb n f ds d)
    (hst : ∀ env : Env, starEach (e :: es) env = (false, eval e env) :: starEach es env := by intro _; rfl)
    (hpl : ∀ (env : Env) (pos : Pos), (backTo pos (starEach es env)).any (·.1) = false := by intro _ _; rfl) : Ev prog w hb n sc σ (.Call (.Name x p) (e :: es) [] pos) d := by
  intro A env g s Q E rm eo o rd h
  refine PyProof.Rows.Call_Name rfl (hc A env g s _ _ eo o ?_)
  have ha' := fun (Q' : List Value → Shared → Prop) (E' : Value → Shared → Prop) => ha A env pos g s Q' E' rm eo o rd
  have hp : (backTo pos (starEach (e :: es) env)).any (·.1) = false := by
    rw [hst env]
    show (false || (backTo pos (starEach es env)).any (·.1)) = false
    rw [hpl env pos]; rfl
  have he : ∀ (f : Value) (Q' : Args → Shared → Prop), (∀ vs g' s', Kp s s' → Grow g s g' s' → Reps prog w g' vs ds → Q' ⟨vs, []⟩ s') → wpAny (model prog w) A (evalArgs f true (backTo pos (starEach (e :: es) env)) []) Q' E s := by
    intro f Q' hq
    have := ha' (fun vs s₁ => Q' ⟨vs, []⟩ s₁) E hq
    rw [hst env] at this ⊢
    exact Calls.evalArgs_plain this
  have fin : ∀ vs g' s', Kp s s' → Grow g s g' s' → Reps prog w g' vs ds → wpAny (model prog w) A (PySem.call f ([] ++ vs)) Q E s' := fun vs g' s' k G q =>
    hf A g' s' vs Q E rm (o.grow G) q fun v g'' s'' k' G' q' => h v g'' s'' (kp_trans k k') (G.trans G') q'
  cases hcl with
  | fn ho hd => exact Calls.callWith_function (he _ _ fun vs g' s' k G q => ⟨⟨(o.grow G).inb _ _ ho, hd⟩, fin vs g' s' k G q⟩)
  | builtin id => exact Calls.callWith_builtin hp (he _ _ fin)
  | type T => exact PyProof.Rows.callWith_type hp (he _ _ fin)

/-! ### iteration -/
variable (prog w hb) in
/-- iterating over a datum goes over data -/
def Itr (d : D) (ds : List D) : Prop :=
  ∀ (A : Around) (g : Froz) (s : Shared) (v : Value) (Q : Value → Shared → Prop) (E : Value → Shared → Prop), A.handled = none → Ok hb g s → Rep prog w g v d →
    (∀ (I : Addr) (fp : List Addr) (P : Nat → Value → Prop) (S : Nat → Heap → Prop) (s' : Shared), Kp s s' → Walks prog w A I fp [I] ds.length P S → (∀ i h, S i h → ∃ o, h.get? I = some o) → S 0 s'.heap → s.heap.get? I = none → (∀ b ∈ fp, b < s'.heap.objs.size) →
      (∀ b ∈ fp, b ≠ I → ∃ o, g.ob b = some o) → (∀ i x, i < ds.length → P i x → ∃ d, ds[i]? = some d ∧ Rep prog w g x d) → Q (.ref I) s') → wpAny (model prog w) A (pyIter v) Q E s
theorem walks_len {A : Around} {I : Addr} {fp wr : List Addr} {m m' : Nat} {P : Nat → Value → Prop} {S : Nat → Heap → Prop} (e : m' = m) (W : Walks prog w A I fp wr m P S) : Walks prog w A I fp wr m' P S := by subst e; exact W
theorem itr_list {ds : List D} : Itr prog w hb (.list ds) ds := fun A g s v Q E hh o q h => by
  cases q with
  | list e r =>
    rename_i a vs m
    have hl : s.heap.IsList a vs.toArray := ⟨_, o.ins _ _ e, rfl, m, rfl⟩
    have hlt : a < s.heap.objs.size := Heap.lt_size (o.ins _ _ e)
    have W := Walks.list (prog := prog) (w := w) hh s.heap.objs.size a (Nat.ne_of_lt hlt) vs.toArray
    have hs : vs.toArray.size = ds.length := by simp [r.length]
    rw [hs] at W
    refine wpAny_pyIter_list hl (h s.heap.objs.size [s.heap.objs.size, a] _ _ _ (kp_push _ _) W (fun i h st => let ⟨o, ho, _⟩ := st.1; ⟨o, ho⟩) ⟨⟨_, Heap.get?_push_size _ rfl, rfl, rfl⟩, hl.push _⟩ (size_none _) ?_ ?_ ?_)
    · intro b hb'
      show b < (s.heap.push _).objs.size
      rw [Heap.size_push]
      rcases List.mem_cons.mp hb' with rfl | hb'
      · exact Nat.lt_succ_self _
      · rw [List.mem_singleton.mp hb']; exact Nat.lt_succ_of_lt hlt
    · intro b hb' hne
      rcases List.mem_cons.mp hb' with rfl | hb'
      · exact absurd rfl hne
      · rw [List.mem_singleton.mp hb']; exact ⟨_, e⟩
    · intro i x _ hx
      exact r.get' (by simpa using hx)
/-- a dict whose entries are known to the sign -/
def DictEs (prog : Program) (w : World) (h : Heap) (d : Addr) (es : Array DictEntry) (kvs : List (Str × Value)) (ep : Nat) : Prop :=
  ∃ o, h.get? d = some o ∧ o.ExactDict ∧ o.data = .dict es ep ∧ KeysOf (strKind prog w) es ∧ Pairs (strKind prog w) es.toList kvs ∧ (kvs.map (·.1)).Nodup
theorem DictEs.at {h h' : Heap} {d : Addr} {es : Array DictEntry} {kvs : List (Str × Value)} {ep : Nat} (x : DictEs prog w h d es kvs ep) (e : ∀ o, h.get? d = some o → h'.get? d = some o) : DictEs prog w h' d es kvs ep := let ⟨o, ho, r⟩ := x; ⟨o, e o ho, r⟩
theorem DictEs.dictAt {h : Heap} {d : Addr} {es : Array DictEntry} {kvs : List (Str × Value)} {ep : Nat} (x : DictEs prog w h d es kvs ep) : h.DictAt (strKind prog w) d kvs ep := let ⟨o, ho, r⟩ := x; ⟨o, es, ho, r⟩
theorem DictEs.size {h : Heap} {d : Addr} {es : Array DictEntry} {kvs : List (Str × Value)} {ep : Nat} (x : DictEs prog w h d es kvs ep) : es.size = kvs.length := by
  obtain ⟨o, ho, _, _, _, hp, _⟩ := x
  rw [← hp.length]; simp
theorem next_key {A : Around} {E : Value → Shared → Prop} {s : Shared} {it d : Addr} {i ep : Nat} {es : Array DictEntry} {kvs : List (Str × Value)} {Q : Option Value → Shared → Prop} (hit : s.heap.IsKeyIter it d i kvs.length ep) (hm : DictEs prog w s.heap d es kvs ep) (hi : i < es.size)
    (hQ : ∀ h', h'.IsKeyIter it d (i + 1) kvs.length ep → Heap.SameBut it s.heap h' → Q (some es[i].key) { s with heap := h' }) : wpAny (model prog w) A (pyNext (.ref it)) Q E s := by
  have hsz := hm.size
  obtain ⟨oi, hoi, hci, hdi⟩ := id hit
  obtain ⟨od, hod, _, hdd, _, _, _⟩ := id hm
  have hT := hit.typeIs
  unfold pyNext
  refine wpAny_bind (wpAny_attempt (wpAny_callSpecial?_slot (name := Str.ofString "__next__") hT F.slot_dict_keyiterator_next
    (wpAny_call_entry F.slot_dict_keyiterator_next hT F.entry_dict_keyiterator_next ?_ (F.args_dict_keyiterator_next_1 _))))
  refine wpAny_bind (wpAny_pure (wpAny_bind (wpAny_bind ?_)))
  refine wpAny_bind (wpAny_typeNameOfWhole_keyiter hT (wpAny_pure ?_))
  refine wpAny_bind (wpAny_fieldsOf hoi hdi ?_)
  simp only [show Builtin.Dict_items.ownsTuple "dict_keyiterator" = false by decide, Bool.false_eq_true, if_false]
  show wpAny _ _ (if (Value.ref d == Value.none) = true then _ else _) _ _ s
  rw [if_neg (show ¬ ((Value.ref d == Value.none) = true) from Bool.false_ne_true)]
  refine wpAny_bind (wpAny_pure (wpAny_bind (wpAny_dictEntries hod hdd ?_)))
  rw [if_neg (by rw [hsz]; simp)]
  refine wpAny_bind (wpAny_pure (wpAny_bind (wpAny_dictEpoch hod hdd ?_)))
  rw [if_neg (by simp)]
  refine wpAny_pure ?_
  simp only [show ¬ ((i : Int) < 0) from by omega, if_false, Int.toNat_natCast, Array.getElem?_eq_getElem hi]
  refine wpAny_bind ?_
  refine wpAny_bind (wpAny_typeNameOfWhole_keyiter hT (wpAny_pure ?_))
  refine wpAny_bind (wpAny_isOneOf_keyiter hT ?_)
  show wpAny _ _ (setField (.ref it) 1 (rawInt ((i : Int) + 1)) >>= _) _ _ s
  refine wpAny_bind (wpAny_setField hoi hdi (by simp) ?_)
  have hit' : (s.heap.update it (Obj.mapFields (·.setIfInBounds 1 (rawInt ((i : Int) + 1))))).IsKeyIter it d (i + 1) kvs.length ep :=
    ⟨_, Heap.get?_update_self _ hoi (Obj.isFreed_of_fields (Obj.data_mapFields hdi _)), (Obj.cls_mapFields ..).trans hci, by rw [Obj.data_mapFields hdi]; simp [rawInt]⟩
  refine wpAny_bind (wpAny_holding (wpAny_bind (wpAny_isOneOf_keyiter (s := { s with heap := s.heap.update it (Obj.mapFields (·.setIfInBounds 1 (rawInt ((i : Int) + 1)))) }) hit'.typeIs ?_)))
  show wpAny _ _ (pure es[i].key) _ _ _
  exact wpAny_pure (wpAny_pure ⟨_, rfl, wpAny_pure (hQ _ hit' (Heap.SameBut.update ..))⟩)
theorem walks_keys {A : Around} (hh : A.handled = none) (I d : Addr) (hne : d ≠ I) (es : Array DictEntry) (kvs : List (Str × Value)) (ep : Nat) :
    Walks prog w A I [I, d] [I] kvs.length (fun i v => ∃ e, es[i]? = some e ∧ v = e.key) (fun i h => h.IsKeyIter I d i kvs.length ep ∧ DictEs prog w h d es kvs ep) where
  sub := fun b hb => by simp at hb; simp [hb]
  frame := fun _ _ _ st hk => ⟨st.1.at fun o e => hk I (by simp) o e, st.2.at fun o e => hk d (by simp) o e⟩
  item := fun i s Q E hi st hQ => by
    have hi' : i < es.size := by rw [st.2.size]; exact hi
    refine next_key st.1 st.2 hi' fun h' hit' hs' => ?_
    exact hQ _ h' s.toks ⟨es[i], by simp [hi'], rfl⟩ ⟨hit', st.2.at fun o e => hs'.extBut d o hne e⟩ fun b o hb e => hs'.extBut b o (fun h => hb (by simp [h])) e
  done := fun s Q E st hQ => wpAny_pyNext_dict_end hh st.1 st.2.dictAt (by simp) fun h' he' => hQ h' s.toks fun b o hb e => he' b o (fun h => hb (by simp [h])) e
  self := fun _ _ _ _ st hQ => wpAny_pyIter_keyiter st.1 hQ
theorem pairs_key : ∀ {es : List DictEntry} {kvs : List (Str × Value)}, Pairs (strKind prog w) es kvs → ∀ {i : Nat} {e : DictEntry}, es[i]? = some e → ∃ k v, kvs[i]? = some (k, v) ∧ (strKind prog w).is k e.key = true
  | _, _, .nil, i, e, h => by simp at h
  | _, _, .cons (kv := kv) h1 h2 h3, 0, e, h => by simp at h; subst h; exact ⟨kv.1, kv.2, by simp, h1⟩
  | _, _, .cons h1 h2 h3, i + 1, e, h => by
    obtain ⟨k, v, h4, h5⟩ := pairs_key h3 (i := i) (e := e) (by simpa using h)
    exact ⟨k, v, by simpa using h4, h5⟩
theorem itr_dict {ds : List (Str × D)} : Itr prog w hb (.dict ds) (ds.map fun p => .str p.1) := fun A g s v Q E hh o q h => by
  cases q with
  | @dict a ob kvs _ e hd hkt hs r =>
    obtain ⟨es, ep, hx, hdat, hko, hpr, hnd⟩ := id hd
    have hA : DictEs prog w s.heap a es kvs ep := ⟨ob, o.ins _ _ e, hx, hdat, hko, hpr, hnd⟩
    have hlt : a < s.heap.objs.size := Heap.lt_size (o.ins _ _ e)
    have W := walks_keys (prog := prog) (w := w) hh s.heap.objs.size a (Nat.ne_of_lt hlt) es kvs ep
    have hs' : (ds.map fun p => D.str p.1).length = kvs.length := by simp [r.length]
    have W' := walks_len hs' W
    refine wpAny_pyIter_dict hs hA.dictAt (h s.heap.objs.size [s.heap.objs.size, a] _ _ _ (kp_push _ _) W' (fun i h st => let ⟨o, ho, _⟩ := st.1; ⟨o, ho⟩) ⟨⟨_, Heap.get?_push_size _ rfl, rfl, rfl⟩, hA.at fun o e => Heap.get?_push_of_some _ e⟩ (size_none _) ?_ ?_ ?_)
    · intro b hb'
      show b < (s.heap.push _).objs.size
      rw [Heap.size_push]
      rcases List.mem_cons.mp hb' with rfl | hb'
      · exact Nat.lt_succ_self _
      · rw [List.mem_singleton.mp hb']; exact Nat.lt_succ_of_lt hlt
    · intro b hb' hne
      rcases List.mem_cons.mp hb' with rfl | hb'
      · exact absurd rfl hne
      · rw [List.mem_singleton.mp hb']; exact ⟨_, e⟩
    · rintro i x _ ⟨en, hk, rfl⟩
      obtain ⟨k, y, hkv, hxk⟩ := pairs_key hpr (i := i) (e := en) (by simpa using hk)
      have hkeys := r.keys
      have h1 : (kvs.map (·.1))[i]? = some k := by simp [hkv]
      rw [hkeys] at h1
      obtain ⟨k', t, hkt1, hkt2⟩ := hkt es ep hdat en (Array.mem_of_getElem? hk)
      obtain ⟨t', ht'⟩ := Value.isStrOf_shape (x := k) (v := en.key) hxk
      rw [hkt1] at ht'
      injection ht' with e1 e2
      subst e1
      refine ⟨.str k', ?_, by rw [hkt1]; exact .str k' t hkt2⟩
      rw [List.getElem?_map] at h1 ⊢
      cases q : ds[i]? with
      | none => rw [q] at h1; cases h1
      | some p => rw [q] at h1; simp at h1; simp [h1]
theorem itr_range {a b c : Int} {m : Nat} (hsm : Builtin.Range.small a b c = true) (hm : Builtin.Range.rangeSize a b c = (m : Int)) : Itr prog w hb (.range a b c) ((List.range m).map fun (i : Nat) => D.int (a + i * c)) := fun A g s v Q E hh o q h => by
  cases q with
  | range e =>
    rename_i r t u x
    have W := Walks.range (prog := prog) (w := w) hh s.heap.objs.size a c m
    have hs : ((List.range m).map fun (i : Nat) => D.int (a + i * c)).length = m := by simp
    have W' := walks_len hs W
    refine wpAny_pyIter_range (o.ins _ _ e) hsm (h s.heap.objs.size [s.heap.objs.size] _ _ _ (kp_push _ _) W' (fun i h st => ⟨_, st⟩) ?_ (size_none _) ?_ ?_ ?_)
    · show IsRangeIter _ _ _ _ _
      have := Heap.get?_push_size s.heap (o := { cls := .type "range_iterator", data := .fields #[rawInt a, rawInt (Builtin.Range.rangeSize a b c), rawInt c] }) rfl
      simpa [IsRangeIter, hm] using this
    · intro b' hb'
      show b' < (s.heap.push _).objs.size
      rw [Heap.size_push, List.mem_singleton.mp hb']; exact Nat.lt_succ_self _
    · intro b' hb' hne
      exact absurd (List.mem_singleton.mp hb') hne
    · rintro i x hi ⟨t', rfl⟩
      rw [hs] at hi
      exact ⟨.int (a + i * c), by simp [hi], .int _ _⟩
end
section
variable {prog : Program} {w : World} {hb : Heap} {n : Nat} {sc : Scope} {σ : St} {K : Frag}

theorem rep_list {g : Froz} {v : Value} {ds : List D} (q : Rep prog w g v (.list ds)) : ∃ a vs m, v = .ref a ∧ g.ob a = some (lstO vs m) ∧ Reps prog w g vs ds := by
  cases q with | list e r => exact ⟨_, _, _, rfl, e, r⟩
theorem rep_wlist {g : Froz} {v : Value} {ds : List D} (q : Rep prog w g v (.wlist ds)) : ∃ a ob vs m, v = .ref a ∧ g.ob a = some ob ∧ ob.cls = .type "list" ∧ ob.data = .seq (List.toArray vs) m ∧ Reps prog w g vs ds := by
  cases q with | wlist e e1 e2 r => exact ⟨_, _, _, _, rfl, e, e1, e2, r⟩
theorem rep_tup {g : Froz} {v : Value} {ds : List D} (q : Rep prog w g v (.tup ds)) : ∃ a vs m, v = .ref a ∧ g.ob a = some (tupO vs m) ∧ Reps prog w g vs ds := by
  cases q with | tup e r => exact ⟨_, _, _, rfl, e, r⟩
theorem rep_dict {g : Froz} {v : Value} {ds : List (Str × D)} (q : Rep prog w g v (.dict ds)) : ∃ a ob kvs, v = .ref a ∧ g.ob a = some ob ∧ ob.IsDictOf (PySem.strKind prog w) kvs ∧ (a == sysModules) = false ∧ RepsKV prog w g kvs ds := by
  cases q with | dict e e1 e2 e3 r => exact ⟨_, _, _, rfl, e, e1, e3, r⟩
theorem grow_pushT {g : Froz} {s : Shared} {ob : Obj} {t : Nat} (o : Ok hb g s) (hf : ob.isFreed = false) (ht : s.toks ≤ t) : Grow g s (g.put s.heap.objs.size ob) { s with heap := s.heap.push ob, toks := t } :=
  Grow.put (o.at (kp_of (fun _ _ e => Heap.get?_push_of_some _ e) ht)) (Heap.get?_push_size _ hf) (size_none _)
theorem list_at {g : Froz} {s : Shared} {a : Addr} {vs : List Value} {m : Nat} (o : Ok hb g s) (e : g.ob a = some (lstO vs m)) : s.heap.IsList a vs.toArray := ⟨_, o.ins _ _ e, rfl, m, rfl⟩

/-! ### built-in functions -/
theorem one_arg {g : Froz} {vs : List Value} {d : D} (h : Reps prog w g vs [d]) : ∃ v, vs = [v] ∧ Rep prog w g v d := by
  cases h with
  | cons a b => cases b; exact ⟨_, rfl, a⟩
theorem two_args {g : Froz} {vs : List Value} {d e : D} (h : Reps prog w g vs [d, e]) : ∃ v u, vs = [v, u] ∧ Rep prog w g v d ∧ Rep prog w g u e := by
  cases h with
  | cons a b => obtain ⟨u, rfl, r⟩ := one_arg b; exact ⟨_, _, rfl, a, r⟩
theorem three_args {g : Froz} {vs : List Value} {d e f : D} (h : Reps prog w g vs [d, e, f]) : ∃ v u x, vs = [v, u, x] ∧ Rep prog w g v d ∧ Rep prog w g u e ∧ Rep prog w g x f := by
  cases h with
  | cons a b => obtain ⟨u, x, rfl, r, q⟩ := two_args b; exact ⟨_, _, _, rfl, a, r, q⟩
theorem fn_len_list {ds : List D} (hl : ds.length ≤ sizeLine) : Fn prog w hb n (.builtin "len") [.list ds] (.int ds.length) := fun A g s vs Q E rm o r h => by
  obtain ⟨v, rfl, q⟩ := one_arg r
  · obtain ⟨a, vs, m, rfl, e, r⟩ := rep_list q
    have hL : s.heap.IsList a vs.toArray := list_at o e
    have hs : vs.toArray.size = ds.length := by simp [r.length]
    have hz : ds.length < 2 ^ 63 := Nat.lt_of_le_of_lt hl (by decide)
    refine Calls.call_len_list hL (by rw [hs]; omega) ?_
    rw [hs]
    exact h _ g _ (kp_tok s (by omega)) (o.at (kp_tok s (by omega))) (.int _ _)
theorem fn_len_wlist {ds : List D} (hl : ds.length ≤ sizeLine) : Fn prog w hb n (.builtin "len") [.wlist ds] (.int ds.length) := fun A g s vs Q E rm o r h => by
  obtain ⟨v, rfl, q⟩ := one_arg r
  · obtain ⟨a, ob, vs, m, rfl, e, e1, e2, r⟩ := rep_wlist q
    have hL : s.heap.IsList a vs.toArray := ⟨_, o.ins _ _ e, e1, m, e2⟩
    have hs : vs.toArray.size = ds.length := by simp [r.length]
    have hz : ds.length < 2 ^ 63 := Nat.lt_of_le_of_lt hl (by decide)
    refine Calls.call_len_list hL (by rw [hs]; omega) ?_
    rw [hs]
    exact h _ g _ (kp_tok s (by omega)) (o.at (kp_tok s (by omega))) (.int _ _)
theorem fn_range1 {a : Int} : Fn prog w hb n (.type "range") [.int a] (.range 0 a 1) := fun A g s vs Q E rm o r h => by
  obtain ⟨v, rfl, q⟩ := one_arg r
  cases q
  exact call_range_1 (h _ _ _ (kp_of (fun _ _ e => Heap.get?_push_of_some _ e) (by omega)) (grow_pushT o rfl (by omega)) (.range Froz.put_self))
theorem fn_range2 {a b : Int} : Fn prog w hb n (.type "range") [.int a, .int b] (.range a b 1) := fun A g s vs Q E rm o r h => by
  obtain ⟨v, u, rfl, q, q'⟩ := two_args r
  cases q; cases q'
  exact call_range_2 (h _ _ _ (kp_of (fun _ _ e => Heap.get?_push_of_some _ e) (by omega)) (grow_pushT o rfl (by omega)) (.range Froz.put_self))
theorem fn_range3 {a b c : Int} (hc : c ≠ 0) (hp : Builtin.divisionGoesByPylong (b - a) c = false) : Fn prog w hb n (.type "range") [.int a, .int b, .int c] (.range a b c) := fun A g s vs Q E rm o r h => by
  obtain ⟨v, u, x, rfl, q, q', q''⟩ := three_args r
  cases q; cases q'; cases q''
  exact call_range_3 hc (h _ _ _ (kp_of (fun _ _ e => Heap.get?_push_of_some _ e) (by omega)) (grow_pushT o rfl (by omega)) (.range Froz.put_self)) (.inl hp)

theorem presum_eq (ns : List Int) : ∀ k, k ≤ ns.length → preSum (fun i => ns.getD i 0) k = (ns.take k).sum
  | 0, _ => by simp [preSum]
  | k + 1, h => by
    have hk : k < ns.length := h
    have e : ns.take (k + 1) = ns.take k ++ [ns[k]] := (List.take_append_getElem hk).symm
    rw [preSum, presum_eq ns k (by omega), e, List.sum_append]
    simp [hk, List.getD_eq_getElem?_getD]
theorem fn_sum {ns : List Int} : Fn prog w hb n (.builtin "sum") [.list (ns.map .int)] (.int ns.sum) := fun A g s vs Q E rm o r h => by
  obtain ⟨v, rfl, q⟩ := one_arg r
  refine call_sum_walkAnyS ?_
  refine itr_list A.in1 g s v _ _ rm.handled o q fun I fp P S s' k W hSo hS hI hfp hfz hP => ?_
  have hlen : (ns.map D.int).length = ns.length := by simp
  refine ⟨I, fp, [I], fun a b => b = a, ns.length, fun i v => i < ns.length ∧ P i v, fun i s => S i s.heap, fun i => ns.getD i 0, rfl, ?_, hS, hfp, ?_, ?_⟩
  · exact Walks.toS (St := S) ⟨W.sub, W.frame, fun i s Q E hi st hQ => W.item i s Q E (by rw [hlen]; exact hi) st fun v h' tk hp => hQ v h' tk ⟨hi, hp⟩, fun s Q E st hQ => W.done s Q E (by rw [hlen]; exact st) hQ, W.self⟩
  · rintro i x ⟨hi, hp⟩
    obtain ⟨d, hd, rp⟩ := hP i x (by rw [hlen]; exact hi) hp
    simp [hi] at hd
    subst hd
    cases rp
    rename_i t
    exact ⟨t, by simp [hi, List.getD_eq_getElem?_getD]⟩
  · intro s'' t' mv
    have e : preSum (fun i => ns.getD i 0) ns.length = ns.sum := by rw [presum_eq ns _ (Nat.le_refl _)]; simp
    rw [e]
    have kk : Kp s s'' := by
      obtain ⟨⟨h', tk, rfl, hk⟩, hle⟩ := k
      refine ⟨⟨s''.heap, s''.toks, ?_, fun b ob e => mv.heap b ob ?_ (hk b ob e)⟩, Nat.le_trans hle mv.toks⟩
      · obtain ⟨a1, a2, a3, a4, a5⟩ := s''
        have h1 : a2 = s.gens := mv.gens
        have h2 : a3 = s.drawn := mv.drawn
        have h3 : a5 = s.os := mv.os
        subst h1 h2 h3; rfl
      · intro hm
        rw [List.mem_singleton.mp hm, hI] at e; cases e
    exact h _ g _ kk (o.at kk) (.int _ _)

/-- least and greatest -/
def minL : List Int → Int
  | [] => 0
  | a :: r => r.foldl (fun a b => if b < a then b else a) a
def maxL : List Int → Int
  | [] => 0
  | a :: r => r.foldl (fun a b => if b > a then b else a) a
theorem argBest_take (bt : Nat → Nat → Bool) : ∀ k, argBest bt k ≤ k
  | 0 => Nat.le_refl _
  | k + 1 => by
    unfold argBest
    split
    · exact Nat.le_refl _
    · exact Nat.le_succ_of_le (argBest_take bt k)
theorem foldl_best (f : Int → Int → Bool) (ns : List Int) : ∀ k, (hk : k < ns.length) → ns.getD (argBest (fun i j => f (ns.getD i 0) (ns.getD j 0)) k) 0 = (ns.tail.take k).foldl (fun a b => if f b a then b else a) (ns.getD 0 0)
  | 0, _ => by simp [argBest]
  | k + 1, hk => by
    have ih := foldl_best f ns k (by omega)
    have hk' : k < ns.tail.length := by simp; omega
    have e : ns.tail.take (k + 1) = ns.tail.take k ++ [ns.tail[k]] := (List.take_append_getElem hk').symm
    have e2 : ns.tail[k] = ns.getD (k + 1) 0 := by simp [List.getD_eq_getElem?_getD, hk]
    rw [e, List.foldl_append, ← ih, e2]
    have e3 : argBest (fun i j => f (ns.getD i 0) (ns.getD j 0)) (k + 1) = if f (ns.getD (k + 1) 0) (ns.getD (argBest (fun i j => f (ns.getD i 0) (ns.getD j 0)) k) 0) then k + 1 else argBest (fun i j => f (ns.getD i 0) (ns.getD j 0)) k := rfl
    rw [e3]
    simp only [List.foldl_cons, List.foldl_nil]
    split <;> rfl
theorem minL_fold (a : Int) (r : List Int) : minL (a :: r) = r.foldl (fun a b => if decide (b < a) then b else a) a := by simp [minL]
theorem maxL_fold (a : Int) (r : List Int) : maxL (a :: r) = r.foldl (fun a b => if decide (b > a) then b else a) a := by simp [maxL]
theorem walks_in {A : Around} {I : Addr} {fp : List Addr} {P : Nat → Value → Prop} {S : Nat → Heap → Prop} {m m' : Nat} (hlen : m = m') (W : Walks prog w A I fp [I] m P S) : Walks prog w A I fp [I] m' (fun i v => i < m' ∧ P i v) S := by
  subst hlen
  exact ⟨W.sub, W.frame, fun i s Q E hi st hQ => W.item i s Q E hi st fun v h' tk hp => hQ v h' tk ⟨hi, hp⟩, W.done, W.self⟩
theorem fn_min {ns : List Int} (h0 : ns ≠ []) : Fn prog w hb n (.builtin "min") [.list (ns.map .int)] (.int (minL ns)) := fun A g s vs Q E rm o r h => by
  obtain ⟨v, rfl, q⟩ := one_arg r
  refine wpAny_with_toks (Nat.le_refl s.toks) ?_
  refine call_min_walk ?_
  refine itr_list A.in1 g s v _ _ rm.handled o q fun I fp P S s' k W hSo hS hI hfp hfz hP => ?_
  have hlen : (ns.map D.int).length = ns.length := by simp
  have hpos : 0 < ns.length := List.length_pos_iff.mpr h0
  have val : ∀ i x, i < ns.length ∧ P i x → ∃ t, x = .int (ns.getD i 0) t := by
    rintro i x ⟨hi, hp⟩
    obtain ⟨d, hd, rp⟩ := hP i x (by rw [hlen]; exact hi) hp
    simp [hi] at hd
    subst hd
    cases rp
    rename_i t
    exact ⟨t, by simp [hi, List.getD_eq_getElem?_getD]⟩
  refine ⟨I, fp, [I], ns.length, fun i v => i < ns.length ∧ P i v, S, fun i j => decide (ns.getD i 0 < ns.getD j 0), rfl, walks_in hlen W, hS, hfp, hpos, ?_, ?_⟩
  · intro i j vi vj s Q E hi hj hq
    obtain ⟨t, rfl⟩ := val i vi hi
    obtain ⟨u, rfl⟩ := val j vj hj
    exact PySem.P.lt_int hq
  · intro x h' tk hp hk hle
    obtain ⟨t, rfl⟩ := val _ x hp
    have e : ns.getD (argBest (fun i j => decide (ns.getD i 0 < ns.getD j 0)) (ns.length - 1)) 0 = minL ns := by
      rw [foldl_best (fun a b => decide (a < b)) ns (ns.length - 1) (by omega)]
      cases ns with
      | nil => exact absurd rfl h0
      | cons a r => rw [minL_fold]; simp
    rw [e]
    have kk : Kp s { s' with heap := h', toks := tk } := by
      obtain ⟨⟨h1, t1, rfl, hk1⟩, _⟩ := k
      refine ⟨⟨h', tk, rfl, fun b ob e => hk b ob ?_ (hk1 b ob e)⟩, hle⟩
      intro hm
      rw [List.mem_singleton.mp hm, hI] at e; cases e
    exact h _ g _ kk (o.at kk) (.int _ _)
theorem fn_max {ns : List Int} (h0 : ns ≠ []) : Fn prog w hb n (.builtin "max") [.list (ns.map .int)] (.int (maxL ns)) := fun A g s vs Q E rm o r h => by
  obtain ⟨v, rfl, q⟩ := one_arg r
  refine wpAny_with_toks (Nat.le_refl s.toks) ?_
  refine call_max_walk ?_
  refine itr_list A.in1 g s v _ _ rm.handled o q fun I fp P S s' k W hSo hS hI hfp hfz hP => ?_
  have hlen : (ns.map D.int).length = ns.length := by simp
  have hpos : 0 < ns.length := List.length_pos_iff.mpr h0
  have val : ∀ i x, i < ns.length ∧ P i x → ∃ t, x = .int (ns.getD i 0) t := by
    rintro i x ⟨hi, hp⟩
    obtain ⟨d, hd, rp⟩ := hP i x (by rw [hlen]; exact hi) hp
    simp [hi] at hd
    subst hd
    cases rp
    rename_i t
    exact ⟨t, by simp [hi, List.getD_eq_getElem?_getD]⟩
  refine ⟨I, fp, [I], ns.length, fun i v => i < ns.length ∧ P i v, S, fun i j => decide (ns.getD i 0 > ns.getD j 0), rfl, walks_in hlen W, hS, hfp, hpos, ?_, ?_⟩
  · intro i j vi vj s Q E hi hj hq
    obtain ⟨t, rfl⟩ := val i vi hi
    obtain ⟨u, rfl⟩ := val j vj hj
    exact PySem.P.gt_int hq
  · intro x h' tk hp hk hle
    obtain ⟨t, rfl⟩ := val _ x hp
    have e : ns.getD (argBest (fun i j => decide (ns.getD i 0 > ns.getD j 0)) (ns.length - 1)) 0 = maxL ns := by
      rw [foldl_best (fun a b => decide (a > b)) ns (ns.length - 1) (by omega)]
      cases ns with
      | nil => exact absurd rfl h0
      | cons a r => rw [maxL_fold]; simp
    rw [e]
    have kk : Kp s { s' with heap := h', toks := tk } := by
      obtain ⟨⟨h1, t1, rfl, hk1⟩, _⟩ := k
      refine ⟨⟨h', tk, rfl, fun b ob e => hk b ob ?_ (hk1 b ob e)⟩, hle⟩
      intro hm
      rw [List.mem_singleton.mp hm, hI] at e; cases e
    exact h _ g _ kk (o.at kk) (.int _ _)
theorem fn_min2 {a b : Int} : Fn prog w hb n (.builtin "min") [.int a, .int b] (.int (min a b)) := fun A g s vs Q E rm o r h => by
  obtain ⟨v, u, rfl, q, q'⟩ := two_args r
  cases q; cases q'
  refine wpAny_with_toks (Nat.le_refl s.toks) ?_
  refine min_two_ints rm.handled fun h' tk hk hle => ?_
  have kk : Kp s { s with heap := h', toks := tk } := kp_of hk hle
  by_cases hc : b < a
  · rw [if_pos hc]
    have e : min a b = b := by omega
    rw [e] at h
    exact h _ g _ kk (o.at kk) (.int _ _)
  · rw [if_neg hc]
    have e : min a b = a := by omega
    rw [e] at h
    exact h _ g _ kk (o.at kk) (.int _ _)

/-! ### methods of str -/
theorem fn_upper {x : Str} (hf : Builtin.Str.tooLong (Txt.upper x).length = false) : Fn prog w hb n (.builtin "str.upper") [.str x] (.str (Txt.upper x)) := fun A g s vs Q E rm o r h => by
  obtain ⟨v, rfl, q⟩ := one_arg r
  cases q
  exact SC.upper hf (new_str o _ h)
theorem fn_lower {x : Str} (hf : Builtin.Str.tooLong (Txt.lower x).length = false) : Fn prog w hb n (.builtin "str.lower") [.str x] (.str (Txt.lower x)) := fun A g s vs Q E rm o r h => by
  obtain ⟨v, rfl, q⟩ := one_arg r
  cases q
  exact SC.lower hf (new_str o _ h)
theorem fn_find {x y : Str} : Fn prog w hb n (.builtin "str.find") [.str x, .str y] (.int (Txt.find x y)) := fun A g s vs Q E rm o r h => by
  obtain ⟨v, u, rfl, q, q'⟩ := two_args r
  cases q; cases q'
  exact SC.find (h _ g _ (kp_tok1 s) (o.at (kp_tok1 s)) (.int _ _))
theorem fn_startswith {x y : Str} : Fn prog w hb n (.builtin "str.startswith") [.str x, .str y] (.bool (Txt.startswith x y)) := fun A g s vs Q E rm o r h => by
  obtain ⟨v, u, rfl, q, q'⟩ := two_args r
  cases q; cases q'
  exact SC.startswith (h _ g _ (kp_refl s) (o.at (kp_refl s)) (.bool _))
theorem fn_endswith {x y : Str} : Fn prog w hb n (.builtin "str.endswith") [.str x, .str y] (.bool (Txt.endswith x y)) := fun A g s vs Q E rm o r h => by
  obtain ⟨v, u, rfl, q, q'⟩ := two_args r
  cases q; cases q'
  exact SC.endswith (h _ g _ (kp_refl s) (o.at (kp_refl s)) (.bool _))
theorem strs_of {g : Froz} : ∀ {vs : List Value} {xs : List Str}, Reps prog w g vs (xs.map .str) → ∃ l : List (Str × Tok), vs = strValues l ∧ l.map (·.1) = xs ∧ ∀ p ∈ l, g.tk p.2 = some p.1
  | vs, [], r => by cases r; exact ⟨[], rfl, rfl, fun _ h => nomatch h⟩
  | vs, x :: xs, r => by
    cases r with
    | cons a b =>
      obtain ⟨l, rfl, rfl, hl⟩ := strs_of b
      cases a
      rename_i t ht
      exact ⟨(x, t) :: l, rfl, rfl, fun p hp => by
        rcases List.mem_cons.mp hp with rfl | hp
        · exact ht
        · exact hl p hp⟩
theorem fn_join {sep : Str} {xs : List Str} (hl : Builtin.Str.tooLong (xs.toArray.foldl (· + ·.length + sep.length) 0) = false) (hz : (Builtin.Str.glued sep xs).length ≤ sizeLine) (h1 : ∀ x, xs = [x] → Builtin.Str.glued sep xs = x) :
    Fn prog w hb n (.builtin "str.join") [.str sep, .list (xs.map .str)] (.str (Builtin.Str.glued sep xs)) := fun A g s vs Q E rm o r h => by
  obtain ⟨v, u, rfl, q, q'⟩ := two_args r
  cases q
  rename_i t ht
  obtain ⟨a, vs, m, rfl, e, r⟩ := rep_list q'
  obtain ⟨l, rfl, rfl, hlk⟩ := strs_of r
  refine call_meets F.slot_str_join (typeIs_str s sep t) F.entry_str_join (F.args_str_join_2 _ _) (meets_str_join_list sep t a l hl) ⟨list_at o e, ?_⟩
  unfold joinMade
  split
  · rename_i p _
    have := h1 p.1 rfl
    refine h _ g _ (kp_refl s) (o.at (kp_refl s)) ?_
    show Rep prog w g (.str p.1 p.2) _
    have e' : Builtin.Str.glued sep ([p].map (·.1)) = p.1 := this
    rw [e']; exact .str _ _ (hlk p (by simp))
  · exact ⟨hz, new_str o _ h⟩
end
section
variable {prog : Program} {w : World} {hb : Heap} {n : Nat} {sc : Scope} {σ : St} {K : Frag}

/-! ### methods called -/
theorem Ev.meth0 {o : Expr} {name : Str} {apos pos : Pos} {id : String} {x : Str} {d : D} (ho : Ev prog w hb n sc σ o (.str x)) (slot : Slot "str" name id) (hty : typeOf (.builtin id) = pure (.type "method_descriptor")) (hf : Fn prog w hb n (.builtin id) [.str x] d)
    (hbase : ∀ env : Env, attributeBase o name env (eval o env) = eval o env := by intro _; rfl) (hline : (apos.endLine == pos.line) = true := by rfl) : Ev prog w hb n sc σ (.Call (.Attribute o name apos) [] [] pos) d :=
  fun A env g s Q E rm eo ok rd h => wpAny_Call_method (T := "str") (hbase env) rfl hline F.plainAttrs_str slot hty (ho A env g s _ _ rm eo ok rd fun v g' s' k G q => by
    cases q
    rename_i t ht
    refine ⟨typeIs_str _ _ _, (fun a e => nomatch e), ?_⟩
    exact Calls.callWith_builtin rfl (PySem.evalArgs_none (hf A g' s' [.str x t] Q E rm (ok.grow G) (.cons (.str x t ht) .nil) fun v' g'' s'' k' G' q' => h v' g'' s'' (kp_trans k k') (G.trans G') q')))
theorem Ev.meth1 {o e : Expr} {name : Str} {apos pos : Pos} {id : String} {x : Str} {d₁ d : D} (ho : Ev prog w hb n sc σ o (.str x)) (he : Ev prog w hb n sc σ e d₁) (slot : Slot "str" name id) (hty : typeOf (.builtin id) = pure (.type "method_descriptor")) (hf : Fn prog w hb n (.builtin id) [.str x, d₁] d)
    (hbase : ∀ env : Env, attributeBase o name env (eval o env) = eval o env := by intro _; rfl) (hline : (apos.endLine == pos.line) = true := by rfl)
    (hst : ∀ env : Env, starEach [e] env = [(false, eval e env)] := by intro _; rfl) : Ev prog w hb n sc σ (.Call (.Attribute o name apos) [e] [] pos) d :=
  fun A env g s Q E rm eo ok rd h => wpAny_Call_method (T := "str") (hbase env) (by rw [hst env]; rfl) hline F.plainAttrs_str slot hty (ho A env g s _ _ rm eo ok rd fun v g' s' k G q => by
    cases q
    rename_i t ht
    refine ⟨typeIs_str _ _ _, (fun a e => nomatch e), ?_⟩
    rw [hst env]
    refine Calls.callWith_builtin rfl (Calls.evalArgs_plain (Calls.spliced_cons (he A env g' s' _ _ rm eo (ok.grow G) (rd.grow G) fun v₁ g₁ s₁ k₁ G₁ q₁ => Calls.spliced_nil ?_)))
    exact hf A g₁ s₁ [.str x t, v₁] Q E rm ((ok.grow G).grow G₁) (.cons (.str x t (G₁.sub.tk _ _ ht)) (.cons q₁ .nil)) fun v' g'' s'' k' G' q' => h v' g'' s'' (kp_trans k (kp_trans k₁ k')) ((G.trans G₁).trans G') q')

/-! ### subscripts -/
variable (prog w hb) in
/-- an item -/
def Itm (n : Nat) (d₁ d₂ d : D) : Prop :=
  ∀ (A : Around) (g : Froz) (s : Shared) (v₁ v₂ : Value) (Q : Value → Shared → Prop) (E : Value → Shared → Prop), Rm n A → Ok hb g s → Rep prog w g v₁ d₁ → Rep prog w g v₂ d₂ →
    (∀ v g' s', Kp s s' → Grow g s g' s' → Rep prog w g' v d → Q v s') → (∃ T id, s.TypeIs v₁ T ∧ typeLookup (.type T) "__getitem__" = pure (some (.builtin id))) ∧ wpAny (model prog w) A (getItem v₁ v₂) Q E s
theorem Ev.sub {value slice : Expr} {pos : Pos} {d₁ d₂ d : D} (h₁ : Ev prog w hb n sc σ value d₁) (h₂ : Ev prog w hb n sc σ slice d₂) (hs : Itm prog w hb n d₁ d₂ d)
    (hsl : ∀ o i, subscripted slice false o i = operate [o, i] (getItem o i) := by intro _ _; rfl) : Ev prog w hb n sc σ (.Subscript value slice pos) d :=
  fun A env g s Q E rm eo ok rd h => Subscript_ (h₁ A env g s _ _ rm eo ok rd fun v₁ g₁ s₁ k₁ G₁ q₁ => h₂ A env g₁ s₁ _ _ rm eo (ok.grow G₁) (rd.grow G₁) fun v₂ g₂ s₂ k₂ G₂ q₂ => by
    obtain ⟨⟨T, id, hT, hl⟩, hw⟩ := hs A g₂ s₂ v₁ v₂ Q E rm ((ok.grow G₁).grow G₂) (q₁.mono G₂.sub) q₂ fun v g' s' k G q => h v g' s' (kp_trans k₁ (kp_trans k₂ k)) ((G₁.trans G₂).trans G) q
    exact tail_any hT hl hw (hsl _ _))
theorem sub_list {ds : List D} {i : Int} {d : D} (h0 : 0 ≤ i) (hfit : i < 2 ^ 63) (hd : ds[i.toNat]? = some d) : Itm prog w hb n (.list ds) (.int i) d := fun A g s v₁ v₂ Q E rm o q₁ q₂ h => by
  cases q₂
  obtain ⟨a, vs, m, rfl, e, r⟩ := rep_list q₁
  obtain ⟨y, hy, ry⟩ := r.get hd
  exact ⟨⟨_, _, (list_at o e).typeIs, slot_list_getitem.lookup⟩, wpAny_getItem_list (list_at o e) h0 hfit (by simpa using hy) (h y g s (kp_refl s) (o.at (kp_refl s)) ry)⟩
theorem sub_list_last {ds : List D} {d : D} (hd : ds.getLast? = some d) (hz : ds.length ≤ sizeLine) : Itm prog w hb n (.list ds) (.int (-1)) d := fun A g s v₁ v₂ Q E rm o q₁ q₂ h => by
  cases q₂
  obtain ⟨a, vs, m, rfl, e, r⟩ := rep_list q₁
  have hne : ds ≠ [] := by intro e; subst e; cases hd
  have hpos : 0 < ds.length := List.length_pos_iff.mpr hne
  rw [List.getLast?_eq_getElem?] at hd
  obtain ⟨y, hy, ry⟩ := r.get hd
  have hs : vs.toArray.size = ds.length := by simp [r.length]
  have hz' : sizeLine < 2 ^ 63 := by decide
  refine ⟨⟨_, _, (list_at o e).typeIs, slot_list_getitem.lookup⟩, wpAny_getItem_list_neg (list_at o e) (by decide) (by rw [hs]; omega) (by decide) (x := y) ?_ (h y g s (kp_refl s) (o.at (kp_refl s)) ry)⟩
  rw [hs]
  have : (-1 + (ds.length : Int)).toNat = ds.length - 1 := by omega
  rw [this]
  simpa using hy
theorem sub_tup {ds : List D} {i : Int} {d : D} (h0 : 0 ≤ i) (hfit : i < 2 ^ 63) (hd : ds[i.toNat]? = some d) : Itm prog w hb n (.tup ds) (.int i) d := fun A g s v₁ v₂ Q E rm o q₁ q₂ h => by
  cases q₂
  obtain ⟨a, vs, m, rfl, e, r⟩ := rep_tup q₁
  obtain ⟨y, hy, ry⟩ := r.get hd
  have ht : IsTup s.heap a vs.toArray := ⟨_, o.ins _ _ e, rfl, m, rfl⟩
  have hlt : i.toNat < ds.length := by
    rcases Nat.lt_or_ge i.toNat ds.length with q | q
    · exact q
    · rw [List.getElem?_eq_none q] at hd; cases hd
  have hs : vs.toArray.size = ds.length := by simp [r.length]
  exact ⟨⟨_, _, ht.typeIs, slot_tuple_getitem.lookup⟩, PyProof.Rows.getItem_tuple ht (by omega) hfit (seqIndex_of h0 (by rw [hs]; omega)) (by simpa using hy) (h y g s (kp_refl s) (o.at (kp_refl s)) ry)⟩
theorem sub_dict {ds : List (Str × D)} {k : Str} {d : D} (hd : atKey ds k = some d) : Itm prog w hb n (.dict ds) (.str k) d := fun A g s v₁ v₂ Q E rm o q₁ q₂ h => by
  cases q₂
  rename_i t ht
  obtain ⟨a, ob, kvs, rfl, e, e1, e2, r⟩ := rep_dict q₁
  obtain ⟨y, hy, ry⟩ := r.at hd
  have hD : s.heap.DictOf (PySem.strKind prog w) a kvs := Heap.dictOf_iff.mpr ⟨ob, o.ins _ _ e, e1⟩
  exact ⟨⟨_, _, hD.typeIs, slot_dict_getitem.lookup⟩, wpAny_getItem_of (strKind_is prog w k t) hD.mapOf hy (h y g _ (kp_tok1 s) (o.at (kp_tok1 s)) ry)⟩
theorem sub_str {x : Str} {i : Int} {c : Nat} (hr : (decide (i < -(2 ^ 63 : Int)) || decide (i ≥ 2 ^ 63)) = false) (hc : (seqIndex? i x.length).bind (x.cps[·]?) = some c) : Itm prog w hb n (.str x) (.int i) (.str ⟨#[c]⟩) := fun A g s v₁ v₂ Q E rm o q₁ q₂ h => by
  cases q₁; cases q₂
  exact ⟨⟨_, _, typeIs_str _ _ _, F.slot_str_getitem.lookup⟩, PySem.P.getItem_str hr hc (new_str o _ h)⟩

/-! ### slices -/
variable (prog w hb) in
def EvP (n : Nat) (sc : Scope) (σ : St) : Option Expr → Option Int → Prop
  | .none, .none => True
  | .some e, .some i => Ev prog w hb n sc σ e (.int i)
  | _, _ => False
theorem EvP.run {x : Option Expr} {oi : Option Int} (h : EvP prog w hb n sc σ x oi) {A : Around} {env : Env} {g : Froz} {s : Shared} {Q : Value → Shared → Prop} {E : Value → Shared → Prop} (rm : Rm n A) (eo : EnvOk sc env) (ok : Ok hb g s) (rd : Rd prog w g s.heap env σ)
    (hq : ∀ v g' s', Kp s s' → Grow g s g' s' → IsPart v oi → Q v s') : wpAny (model prog w) A (evalPart x env) Q E s := by
  cases x with
  | none =>
    cases oi with
    | none => rw [evalPart_none]; exact wpAny_pure (hq _ g s (kp_refl s) (ok.at (kp_refl s)) .none)
    | some i => exact h.elim
  | some e =>
    cases oi with
    | none => exact h.elim
    | some i =>
      rw [evalPart_some]
      have h' : Ev prog w hb n sc σ e (.int i) := h
      exact h' A env g s _ _ rm eo ok rd fun v g' s' k G q => by cases q; exact hq _ g' s' k G (.int _ _)
/-- the slice of a row of data -/
def pickD (ds : List D) (lo hi st : Option Int) : List D := (sliceRange (sliceBounds lo hi st ds.length).1 (sliceBounds lo hi st ds.length).2.1 (sliceBounds lo hi st ds.length).2.2).filterMap (ds[·]?)
theorem reps_filterMap {g : Froz} {vs : List Value} {ds : List D} (r : Reps prog w g vs ds) : ∀ is : List Nat, Reps prog w g (is.filterMap (vs[·]?)) (is.filterMap (ds[·]?))
  | [] => by simpa using Reps.nil
  | i :: is => by
    cases q : ds[i]? with
    | none =>
      have q' : vs[i]? = none := by
        have : ds.length ≤ i := by simpa using q
        exact List.getElem?_eq_none (by rw [r.length]; exact this)
      simpa [List.filterMap_cons, q, q'] using reps_filterMap r is
    | some d =>
      obtain ⟨y, hy, ry⟩ := r.get q
      simpa [List.filterMap_cons, q, hy] using Reps.cons ry (reps_filterMap r is)
theorem reps_pick {g : Froz} {vs : List Value} {ds : List D} (r : Reps prog w g vs ds) (lo hi st : Option Int) : ∃ ws, slicePick vs.toArray lo hi st = List.toArray ws ∧ Reps prog w g ws (pickD ds lo hi st) := by
  refine ⟨_, rfl, ?_⟩
  have e : vs.toArray.size = ds.length := by simp [r.length]
  have e2 : (fun x : Nat => vs.toArray[x]?) = fun x => vs[x]? := by funext x; simp
  unfold pickD
  rw [e2, e]
  exact reps_filterMap r _
theorem Ev.slice_gen {value : Expr} {lower upper step : Option Expr} {p pos : Pos} {d : D} {ds : List D} {lo hi st : Option Int} (hv : Ev prog w hb n sc σ value d) (h1 : EvP prog w hb n sc σ lower lo) (h2 : EvP prog w hb n sc σ upper hi) (h3 : EvP prog w hb n sc σ step st) (h0 : st ≠ some 0)
    (hd : ∀ (g : Froz) (s : Shared) (v : Value), Ok hb g s → Rep prog w g v d → ∃ a vs, v = .ref a ∧ s.heap.IsList a (List.toArray vs) ∧ Reps prog w g vs ds) (hz : ds.length ≤ sizeLine) : Ev prog w hb n sc σ (.Subscript value (.Slice lower upper step p) pos) (.list (pickD ds lo hi st)) := by
  intro A env g s Q E rm eo ok rd h
  refine Subscript_ (hv A env g s _ _ rm eo ok rd fun v g₁ s₁ k₁ G₁ q₁ => wpAny_Slice (h1.run rm eo (ok.grow G₁) (rd.grow G₁) fun vl g₂ s₂ k₂ G₂ p₂ => h2.run rm eo ((ok.grow G₁).grow G₂) ((rd.grow G₁).grow G₂) fun vu g₃ s₃ k₃ G₃ p₃ =>
    h3.run rm eo (((ok.grow G₁).grow G₂).grow G₃) (((rd.grow G₁).grow G₂).grow G₃) fun vs g₄ s₄ k₄ G₄ p₄ => ?_))
  have ok₄ := ((((ok.grow G₁).grow G₂).grow G₃).grow G₄)
  have q₄ := ((q₁.mono G₂.sub).mono G₃.sub).mono G₄.sub
  obtain ⟨a, xs, rfl, hl, r⟩ := hd g₄ s₄ v ok₄ q₄
  have hl' : ({ s₄ with heap := s₄.heap.push { cls := .type "slice", data := .fields #[vl, vu, vs] } } : Shared).heap.IsList a xs.toArray := hl.push _
  refine tail_any hl'.typeIs slot_list_getitem.lookup (ops := if step.isNone then [.ref s₄.heap.objs.size, .ref a] else [.ref a, .ref s₄.heap.objs.size]) ?_ (by cases step <;> rfl)
  obtain ⟨ws, hw, rw'⟩ := reps_pick r lo hi st
  refine wpAny_getItem_list_slice hl' (Heap.IsSliceOf.new ..) p₂ p₃ p₄ h0 ?_ (by simp [r.length]; exact hz)
  rw [hw]
  have kS : Kp s₄ { s₄ with heap := s₄.heap.push { cls := .type "slice", data := .fields #[vl, vu, vs] } } := kp_push _ _
  have GS := ok₄.at kS
  have okS := ok₄.grow GS
  have GL := grow_push (s := { s₄ with heap := s₄.heap.push { cls := .type "slice", data := .fields #[vl, vu, vs] } }) (ob := lstO ws 0) okS rfl
  exact h _ _ _ (kp_trans k₁ (kp_trans k₂ (kp_trans k₃ (kp_trans k₄ (kp_trans kS (kp_push _ _)))))) (((((G₁.trans G₂).trans G₃).trans G₄).trans GS).trans GL) (.list Froz.put_self (rw'.mono GL.sub))
theorem Ev.slice {value : Expr} {lower upper step : Option Expr} {p pos : Pos} {ds : List D} {lo hi st : Option Int} (hv : Ev prog w hb n sc σ value (.list ds)) (h1 : EvP prog w hb n sc σ lower lo) (h2 : EvP prog w hb n sc σ upper hi) (h3 : EvP prog w hb n sc σ step st) (h0 : st ≠ some 0) (hz : ds.length ≤ sizeLine) :
    Ev prog w hb n sc σ (.Subscript value (.Slice lower upper step p) pos) (.list (pickD ds lo hi st)) := Ev.slice_gen hv h1 h2 h3 h0 (fun g s v o q => by
  obtain ⟨a, vs, m, rfl, e, r⟩ := rep_list q
  exact ⟨a, vs, rfl, list_at o e, r⟩) hz
theorem Ev.wslice {value : Expr} {lower upper step : Option Expr} {p pos : Pos} {ds : List D} {lo hi st : Option Int} (hv : Ev prog w hb n sc σ value (.wlist ds)) (h1 : EvP prog w hb n sc σ lower lo) (h2 : EvP prog w hb n sc σ upper hi) (h3 : EvP prog w hb n sc σ step st) (h0 : st ≠ some 0) (hz : ds.length ≤ sizeLine) :
    Ev prog w hb n sc σ (.Subscript value (.Slice lower upper step p) pos) (.list (pickD ds lo hi st)) := Ev.slice_gen hv h1 h2 h3 h0 (fun g s v o q => by
  obtain ⟨a, ob, vs, m, rfl, e, e1, e2, r⟩ := rep_wlist q
  exact ⟨a, vs, rfl, ⟨_, o.ins _ _ e, e1, m, e2⟩, r⟩) hz
/-! ### slices of texts -/
def cutS (x : Str) (l u : Option Int) : Str := if ((Builtin.Str.strSliceIndices l u 1 x.length).length == x.length) = true then x else ⟨((Builtin.Str.strSliceIndices l u 1 x.length).filterMap (x.cps[·]?)).toArray⟩
theorem part_of {v : Value} {oi : Option Int} (h : IsPart v oi) : ∃ p : Option (Int × Tok), v = partValue p ∧ p.map (·.1) = oi := by
  cases h with
  | none => exact ⟨none, rfl, rfl⟩
  | int i t => exact ⟨some (i, t), rfl, rfl⟩
theorem Ev.slice_str {value : Expr} {lower upper : Option Expr} {p pos : Pos} {x : Str} {lo hi : Option Int} (hv : Ev prog w hb n sc σ value (.str x)) (h1 : EvP prog w hb n sc σ lower lo) (h2 : EvP prog w hb n sc σ upper hi) (hz : (cutS x lo hi).length ≤ sizeLine)
    (ht : ∀ o r, letTemporaryGo value o r = pure () := by intro _ _; rfl) :
    Ev prog w hb n sc σ (.Subscript value (.Slice lower upper Option.none p) pos) (.str (cutS x lo hi)) := by
  intro A env g s Q E rm eo ok rd h
  refine wpAny_Subscript_str_slice (hv A env g s _ _ rm eo ok rd fun v g₁ s₁ k₁ G₁ q₁ => h1.run rm eo (ok.grow G₁) (rd.grow G₁) fun vl g₂ s₂ k₂ G₂ p₂ => h2.run rm eo ((ok.grow G₁).grow G₂) ((rd.grow G₁).grow G₂) fun vu g₃ s₃ k₃ G₃ p₃ => ?_) ht
  have ok₃ := ((ok.grow G₁).grow G₂).grow G₃
  have q₃ := (q₁.mono G₂.sub).mono G₃.sub
  cases q₃ with
  | str _ t htk =>
    obtain ⟨pl, rfl, e1⟩ := part_of p₂
    obtain ⟨pu, rfl, e2⟩ := part_of p₃
    refine ⟨x, t, pl, pu, rfl, rfl, rfl, ?_⟩
    have kS : Kp s₃ { s₃ with heap := s₃.heap.push { cls := .type "slice", data := .fields #[partValue pl, partValue pu, .none] } } := kp_push _ _
    have GS := ok₃.at kS
    have okS := ok₃.grow GS
    have fin : ∀ v g' s', Kp { s₃ with heap := s₃.heap.push { cls := .type "slice", data := .fields #[partValue pl, partValue pu, .none] } } s' → Grow g₃ { s₃ with heap := s₃.heap.push { cls := .type "slice", data := .fields #[partValue pl, partValue pu, .none] } } g' s' → Rep prog w g' v (.str (cutS x lo hi)) → Q v s' :=
      fun v g' s' k G q => h v g' s' (kp_trans k₁ (kp_trans k₂ (kp_trans k₃ (kp_trans kS k)))) (((((G₁.trans G₂).trans G₃).trans GS)).trans G) q
    unfold sliceMade slicePicked
    rw [e1, e2]
    have e0 : ((Option.map (fun x : Int × Tok => x.1) Option.none).getD 1 == 1) = true := rfl
    unfold cutS at fin hz
    by_cases hc : ((Builtin.Str.strSliceIndices lo hi 1 x.length).length == x.length) = true
    · rw [if_pos hc] at fin hz
      rw [if_pos (by simpa using hc)]
      exact fin _ g₃ _ (kp_refl _) (okS.at (kp_refl _)) (.str x t htk)
    · rw [if_neg hc] at fin hz
      rw [if_neg (by simpa using hc)]
      exact ⟨hz, new_str okS _ fin⟩
theorem pick_plain (ds : List D) (lo hi : Option Int) : pickD ds lo hi none = (ds.drop (lo.elim 0 (clipAt ds.length))).take (hi.elim ds.length (clipAt ds.length) - lo.elim 0 (clipAt ds.length)) := by
  unfold pickD
  rw [sliceBounds_plain]
  dsimp only
  rw [sliceRange_one]
  have := pick_run ds.toArray (lo.elim 0 (clipAt ds.length)) (hi.elim ds.length (clipAt ds.length) - lo.elim 0 (clipAt ds.length))
  simpa using this
theorem clip_nat (m a : Nat) : clipAt m (a : Int) = min a m := by unfold clipAt; omega
theorem pick_from (ds : List D) (a : Nat) : pickD ds (some a) none none = ds.drop a := by
  rw [pick_plain]
  simp only [Option.elim, clip_nat]
  rw [List.take_of_length_le (by rw [List.length_drop]; exact Nat.le_refl _)]
  by_cases h : a ≤ ds.length
  · rw [Nat.min_eq_left h]
  · rw [Nat.min_eq_right (by omega), List.drop_of_length_le (Nat.le_refl _), List.drop_of_length_le (by omega)]
theorem pick_upto (ds : List D) (a : Nat) : pickD ds none (some a) none = ds.take a := by
  rw [pick_plain]
  simp only [Option.elim, clip_nat, List.drop_zero, Nat.sub_zero]
  by_cases h : a ≤ ds.length
  · rw [Nat.min_eq_left h]
  · rw [Nat.min_eq_right (by omega), List.take_of_length_le (Nat.le_refl _), List.take_of_length_le (by omega)]
theorem pick_12 (ds : List D) : pickD ds (some 1) (some 2) none = (ds.drop 1).take 1 := by
  rw [pick_plain]
  have e1 : clipAt ds.length 1 = min 1 ds.length := clip_nat _ 1
  have e2 : clipAt ds.length 2 = min 2 ds.length := clip_nat _ 2
  simp only [Option.elim, e1, e2]
  match ds with
  | [] => rfl
  | [a] => rfl
  | a :: b :: r => simp
theorem pick_rev (ds : List D) : pickD ds none none (some (-1)) = ds.reverse := by
  unfold pickD
  show ((sliceRange ((ds.length : Int) - 1) (-1) (-1)).filterMap (ds[·]?)) = _
  rw [krv_sliceRange, krv_range, List.filterMap_reverse]
  congr 1
  have := pick_run ds.toArray 0 ds.length
  simpa using this
end
mutual
def py : D → PyData
  | .none => .none
  | .bool b => .bool b
  | .int i => .int i
  | .str x => .str x
  | .list l => .list (pys l)
  | .tup l => .tuple (pys l)
  | .dict _ => .none
  | .range _ _ _ => .none
  | .wlist l => .list (pys l)
def pys : List D → List PyData
  | [] => []
  | d :: ds => py d :: pys ds
end
mutual
def flat : D → Bool
  | .none => true
  | .bool _ => true
  | .int _ => true
  | .str _ => true
  | .list l => flats l
  | .tup l => flats l
  | .dict _ => false
  | .range _ _ _ => false
  | .wlist _ => false
def flats : List D → Bool
  | [] => true
  | d :: ds => flat d && flats ds
end
theorem pys_map : ∀ l : List D, pys l = l.map py
  | [] => rfl
  | d :: ds => by rw [pys, pys_map ds]; rfl
section
variable {prog : Program} {w : World} {hb : Heap} {n : Nat} {sc : Scope} {σ : St} {K : Frag} {g : Froz} {h : Heap}
mutual
theorem Rep.reads (hi : ∀ b o, g.ob b = some o → h.get? b = some o) : ∀ {v : Value} {d : D}, Rep prog w g v d → flat d = true → ∃ as, Reads h v (py d) as
  | _, _, .none, _ => ⟨_, .none⟩
  | _, _, .bool b, _ => ⟨_, .bool b⟩
  | _, _, .int i t, _ => ⟨_, .int i t⟩
  | _, _, .str x t _, _ => ⟨_, .str x t⟩
  | _, _, .list e r, hf => by
    obtain ⟨as, ra⟩ := Reps.reads hi r (by simpa [flat] using hf)
    exact ⟨_, .list (hi _ _ e) rfl rfl (by simpa using ra)⟩
  | _, _, .tup e r, hf => by
    obtain ⟨as, ra⟩ := Reps.reads hi r (by simpa [flat] using hf)
    exact ⟨_, .tuple (hi _ _ e) rfl rfl (by simpa using ra)⟩
  | _, _, .dict _ _ _ _ _, hf => by simp [flat] at hf
  | _, _, .range _, hf => by simp [flat] at hf
  | _, _, .wlist _ _ _ _, hf => by simp [flat] at hf
theorem Reps.reads (hi : ∀ b o, g.ob b = some o → h.get? b = some o) : ∀ {v : List Value} {d : List D}, Reps prog w g v d → flats d = true → ∃ as, ReadsAll h v (pys d) as
  | _, _, .nil, _ => ⟨_, .nil⟩
  | _, _, .cons (d := d) (ds := ds) a b, hf => by
    have hf' : flat d = true ∧ flats ds = true := by simpa [flats] using hf
    obtain ⟨as, ra⟩ := Rep.reads hi a hf'.1
    obtain ⟨bs, rb⟩ := Reps.reads hi b hf'.2
    exact ⟨_, .cons ra rb⟩
end
theorem op_eq {d₁ d₂ : D} (f₁ : flat d₁ = true) (f₂ : flat d₂ = true) (c₁ : (py d₁).canLay0 = true) (c₂ : (py d₂).canLay0 = true) (hd : min (py d₁).depth (py d₂).depth ≤ 30) : Op2 prog w hb n (compareOp .Eq) d₁ d₂ (.bool (PyData.eqv (py d₁) (py d₂))) :=
  fun A g s v₁ v₂ Q E rm o q₁ q₂ h => by
    obtain ⟨as, r₁⟩ := q₁.reads o.ins f₁
    obtain ⟨bs, r₂⟩ := q₂.reads o.ins f₂
    exact SeqAt.compareEq_reads r₁ r₂ c₁ c₂ (by have := rm.units; omega) (h _ g _ (kp_refl s) (o.at (kp_refl s)) (.bool _))
theorem op_in {d : D} {ds : List D} (f₁ : flat d = true) (f₂ : flats ds = true) (c₁ : (py d).canLay0 = true) (c₂ : PyData.canLayAll0 (pys ds) = true) (hd : min (PyData.depthAll (pys ds)) (py d).depth ≤ 30) :
    Op2 prog w hb n (compareOp .In) d (.list ds) (.bool ((pys ds).any fun y => PyData.eqv y (py d))) := fun A g s v₁ v₂ Q E rm o q₁ q₂ h => by
  obtain ⟨as, r₁⟩ := q₁.reads o.ins f₁
  obtain ⟨bs, r₂⟩ := q₂.reads (h := s.heap) o.ins (by simpa [flat] using f₂)
  exact SeqAt.in_list_reads (by simpa [py] using r₂) r₁ c₂ c₁ (by have := rm.units; omega) (h _ g _ (kp_refl s) (o.at (kp_refl s)) (.bool _))
theorem op_notin {d : D} {ds : List D} (f₁ : flat d = true) (f₂ : flats ds = true) (c₁ : (py d).canLay0 = true) (c₂ : PyData.canLayAll0 (pys ds) = true) (hd : min (PyData.depthAll (pys ds)) (py d).depth ≤ 30) :
    Op2 prog w hb n (compareOp .NotIn) d (.list ds) (.bool (!(pys ds).any fun y => PyData.eqv y (py d))) := fun A g s v₁ v₂ Q E rm o q₁ q₂ h => by
  obtain ⟨as, r₁⟩ := q₁.reads o.ins f₁
  obtain ⟨bs, r₂⟩ := q₂.reads (h := s.heap) o.ins (by simpa [flat] using f₂)
  exact SeqAt.notIn_list_reads (by simpa [py] using r₂) r₁ c₂ c₁ (by have := rm.units; omega) (h _ g _ (kp_refl s) (o.at (kp_refl s)) (.bool _))
theorem op_notin_dict {k : Str} {ds : List (Str × D)} : Op2 prog w hb n (compareOp .NotIn) (.str k) (.dict ds) (.bool (!(atKey ds k).isSome)) := fun A g s v₁ v₂ Q E rm o q₁ q₂ h => by
  cases q₁
  rename_i t ht
  obtain ⟨a, ob, kvs, rfl, e, e1, e2, r⟩ := rep_dict q₂
  have hD : s.heap.DictOf (PySem.strKind prog w) a kvs := Heap.dictOf_iff.mpr ⟨ob, o.ins _ _ e, e1⟩
  refine wpAny_notIn_of (strKind_is prog w k t) e2 hD.mapOf ?_
  rw [r.not_at]
  exact h _ g _ (kp_tok1 s) (o.at (kp_tok1 s)) (.bool _)
theorem op_ne_bool {a b : Bool} : Op2 prog w hb n (compareOp .NotEq) (.bool a) (.bool b) (.bool (a != b)) := fun A g s v₁ v₂ Q E _ o q₁ q₂ h => by
  cases q₁; cases q₂; exact ne_bool (h _ g _ (kp_refl s) (o.at (kp_refl s)) (.bool _))
theorem op_is_bool {a b : Bool} : Op2 prog w hb n (compareOp .Is) (.bool a) (.bool b) (.bool (a == b)) := fun A g s v₁ v₂ Q E _ o q₁ q₂ h => by
  cases q₁; cases q₂
  refine wpAny_is_plain rfl ?_
  have e : (Value.bool a == Value.bool b) = (a == b) := by cases a <;> cases b <;> rfl
  rw [e]
  exact h _ g _ (kp_refl s) (o.at (kp_refl s)) (.bool _)
theorem op_mod_int {a b : Int} (h0 : b ≠ 0) : Op2 prog w hb n (binaryOp .Mod) (.int a) (.int b) (.int (a.fmod b)) := fun A g s v₁ v₂ Q E _ o q₁ q₂ h => by
  cases q₁; cases q₂; exact mod_int' h0 (h _ g _ (kp_tok1 s) (o.at (kp_tok1 s)) (.int _ _))
/-- `x is y or x == y`: as == for texts and bools -/
theorem tr_is_or_eq_str {a b a' b' : Expr} {p1 p2 p3 : Pos} {x y : Str} (B : Bs K hb) (ha : Ev prog w hb n sc σ a (.str x)) (hb' : Ev prog w hb n sc σ b (.str y)) (ha' : Ev prog w hb n sc σ a' (.str x)) (hb'' : Ev prog w hb n sc σ b' (.str y))
    (hm : behindInMarks .Is b = false := by with_unfolding_all rfl) (hm' : behindInMarks .Eq b' = false := by with_unfolding_all rfl) :
    Tr prog w hb n sc σ (.BoolOp .Or [.Compare a [.Is] [b] p1, .Compare a' [.Eq] [b'] p2] p3) (decide (x = y)) := by
  intro A env g s Q E rm eo o rd h
  refine wpAny_isTrue_BoolOp (wpAny_allTrue_Or_cons (wpAny_isTrue_Compare1 (ha A env g s _ _ rm eo o rd fun v₁ g₁ s₁ k₁ G₁ q₁ => hb' A env g₁ s₁ _ _ rm eo (o.grow G₁) (rd.grow G₁) fun v₂ g₂ s₂ k₂ G₂ q₂ => ?_) hm))
  have o₂ := (o.grow G₁).grow G₂
  have q₁' := q₁.mono G₂.sub
  have kk := kp_trans k₁ k₂
  have rd₂ := (rd.grow G₁).grow G₂
  have rest : ∀ s₃, Kp s₂ s₃ → wpAny (model prog w) A (allTrue .Or [.Compare a' [.Eq] [b'] p2] env) Q E s₃ := fun s₃ k₃ => by
    have t2 : TrAll prog w hb .Or n sc σ [.Compare a' [.Eq] [b'] p2] (decide (x = y)) := by
      have t := Tr.cmp (pos := p2) ha' hb'' op_eq_str hm'
      cases q : decide (x = y) with
      | true => rw [q] at t; exact TrAll.or_tt t
      | false => rw [q] at t; exact TrAll.or_ff t TrAll.or_nil
    exact t2 A env g₂ s₃ Q E rm eo (o₂.stay k₃) (rd₂.stay o₂ k₃) fun s' k => h s' (kp_trans kk (kp_trans k₃ k))
  cases q₁' with
  | str _ t ht =>
    cases q₂ with
    | str _ u hu =>
      have nb : NoneBooked s₂.heap := by
        obtain ⟨mc, hn, hk⟩ := B.nobook
        exact ⟨mc, hn.keeps o₂.inb, hk⟩
      have t0 : (t == 0) = false := by simpa using (o₂.tks _ _ ht).1
      have u0 : (u == 0) = false := by simpa using (o₂.tks _ _ hu).1
      show wpAny _ _ (do return Value.bool (← isSame (.str x t) (.str y u))) _ _ s₂
      by_cases htu : t = u
      · subst htu
        have exy : x = y := Option.some.inj (ht.symm.trans hu)
        subst exy
        refine wpAny_bind ?_
        show wpAny _ _ (isSame.created (x == x) t t) _ _ _
        unfold isSame.created
        refine wpAny_ite ?_
        rw [if_neg (by simp [t0])]
        refine wpAny_ite ?_
        rw [if_pos (by simp)]
        refine wpAny_pure (wpAny_pure (wpAny_truthy_bool ?_))
        simp only [if_true]
        have := h s₂ kk
        simpa using this
      · by_cases exy : x = y
        · subst exy
          refine wpAny_bind (wpAny_isSame_str (by rw [t0, u0]; rfl) nb fun b' => wpAny_pure (wpAny_truthy_bool ?_))
          cases b' with
          | true =>
            have := h s₂ kk
            simpa using this
          | false => simpa using rest s₂ (kp_refl s₂)
        · have e := isSame_str_other x y t u (by rw [t0, u0]; rfl) (by simpa using htu) (by simpa using exy)
          rw [e]
          refine wpAny_bind (wpAny_pure (wpAny_pure (wpAny_truthy_bool ?_)))
          simpa using rest s₂ (kp_refl s₂)
theorem tr_is_or_eq_bool {a b a' b' : Expr} {p1 p2 p3 : Pos} {x y : Bool} (ha : Ev prog w hb n sc σ a (.bool x)) (hb' : Ev prog w hb n sc σ b (.bool y)) (ha' : Ev prog w hb n sc σ a' (.bool x)) (hb'' : Ev prog w hb n sc σ b' (.bool y))
    (hm : behindInMarks .Is b = false := by with_unfolding_all rfl) (hm' : behindInMarks .Eq b' = false := by with_unfolding_all rfl) :
    Tr prog w hb n sc σ (.BoolOp .Or [.Compare a [.Is] [b] p1, .Compare a' [.Eq] [b'] p2] p3) (x == y) := by
  have t1 := Tr.cmp (pos := p1) ha hb' op_is_bool hm
  have t2 := Tr.cmp (pos := p2) ha' hb'' op_eq_bool hm'
  have := Tr.boolOp (pos := p3) (TrAll.or2 t1 fun _ => t2)
  simpa using this
end
/-- the block of a comprehension, seen from its frame's block -/
def relS (scope sc : Scope) : Scope :=
  { scope with names := scope.names.map fun (n, k) => if (k == .free && sc.kind == .function && sc.names.lookup n == some .cell) then (n, .cell) else (n, k) }
theorem relS_eq {scope sc : Scope} {env : Env} (h : env.scope = sc) : relabel scope env = relS scope sc := by
  subst h; rfl
/-- what a comprehension's turn knows -/
def cst (scope : Scope) (x : Str) (d : D) (σ : St) : St := fun y => if y = x then some d else if scope.names.lookup y = some .free then σ y else none

theorem lookup_free {scope sc : Scope} {y : Str} (h : scope.names.lookup y = some .free) : (relS scope sc).names.lookup y = some .cell ∨ (relS scope sc).names.lookup y = some .free := by
  unfold relS
  dsimp only
  generalize scope.names = l at h ⊢
  induction l with
  | nil => simp at h
  | cons p r ih =>
    obtain ⟨m, k⟩ := p
    rw [List.lookup_cons] at h
    cases q : y == m with
    | true =>
      rw [q] at h
      cases h
      have e : y = m := beq_iff_eq.mp q
      subst e
      simp only [List.map_cons]
      split
      · left; simp [List.lookup_cons]
      · right; simp [List.lookup_cons]
    | false =>
      rw [q] at h
      have := ih h
      simp only [List.map_cons]
      split <;> simpa [List.lookup_cons, q] using this
theorem lookup_loc {scope sc : Scope} {x : Str} (h : scope.names.lookup x = some .local) : (relS scope sc).names.lookup x = some .local := by
  unfold relS
  dsimp only
  generalize scope.names = l at h ⊢
  induction l with
  | nil => simp at h
  | cons p r ih =>
    obtain ⟨m, k⟩ := p
    rw [List.lookup_cons] at h
    cases q : x == m with
    | true =>
      rw [q] at h
      cases h
      simp [List.lookup_cons, q]
    | false =>
      rw [q] at h
      have := ih h
      simp only [List.map_cons]
      split <;> simpa [List.lookup_cons, q] using this

theorem clos_go {env : Env} : ∀ (names : List (Str × NameKind)) (acc : List (Str × Addr)), (∀ y ∈ names, y.2 = .free → ∃ c, env.cells.lookup y.1 = some c) → (∀ p ∈ acc, env.cells.lookup p.1 = some p.2) →
    ∃ cl, (forIn names acc fun (y : Str × NameKind) (cs : List (Str × Addr)) => (if (y.2 == .free) = true then do let a ← cellOf env y.1; pure (ForInStep.yield ((y.1, a) :: cs)) else pure (ForInStep.yield cs) : Sem (ForInStep (List (Str × Addr))))) = pure cl ∧
      (∀ p ∈ cl, env.cells.lookup p.1 = some p.2) ∧ (∀ p ∈ acc, p ∈ cl) ∧ (∀ y ∈ names, y.2 = .free → ∃ c, (y.1, c) ∈ cl)
  | [], acc, _, ha => ⟨acc, rfl, ha, fun _ h => h, fun _ h => nomatch h⟩
  | (m, k) :: r, acc, hn, ha => by
    rw [List.forIn_cons]
    by_cases hk : (k == NameKind.free) = true
    · obtain ⟨c, hc⟩ := hn (m, k) (by simp) (by simpa using hk)
      have hc' : env.cells.lookup m = some c := hc
      obtain ⟨cl, h1, h2, h3, h4⟩ := clos_go r ((m, c) :: acc) (fun y hy => hn y (List.mem_cons_of_mem _ hy)) (fun p hp => by
        rcases List.mem_cons.mp hp with rfl | hp
        · exact hc
        · exact ha p hp)
      refine ⟨cl, ?_, h2, fun p hp => h3 p (List.mem_cons_of_mem _ hp), fun y hy hf => ?_⟩
      · have ec : cellOf env m = pure c := by unfold cellOf; rw [hc']
        simp only [hk, if_true, ec]
        exact h1
      · rcases List.mem_cons.mp hy with rfl | hy
        · exact ⟨c, h3 _ (by simp)⟩
        · exact h4 y hy hf
    · obtain ⟨cl, h1, h2, h3, h4⟩ := clos_go r acc (fun y hy => hn y (List.mem_cons_of_mem _ hy)) ha
      refine ⟨cl, ?_, h2, h3, fun y hy hf => ?_⟩
      · simp only [hk, if_false]
        exact h1
      · rcases List.mem_cons.mp hy with rfl | hy
        · exact absurd (by simpa using hf) hk
        · exact h4 y hy hf
theorem mem_lookup_some : ∀ {l : List (Str × Addr)} {y : Str} {c : Addr}, (y, c) ∈ l → ∃ c', l.lookup y = some c' ∧ (y, c') ∈ l
  | (m, a) :: r, y, c, h => by
    cases q : y == m with
    | true => exact ⟨a, by rw [List.lookup_cons, q], by rw [beq_iff_eq.mp q]; simp⟩
    | false =>
      rcases List.mem_cons.mp h with e | h
      · injection e with e1 e2; subst e1; simp at q
      · obtain ⟨c', h1, h2⟩ := mem_lookup_some h
        exact ⟨c', by rw [List.lookup_cons, q]; exact h1, List.mem_cons_of_mem _ h2⟩
theorem clos_of {env : Env} {scope : Scope} (hn : ∀ y ∈ scope.names, y.2 = .free → ∃ c, env.cells.lookup y.1 = some c) :
    ∃ cl, closureFor scope env = pure cl ∧ ∀ y ∈ scope.names, y.2 = .free → cl.lookup y.1 = env.cells.lookup y.1 := by
  obtain ⟨cl, h1, h2, _, h4⟩ := clos_go scope.names [] hn (fun _ h => nomatch h)
  refine ⟨cl, ?_, fun y hy hf => ?_⟩
  · unfold closureFor
    have : ∀ z : List (Str × Addr), (pure z >>= fun r => pure r : Sem (List (Str × Addr))) = pure z := fun _ => rfl
    rw [← this cl, ← h1]
  · obtain ⟨c, hc⟩ := h4 y hy hf
    obtain ⟨c', h5, h6⟩ := mem_lookup_some hc
    rw [h5, h2 _ h6]

section
variable {prog : Program} {w : World} {hb : Heap} {n : Nat} {sc : Scope} {σ : St} {K : Frag}
variable (prog w hb) in
/-- a comprehension's tests -/
def Tst (n : Nat) (sc : Scope) (σ : St) (ifs : List Expr) (b : Bool) : Prop :=
  ∀ (A : Around) (env : Env) (g : Froz) (s : Shared) (Q : Bool → Shared → Prop) (E : Value → Shared → Prop), Rm n A → EnvOk sc env → Ok hb g s → Rd prog w g s.heap env σ →
    (∀ s', Kp s s' → Q b s') → wpAny (model prog w) A (forIn ifs true fun c r => if r = true then do let ok ← isTrue c env (eval c env); pure (ForInStep.yield ok) else pure (ForInStep.yield r)) Q E s
theorem Tst.nil : Tst prog w hb n sc σ [] true := fun A env g s Q E _ _ o _ h => wpAny_tests_nil (h s (kp_refl s))
theorem Tst.one {c : Expr} {b : Bool} (h : Tr prog w hb n sc σ c b) : Tst prog w hb n sc σ [c] b := fun A env g s Q E rm eo o rd hq => wpAny_tests_one (h A env g s _ _ rm eo o rd hq)

theorem Grow.but {g g' : Froz} {s s' : Shared} {h' : Heap} {tk : Nat} (G : Grow g s g' s') {M : List Addr} (hk : ∀ b o, b ∉ M → s'.heap.get? b = some o → h'.get? b = some o) (hs : ∀ a ∈ M, s.heap.get? a = none) (hg : ∀ a ∈ M, g'.ob a = none) (ht : s'.toks ≤ tk) : Grow g s g' { s' with heap := h', toks := tk } := by
  refine ⟨fun b o e => hk b o (fun hm => by rw [hs b hm] at e; cases e) (G.keep b o e), G.sub, G.new, fun b o e => hk b o (fun hm => by rw [hg b hm] at e; cases e) (G.ins b o e), Nat.le_trans G.toks ht, fun t x e => ⟨(G.tks t x e).1, Nat.lt_of_lt_of_le (G.tks t x e).2 ht⟩⟩
theorem Grow.none {g g' : Froz} {s s' : Shared} {a : Addr} {o : Obj} (G : Grow g s g' s') (hs : s.heap.get? a = some o) (hg : g.ob a = none) : g'.ob a = none := by
  cases q : g'.ob a with
  | none => rfl
  | some x =>
    rcases G.new a x q with h | h
    · rw [hg] at h; cases h
    · rw [hs] at h; cases h
theorem Grow.ok {g g' : Froz} {s s' : Shared} (o : Ok hb g s) (G : Grow g s g' s') : Ok hb g' s' := o.grow G

theorem comp_core {elt iter : Expr} {x : Str} {px : Pos} {ifs : List Expr} {scope : Scope} {cl : List (Str × Addr)} {pos : Pos} {A : Around} {env : Env} {E : Value → Shared → Prop} {g₁ : Froz} {s₁ : Shared} {v : Value} {d : D} {ds : List D} (tst : D → Bool) (out : D → D) {RR : Value → Addr → Result → Shared → Prop}
    (rm : Rm n A) (eo : EnvOk sc env) (ok : Ok hb g₁ s₁) (rd : Rd prog w g₁ s₁.heap env σ) (q : Rep prog w g₁ v d) (I : Itr prog w hb d ds) (hsz : ds.length ≤ sizeLine)
    (hcell : ∀ y ∈ scope.names, y.2 ≠ .cell) (hkind : scope.kind = .function) (hx : scope.names.lookup x = some .local)
    (hcl : ∀ y ∈ scope.names, y.2 = .free → cl.lookup y.1 = env.cells.lookup y.1)
    (hfree : ∀ y ∈ scope.names, y.2 = .free → (sc.names.lookup y.1 = some .cell ∨ sc.names.lookup y.1 = some .free))
    (ht : ∀ d ∈ ds, Tst prog w hb n (relS scope sc) (cst scope x d σ) ifs (tst d))
    (he : ∀ d ∈ ds, tst d = true → Ev prog w hb n (relS scope sc) (cst scope x d σ) elt (out d))
    (hRR : ∀ D C s' g' m, Kp s₁ s' → Grow g₁ s₁ g' s' → Rep prog w g' (.ref D) (.list ((ds.filter tst).map out)) → s'.heap.Ns C m → s₁.heap.get? C = none → g'.ob C = none → RR (.ref D) C (.ok .next) s') :
    wpAny (model prog w) A (pyIter v) (fun it s₂ => wpAny (model prog w) A (newList []) (fun acc s₃ => wpAny (model prog w) A (newFunctionEnv scope env.globals cl [] env.qual none .none (some env)) (fun cenv s₄ =>
      codeAny (model prog w) A (.compStart (.ListComp elt [⟨.Name x px, iter, ifs, 0⟩] scope pos) 0 it acc { cenv with scope := relabel scope env }) (RR acc cenv.locals) s₄) E s₃) E s₂) E s₁ := by
  refine I A g₁ s₁ v _ _ rm.handled ok q fun It fp P S s₂ k₂ W hSo hS hI hfp hfz hP => ?_
  refine wpAny_newObj_type (wpAny_newFunctionEnv hcell (by intro y hy; simp at hy) (fun h₁ hns₁ hsb₁ => ?_) hkind)
  dsimp only at hns₁ hsb₁ ⊢
  generalize hH2 : s₂.heap.push { cls := .type "list", dict := none, data := .seq ([] : List Value).toArray } = H2 at hns₁ hsb₁ ⊢
  have hC : H2.objs.size = s₂.heap.objs.size + 1 := by rw [← hH2, Heap.size_push]
  have hDC : s₂.heap.objs.size ≠ H2.objs.size := by rw [hC]; exact Nat.ne_of_lt (Nat.lt_succ_self _)
  have below : ∀ b, b < s₂.heap.objs.size → b ≠ H2.objs.size ∧ b ≠ s₂.heap.objs.size := fun b hb => ⟨by rw [hC]; exact Nat.ne_of_lt (Nat.lt_succ_of_lt hb), Nat.ne_of_lt hb⟩
  have old : ∀ b o, s₂.heap.get? b = some o → h₁.get? b = some o := fun b o e => hsb₁.extBut b o (below b (Heap.lt_size e)).1 (Heap.get?_push_of_some _ (hH2 ▸ Heap.get?_push_of_some _ e))
  have hacc : h₁.PlainList s₂.heap.objs.size #[] := ⟨_, hsb₁.extBut _ _ hDC (Heap.get?_push_of_some _ (hH2 ▸ Heap.get?_push_size _ rfl))⟩
  have fresh : ∀ a, s₂.heap.objs.size ≤ a → s₁.heap.get? a = none := fun a ha => by
    cases e : s₁.heap.get? a with
    | none => rfl
    | some o' => exact absurd (Heap.lt_size (kp_heap k₂ _ _ e)) (Nat.not_lt.mpr ha)
  have freshG : ∀ (a : Addr), s₁.heap.get? a = none → g₁.ob a = none := fun a ha => by
    cases e : g₁.ob a with
    | none => rfl
    | some o' => rw [ok.ins _ _ e] at ha; cases ha
  generalize hDn : s₂.heap.objs.size = D at *
  generalize hCn : H2.objs.size = C at *
  have hDltC : @LT.lt Nat _ D C := by rw [hC]; exact Nat.lt_succ_self _
  have hDf : D ∉ fp := fun hm => Nat.lt_irrefl _ (hfp _ hm)
  have hCf : C ∉ fp := fun hm => Nat.lt_asymm hDltC (hfp _ hm)
  have hIlt : @LT.lt Nat _ It D := hfp It (W.sub It (by simp))
  have hDI : D ≠ It := Nat.ne_of_gt hIlt
  have hCI : C ≠ It := Nat.ne_of_gt (Nat.lt_trans hIlt hDltC)
  have hs₁C : s₁.heap.get? C = none := fresh C (Nat.le_of_lt hDltC)
  have hs₁D : s₁.heap.get? D = none := fresh D (Nat.le_refl _)
  have k₁ : Kp s₁ { s₂ with heap := h₁, toks := s₂.toks + ([] : List (Str × Value)).length } := kp_trans k₂ (kp_of old (by simp))
  have hst₁ : S 0 h₁ := W.frame _ _ _ hS fun b _ o e => old b o e
  have eoc : EnvOk (relS scope sc) (compEnvC scope cl C env) := ⟨relS_eq eo.scope, eo.globals, eo.builtins, hkind⟩
  have loop : ∀ s₃ : Shared, s₃ = { s₂ with heap := h₁, toks := s₂.toks + ([] : List (Str × Value)).length } →
      codeAny (model prog w) A (.compLoop (.ListComp elt [⟨.Name x px, iter, ifs, 0⟩] scope pos) 0 (.ref It) (.ref D) (compEnvC scope cl C env)) (RR (.ref D) C) s₃ := by
    rintro s₃ rfl
    refine codeAny_compLoop_tests (fun k s' => ∃ i m' ys g', Kp s₁ s' ∧ Grow g₁ s₁ g' s' ∧ i ≤ ds.length ∧ k = ds.length + 1 - i ∧ S i s'.heap ∧ s'.heap.PlainList D (List.toArray ys) ∧ s'.heap.Ns C m' ∧ Reps prog w g' ys (((ds.take i).filter tst).map out) ∧
      g'.ob It = none ∧ g'.ob D = none ∧ g'.ob C = none) ?_ (ds.length + 1)
      ⟨0, _, [], g₁, k₁, ok.at k₁, Nat.zero_le _, rfl, hst₁, hacc, hns₁, by simpa using Reps.nil, freshG _ hI, freshG _ hs₁D, freshG _ hs₁C⟩
    rintro k s' ⟨i, m', ys, g', kS, GS, hi, rfl, hst, hpl, hns, hreps, gI, gD, gC⟩
    have okS := ok.grow GS
    by_cases hlt : i < ds.length
    · refine wpAny_with_toks (Nat.le_refl s'.toks) (W.item i _ _ _ hlt hst fun v h₂ tk₂ hPv hst₂ hk₂ hle₂ => ?_)
      have hle₂' : s'.toks ≤ tk₂ := hle₂
      obtain ⟨di, hdi, rvi⟩ := hP i v hlt hPv
      have hmem : di ∈ ds := List.mem_of_getElem? hdi
      have GS₂ : Grow g₁ s₁ g' { s' with heap := h₂, toks := tk₂ } := GS.but (M := [It]) hk₂ (by intro a ha; rw [List.mem_singleton.mp ha]; exact hI) (by intro a ha; rw [List.mem_singleton.mp ha]; exact gI) hle₂'
      have hns₂ : h₂.Ns C m' := hns.at' fun o e => hk₂ C o (by simpa using hCI) e
      have hpl₂ : h₂.PlainList D ys.toArray := hpl.at fun o e => hk₂ D o (by simpa using hDI) e
      refine wpAny_assign_Name (wpAny_storeName_local (lookup_relabel_local hx) hns₂ (fun h₃ hn₃ hs₃ => ?_) (by simp [compEnvC, relabel, hkind]))
      have hn₃' : h₃.Ns C (fun y => if y = x then some v else m' y) := hn₃
      have hs₃' : Heap.SameBut C h₂ h₃ := hs₃
      have GS₃ : Grow g₁ s₁ g' { s' with heap := h₃, toks := tk₂ + 1 } := GS₂.but (M := [C]) (fun b o hb e => hs₃'.extBut b o (fun h => hb (by simp [h])) e) (by intro a ha; rw [List.mem_singleton.mp ha]; exact hs₁C) (by intro a ha; rw [List.mem_singleton.mp ha]; exact gC) (Nat.le_succ _)
      have ok₃ := ok.grow GS₃
      have kS₃ : Kp s₁ { s' with heap := h₃, toks := tk₂ + 1 } := by
        obtain ⟨⟨ha, ta, rfl, _⟩, _⟩ := kS
        exact ⟨⟨h₃, _, rfl, GS₃.keep⟩, GS₃.toks⟩
      have rd₃ : Rd prog w g' h₃ (compEnvC scope cl C env) (cst scope x di σ) := by
        intro y dy hy
        unfold cst at hy
        by_cases hyx : y = x
        · subst hyx
          rw [if_pos rfl] at hy
          cases hy
          exact ⟨v, .inl ⟨lookup_relabel_local hx, _, hn₃', by simp⟩, rvi.mono GS₃.sub⟩
        · rw [if_neg hyx] at hy
          by_cases hyf : scope.names.lookup y = some .free
          · rw [if_pos hyf] at hy
            have hmy := mem_of_lookup hyf
            obtain ⟨v', l, rq⟩ := rd y dy hy
            refine ⟨v', .inr ⟨?_, ?_⟩, rq.mono GS₃.sub⟩
            · have := lookup_free (sc := sc) hyf
              unfold Env.kindOf
              rw [eoc.scope]
              exact this
            · rcases l with ⟨hk, _⟩ | ⟨hk, c, hc, hic⟩
              · have := hfree _ hmy rfl
                unfold Env.kindOf at hk
                rw [eo.scope] at hk
                rcases this with h | h <;> rw [h] at hk <;> cases hk
              · exact ⟨c, (hcl _ hmy rfl).trans hc, hic.keeps GS₃.keep⟩
          · rw [if_neg hyf] at hy; cases hy
      have hst₃ : S (i + 1) h₃ := W.frame _ _ _ hst₂ fun b hb o e => hs₃'.extBut b o (fun h => hCf (h ▸ hb)) e
      have hpl₃ : h₃.PlainList D ys.toArray := hpl₂.at fun o e => hs₃'.extBut D o hDC e
      have htake : ds.take (i + 1) = ds.take i ++ [di] := by rw [List.take_add_one, hdi]; rfl
      refine ht di hmem A _ g' _ _ _ rm eoc ok₃ rd₃ fun s₄ k₄ => ?_
      have G₄ := ok₃.at k₄
      have ok₄ := ok₃.grow G₄
      have rd₄ := rd₃.stay ok₃ k₄
      cases hb : tst di with
      | false =>
        simp only [Bool.false_eq_true, if_false]
        refine ⟨ds.length + 1 - (i + 1), by omega, i + 1, _, ys, g', kp_trans kS₃ k₄, GS₃.trans G₄, hlt, rfl, W.frame _ _ _ hst₃ fun b _ o e => kp_heap k₄ b o e, hpl₃.at fun o e => kp_heap k₄ _ o e, hn₃'.keeps (kp_heap k₄), ?_, gI, gD, gC⟩
        rw [htake, List.filter_append]
        simpa [hb] using hreps
      | true =>
        simp only [if_true]
        refine he di hmem hb A _ g' s₄ _ _ rm eoc ok₄ rd₄ fun y g₅ s₅ k₅ G₅ q₅ => ?_
        have hpl₅ : s₅.heap.PlainList D ys.toArray := hpl₃.at fun o e => G₅.keep _ o (kp_heap k₄ _ o e)
        have hys : ys.toArray.size ≤ sizeLine := by
          have e1 := hreps.length
          have e2 : (((ds.take i).filter tst).map out).length ≤ (ds.take i).length := by rw [List.length_map]; exact List.length_filter_le _ _
          have e3 : (ds.take i).length ≤ ds.length := by rw [List.length_take]; omega
          simp; omega
        refine wpAny_list_append_plain (hsz := hys) hpl₅ fun h₆ hpl₆ hs₆ => ?_
        have hIal : ∃ o, s₄.heap.get? It = some o := by
          obtain ⟨o, ho⟩ := hSo _ _ hst₃
          exact ⟨o, kp_heap k₄ _ _ ho⟩
        obtain ⟨oI, hoI⟩ := hIal
        obtain ⟨nD, hoD⟩ := id hpl₃
        obtain ⟨oC, _, _, hoC, _⟩ := id hn₃'
        have gI₅ : g₅.ob It = none := G₅.none hoI gI
        have gD₅ : g₅.ob D = none := G₅.none (kp_heap k₄ _ _ hoD) gD
        have gC₅ : g₅.ob C = none := G₅.none (kp_heap k₄ _ _ hoC) gC
        have G₆ : Grow g₁ s₁ g₅ { s₅ with heap := h₆, toks := s₅.toks } := ((GS₃.trans G₄).trans G₅).but (M := [D]) (fun b o hb e => hs₆.extBut b o (fun h => hb (by simp [h])) e) (by intro a ha; rw [List.mem_singleton.mp ha]; exact hs₁D) (by intro a ha; rw [List.mem_singleton.mp ha]; exact gD₅) (Nat.le_refl _)
        have kS₆ : Kp s₁ { s₅ with heap := h₆, toks := s₅.toks } := by
          obtain ⟨⟨ha, ta, rfl, _⟩, _⟩ := kp_trans kS₃ (kp_trans k₄ k₅)
          exact ⟨⟨h₆, _, rfl, G₆.keep⟩, G₆.toks⟩
        refine ⟨ds.length + 1 - (i + 1), by omega, i + 1, fun y => if y = x then some v else m' y, ys ++ [y], g₅, kS₆, G₆, hlt, rfl, ?_, ?_, ?_, ?_, gI₅, gD₅, gC₅⟩
        · exact W.frame _ _ _ hst₃ fun b hb o e => hs₆.extBut b o (fun h => hDf (h ▸ hb)) (G₅.keep _ o (kp_heap k₄ _ o e))
        · simpa using hpl₆
        · exact ((hn₃'.keeps (kp_heap k₄)).keeps G₅.keep).sameBut hs₆ (Ne.symm hDC)
        · rw [htake, List.filter_append, List.map_append]
          have := (hreps.mono G₅.sub).snoc q₅
          simpa [hb] using this
    · have hin : i = ds.length := by omega
      subst hin
      refine wpAny_with_toks (Nat.le_refl s'.toks) (W.done _ _ _ hst fun h₂ tk₂ hk₂ hle₂ => ?_)
      have hle₂' : s'.toks ≤ tk₂ := hle₂
      have GS₂ : Grow g₁ s₁ g' { s' with heap := h₂, toks := tk₂ } := GS.but (M := [It]) hk₂ (by intro a ha; rw [List.mem_singleton.mp ha]; exact hI) (by intro a ha; rw [List.mem_singleton.mp ha]; exact gI) hle₂'
      obtain ⟨nD, hoD⟩ := hpl
      have hoD₂ : h₂.get? D = some (lstO ys nD) := hk₂ D _ (by simpa using hDI) hoD
      have kS₂ : Kp s₁ { s' with heap := h₂, toks := tk₂ } := by
        obtain ⟨⟨ha, ta, rfl, _⟩, _⟩ := kS
        exact ⟨⟨h₂, _, rfl, GS₂.keep⟩, GS₂.toks⟩
      refine hRR D C _ (g'.put D (lstO ys nD)) m' kS₂ (GS₂.put hoD₂ hs₁D) (.list Froz.put_self ?_) (hns.at' fun o e => hk₂ C o (by simpa using hCI) e) hs₁C ?_
      · have := hreps.mono (GS₂.put_sub hoD₂)
        simpa using this
      · show (if C = D then _ else g'.ob C) = none
        rw [if_neg (Ne.symm hDC)]; exact gC
  exact codeAny_compStart_list (loop _ rfl) (W.self 0 _ _ _ hst₁ (loop _ rfl))
/-- a comprehension: tests and items by the item's datum -/
theorem Ev.comp {elt iter : Expr} {x : Str} {px : Pos} {ifs : List Expr} {scope : Scope} {pos : Pos} {d : D} {ds : List D} (tst : D → Bool) (out : D → D)
    (hit : Ev prog w hb n sc σ iter d) (I : Itr prog w hb d ds) (hsz : ds.length ≤ sizeLine)
    (hcell : ∀ y ∈ scope.names, y.2 ≠ .cell) (hkind : scope.kind = .function) (hnames : ∀ y ∈ scope.names, y.2 = .local → scope.names.lookup y.1 = some .local) (hx : scope.names.lookup x = some .local)
    (hfree : ∀ y ∈ scope.names, y.2 = .free → (∃ d, σ y.1 = some d) ∧ (sc.names.lookup y.1 = some .cell ∨ sc.names.lookup y.1 = some .free))
    (ht : ∀ d ∈ ds, Tst prog w hb n (relS scope sc) (cst scope x d σ) ifs (tst d))
    (he : ∀ d ∈ ds, tst d = true → Ev prog w hb n (relS scope sc) (cst scope x d σ) elt (out d))
    (hs : ∀ (env : Env) x, foldedSetIterable iter env x = pure x := by intro _ _; rfl) : Ev prog w hb n sc σ (.ListComp elt [⟨.Name x px, iter, ifs, 0⟩] scope pos) (.list ((ds.filter tst).map out)) := by
  intro A env g s Q E rm eo ok rd h
  have hcells : ∀ y ∈ scope.names, y.2 = .free → ∃ c, env.cells.lookup y.1 = some c := fun y hy hf => by
    obtain ⟨⟨dy, hdy⟩, hk⟩ := hfree y hy hf
    obtain ⟨v, l, _⟩ := rd y.1 dy hdy
    rcases l with ⟨hk', _⟩ | ⟨_, c, hc, _⟩
    · unfold Env.kindOf at hk'
      rw [eo.scope] at hk'
      rcases hk with h | h <;> rw [h] at hk' <;> cases hk'
    · exact ⟨c, hc⟩
  obtain ⟨cl, hclos, hcl⟩ := clos_of hcells
  rw [eval_ListComp]
  refine wpAny_comprehension_free (use := .none) rfl (hs env) hclos hkind hnames (hit A env g s _ _ rm eo ok rd fun v g₁ s₁ k₁ G₁ q₁ => ?_)
  refine comp_core (RR := fun acc C => compPost (model prog w) A E .none Q acc C) tst out rm eo (ok.grow G₁) (rd.grow G₁) q₁ I hsz hcell hkind hx hcl (fun y hy hf => (hfree y hy hf).2) ht he ?_
  intro D C s' g' m k G q hns hC gC
  refine ⟨m, hns, fun h' hs' => ?_⟩
  have G' : Grow g₁ s₁ g' { s' with heap := h', toks := s'.toks } := G.but (M := [C]) (fun b o hb e => hs'.extBut b o (fun h => hb (by simp [h])) e) (by intro a ha; rw [List.mem_singleton.mp ha]; exact hC) (by intro a ha; rw [List.mem_singleton.mp ha]; exact gC) (Nat.le_refl _)
  refine h _ g' _ (kp_trans k₁ ?_) (G₁.trans G') q
  obtain ⟨⟨ha, ta, rfl, _⟩, _⟩ := k
  exact ⟨⟨h', _, rfl, G'.keep⟩, G'.toks⟩
end
/-- states of names -/
def upd (σ : St) (x : Str) (d : D) : St := fun y => if y = x then some d else σ y
def del (σ : St) (x : Str) : St := fun y => if y = x then none else σ y
def Le (σ σ' : St) : Prop := ∀ x d, σ x = some d → σ' x = some d
theorem Le.refl (σ : St) : Le σ σ := fun _ _ e => e

section
variable (prog : Program) (w : World)
/-- an object that its frame alone holds, and may turn -/
def OwnAt (g : Froz) (h : Heap) (a : Addr) : D → Prop
  | .list ds => ∃ vs m, h.get? a = some (lstO vs m) ∧ Reps prog w g vs ds
  | .dict ds => ∃ o kvs, h.get? a = some o ∧ o.IsDictOf (strKind prog w) kvs ∧ KeyTok g.tk o ∧ (a == sysModules) = false ∧ RepsKV prog w g kvs ds
  | _ => False
end
theorem OwnAt.alive {prog : Program} {w : World} {g : Froz} {h : Heap} {a : Addr} {d : D} (x : OwnAt prog w g h a d) : ∃ o, h.get? a = some o := by
  cases d with
  | list ds => obtain ⟨vs, m, h1, _⟩ := x; exact ⟨_, h1⟩
  | dict ds => obtain ⟨o, _, h1, _⟩ := x; exact ⟨o, h1⟩
  | _ => exact x.elim
theorem OwnAt.mono {prog : Program} {w : World} {g g' : Froz} {h h' : Heap} {a : Addr} {d : D} (x : OwnAt prog w g h a d) (hs : Sub g g') (hk : ∀ o, h.get? a = some o → h'.get? a = some o) : OwnAt prog w g' h' a d := by
  cases d with
  | list ds => obtain ⟨vs, m, h1, h2⟩ := x; exact ⟨vs, m, hk _ h1, h2.mono hs⟩
  | dict ds => obtain ⟨o, kvs, h1, h2, h3, h4, h5⟩ := x; exact ⟨o, kvs, hk _ h1, h2, h3.mono hs.tk, h4, h5.mono hs⟩
  | _ => exact x.elim

/-- addresses that the frame may turn -/
def MutA (env : Env) (α : Str → Addr) (ω : St) (b : Addr) : Prop := b = env.locals ∨ (∃ y, env.cells.lookup y = some b) ∨ ∃ x d, ω x = some d ∧ b = α x

section
variable (prog : Program) (w : World) (hb : Heap)
structure Frm (g₀ : Froz) (s₀ : Shared) (env : Env) (α : Str → Addr) (σ ω : St) (g : Froz) (s : Shared) : Prop where
  ok₀ : Ok hb g₀ s₀
  kp : Kp s₀ s
  grow : Grow g₀ s₀ g s
  ns : ∃ m, s.heap.Ns env.locals m
  cells : ∀ x c, env.cells.lookup x = some c → c ≠ env.locals ∧ ∃ v, s.heap.IsCell c v
  capart : ∀ x y c, env.cells.lookup x = some c → env.cells.lookup y = some c → x = y
  cex : ∀ x, env.kindOf x = some .cell → ∃ c, env.cells.lookup x = some c
  rd : Rd prog w g s.heap env σ
  own : ∀ x d, ω x = some d → Loc s.heap env x (.ref (α x)) ∧ OwnAt prog w g s.heap (α x) d ∧ α x ≠ env.locals ∧ ∀ y c, env.cells.lookup y = some c → c ≠ α x
  oapart : ∀ x y dx dy, ω x = some dx → ω y = some dy → α x = α y → x = y
  mu : ∀ b, MutA env α ω b → s₀.heap.get? b = none ∧ g.ob b = none
/-- what a statement leaves -/
structure Nx (env : Env) (α : Str → Addr) (ω : St) (g : Froz) (s : Shared) (g' : Froz) (s' : Shared) : Prop where
  keep : ∀ b o, ¬ MutA env α ω b → s.heap.get? b = some o → s'.heap.get? b = some o
  sub : Sub g g'
  new : ∀ b o, g'.ob b = some o → g.ob b = some o ∨ s.heap.get? b = none
  toks : s.toks ≤ s'.toks
  live : ∀ b o, s.heap.get? b = some o → ∃ o', s'.heap.get? b = some o'

inductive Out where
  | next (σ ω : St)
  | ret (d : D)
def Then (g₀ : Froz) (s₀ : Shared) (env : Env) (α : Str → Addr) (ω : St) (g : Froz) (s : Shared) (Q : Flow → Shared → Prop) : Out → Prop
  | .next σ' ω' => ∀ g' s', Frm prog w hb g₀ s₀ env α σ' ω' g' s' → Nx env α ω g s g' s' → Q .next s'
  | .ret d => ∀ v g' s', Kp s₀ s' → Grow g₀ s₀ g' s' → Rep prog w g' v d → Q (.ret v) s'
/-- statements in a row -/
def Ex (n : Nat) (sc : Scope) (σ ω : St) (st : List Stmt) (out : Out) : Prop :=
  ∀ (A : Around) (env : Env) (α : Str → Addr) (g₀ : Froz) (s₀ : Shared) (g : Froz) (s : Shared) (Q : Flow → Shared → Prop) (E : Value → Shared → Prop), Rm n A → EnvOk sc env → Frm prog w hb g₀ s₀ env α σ ω g s →
    Then prog w hb g₀ s₀ env α ω g s Q out → wpAny (model prog w) A (execs st env) Q E s
/-- one statement -/
def Ex1 (n : Nat) (sc : Scope) (σ ω : St) (st : Stmt) (out : Out) : Prop :=
  ∀ (A : Around) (env : Env) (α : Str → Addr) (g₀ : Froz) (s₀ : Shared) (g : Froz) (s : Shared) (Q : Flow → Shared → Prop) (E : Value → Shared → Prop), Rm n A → EnvOk sc env → Frm prog w hb g₀ s₀ env α σ ω g s →
    Then prog w hb g₀ s₀ env α ω g s Q out → wpAny (model prog w) A (exec st env) Q E s
end

section
variable {prog : Program} {w : World} {hb : Heap} {n : Nat} {sc : Scope} {σ σ' ω ω' : St} {K : Frag} {g₀ g g' : Froz} {s₀ s s' : Shared} {env : Env} {α : Str → Addr}
theorem Frm.ok (F : Frm prog w hb g₀ s₀ env α σ ω g s) : Ok hb g s := F.ok₀.grow F.grow
theorem Nx.refl : Nx env α ω g s g s := ⟨fun _ _ _ e => e, Sub.refl g, fun _ _ e => .inl e, Nat.le_refl _, fun _ o e => ⟨o, e⟩⟩
theorem MutA.mono (hω : ∀ x d, ω' x = some d → ∃ d', ω x = some d') {b : Addr} (h : MutA env α ω' b) : MutA env α ω b := by
  rcases h with h | h | ⟨x, d, hx, hb⟩
  · exact .inl h
  · exact .inr (.inl h)
  · obtain ⟨d', hd'⟩ := hω x d hx
    exact .inr (.inr ⟨x, d', hd', hb⟩)
theorem Nx.trans {g'' : Froz} {s'' : Shared} (hω : ∀ x d, ω' x = some d → ∃ d', ω x = some d') (a : Nx env α ω g s g' s') (b : Nx env α ω' g' s' g'' s'') : Nx env α ω g s g'' s'' := by
  refine ⟨fun x o hn e => b.keep x o (fun h => hn (h.mono hω)) (a.keep x o hn e), a.sub.trans b.sub, fun x o e => ?_, Nat.le_trans a.toks b.toks, fun x o e => ?_⟩
  · rcases b.new x o e with h | h
    · exact a.new x o h
    · right
      cases q : s.heap.get? x with
      | none => rfl
      | some o' =>
        obtain ⟨o'', q'⟩ := a.live x o' q
        rw [q'] at h; cases h
  · obtain ⟨o', h⟩ := a.live x o e
    exact b.live x o' h
/-- an expression leaves the frame as it is -/
theorem Frm.eval (F : Frm prog w hb g₀ s₀ env α σ ω g s) (k : Kp s s') (G : Grow g s g' s') : Frm prog w hb g₀ s₀ env α σ ω g' s' := by
  have alive : ∀ b, MutA env α ω b → ∃ o, s.heap.get? b = some o := by
    rintro b (rfl | ⟨y, hy⟩ | ⟨x, d, hx, rfl⟩)
    · obtain ⟨m, o, _, _, ho, _⟩ := F.ns; exact ⟨o, ho⟩
    · obtain ⟨_, v, o, ho, _⟩ := F.cells y b hy; exact ⟨o, ho⟩
    · exact (F.own x d hx).2.1.alive
  refine ⟨F.ok₀, kp_trans F.kp k, F.grow.trans G, ?_, fun x c hc => ?_, F.capart, F.cex, F.rd.grow G, fun x d hx => ?_, F.oapart, fun b hbm => ?_⟩
  · obtain ⟨m, hm⟩ := F.ns; exact ⟨m, hm.keeps G.keep⟩
  · obtain ⟨h1, v, hv⟩ := F.cells x c hc; exact ⟨h1, v, hv.keeps G.keep⟩
  · obtain ⟨h1, h2, h3, h4⟩ := F.own x d hx
    exact ⟨h1.keeps G.keep, h2.mono G.sub fun o e => G.keep _ o e, h3, h4⟩
  · obtain ⟨h1, h2⟩ := F.mu b hbm
    obtain ⟨o, ho⟩ := alive b hbm
    exact ⟨h1, G.none ho h2⟩
theorem nx_eval (G : Grow g s g' s') : Nx env α ω g s g' s' := ⟨fun b o _ e => G.keep b o e, G.sub, G.new, G.toks, fun b o e => ⟨o, G.keep b o e⟩⟩
theorem Frm.weak (F : Frm prog w hb g₀ s₀ env α σ ω g s) (h : Le σ' σ) (hω : Le ω' ω) : Frm prog w hb g₀ s₀ env α σ' ω' g s :=
  ⟨F.ok₀, F.kp, F.grow, F.ns, F.cells, F.capart, F.cex, fun x d e => F.rd x d (h x d e), fun x d e => F.own x d (hω x d e), fun x y dx dy hx hy => F.oapart x y dx dy (hω _ _ hx) (hω _ _ hy), fun b hm => F.mu b (hm.mono fun x d e => ⟨d, hω x d e⟩)⟩
theorem ns_ne {h : Heap} {L : Addr} {m : Str → Option Value} (x : h.Ns L m) : True := trivial

/-- the heap turns at one address that the frame may turn, nothing else -/
theorem Frm.turn (F : Frm prog w hb g₀ s₀ env α σ ω g s) {a : Addr} {h' : Heap} {tk : Nat} (ha : MutA env α ω a) (hs : Heap.SameBut a s.heap h') (ht : s.toks ≤ tk) : Grow g₀ s₀ g { s with heap := h', toks := tk } ∧ Kp s₀ { s with heap := h', toks := tk } := by
  have G : Grow g₀ s₀ g { s with heap := h', toks := tk } := F.grow.but (M := [a]) (fun b o hb e => hs.extBut b o (fun h => hb (by simp [h])) e) (by intro b hb; rw [List.mem_singleton.mp hb]; exact (F.mu a ha).1) (by intro b hb; rw [List.mem_singleton.mp hb]; exact (F.mu a ha).2) ht
  refine ⟨G, ?_⟩
  obtain ⟨⟨h1, t1, rfl, _⟩, _⟩ := F.kp
  exact ⟨⟨h', tk, rfl, G.keep⟩, G.toks⟩

/-- how a name is kept -/
def Kept (sc : Scope) (x : Str) : Prop := sc.names.lookup x = some .local ∨ sc.names.lookup x = some .cell

/-- a store to a name, whatever the value -/
theorem Frm.put (F : Frm prog w hb g₀ s₀ env α σ ω g s) (eo : EnvOk sc env) {x : Str} {v : Value} {A : Around} {Q : Unit → Shared → Prop} {E : Value → Shared → Prop} (hx : Kept sc x)
    (h : ∀ s', Frm prog w hb g₀ s₀ env α (del σ x) (del ω x) g s' → Loc s'.heap env x v → Nx env α ω g s g s' → Q () s') : wpAny (model prog w) A (storeName env x v) Q E s := by
  have hf : env.scope.kind = .function := by rw [eo.scope]; exact eo.kind
  have ok := F.ok
  rcases hx with hl | hl
  · have hl' : env.kindOf x = some .local := by unfold Env.kindOf; rw [eo.scope]; exact hl
    obtain ⟨m, hm⟩ := F.ns
    refine wpAny_storeName_local hl' hm (fun h' hn' hs' => ?_) (by rw [hf]; rfl)
    have hmL : MutA env α ω env.locals := .inl rfl
    obtain ⟨G, kp⟩ := F.turn hmL hs' (Nat.le_succ s.toks)
    have locy : ∀ y u, y ≠ x → Loc s.heap env y u → Loc h' env y u := by
      rintro y u hyx (⟨hk, m₁, hm₁, hu⟩ | ⟨hk, c, hcc, hi⟩)
      · have e := ns_unique hm₁ hm
        subst e
        exact .inl ⟨hk, _, hn', by simp [hyx, hu]⟩
      · exact .inr ⟨hk, c, hcc, hi.sameBut hs' (F.cells y c hcc).1⟩
    refine h _ ⟨F.ok₀, kp, G, ⟨_, hn'⟩, fun y c hcc => ?_, F.capart, F.cex, fun y d hy => ?_, fun y d hy => ?_, fun y z dy dz hy hz => ?_, fun b hbm => F.mu b (hbm.mono fun y d e => ?_)⟩ (.inl ⟨hl', _, hn', by simp⟩) ⟨fun b o hn e => hs'.extBut b o (fun q => hn (q ▸ hmL)) e, Sub.refl g, fun _ _ e => .inl e, Nat.le_succ _, fun b o e => ?_⟩
    · obtain ⟨h1, u, hu⟩ := F.cells y c hcc
      exact ⟨h1, u, hu.sameBut hs' h1⟩
    · unfold del at hy
      by_cases hyx : y = x
      · rw [if_pos hyx] at hy; cases hy
      · rw [if_neg hyx] at hy
        obtain ⟨u, l, q⟩ := F.rd y d hy
        exact ⟨u, locy y u hyx l, q⟩
    · unfold del at hy
      by_cases hyx : y = x
      · rw [if_pos hyx] at hy; cases hy
      · rw [if_neg hyx] at hy
        obtain ⟨h1, h2, h3, h4⟩ := F.own y d hy
        exact ⟨locy y _ hyx h1, h2.mono (Sub.refl g) fun o e => hs'.extBut _ o h3 e, h3, h4⟩
    · unfold del at hy hz
      by_cases hyx : y = x
      · rw [if_pos hyx] at hy; cases hy
      · by_cases hzx : z = x
        · rw [if_pos hzx] at hz; cases hz
        · rw [if_neg hyx] at hy; rw [if_neg hzx] at hz; exact F.oapart y z dy dz hy hz
    · unfold del at e
      by_cases hyx : y = x
      · rw [if_pos hyx] at e; cases e
      · rw [if_neg hyx] at e; exact ⟨d, e⟩
    · by_cases q : b = env.locals
      · obtain ⟨o', _, _, ho', _⟩ := hn'
        exact ⟨o', q ▸ ho'⟩
      · exact ⟨o, hs'.extBut b o q e⟩
  · have hl' : env.kindOf x = some .cell := by unfold Env.kindOf; rw [eo.scope]; exact hl
    obtain ⟨c, hcx⟩ := F.cex x hl'
    obtain ⟨hcL, v₀, hv₀⟩ := F.cells x c hcx
    refine wpAny_storeName_cell hf hl' hcx hv₀ fun h' hn' hs' => ?_
    have hmL : MutA env α ω c := .inr (.inl ⟨x, hcx⟩)
    obtain ⟨G, kp⟩ := F.turn hmL hs' (Nat.le_refl s.toks)
    have locy : ∀ y u, y ≠ x → Loc s.heap env y u → Loc h' env y u := by
      rintro y u hyx (⟨hk, m₁, hm₁, hu⟩ | ⟨hk, c', hcc, hi⟩)
      · exact .inl ⟨hk, _, hm₁.sameBut hs' (Ne.symm hcL), hu⟩
      · exact .inr ⟨hk, c', hcc, hi.sameBut hs' fun e => hyx (F.capart y x c' hcc (e ▸ hcx))⟩
    refine h _ ⟨F.ok₀, kp, G, ?_, fun y c' hcc => ?_, F.capart, F.cex, fun y d hy => ?_, fun y d hy => ?_, fun y z dy dz hy hz => ?_, fun b hbm => F.mu b (hbm.mono fun y d e => ?_)⟩ (.inr ⟨.inl hl', c, hcx, hn'⟩) ⟨fun b o hn e => hs'.extBut b o (fun q => hn (q ▸ hmL)) e, Sub.refl g, fun _ _ e => .inl e, Nat.le_refl _, fun b o e => ?_⟩
    · obtain ⟨m, hm⟩ := F.ns; exact ⟨m, hm.sameBut hs' (Ne.symm hcL)⟩
    · obtain ⟨h1, u, hu⟩ := F.cells y c' hcc
      by_cases e : c' = c
      · subst e; exact ⟨h1, _, hn'⟩
      · exact ⟨h1, u, hu.sameBut hs' e⟩
    · unfold del at hy
      by_cases hyx : y = x
      · rw [if_pos hyx] at hy; cases hy
      · rw [if_neg hyx] at hy
        obtain ⟨u, l, q⟩ := F.rd y d hy
        exact ⟨u, locy y u hyx l, q⟩
    · unfold del at hy
      by_cases hyx : y = x
      · rw [if_pos hyx] at hy; cases hy
      · rw [if_neg hyx] at hy
        obtain ⟨h1, h2, h3, h4⟩ := F.own y d hy
        exact ⟨locy y _ hyx h1, h2.mono (Sub.refl g) fun o e => hs'.extBut _ o (Ne.symm (h4 x c hcx)) e, h3, h4⟩
    · unfold del at hy hz
      by_cases hyx : y = x
      · rw [if_pos hyx] at hy; cases hy
      · by_cases hzx : z = x
        · rw [if_pos hzx] at hz; cases hz
        · rw [if_neg hyx] at hy; rw [if_neg hzx] at hz; exact F.oapart y z dy dz hy hz
    · unfold del at e
      by_cases hyx : y = x
      · rw [if_pos hyx] at e; cases e
      · rw [if_neg hyx] at e; exact ⟨d, e⟩
    · by_cases q : b = c
      · obtain ⟨o', ho', _⟩ := hn'
        exact ⟨o', q ▸ ho'⟩
      · exact ⟨o, hs'.extBut b o q e⟩
/-- a store of a datum -/
theorem Frm.store (F : Frm prog w hb g₀ s₀ env α σ ω g s) (eo : EnvOk sc env) {x : Str} {v : Value} {d : D} {A : Around} {Q : Unit → Shared → Prop} {E : Value → Shared → Prop} (hx : Kept sc x) (q : Rep prog w g v d)
    (h : ∀ s', Frm prog w hb g₀ s₀ env α (upd σ x d) (del ω x) g s' → Nx env α ω g s g s' → Q () s') : wpAny (model prog w) A (storeName env x v) Q E s :=
  F.put eo hx fun s' F' l N => h s' ⟨F'.ok₀, F'.kp, F'.grow, F'.ns, F'.cells, F'.capart, F'.cex, fun y dy hy => by
    unfold upd at hy
    by_cases hyx : y = x
    · subst hyx; rw [if_pos rfl] at hy; cases hy; exact ⟨v, l, q⟩
    · rw [if_neg hyx] at hy
      exact F'.rd y dy (by unfold del; rw [if_neg hyx]; exact hy), F'.own, F'.oapart, F'.mu⟩ N
end
section
variable {prog : Program} {w : World} {hb : Heap} {n : Nat} {sc : Scope} {σ σ' σ'' ω ω' ω'' : St} {K : Frag}
def Dom (ω' ω : St) : Prop := ∀ x d, ω' x = some d → ∃ d', ω x = some d'
theorem Dom.refl (ω : St) : Dom ω ω := fun x d e => ⟨d, e⟩
theorem Dom.del {ω : St} {x : Str} : Dom (del ω x) ω := fun y d e => by
  unfold Mine.del at e
  by_cases h : y = x
  · rw [if_pos h] at e; cases e
  · rw [if_neg h] at e; exact ⟨d, e⟩
theorem Frm.muG {g₀ g : Froz} {s₀ s : Shared} {env : Env} {α : Str → Addr} (F : Frm prog w hb g₀ s₀ env α σ ω g s) : ∀ b, MutA env α ω b → g.ob b = none := fun b h => (F.mu b h).2
theorem Frm.alive {g₀ g : Froz} {s₀ s : Shared} {env : Env} {α : Str → Addr} (F : Frm prog w hb g₀ s₀ env α σ ω g s) : ∀ b, MutA env α ω b → ∃ o, s.heap.get? b = some o := by
  rintro b (rfl | ⟨y, hy⟩ | ⟨x, d, hx, rfl⟩)
  · obtain ⟨m, o, _, _, ho, _⟩ := F.ns; exact ⟨o, ho⟩
  · obtain ⟨_, v, o, ho, _⟩ := F.cells y b hy; exact ⟨o, ho⟩
  · exact (F.own x d hx).2.1.alive
/-- addresses that were alive and not frozen stay so -/
theorem Nx.still {g g' : Froz} {s s' : Shared} {env : Env} {α : Str → Addr} (N : Nx env α ω g s g' s') {b : Addr} {o : Obj} (ha : s.heap.get? b = some o) (hg : g.ob b = none) : g'.ob b = none := by
  cases q : g'.ob b with
  | none => rfl
  | some x =>
    rcases N.new b x q with h | h
    · rw [hg] at h; cases h
    · rw [ha] at h; cases h

theorem Ex.nil : Ex prog w hb n sc σ ω [] (.next σ ω) := fun A env α g₀ s₀ g s Q E rm eo F h => wpAny_execs_nil (h g s F Nx.refl)
theorem Ex.nil_weak (h : Le σ' σ) (hω : Le ω' ω) : Ex prog w hb n sc σ ω [] (.next σ' ω') := fun A env α g₀ s₀ g s Q E rm eo F hq => wpAny_execs_nil (hq g s (F.weak h hω) Nx.refl)
theorem Ex.cons {st : Stmt} {rest : List Stmt} {out : Out} (h1 : Ex1 prog w hb n sc σ ω st (.next σ' ω')) (hd : Dom ω' ω) (h2 : Ex prog w hb n sc σ' ω' rest out) : Ex prog w hb n sc σ ω (st :: rest) out :=
  fun A env α g₀ s₀ g s Q E rm eo F h => wpAny_execs_cons (h1 A env α g₀ s₀ g s _ _ rm eo F fun g₁ s₁ F₁ N₁ => h2 A env α g₀ s₀ g₁ s₁ Q E rm eo F₁ (by
    cases out with
    | ret d => exact h
    | next σ₂ ω₂ =>
      intro g₂ s₂ F₂ N₂
      exact h g₂ s₂ F₂ (N₁.trans hd N₂)))
theorem Ex.cons_ret {st : Stmt} {rest : List Stmt} {d : D} (h1 : Ex1 prog w hb n sc σ ω st (.ret d)) : Ex prog w hb n sc σ ω (st :: rest) (.ret d) :=
  fun A env α g₀ s₀ g s Q E rm eo F h => wpAny_execs_cons (h1 A env α g₀ s₀ g s _ _ rm eo F fun v g' s' k G q => h v g' s' k G q)

/-! ### plain statements -/
theorem Ex1.assign {x : Str} {pos' pos : Pos} {value : Expr} {d : D} (hv : Ev prog w hb n sc σ value d) (hx : Kept sc x)
    (hs : ∀ env : Env, swapsWith value (some (.Name x pos')) pos.line env = pure false := by intro _; rfl) : Ex1 prog w hb n sc σ ω (.Assign [.Name x pos'] value pos) (.next (upd σ x d) (del ω x)) :=
  fun A env α g₀ s₀ g s Q E rm eo F h => wpAny_Assign_Name (hv A env g s _ _ rm eo F.ok F.rd fun v g₁ s₁ k₁ G₁ q₁ => (F.eval k₁ G₁).store eo hx q₁ fun s₂ F₂ N₂ => h g₁ s₂ F₂ ((nx_eval G₁).trans (Dom.refl ω) N₂)) (hs env)
theorem Ex1.aug {x : Str} {pos' pos : Pos} {value : Expr} {op : Operator} {d₁ d₂ d : D} (h1 : σ x = some d₁) (hv : Ev prog w hb n sc σ value d₂) (ho : Op2 prog w hb n (inplaceOp op) d₁ d₂ d) (hx : Kept sc x) (hn : (x == ("__classdict__" : Str)) = false := by decide) :
    Ex1 prog w hb n sc σ ω (.AugAssign (.Name x pos') op value pos) (.next (upd σ x d) (del ω x)) := fun A env α g₀ s₀ g s Q E rm eo F h => by
  obtain ⟨v₁, l, q⟩ := F.rd x d₁ h1
  refine wpAny_AugAssign_Name (load_loc (by rw [eo.scope]; exact eo.kind) l (hv A env g s _ _ rm eo F.ok F.rd fun v g₁ s₁ k₁ G₁ q₁ => ?_) hn)
  refine ho A g₁ s₁ v₁ v _ _ rm (F.ok.grow G₁) (q.mono G₁.sub) q₁ fun r g₂ s₂ k₂ G₂ q₂ => ?_
  exact ((F.eval k₁ G₁).eval k₂ G₂).store eo hx q₂ fun s₃ F₃ N₃ => h g₂ s₃ F₃ ((nx_eval (G₁.trans G₂)).trans (Dom.refl ω) N₃)
theorem Ex1.ret {e : Expr} {pos : Pos} {d : D} (he : Ev prog w hb n sc σ e d) : Ex1 prog w hb n sc σ ω (.Return (some e) pos) (.ret d) := fun A env α g₀ s₀ g s Q E rm eo F h =>
  wpAny_Return_some (he A env g s _ _ rm eo F.ok F.rd fun v g₁ s₁ k₁ G₁ q₁ => h v g₁ s₁ (kp_trans F.kp k₁) (F.grow.trans G₁) q₁)
theorem Ex.ret {e : Expr} {pos : Pos} {d : D} {rest : List Stmt} (he : Ev prog w hb n sc σ e d) : Ex prog w hb n sc σ ω (.Return (some e) pos :: rest) (.ret d) := Ex.cons_ret (Ex1.ret he)

/-! ### reading what the frame holds alone -/
def mix (σ ω : St) : St := fun y => match ω y with
  | some d => some d
  | none => σ y
open Classical in
noncomputable def Froz.with (g : Froz) (s : Shared) (α : Str → Addr) (ω : St) : Froz := ⟨fun b => if (∃ x d, ω x = some d ∧ b = α x) then s.heap.get? b else g.ob b, g.tk⟩
theorem Frm.with_sub {g₀ g : Froz} {s₀ s : Shared} {env : Env} {α : Str → Addr} (F : Frm prog w hb g₀ s₀ env α σ ω g s) : Sub g (g.with s α ω) := ⟨fun b o e => by
  unfold Froz.with
  dsimp only
  by_cases h : ∃ x d, ω x = some d ∧ b = α x
  · have := F.muG b (.inr (.inr h))
    rw [this] at e; cases e
  · rw [if_neg h]; exact e, fun _ _ e => e⟩
theorem Frm.with_ok {g₀ g : Froz} {s₀ s : Shared} {env : Env} {α : Str → Addr} (F : Frm prog w hb g₀ s₀ env α σ ω g s) : Ok hb (g.with s α ω) s := by
  refine ⟨fun b o e => F.with_sub.ob b o (F.ok.base b o e), fun b o e => ?_, F.ok.tks, F.ok.pos⟩
  unfold Froz.with at e
  dsimp only at e
  by_cases h : ∃ x d, ω x = some d ∧ b = α x
  · rw [if_pos h] at e; exact e
  · rw [if_neg h] at e; exact F.ok.ins b o e
theorem Frm.with_rd {g₀ g : Froz} {s₀ s : Shared} {env : Env} {α : Str → Addr} (F : Frm prog w hb g₀ s₀ env α σ ω g s) : Rd prog w (g.with s α ω) s.heap env (mix σ ω) := by
  intro x d hx
  unfold mix at hx
  cases q : ω x with
  | none =>
    rw [q] at hx
    obtain ⟨v, l, r⟩ := F.rd x d hx
    exact ⟨v, l, r.mono F.with_sub⟩
  | some d' =>
    rw [q] at hx
    cases hx
    obtain ⟨l, o, _, _⟩ := F.own x d q
    have hob : ∀ ob, s.heap.get? (α x) = some ob → (g.with s α ω).ob (α x) = some ob := fun ob e => by
      unfold Froz.with
      dsimp only
      rw [if_pos ⟨x, d, q, rfl⟩]; exact e
    refine ⟨_, l, ?_⟩
    cases d with
    | list ds =>
      obtain ⟨vs, m, h1, h2⟩ := o
      exact .list (hob _ h1) (h2.mono F.with_sub)
    | dict ds =>
      obtain ⟨ob, kvs, h1, h2, h3, h4, h5⟩ := o
      exact .dict (hob _ h1) h2 h3 h4 (h5.mono F.with_sub)
    | _ => exact o.elim
def scal : D → Bool
  | .none | .bool _ | .int _ | .str _ => true
  | _ => false
theorem Frm.ev {g₀ g : Froz} {s₀ s : Shared} {env : Env} {α : Str → Addr} (F : Frm prog w hb g₀ s₀ env α σ ω g s) {A : Around} {e : Expr} {d : D} {Q : Value → Shared → Prop} {E : Value → Shared → Prop} (rm : Rm n A) (eo : EnvOk sc env) (he : Ev prog w hb n sc (mix σ ω) e d) (hd : scal d = true)
    (h : ∀ v g' s', Kp s s' → Grow g s g' s' → Rep prog w g' v d → Q v s') : wpAny (model prog w) A (PySem.eval e env) Q E s := by
  refine he A env (g.with s α ω) s _ _ rm eo F.with_ok F.with_rd fun v g' s' k G q => ?_
  have G' : Grow g s ⟨g.ob, g'.tk⟩ s' := ⟨G.keep, ⟨fun _ _ e => e, fun t x e => G.sub.tk t x e⟩, fun _ _ e => .inl e, fun b o e => G.keep b o (F.ok.ins b o e), G.toks, G.tks⟩
  refine h v ⟨g.ob, g'.tk⟩ s' k G' ?_
  cases q with
  | none => exact .none
  | bool b => exact .bool b
  | int i t => exact .int i t
  | str x t ht => exact .str x t ht
  | _ => simp [scal] at hd
theorem Frm.tr {g₀ g : Froz} {s₀ s : Shared} {env : Env} {α : Str → Addr} (F : Frm prog w hb g₀ s₀ env α σ ω g s) {A : Around} {e : Expr} {b : Bool} {Q : Bool → Shared → Prop} {E : Value → Shared → Prop} (rm : Rm n A) (eo : EnvOk sc env) (he : Tr prog w hb n sc (mix σ ω) e b)
    (h : ∀ s', Kp s s' → Q b s') : wpAny (model prog w) A (PySem.isTrue e env (PySem.eval e env)) Q E s := he A env (g.with s α ω) s _ _ rm eo F.with_ok F.with_rd h
theorem Ex1.assign_o {x : Str} {pos' pos : Pos} {value : Expr} {d : D} (hv : Ev prog w hb n sc (mix σ ω) value d) (hd : scal d = true) (hx : Kept sc x)
    (hs : ∀ env : Env, swapsWith value (some (.Name x pos')) pos.line env = pure false := by intro _; rfl) : Ex1 prog w hb n sc σ ω (.Assign [.Name x pos'] value pos) (.next (upd σ x d) (del ω x)) :=
  fun A env α g₀ s₀ g s Q E rm eo F h => wpAny_Assign_Name (F.ev rm eo hv hd fun v g₁ s₁ k₁ G₁ q₁ => (F.eval k₁ G₁).store eo hx q₁ fun s₂ F₂ N₂ => h g₁ s₂ F₂ ((nx_eval G₁).trans (Dom.refl ω) N₂)) (hs env)
/-! ### if -/
theorem then_after {g₀ g g₁ : Froz} {s₀ s s₁ : Shared} {env : Env} {α : Str → Addr} {Q : Flow → Shared → Prop} {out : Out} (N : Nx env α ω g s g₁ s₁) (h : Then prog w hb g₀ s₀ env α ω g s Q out) : Then prog w hb g₀ s₀ env α ω g₁ s₁ Q out := by
  cases out with
  | ret d => exact h
  | next σ' ω' => exact fun g' s' F' N' => h g' s' F' (N.trans (Dom.refl ω) N')
theorem Ex1.if_tt {test : Expr} {body orelse : List Stmt} {pos : Pos} {out : Out} (ht : Tr prog w hb n sc (mix σ ω) test true) (hb' : Ex prog w hb n sc σ ω body out) : Ex1 prog w hb n sc σ ω (.If test body orelse pos) out :=
  fun A env α g₀ s₀ g s Q E rm eo F h => wpAny_If (F.tr rm eo ht fun s₁ k₁ => by
    simp only [if_true]
    exact hb' A env α g₀ s₀ g s₁ Q E rm eo (F.eval k₁ (F.ok.at k₁)) (then_after (nx_eval (F.ok.at k₁)) h))
theorem Ex1.if_ff {test : Expr} {body orelse : List Stmt} {pos : Pos} {out : Out} (ht : Tr prog w hb n sc (mix σ ω) test false) (hb' : Ex prog w hb n sc σ ω orelse out) : Ex1 prog w hb n sc σ ω (.If test body orelse pos) out :=
  fun A env α g₀ s₀ g s Q E rm eo F h => wpAny_If (F.tr rm eo ht fun s₁ k₁ => by
    simp only [Bool.false_eq_true, if_false]
    exact hb' A env α g₀ s₀ g s₁ Q E rm eo (F.eval k₁ (F.ok.at k₁)) (then_after (nx_eval (F.ok.at k₁)) h))
/-! ### own objects made, turned, handed back -/
theorem Ex1.ret_own {x : Str} {p pos : Pos} {d : D} (hx : ω x = some d) (hd : (x == ("__debug__" : Str)) = false := by decide) (hn : (x == ("__classdict__" : Str)) = false := by decide) : Ex1 prog w hb n sc σ ω (.Return (some (.Name x p)) pos) (.ret d) := fun A env α g₀ s₀ g s Q E rm eo F h => by
  obtain ⟨l, o, hL, hC⟩ := F.own x d hx
  refine wpAny_Return_some (wpAny_Name (load_loc (by rw [eo.scope]; exact eo.kind) l ?_ hn) hd)
  obtain ⟨ob, hob⟩ := o.alive
  have hm := F.mu (α x) (.inr (.inr ⟨x, d, hx, rfl⟩))
  refine h _ (g.put (α x) ob) s F.kp (F.grow.put hob hm.1) ?_
  have hs := F.grow.put_sub hob
  cases d with
  | list ds =>
    obtain ⟨vs, m, h1, h2⟩ := o
    have e := Option.some.inj (hob.symm.trans h1)
    subst e
    exact .list Froz.put_self (h2.mono hs)
  | dict ds =>
    obtain ⟨ob', kvs, h1, h2, h3, h4, h5⟩ := o
    have e := Option.some.inj (hob.symm.trans h1)
    subst e
    exact .dict Froz.put_self h2 h3 h4 (h5.mono hs)
  | _ => exact o.elim
end
section
variable {prog : Program} {w : World} {hb : Heap} {n : Nat} {sc : Scope} {σ σ' σ'' ω ω' ω'' : St} {K : Frag} {g₀ g g' : Froz} {s₀ s s' : Shared} {env : Env} {α : Str → Addr}
/-- the own object of x is turned -/
theorem Frm.turnOwn (F : Frm prog w hb g₀ s₀ env α σ ω g s) {x : Str} {d d' : D} {h' : Heap} {tk : Nat} (hx : ω x = some d) (hs : Heap.SameBut (α x) s.heap h') (ht : s.toks ≤ tk) (ho : OwnAt prog w g h' (α x) d') :
    Frm prog w hb g₀ s₀ env α σ (upd ω x d') g { s with heap := h', toks := tk } ∧ Nx env α ω g s g { s with heap := h', toks := tk } := by
  have hm : MutA env α ω (α x) := .inr (.inr ⟨x, d, hx, rfl⟩)
  obtain ⟨G, kp⟩ := F.turn hm hs ht
  obtain ⟨lx, ox, hxL, hxC⟩ := F.own x d hx
  have loc : ∀ y u, Loc s.heap env y u → Loc h' env y u := by
    rintro y u (⟨hk, m₁, hm₁, hu⟩ | ⟨hk, c, hcc, hi⟩)
    · exact .inl ⟨hk, m₁, hm₁.sameBut hs (Ne.symm hxL), hu⟩
    · exact .inr ⟨hk, c, hcc, hi.sameBut hs (hxC y c hcc)⟩
  have domu : ∀ y dy, upd ω x d' y = some dy → ∃ d'', ω y = some d'' := fun y dy hy => by
    unfold upd at hy
    by_cases e : y = x
    · subst e; exact ⟨d, hx⟩
    · rw [if_neg e] at hy; exact ⟨dy, hy⟩
  refine ⟨⟨F.ok₀, kp, G, ?_, fun y c hcc => ?_, F.capart, F.cex, fun y dy hy => ?_, fun y dy hy => ?_, fun y z dy dz hy hz => ?_, fun b hbm => F.mu b (hbm.mono domu)⟩, ⟨fun b o hn e => hs.extBut b o (fun q => hn (q ▸ hm)) e, Sub.refl g, fun _ _ e => .inl e, ht, fun b o e => ?_⟩⟩
  · obtain ⟨m, hm⟩ := F.ns; exact ⟨m, hm.sameBut hs (Ne.symm hxL)⟩
  · obtain ⟨h1, u, hu⟩ := F.cells y c hcc; exact ⟨h1, u, hu.sameBut hs (hxC y c hcc)⟩
  · obtain ⟨u, l, q⟩ := F.rd y dy hy; exact ⟨u, loc y u l, q⟩
  · unfold upd at hy
    by_cases e : y = x
    · subst e; rw [if_pos rfl] at hy; cases hy; exact ⟨loc _ _ lx, ho, hxL, hxC⟩
    · rw [if_neg e] at hy
      obtain ⟨h1, h2, h3, h4⟩ := F.own y dy hy
      exact ⟨loc _ _ h1, h2.mono (Sub.refl g) fun o e' => hs.extBut _ o (fun q => e (F.oapart y x dy d hy hx q)) e', h3, h4⟩
  · obtain ⟨d1, hy'⟩ := domu y dy hy
    obtain ⟨d2, hz'⟩ := domu z dz hz
    exact F.oapart y z d1 d2 hy' hz'
  · by_cases q : b = α x
    · subst q; exact ho.alive
    · exact ⟨o, hs.extBut b o q e⟩
theorem upd_upd_self (ω : St) (x : Str) : upd ω x = fun d y => if y = x then some d else ω y := rfl
theorem Ex1.append {x : Str} {p apos cpos pos : Pos} {e : Expr} {ds : List D} {d : D} (hx : ω x = some (.list ds)) (he : Ev prog w hb n sc σ e d) (hz : ds.length ≤ sizeLine)
    (hst : ∀ env : Env, starEach [e] env = [(false, eval e env)] := by intro _; rfl) (hline : (apos.endLine == cpos.line) = true := by rfl) (hd : (x == ("__debug__" : Str)) = false := by decide) (hn : (x == ("__classdict__" : Str)) = false := by decide) :
    Ex1 prog w hb n sc σ ω (.Expr (.Call (.Attribute (.Name x p) (Str.ofString "append") apos) [e] [] cpos) pos) (.next σ (upd ω x (.list (ds ++ [d])))) := fun A env α g₀ s₀ g s Q E rm eo F h => by
  obtain ⟨l, o, hL, hC⟩ := F.own x _ hx
  obtain ⟨vs, m, ho, hr⟩ := id o
  refine wpAny_Expr ?_ (by unfold interactive; rw [eo.scope, eo.kind]; rfl) rfl
  refine wpAny_Call_method (T := "list") rfl (by rw [hst env]; rfl) hline PySem.F.plainAttrs_list slot_list_append type_list_append (wpAny_Name (load_loc (by rw [eo.scope]; exact eo.kind) l ?_ hn) hd)
  refine ⟨⟨_, ho, rfl⟩, fun a ea => ?_, ?_⟩
  · injection ea with ea; subst ea; exact ⟨_, ho, rfl⟩
  rw [hst env]
  refine Calls.callWith_builtin rfl (Calls.evalArgs_plain (Calls.spliced_cons (he A env g s _ _ rm eo F.ok F.rd fun v g₁ s₁ k₁ G₁ q₁ => Calls.spliced_nil ?_)))
  have F₁ := F.eval k₁ G₁
  have hpl : s₁.heap.PlainList (α x) vs.toArray := ⟨m, G₁.keep _ _ ho⟩
  refine wpAny_list_append_plain (hsz := by simp [hr.length]; exact hz) hpl fun h₂ hl₂ hs₂ => ?_
  obtain ⟨m₂, ho₂⟩ := hl₂
  obtain ⟨F₂, N₂⟩ := F₁.turnOwn (d' := .list (ds ++ [d])) hx hs₂ (Nat.le_refl _) ⟨vs ++ [v], m₂, by simpa using ho₂, (hr.mono G₁.sub).snoc q₁⟩
  exact h g₁ _ F₂ ((nx_eval G₁).trans (Dom.refl ω) N₂)

/-- a new key in a dict -/
theorem setItem_new {A : Around} {E : Value → Shared → Prop} {s : Shared} {d : Addr} {o : Obj} {kvs : List (Str × Value)} {T : Tok → Option Str} {k : Str} {t : Tok} {v : Value} {Q : Unit → Shared → Prop} (ho : s.heap.get? d = some o) (hd : o.IsDictOf (strKind prog w) kvs) (hkt : KeyTok T o) (ht : T t = some k) (hnew : k ∉ kvs.map (·.1)) (hsz : kvs.length ≤ sizeLine)
    (hQ : ∀ h' o', h'.get? d = some o' → o'.IsDictOf (strKind prog w) (kvs ++ [(k, v)]) → KeyTok T o' → Heap.SameBut d s.heap h' → Q () { s with heap := h', toks := s.toks + 1 }) : wpAny (model prog w) A (setItem (.ref d) (.str k t) v) Q E s := by
  obtain ⟨es, ep, hx, hdat, hko, hpr, hnd⟩ := id hd
  have hT : s.TypeIs (.ref d) "dict" := ⟨o, ho, hx.1⟩
  have hkey := strKind_is prog w k t
  have hes : es.size ≤ sizeLine := by
    have e1 := hpr.length
    have e2 : es.toList.length = es.size := by simp
    omega
  unfold setItem
  refine wpAny_holding ?_
  refine wpAny_bind (wpAny_sequenceKey hT (by decide) ?_)
  refine wpAny_bind (wpAny_callSpecial?_slot (name := Str.ofString "__setitem__") hT slot_dict_setitem (wpAny_call_entry slot_dict_setitem hT entry_dict_setitem ?_ (args_dict_setitem _ _ _)))
  show wpAny _ _ (Builtin.Dict.notOrdered "__setitem__" ⟨[.ref d, .str k t, v], []⟩ >>= _) _ _ s
  refine wpAny_bind (wpAny_notOrdered_dict hT ?_)
  show wpAny _ _ (dictSet d (.str k t) v >>= _) _ _ s
  refine wpAny_bind ?_
  unfold dictSet
  refine wpAny_holding ?_
  refine wpAny_bind ((strKind prog w).pyHash hkey ?_)
  unfold dictSetHashed
  refine wpAny_holding ?_
  refine wpAny_bind (wpAny_dictFind_of (s := { s with toks := s.toks + 1 }) hkey ho hdat hko ?_)
  have hidx : (es.findIdx? fun e => (strKind prog w).is k e.key) = kvs.findIdx? fun kv => decide (kv.1 = k) := by
    rw [← hpr.findIdx k]; obtain ⟨l⟩ := es; simp
  have hnone : (es.findIdx? fun e => (strKind prog w).is k e.key) = none := by
    rw [hidx]
    cases q : kvs.findIdx? fun kv => decide (kv.1 = k) with
    | none => rfl
    | some i =>
      have := any_of_findIdx_some q
      rw [List.any_eq_true] at this
      obtain ⟨kv, hkv, he⟩ := this
      exact absurd (List.mem_map.mpr ⟨kv, hkv, of_decide_eq_true he⟩) hnew
  rw [hnone]
  refine wpAny_bind (wpAny_rule (wpAny_updateDictKeys (hz := hes) (s := { s with toks := s.toks + 1 }) ho hdat (wpAny_pure ⟨.none, rfl, wpAny_pure ?_⟩)))
  refine hQ _ _ (Heap.get?_update_self _ ho (Obj.isFreed_of_dict (Obj.data_mapDictKeys hdat _))) ⟨_, ep + 1, hx.mapDictKeys _, Obj.data_mapDictKeys hdat _, hko.push hkey _, ?_, ?_⟩ ?_ (Heap.SameBut.update ..)
  · have := hpr.append hkey ((strKind prog w).hash k) v
    obtain ⟨l⟩ := es
    simpa using this
  · rw [List.map_append, List.nodup_append]
    refine ⟨hnd, by simp, ?_⟩
    intro a ha b hb
    simp only [List.map_cons, List.map_nil, List.mem_singleton] at hb
    subst hb
    exact fun e => hnew (e ▸ ha)
  · intro es' ep' hd' e he
    rw [Obj.data_mapDictKeys hdat] at hd'
    cases hd'
    rcases Array.mem_push.mp he with he | rfl
    · exact hkt es ep hdat e he
    · exact ⟨k, t, rfl, ht⟩
theorem Ex1.setitem {x y : Str} {px py pos' pos : Pos} {value : Expr} {kvs : List (Str × D)} {k : Str} {d : D} (hx : ω x = some (.dict kvs)) (hv : Ev prog w hb n sc σ value d) (hy : σ y = some (.str k)) (hnew : k ∉ kvs.map (·.1)) (hz : kvs.length ≤ sizeLine)
    (hs : ∀ env : Env, swapsWith value (some (.Subscript (.Name x px) (.Name y py) pos')) pos.line env = pure false := by intro _; rfl) (hd : (x == ("__debug__" : Str)) = false := by decide) (hn : (x == ("__classdict__" : Str)) = false := by decide) (hd' : (y == ("__debug__" : Str)) = false := by decide) (hn' : (y == ("__classdict__" : Str)) = false := by decide) :
    Ex1 prog w hb n sc σ ω (.Assign [.Subscript (.Name x px) (.Name y py) pos'] value pos) (.next σ (upd ω x (.dict (kvs ++ [(k, d)])))) := fun A env α g₀ s₀ g s Q E rm eo F h => by
  have hkf : env.scope.kind = .function := by rw [eo.scope]; exact eo.kind
  refine wpAny_Assign_Subscript (hv A env g s _ _ rm eo F.ok F.rd fun v g₁ s₁ k₁ G₁ q₁ => ?_) (hs env)
  have F₁ := F.eval k₁ G₁
  obtain ⟨l, o, hL, hC⟩ := F₁.own x _ hx
  obtain ⟨ob, kv, ho, hD, hkt, hsm, hr⟩ := id o
  obtain ⟨vy, ly, qy⟩ := F₁.rd y _ hy
  refine wpAny_Name (load_loc hkf l (wpAny_Name (load_loc hkf ly ?_ hn') hd') hn) hd
  cases qy with
  | str _ t htk =>
    have hkeys := hr.keys
    refine setItem_new ho hD hkt htk (by rw [hkeys]; exact hnew) (by rw [hr.length]; exact hz) fun h₂ o₂ ho₂ hD₂ hkt₂ hs₂ => ?_
    obtain ⟨F₂, N₂⟩ := F₁.turnOwn (d' := .dict (kvs ++ [(k, d)])) hx hs₂ (Nat.le_succ _) ⟨o₂, _, ho₂, hD₂, hkt₂, hsm, hr.append (.cons q₁ .nil)⟩
    exact h g₁ _ F₂ ((nx_eval G₁).trans (Dom.refl ω) N₂)

/-- a new object is the frame's own -/
theorem Frm.new (F : Frm prog w hb g₀ s₀ env α σ ω g s) (eo : EnvOk sc env) {x : Str} {ob : Obj} {d : D} {A : Around} {Q : Unit → Shared → Prop} {E : Value → Shared → Prop} (hx : Kept sc x) (hf : ob.isFreed = false) (hown : ∀ h : Heap, h.get? s.heap.objs.size = some ob → OwnAt prog w g h s.heap.objs.size d)
    (h : ∀ α' s', Frm prog w hb g₀ s₀ env α' (del σ x) (upd ω x d) g s' → Q () s') : wpAny (model prog w) A (storeName env x (.ref s.heap.objs.size)) Q E { s with heap := s.heap.push ob } := by
  have kP := kp_push s ob
  have F₁ := F.eval kP (F.ok.at kP)
  have hget : ({ s with heap := s.heap.push ob } : Shared).heap.get? s.heap.objs.size = some ob := Heap.get?_push_size _ hf
  have hnm : ¬ MutA env α ω s.heap.objs.size := fun hm => by
    obtain ⟨o, ho⟩ := F.alive _ hm
    rw [size_none] at ho; cases ho
  refine F₁.put eo hx fun s₂ F₂ l N₂ => ?_
  have hget₂ : s₂.heap.get? s.heap.objs.size = some ob := N₂.keep _ _ hnm hget
  have hs₀ : s₀.heap.get? s.heap.objs.size = none := by
    cases q : s₀.heap.get? s.heap.objs.size with
    | none => rfl
    | some o => have := F.grow.keep _ _ q; rw [size_none] at this; cases this
  have hgn : g.ob s.heap.objs.size = none := F.ok.fresh
  have αy : ∀ y dy, y ≠ x → ω y = some dy → α y ≠ s.heap.objs.size := fun y dy _ hy e => hnm (.inr (.inr ⟨y, dy, hy, e.symm⟩))
  have dely : ∀ y dy, y ≠ x → upd ω x d y = some dy → del ω x y = some dy ∧ ω y = some dy := fun y dy hyx hy => by
    unfold upd at hy
    rw [if_neg hyx] at hy
    exact ⟨by unfold del; rw [if_neg hyx]; exact hy, hy⟩
  refine h (fun y => if y = x then s.heap.objs.size else α y) s₂ ⟨F₂.ok₀, F₂.kp, F₂.grow, F₂.ns, F₂.cells, F₂.capart, F₂.cex, F₂.rd, fun y dy hy => ?_, fun y z dy dz hy hz e => ?_, fun b hbm => ?_⟩
  · by_cases hyx : y = x
    · subst hyx
      unfold upd at hy
      rw [if_pos rfl] at hy
      cases hy
      simp only [if_true]
      refine ⟨l, hown _ hget₂, fun e => hnm (.inl e), fun z c hc e => hnm (.inr (.inl ⟨z, e ▸ hc⟩))⟩
    · obtain ⟨h1, h2⟩ := dely y dy hyx hy
      simp only [if_neg hyx]
      exact F₂.own y dy h1
  · by_cases hyx : y = x
    · by_cases hzx : z = x
      · rw [hyx, hzx]
      · simp only [if_pos hyx, if_neg hzx] at e
        exact absurd e.symm (αy z dz hzx (dely z dz hzx hz).2)
    · by_cases hzx : z = x
      · simp only [if_neg hyx, if_pos hzx] at e
        exact absurd e (αy y dy hyx (dely y dy hyx hy).2)
      · simp only [if_neg hyx, if_neg hzx] at e
        exact F₂.oapart y z dy dz (dely y dy hyx hy).1 (dely z dz hzx hz).1 e
  · rcases hbm with rfl | hc | ⟨y, dy, hy, rfl⟩
    · exact F₂.mu _ (.inl rfl)
    · exact F₂.mu _ (.inr (.inl hc))
    · by_cases hyx : y = x
      · simp only [if_pos hyx]; exact ⟨hs₀, hgn⟩
      · simp only [if_neg hyx]
        exact F₂.mu _ (.inr (.inr ⟨y, dy, (dely y dy hyx hy).1, rfl⟩))
theorem Ex.new_list {x : Str} {pos' lpos pos : Pos} {es : List Expr} {ds : List D} {rest : List Stmt} {d : D} (he : Evs prog w hb n sc σ es ds) (hz : ds.length ≤ sizeLine) (hx : Kept sc x) (hr : Ex prog w hb n sc (del σ x) (upd ω x (.list ds)) rest (.ret d)) :
    Ex prog w hb n sc σ ω (.Assign [.Name x pos'] (.List es lpos) pos :: rest) (.ret d) := fun A env α g₀ s₀ g s Q E rm eo F h =>
  wpAny_execs_cons (wpAny_Assign_Name (wpAny_List (he A env lpos g s _ _ rm eo F.ok F.rd fun vs g₁ s₁ k₁ G₁ q₁ => ⟨by rw [q₁.length]; exact hz,
    (F.eval k₁ G₁).new eo (d := .list ds) (ob := lstO vs 0) hx rfl (fun h' e => ⟨vs, 0, e, q₁⟩) fun α' s' F' => hr A env α' g₀ s₀ g₁ s' Q E rm eo F' h⟩)) rfl)
theorem Ex.new_dict {x : Str} {pos' lpos pos : Pos} {rest : List Stmt} {d : D} (B : Bs K hb) (hx : Kept sc x) (hr : Ex prog w hb n sc (del σ x) (upd ω x (.dict [])) rest (.ret d)) :
    Ex prog w hb n sc σ ω (.Assign [.Name x pos'] (.Dict [] [] lpos) pos :: rest) (.ret d) := fun A env α g₀ s₀ g s Q E rm eo F h => by
  have hsz : (s.heap.objs.size == sysModules) = false := by
    obtain ⟨mc, ⟨o, _, _, ho, _⟩, _⟩ := B.nolimit
    have hlt : @LT.lt Nat _ 2 s.heap.objs.size := Heap.lt_size (F.ok.inb _ _ ho)
    have hne : s.heap.objs.size ≠ sysModules := fun e => by
      rw [e] at hlt
      exact absurd hlt (by decide)
    simpa using hne
  refine wpAny_execs_cons (wpAny_Assign_Name (wpAny_Dict_empty (F.new eo (d := .dict []) hx rfl (fun h' e => ⟨_, [], e, ⟨#[], 0, ⟨rfl, rfl, rfl⟩, rfl, fun e he => by simp at he, .nil, by simp⟩, fun es ep he e' hm => ?_, hsz, .nil⟩) fun α' s' F' => hr A env α' g₀ s₀ g s' Q E rm eo F' h)) rfl)
  cases he
  simp at hm
end
section
variable {prog : Program} {w : World} {hb : Heap} {n : Nat} {sc : Scope} {σ σ' σ'' ω ω' ω'' : St} {K : Frag} {g₀ g g' : Froz} {s₀ s s' : Shared} {env : Env} {α : Str → Addr}
/-- the heap turns at addresses that no one here holds -/
theorem Frm.off (F : Frm prog w hb g₀ s₀ env α σ ω g s) {M : List Addr} {h' : Heap} {tk : Nat} (h0 : ∀ a ∈ M, s₀.heap.get? a = none) (hg : ∀ a ∈ M, g.ob a = none) (hm : ∀ a ∈ M, ¬ MutA env α ω a)
    (hk : ∀ b o, b ∉ M → s.heap.get? b = some o → h'.get? b = some o) (ht : s.toks ≤ tk) : Frm prog w hb g₀ s₀ env α σ ω g { s with heap := h', toks := tk } := by
  have G : Grow g₀ s₀ g { s with heap := h', toks := tk } := F.grow.but (M := M) hk h0 hg ht
  have kp : Kp s₀ { s with heap := h', toks := tk } := by
    obtain ⟨⟨h1, t1, rfl, _⟩, _⟩ := F.kp
    exact ⟨⟨h', tk, rfl, G.keep⟩, G.toks⟩
  have mk : ∀ b o, MutA env α ω b → s.heap.get? b = some o → h'.get? b = some o := fun b o hb e => hk b o (fun h => hm b h hb) e
  have loc : ∀ y u, Loc s.heap env y u → Loc h' env y u := by
    rintro y u (⟨hk', m₁, hm₁, hu⟩ | ⟨hk', c, hcc, hi⟩)
    · exact .inl ⟨hk', m₁, hm₁.at' fun o e => mk _ o (.inl rfl) e, hu⟩
    · obtain ⟨o, ho, hd⟩ := hi
      exact .inr ⟨hk', c, hcc, ⟨o, mk c o (.inr (.inl ⟨y, hcc⟩)) ho, hd⟩⟩
  refine ⟨F.ok₀, kp, G, ?_, fun y c hcc => ?_, F.capart, F.cex, fun y d hy => ?_, fun y d hy => ?_, F.oapart, F.mu⟩
  · obtain ⟨m, hm'⟩ := F.ns; exact ⟨m, hm'.at' fun o e => mk _ o (.inl rfl) e⟩
  · obtain ⟨h1, u, o, ho, hd⟩ := F.cells y c hcc
    exact ⟨h1, u, o, mk c o (.inr (.inl ⟨y, hcc⟩)) ho, hd⟩
  · obtain ⟨u, l, q⟩ := F.rd y d hy
    exact ⟨u, loc y u l, q⟩
  · obtain ⟨h1, h2, h3, h4⟩ := F.own y d hy
    exact ⟨loc _ _ h1, h2.mono (Sub.refl g) fun o e => mk _ o (.inr (.inr ⟨y, d, hy, rfl⟩)) e, h3, h4⟩
theorem Nx.off (N : Nx env α ω g s g' s') {M : List Addr} {h' : Heap} {tk : Nat} (h0 : ∀ a ∈ M, s.heap.get? a = none) (hk : ∀ b o, b ∉ M → s'.heap.get? b = some o → h'.get? b = some o) (ht : s'.toks ≤ tk) : Nx env α ω g s g' { s' with heap := h', toks := tk } := by
  have nin : ∀ b o, s.heap.get? b = some o → b ∉ M := fun b o e hm => by rw [h0 b hm] at e; cases e
  refine ⟨fun b o hn e => hk b o (nin b o e) (N.keep b o hn e), N.sub, N.new, Nat.le_trans N.toks ht, fun b o e => ?_⟩
  obtain ⟨o', h⟩ := N.live b o e
  exact ⟨o', hk b o' (nin b o e) h⟩
theorem del_id {ω : St} {x : Str} (h : ω x = none) : del ω x = ω := by
  funext y
  unfold del
  by_cases e : y = x
  · subst e; rw [if_pos rfl, h]
  · rw [if_neg e]
theorem MutA.of_dom (hd : Dom ω' ω) {b : Addr} (h : MutA env α ω' b) : MutA env α ω b := h.mono hd

/-- a loop whose every turn ends plainly -/
theorem Ex1.for_ {x : Str} {px : Pos} {iter : Expr} {body orelse : List Stmt} {pos : Pos} {d : D} {ds : List D} (j : Nat) (out : Out) (σs ωs : Nat → St)
    (hit : Ev prog w hb n sc σ iter d) (I : Itr prog w hb d ds) (hx : Kept sc x) (h0 : Le (σs 0) σ) (h0' : Le (ωs 0) ω) (hdom : ∀ i, Dom (ωs i) ω) (hωx : ∀ i, ωs i x = none)
    (hj : j ≤ ds.length)
    (hbody : ∀ i di, i < j → ds[i]? = some di → Ex prog w hb n sc (upd (σs i) x di) (ωs i) body (.next (σs (i + 1)) (ωs (i + 1))))
    (hend : (j = ds.length ∧ orelse = [] ∧ out = .next (σs j) (ωs j)) ∨ (∃ dj d, ds[j]? = some dj ∧ out = .ret d ∧ Ex prog w hb n sc (upd (σs j) x dj) (ωs j) body (.ret d)))
    (hs : ∀ (env : Env) x, foldedSetIterable iter env x = pure x := by intro _ _; rfl) :
    Ex1 prog w hb n sc σ ω (.For (.Name x px) iter body orelse pos) out := fun A env α g₀ s₀ g s Q E rm eo F h => by
  refine wpAny_For (hit A env g s _ _ rm eo F.ok F.rd fun v g₁ s₁ k₁ G₁ q₁ => ?_) (hs env)
  have F₁ := F.eval k₁ G₁
  refine I A g₁ s₁ v _ _ rm.handled F₁.ok q₁ fun It fp P S s₂ k₂ W hSo hS hI hfp hfz hP => ?_
  have G₂ := F₁.ok.at k₂
  have F₂ := F₁.eval k₂ G₂
  have hItm : ¬ MutA env α ω It := fun hm => by
    obtain ⟨o, ho⟩ := F₁.alive _ hm
    rw [hI] at ho; cases ho
  have hItm' : ∀ i, ¬ MutA env α (ωs i) It := fun i hm => hItm (hm.of_dom (hdom i))
  have gI : g₁.ob It = none := by
    cases e : g₁.ob It with
    | none => rfl
    | some o' => rw [F₁.ok.ins _ _ e] at hI; cases hI
  have hIs : s.heap.get? It = none := by
    cases e : s.heap.get? It with
    | none => rfl
    | some o' => rw [G₁.keep _ _ e] at hI; cases hI
  have hI0 : s₀.heap.get? It = none := by
    cases e : s₀.heap.get? It with
    | none => rfl
    | some o' => rw [F₁.grow.keep _ _ e] at hI; cases hI
  have one : ∀ {p : Addr → Prop}, p It → ∀ a ∈ [It], p a := fun hp a ha => by rw [List.mem_singleton.mp ha]; exact hp
  refine codeAny_forLoop_any (fun k s' => ∃ i g', k = ds.length + 1 - i ∧ i ≤ j ∧ S i s'.heap ∧ Frm prog w hb g₀ s₀ env α (σs i) (ωs i) g' s' ∧ Nx env α ω g s g' s' ∧ Sub g₁ g' ∧ g'.ob It = none) ?_ (ds.length + 1)
    ⟨0, g₁, rfl, Nat.zero_le _, hS, F₂.weak h0 h0', nx_eval (G₁.trans G₂), Sub.refl g₁, gI⟩
  rintro k s' ⟨i, g', rfl, hi, hst, F', N', N₂', gI'⟩
  by_cases hlt : i < ds.length
  · refine wpAny_with_toks (Nat.le_refl s'.toks) (W.item i _ _ _ hlt hst fun v h₂ tk₂ hPv hst₂ hk₂ hle₂ => ?_)
    have hle₂' : s'.toks ≤ tk₂ := hle₂
    obtain ⟨di, hdi, rvi⟩ := hP i v hlt hPv
    have F₃ := F'.off (M := [It]) (one hI0) (one gI') (one (hItm' i)) hk₂ hle₂'
    have N₃ : Nx env α ω g s g' { s' with heap := h₂, toks := tk₂ } := N'.off (M := [It]) (one hIs) hk₂ hle₂'
    refine wpAny_of_eq (a := ()) rfl ?_
    refine wpAny_assign_Name (F₃.store eo hx (rvi.mono N₂') fun s₄ F₄ N₄ => ?_)
    rw [del_id (hωx i)] at F₄
    have hIal : ∃ o, h₂.get? It = some o := hSo _ _ hst₂
    obtain ⟨oI, hoI⟩ := hIal
    have fpk : ∀ {gA : Froz} {sA sB : Shared} {gB : Froz}, Sub g₁ gA → gA.ob It = none → (∀ b o, gA.ob b = some o → sA.heap.get? b = some o) → (∀ b, MutA env α (ωs i) b → gA.ob b = none) → Nx env α (ωs i) gA sA gB sB → S (i + 1) sA.heap → S (i + 1) sB.heap := by
      intro gA sA sB gB hs₁ hgI hin hmut N hS'
      refine W.frame _ _ _ hS' fun b hb' o e => N.keep b o ?_ e
      by_cases hbI : b = It
      · subst hbI; exact hItm' i
      · obtain ⟨ob, hob⟩ := hfz b hb' hbI
        exact fun hm => by
          have := hmut b hm
          rw [hs₁.ob _ _ hob] at this; cases this
    have hst₄ : S (i + 1) s₄.heap := fpk (gA := g') N₂' gI' F₃.ok.ins F₃.muG N₄ hst₂
    have gI₄ : g'.ob It = none := gI'
    have alI₄ : ∃ o, s₄.heap.get? It = some o := hSo _ _ hst₄
    by_cases hij : i < j
    · refine hbody i di hij hdi A env α g₀ s₀ g' s₄ _ _ rm eo F₄ fun g₅ s₅ F₅ N₅ => ?_
      obtain ⟨oI₄, hoI₄⟩ := alI₄
      have N₄' : Nx env α ω g s g' s₄ := N₃.trans (hdom i) N₄
      refine ⟨ds.length + 1 - (i + 1), by omega, i + 1, g₅, rfl, hij, fpk (gA := g') N₂' gI' F₄.ok.ins F₄.muG N₅ hst₄, F₅, N₄'.trans (hdom i) N₅, N₂'.trans N₅.sub, N₅.still hoI₄ gI'⟩
    · have hij' : i = j := by omega
      subst hij'
      rcases hend with ⟨e, _, _⟩ | ⟨dj, dr, e1, rfl, hr⟩
      · omega
      · have e2 : dj = di := by rw [hdi] at e1; exact (Option.some.inj e1).symm
        subst e2
        exact hr A env α g₀ s₀ g' s₄ _ _ rm eo F₄ h
  · rcases hend with ⟨e, e1, rfl⟩ | ⟨dj, dr, e1, rfl, hr⟩
    · have hin : i = ds.length := by omega
      have hij : i = j := by omega
      subst hij
      subst e1
      rw [hin] at hst
      refine wpAny_with_toks (Nat.le_refl s'.toks) (W.done _ _ _ hst fun h₂ tk₂ hk₂ hle₂ => ?_)
      have hle₂' : s'.toks ≤ tk₂ := hle₂
      exact wpAny_execs_nil (h g' _ (F'.off (M := [It]) (one hI0) (one gI') (one (hItm' i)) hk₂ hle₂') (N'.off (M := [It]) (one hIs) hk₂ hle₂'))
    · have : j < ds.length := (List.getElem?_eq_some_iff.mp e1).1
      omega
end
/-- names and their data -/
def st (l : List (Str × D)) : St := fun y => l.lookup y
/-- a def of the top -/
structure DefAt (K : Frag) (a : Addr) (ps : List Str) (sc : Scope) (body : List Stmt) : Prop where
  ex : ∃ o fd c oc vs t, K.lookup a = some o ∧ o.data = .func fd ∧ fd.code = .ref c ∧ K.lookup c = some oc ∧ oc.data = .fields vs ∧ vs[1]? = some (.str fd.qualname t) ∧ fd.body = .stmts body ∧ fd.scope = sc ∧ fd.closure = [] ∧ fd.globals = mainGlobals ∧ fd.builtins = builtinsNs ∧
    ∀ vs : List Value, vs.length = ps.length → bindArgs fd ⟨vs, []⟩ = pure (ps.zip vs)
  co : sc.isCoroutine = false
  gen : sc.isGenerator = false
  kind : sc.kind = .function
  nodup : ps.Nodup
  kinds : ∀ p ∈ ps, sc.names.lookup p = some .local ∨ sc.names.lookup p = some .cell

theorem cellsFrom_has : ∀ (names : List (Str × NameKind)) (m : Nat) (acc : List (Str × Addr)) (x : Str), ((x, NameKind.cell) ∈ names ∨ (acc.lookup x).isSome = true) → ((cellsFrom m names acc).lookup x).isSome = true
  | [], m, acc, x, h => by
    rcases h with h | h
    · cases h
    · exact h
  | (y, k) :: r, m, acc, x, h => by
    unfold cellsFrom
    split
    · refine cellsFrom_has r _ _ x ?_
      rcases h with h | h
      · rcases List.mem_cons.mp h with h | h
        · right
          cases h
          simp [List.lookup_cons]
        · exact .inl h
      · right
        rw [List.lookup_cons]
        split
        · rfl
        · exact h
    · rename_i hk
      refine cellsFrom_has r _ _ x ?_
      rcases h with h | h
      · rcases List.mem_cons.mp h with h | h
        · cases h
          exact absurd rfl hk
        · exact .inl h
      · exact .inr h
theorem bindL_not (kf : Str → Option NameKind) : ∀ (binds : List (Str × Value)) (m : Str → Option Value) (x : Str), x ∉ binds.map (·.1) → bindL kf binds m x = m x
  | [], m, x, _ => rfl
  | (y, v) :: r, m, x, h => by
    have h1 : x ≠ y := fun e => h (by simp [e])
    have h2 : x ∉ r.map (·.1) := fun e => h (by simp at e ⊢; exact .inr e)
    unfold bindL
    rw [bindL_not kf r _ x h2]
    split
    · simp [h1]
    · rfl
theorem bindC_not (kf : Str → Option NameKind) : ∀ (binds : List (Str × Value)) (m : Str → Option Value) (x : Str), x ∉ binds.map (·.1) → bindC kf binds m x = m x
  | [], m, x, _ => rfl
  | (y, v) :: r, m, x, h => by
    have h1 : x ≠ y := fun e => h (by simp [e])
    have h2 : x ∉ r.map (·.1) := fun e => h (by simp at e ⊢; exact .inr e)
    unfold bindC
    rw [bindC_not kf r _ x h2]
    split
    · rfl
    · simp [h1]
theorem bindL_at (kf : Str → Option NameKind) : ∀ (binds : List (Str × Value)) (m : Str → Option Value) (x : Str) (v : Value), (binds.map (·.1)).Nodup → (x, v) ∈ binds → kf x = some .local → bindL kf binds m x = some v
  | (y, u) :: r, m, x, v, hn, h, hk => by
    rw [List.map_cons, List.nodup_cons] at hn
    unfold bindL
    rcases List.mem_cons.mp h with h | h
    · cases h
      rw [if_pos hk, bindL_not kf r _ _ hn.1]
      simp
    · exact bindL_at kf r _ x v hn.2 h hk
theorem bindC_at (kf : Str → Option NameKind) : ∀ (binds : List (Str × Value)) (m : Str → Option Value) (x : Str) (v : Value), (binds.map (·.1)).Nodup → (x, v) ∈ binds → kf x ≠ some .local → bindC kf binds m x = some v
  | (y, u) :: r, m, x, v, hn, h, hk => by
    rw [List.map_cons, List.nodup_cons] at hn
    unfold bindC
    rcases List.mem_cons.mp h with h | h
    · cases h
      rw [if_neg hk, bindC_not kf r _ _ hn.1]
      simp
    · exact bindC_at kf r _ x v hn.2 h hk

section
variable {prog : Program} {w : World} {hb : Heap} {n : Nat} {sc : Scope} {σ σ' σ'' ω ω' ω'' : St} {K : Frag} {g₀ g g' : Froz} {s₀ s s' : Shared} {env : Env} {α : Str → Addr}
theorem zip_rep : ∀ {ps : List Str} {ds : List D} {vs : List Value}, ps.length = ds.length → Reps prog w g vs ds → ∀ {x : Str} {d : D}, st (ps.zip ds) x = some d → ∃ v, (x, v) ∈ ps.zip vs ∧ Rep prog w g v d
  | [], _, _, _, _, x, d, h => by simp [st] at h
  | p :: ps, [], _, hl, _, x, d, h => by simp [st] at h
  | p :: ps, d' :: ds, _, hl, .cons (v := v) (vs := vs) a b, x, d, h => by
    unfold st at h
    rw [List.zip_cons_cons, List.lookup_cons] at h
    cases q : x == p with
    | true =>
      rw [q] at h
      cases h
      exact ⟨v, by rw [beq_iff_eq.mp q]; simp, a⟩
    | false =>
      rw [q] at h
      obtain ⟨v', h1, h2⟩ := zip_rep (ps := ps) (ds := ds) (by simpa using hl) b (x := x) (d := d) h
      exact ⟨v', by simp [h1], h2⟩
theorem fn_def (B : Bs K hb) {a : Addr} {ps : List Str} {body : List Stmt} {ds : List D} {d : D} (hd : DefAt K a ps sc body) (hl : ps.length = ds.length)
    (h : Ex prog w hb n sc (st (ps.zip ds)) (fun _ => none) body (.ret d)) : Fn prog w hb (n + 1) (.ref a) ds d := fun A g s vs Q E rm ok r hq => by
  obtain ⟨o, fd, c, oc, cvs, t, ho, hdat, hcode, hoc, hocd, hq1, hbody, hsc, hclo, hgl, hbl, hbind⟩ := hd.ex
  subst hsc
  have hvl : vs.length = ps.length := by rw [r.length, hl]
  have kk : ∀ x ∈ ps.zip vs, fd.scope.names.lookup x.1 = some .local ∨ (fd.scope.names.lookup x.1 = some .cell ∧ ((cellsFrom (s.heap.objs.size + 1) fd.scope.names []).lookup x.1).isSome = true) := fun x hx => by
    rcases hd.kinds x.1 (List.of_mem_zip hx).1 with h1 | h1
    · exact .inl h1
    · exact .inr ⟨h1, cellsFrom_has _ _ _ _ (.inl (mem_of_lookup h1))⟩
  refine wpAny_call (codeAny_call_function (by have := rm.depth; omega) (ok.inb _ _ (B.inK _ _ ho)) hdat hd.co hd.gen hbody ⟨c, oc, cvs, t, hcode, ok.inb _ _ (B.inK _ _ hoc), hocd, hq1⟩ ?_)
  rw [hbind vs hvl, hclo]
  refine wpAny_pure (wpAny_with_toks (Nat.le_refl s.toks) (wpAny_newFunctionEnv_cells hd.kind kk fun env he s₁ x htk => ?_))
  subst he
  refine ⟨(B.nolimit.keeps ok.inb).keeps x.toInCall.keep, codeAny_func ?_⟩
  generalize he : newEnv fd.scope s.heap.objs.size fd.globals (cellsFrom (s.heap.objs.size + 1) fd.scope.names []) (fd.qualname ++ ".<locals>.") (some a) fd.code none fd.builtins = env at *
  have e1 : env.scope = fd.scope := by rw [← he]; rfl
  have e2 : env.globals = mainGlobals := by rw [← he]; exact hgl
  have e3 : env.builtins = builtinsNs := by rw [← he]; exact hbl
  have e4 : env.locals = s.heap.objs.size := by rw [← he]; rfl
  have e5 : env.cells = cellsFrom (s.heap.objs.size + 1) fd.scope.names [] := by rw [← he]; rfl
  have kp : Kp s s₁ := by
    obtain ⟨h₁, tk, rfl⟩ := x.toInCall.same
    exact ⟨⟨h₁, tk, rfl, x.toInCall.keep⟩, htk⟩
  have G := ok.at kp
  have kof : ∀ y, env.kindOf y = fd.scope.names.lookup y := fun y => by unfold Env.kindOf; rw [e1]
  have cl : ∀ y, fd.scope.names.lookup y = some .cell → ∃ c, env.cells.lookup y = some c := fun y hy => by
    rw [e5]; exact Option.isSome_iff_exists.mp (cellsFrom_has _ _ _ _ (.inl (mem_of_lookup hy)))
  have mutn : ∀ b, MutA env (fun _ => 0) (fun _ => none) b → s.heap.get? b = none := by
    rintro b (rfl | ⟨y, hy⟩ | ⟨x', d', hx', _⟩)
    · rw [e4]; exact size_none _
    · have hlt := x.above y b (mem_of_lookup hy)
      rw [e4] at hlt
      cases q : s.heap.get? b with
      | none => rfl
      | some o' => exact absurd (Nat.lt_trans hlt (Heap.lt_size q)) (Nat.lt_irrefl _)
    · cases hx'
  have hnd : ((ps.zip vs).map (·.1)).Nodup := by
    have : (ps.zip vs).map (·.1) = ps := List.map_fst_zip (Nat.le_of_eq hvl.symm)
    rw [this]; exact hd.nodup
  refine h (A.deeper env) env (fun _ => 0) g s g s₁ _ _ rm.deeper ⟨e1, e2, e3, hd.kind⟩ ⟨ok, kp, G, ⟨_, x.toInCall.ns⟩, fun y c' hc' => ?_, fun y z c' hy hz => ?_, fun y hy => ?_, fun y dy hy => ?_, fun _ _ e => (nomatch e), fun _ _ _ _ e => (nomatch e), fun b hm => ⟨mutn b hm, ?_⟩⟩ fun v g' s' k' G' q' => hq v g' s' k' G' q'
  · exact ⟨Nat.ne_of_gt (x.above y c' (mem_of_lookup hc')), _, x.cell y c' hc'⟩
  · exact name_of_addr x.apart (mem_of_lookup hy) (mem_of_lookup hz)
  · exact cl y (by rw [← kof]; exact hy)
  · obtain ⟨v, hv, rv⟩ := zip_rep hl r hy
    refine ⟨v, ?_, rv⟩
    rcases hd.kinds y (List.of_mem_zip hv).1 with h1 | h1
    · exact .inl ⟨by rw [kof]; exact h1, _, x.toInCall.ns, bindL_at _ _ _ _ _ hnd hv (by rw [kof]; exact h1)⟩
    · obtain ⟨c', hc'⟩ := cl y h1
      refine .inr ⟨.inl (by rw [kof]; exact h1), c', hc', ?_⟩
      have := x.cell y c' hc'
      rwa [bindC_at _ _ _ _ _ hnd hv (by rw [kof, h1]; decide)] at this
  · cases q : g.ob b with
    | none => rfl
    | some o' => have := mutn b hm; rw [ok.ins _ _ q] at this; cases this

/-- a comprehension stored under a local name -/
theorem Ex1.assign_comp {y : Str} {py spos : Pos} {elt iter : Expr} {x : Str} {px : Pos} {ifs : List Expr} {scope : Scope} {pos : Pos} {d : D} {ds : List D} (tst : D → Bool) (out : D → D)
    (hit : Ev prog w hb n sc σ iter d) (I : Itr prog w hb d ds) (hsz : ds.length ≤ sizeLine) (hy : Kept sc y)
    (hcell : ∀ y ∈ scope.names, y.2 ≠ .cell) (hkind : scope.kind = .function) (hnames : ∀ y ∈ scope.names, y.2 = .local → scope.names.lookup y.1 = some .local) (hx : scope.names.lookup x = some .local)
    (hfree : ∀ y ∈ scope.names, y.2 = .free → (∃ d, σ y.1 = some d) ∧ (sc.names.lookup y.1 = some .cell ∨ sc.names.lookup y.1 = some .free))
    (ht : ∀ d ∈ ds, Tst prog w hb n (relS scope sc) (cst scope x d σ) ifs (tst d))
    (he : ∀ d ∈ ds, tst d = true → Ev prog w hb n (relS scope sc) (cst scope x d σ) elt (out d))
    (hsw : ∀ env : Env, env.scope = sc → swapsWith (.ListComp elt [⟨.Name x px, iter, ifs, 0⟩] scope pos) (some (.Name y py)) spos.line env = pure true)
    (hs : ∀ (env : Env) x, foldedSetIterable iter env x = pure x := by intro _ _; rfl) :
    Ex1 prog w hb n sc σ ω (.Assign [.Name y py] (.ListComp elt [⟨.Name x px, iter, ifs, 0⟩] scope pos) spos) (.next (upd σ y (.list ((ds.filter tst).map out))) (del ω y)) := fun A env α g₀ s₀ g s Q E rm eo F h => by
  have hcells : ∀ y ∈ scope.names, y.2 = .free → ∃ c, env.cells.lookup y.1 = some c := fun y hy hf => by
    obtain ⟨⟨dy, hdy⟩, hk⟩ := hfree y hy hf
    obtain ⟨v, l, _⟩ := F.rd y.1 dy hdy
    rcases l with ⟨hk', _⟩ | ⟨_, c, hc, _⟩
    · unfold Env.kindOf at hk'
      rw [eo.scope] at hk'
      rcases hk with h | h <;> rw [h] at hk' <;> cases hk'
    · exact ⟨c, hc⟩
  obtain ⟨cl, hclos, hcl⟩ := clos_of hcells
  rw [exec_Assign_Name_used _ _ _ _ (hsw env eo.scope)]
  refine wpAny_bind (wpAny_standAt (wpAny_bind ?_))
  show wpAny _ A (do let _ ← comprehension (.ListComp elt [⟨.Name x px, iter, ifs, 0⟩] scope pos) scope env _ (newList []) false (PySem.eval iter env) (some (PySem.assign (.Name y py) env))) _ _ s
  refine wpAny_bind (wpAny_mono (wpAny_comprehension_free (use := some (PySem.assign (.Name y py) env)) (Q := fun _ s' => Q .next s') rfl (hs env) hclos hkind hnames
    (hit A env g s _ _ rm eo F.ok F.rd fun v g₁ s₁ k₁ G₁ q₁ => ?_)) (fun _ s' hq => wpAny_pure (wpAny_pure hq)) fun _ _ e => e)
  have F₁ := F.eval k₁ G₁
  refine comp_core (RR := fun acc C => compPost (model prog w) A E (some (PySem.assign (.Name y py) env)) (fun _ s' => Q .next s') acc C) tst out rm eo F₁.ok F₁.rd q₁ I hsz hcell hkind hx hcl (fun y hy hf => (hfree y hy hf).2) ht he ?_
  intro D C s' g' m k G q hns hC gC
  have F₂ := F₁.eval k G
  show wpAny _ A (PySem.assign (.Name y py) env (.ref D)) _ _ _
  refine wpAny_assign_Name (F₂.store eo hy q fun s₃ F₃ N₃ => ?_)
  have hCm : ¬ MutA env α ω C := fun hm => by
    obtain ⟨o, ho⟩ := F₁.alive _ hm
    rw [hC] at ho; cases ho
  have hCm' : ¬ MutA env α (del ω y) C := fun hm => hCm (hm.of_dom Dom.del)
  have hC0 : s₀.heap.get? C = none := by
    cases e : s₀.heap.get? C with
    | none => rfl
    | some o' => rw [F₁.grow.keep _ _ e] at hC; cases hC
  have hCs : s.heap.get? C = none := by
    cases e : s.heap.get? C with
    | none => rfl
    | some o' => rw [G₁.keep _ _ e] at hC; cases hC
  have one : ∀ {p : Addr → Prop}, p C → ∀ a ∈ [C], p a := fun hp a ha => by rw [List.mem_singleton.mp ha]; exact hp
  refine ⟨m, hns.at' fun o e => N₃.keep C o hCm e, fun h' hs' => ?_⟩
  have hk : ∀ b o, b ∉ [C] → s₃.heap.get? b = some o → h'.get? b = some o := fun b o hb e => hs'.extBut b o (fun q => hb (by simp [q])) e
  exact h g' _ (F₃.off (M := [C]) (one hC0) (one gC) (one hCm') hk (Nat.le_refl _)) (((nx_eval (G₁.trans G)).trans (Dom.refl ω) N₃).off (M := [C]) (one hCs) hk (Nat.le_refl _))

/-- `for i, j in enumerate(..)` that goes back from within -/
theorem Ex1.for_enum {xi xj xe : Str} {pi pj pt pe pc pos : Pos} {x1 : Nat} {e : Expr} {body orelse : List Stmt} {ds : List D} (j : Nat) (dj d : D)
    (hc : Cal prog w hb sc (.Name xe pe) (.type "enumerate")) (he : Ev prog w hb n sc σ e (.list ds)) (hxi : Kept sc xi) (hxj : Kept sc xj) (hωi : ω xi = none) (hωj : ω xj = none)
    (hj : ds[j]? = some dj) (hbody : ∀ i di, i < j → ds[i]? = some di → Ex prog w hb n sc (upd (upd σ xi (.int i)) xj di) ω body (.next σ ω))
    (hend : Ex prog w hb n sc (upd (upd σ xi (.int j)) xj dj) ω body (.ret d))
    (hst : ∀ env : Env, starEach [e] env = [(false, PySem.eval e env)] := by intro _; rfl) :
    Ex1 prog w hb n sc σ ω (.For (.Tuple [.Name xi pi, .Name xj pj] x1 pt) (.Call (.Name xe pe) [e] [] pc) body orelse pos) (.ret d) := fun A env α g₀ s₀ g s Q E rm eo F h => by
  have hjl : j < ds.length := (List.getElem?_eq_some_iff.mp hj).1
  refine wpAny_For ?_ (fun _ => rfl)
  refine PyProof.Rows.Call_Name rfl (hc A env g s _ _ eo F.ok ?_)
  have hp : (backTo pc (starEach [e] env)).any (·.1) = false := by rw [hst env]; rfl
  refine PyProof.Rows.callWith_type hp ?_
  rw [hst env]
  refine Calls.evalArgs_plain (Calls.spliced_cons (he A env g s _ _ rm eo F.ok F.rd fun v g₁ s₁ k₁ G₁ q₁ => Calls.spliced_nil ?_))
  have F₁ := F.eval k₁ G₁
  obtain ⟨l, vs, m, rfl, e', r⟩ := rep_list q₁
  have hL : s₁.heap.IsList l vs.toArray := list_at F₁.ok e'
  refine call_enumerate_list hL fun h₂ hE hIt hsz hk₂ => ?_
  have llt : @LT.lt Nat _ l s₁.heap.objs.size := Heap.lt_size (F₁.ok.ins _ _ e')
  have k₂ : Kp s₁ { s₁ with heap := h₂ } := kp_of (tk := s₁.toks) hk₂ (Nat.le_refl _)
  have F₂ := F₁.eval k₂ (F₁.ok.at k₂)
  generalize hIdef : s₁.heap.objs.size = It at *
  have hI : s₁.heap.get? It = none := by rw [← hIdef]; exact size_none _
  have hI1 : s₁.heap.get? (It + 1) = none := by
    cases q : s₁.heap.get? (It + 1) with
    | none => rfl
    | some o =>
      have := Heap.lt_size q
      rw [hIdef] at this
      exact absurd this (Nat.not_lt.mpr (Nat.le_succ _))
  have hei : It + 1 ≠ It := Nat.succ_ne_self _
  have hle : l ≠ It + 1 := Nat.ne_of_lt (Nat.lt_succ_of_lt llt)
  have hli : l ≠ It := Nat.ne_of_lt llt
  have W := WalksT.enumerate (prog := prog) (w := w) (A := A) rm.handled (It + 1) It l hei hle hli vs.toArray
  refine wpAny_pyIter_enum hE ?_
  have mem2 : ∀ {p : Addr → Prop}, p (It + 1) → p It → ∀ a ∈ [It + 1, It], p a := fun h1 h2 a ha => by
    rcases List.mem_cons.mp ha with rfl | ha
    · exact h1
    · rw [List.mem_singleton.mp ha]; exact h2
  have noneOf : ∀ a, s₁.heap.get? a = none → s₀.heap.get? a = none ∧ g₁.ob a = none ∧ ¬ MutA env α ω a := fun a ha => by
    refine ⟨?_, ?_, fun hm => ?_⟩
    · cases q : s₀.heap.get? a with
      | none => rfl
      | some o' => rw [F₁.grow.keep _ _ q] at ha; cases ha
    · cases q : g₁.ob a with
      | none => rfl
      | some o' => rw [F₁.ok.ins _ _ q] at ha; cases ha
    · obtain ⟨o, ho⟩ := F₁.alive _ hm
      rw [ha] at ho; cases ho
  obtain ⟨a0, a1, a2⟩ := noneOf _ hI1
  obtain ⟨b0, b1, b2⟩ := noneOf _ hI
  refine codeAny_forLoop_any (fun k s' => ∃ i g', k = ds.length + 1 - i ∧ i ≤ j ∧ ((∃ old, IsEnum s'.heap (It + 1) It i old) ∧ s'.heap.IsListIter It l i ∧ s'.heap.IsList l vs.toArray) ∧ Frm prog w hb g₀ s₀ env α σ ω g' s' ∧ Sub g₁ g' ∧ g'.ob (It + 1) = none ∧ g'.ob It = none) ?_ (ds.length + 1)
    ⟨0, g₁, rfl, Nat.zero_le _, ⟨⟨_, hE⟩, hIt, hL.at fun o e => hk₂ _ o e⟩, F₂, Sub.refl g₁, a1, b1⟩
  rintro k s' ⟨i, g', rfl, hi, hst', F', sb, gE, gI⟩
  have hvl : vs.toArray.size = ds.length := by simp [r.length]
  have hlt : i < vs.toArray.size := by rw [hvl]; omega
  refine wpAny_with_toks (Nat.le_refl s'.toks) (W.item i _ _ _ hlt hst' fun T vals h₃ tk₃ hPt hT hTu hMid hk₃ hle₃ => ?_)
  have hle₃' : s'.toks ≤ tk₃ := hle₃
  have F₃ := F'.off (M := [It + 1, It]) (mem2 a0 b0) (mem2 gE gI) (mem2 a2 b2) hk₃ hle₃'
  have hTn : T ∉ [It + 1, It] := W.apart i T h₃ hMid
  refine W.go _ _ _ i T _ _ _ hMid fun h₄ hst₄ hk₄ => ?_
  have F₄ := F₃.off (M := [It + 1, It]) (h' := h₄) (tk := tk₃) (mem2 a0 b0) (mem2 gE gI) (mem2 a2 b2) hk₄ (Nat.le_refl _)
  have hTu₄ : h₄.IsTuple T vals := by
    obtain ⟨o, ho, rr⟩ := hTu
    exact ⟨o, hk₄ T o hTn ho, rr⟩
  obtain ⟨ti, x, hx, rfl⟩ := hPt
  refine wpAny_assign_Tuple rm.handled hTu₄ rfl rfl fun h₅ hx₅ => ?_
  have hk₅ : ∀ b o, h₄.get? b = some o → h₅.get? b = some o := fun b o e => hx₅ b o (Nat.ne_of_lt (Heap.lt_size e)) e
  have F₅ := F₄.off (M := []) (h' := h₅) (tk := tk₃) (fun _ h => (nomatch h)) (fun _ h => (nomatch h)) (fun _ h => (nomatch h)) (fun b o _ e => hk₅ b o e) (Nat.le_refl _)
  have hst₅ := W.frame _ _ _ hst₄ fun b _ o e => hk₅ b o e
  obtain ⟨di, hdi, rx⟩ := r.get' (i := i) (y := x) (by simpa using hx)
  show wpAny _ A (do holding [x] (PySem.assign (.Name xi pi) env (.int i ti)); do holding [] (PySem.assign (.Name xj pj) env x); pure ()) _ _ _
  refine wpAny_bind (wpAny_holding (wpAny_assign_Name (F₅.store eo hxi (d := .int i) (.int _ _) fun s₆ F₆ N₆ => ?_)))
  rw [del_id hωi] at F₆
  refine wpAny_bind (wpAny_holding (wpAny_assign_Name (F₆.store eo hxj (rx.mono sb) fun s₇ F₇ N₇ => wpAny_pure ?_)))
  rw [del_id hωj] at F₇
  have fpk : ∀ {gA gB : Froz} {sA sB : Shared} {σA : St}, Frm prog w hb g₀ s₀ env α σA ω gA sA → Sub g₁ gA → Nx env α ω gA sA gB sB → ((∃ old, IsEnum sA.heap (It + 1) It (i + 1 : Nat) old) ∧ sA.heap.IsListIter It l (i + 1) ∧ sA.heap.IsList l vs.toArray) →
      ((∃ old, IsEnum sB.heap (It + 1) It (i + 1 : Nat) old) ∧ sB.heap.IsListIter It l (i + 1) ∧ sB.heap.IsList l vs.toArray) := by
    intro gA gB sA sB σA FA sA' N hS
    refine W.frame (i + 1) _ _ hS fun b hb' o e => N.keep b o ?_ e
    rcases List.mem_cons.mp hb' with rfl | hb'
    · exact a2
    · rcases List.mem_cons.mp hb' with rfl | hb'
      · exact b2
      · rw [List.mem_singleton.mp hb']
        exact fun hm => by
          have := FA.muG _ hm
          rw [sA'.ob _ _ e'] at this; cases this
  have hst₆ := fpk F₅ sb N₆ hst₅
  have hst₇ := fpk F₆ sb N₇ hst₆
  by_cases hij : i < j
  · refine hbody i di hij hdi A env α g₀ s₀ g' s₇ _ _ rm eo F₇ fun g₈ s₈ F₈ N₈ => ?_
    obtain ⟨⟨old, hE₇⟩, ⟨oI, hoI, _⟩, _⟩ := id hst₇
    exact ⟨ds.length + 1 - (i + 1), by omega, i + 1, g₈, rfl, hij, fpk F₇ sb N₈ hst₇, F₈, sb.trans N₈.sub, N₈.still hE₇ gE, N₈.still hoI gI⟩
  · have hij' : i = j := by omega
    subst hij'
    have e2 : dj = di := by rw [hdi] at hj; exact (Option.some.inj hj).symm
    subst e2
    exact hend A env α g₀ s₀ g' s₇ _ _ rm eo F₇ h
end
/-- one local parameter: the frame is laid and the count of tokens has gone up -/
theorem new_env1 {M : Model} {A : Around} {E : Value → Shared → Prop} {s : Shared} {scope : Scope} {globals : Addr} {p : Str} {v : Value} {qual : Str} {func : Option Addr} {code : Value} {builtins : Addr} {Q : Env → Shared → Prop}
    (hk : scope.kind = .function) (hl : scope.names.lookup p = some .local)
    (hQ : ∀ env, env = newEnv scope s.heap.objs.size globals (cellsFrom (s.heap.objs.size + 1) scope.names []) qual func code none builtins →
      ∀ s', InCallC s env.locals (fun y => if y = p then some v else none) env.cells (fun _ => none) s' → s.toks + 1 ≤ s'.toks → Q env s') :
    wpAny M A (newFunctionEnv scope globals [] [(p, v)] qual func code none builtins) Q E s := by
  simp only [newFunctionEnv, Option.isSome_none, Bool.false_eq_true, if_false]
  refine wpAny_bind (wpAny_alloc ?_)
  refine wpAny_bind (wpAny_layCells _ (fun name kind cells => by cases hkc : kind == NameKind.cell <;> simp [hkc]) _ _ _ _ ?_)
  have ok := cellsFrom_ok scope.names (s.heap.push { cls := .type "frame", data := .dict #[] }) (s.heap.objs.size + 1) [] ⟨fun _ _ hm => (nomatch hm), List.Pairwise.nil⟩ (by rw [Heap.size_push]; exact Nat.le_refl _)
  rw [Heap.size_push] at ok
  rw [show ({ s with heap := s.heap.push { cls := .type "frame", data := .dict #[] } } : Shared).heap.objs.size = s.heap.objs.size + 1 from Heap.size_push ..]
  generalize he : newEnv scope s.heap.objs.size globals (cellsFrom (s.heap.objs.size + 1) scope.names []) qual func code none builtins = env at *
  have e4 : env.locals = s.heap.objs.size := by rw [← he]; rfl
  have e5 : env.cells = cellsFrom (s.heap.objs.size + 1) scope.names [] := by rw [← he]; rfl
  have hl' : env.kindOf p = some .local := by rw [← he]; exact hl
  have hk' : env.scope.kind = .function := by rw [← he]; exact hk
  have hns : (pushCells (s.heap.push { cls := .type "frame", data := .dict #[] }) scope.names).Ns env.locals fun _ => none := by rw [e4]; exact (Heap.Ns.new s.heap (.type "frame")).keeps (pushCells_keeps _ _)
  rw [List.forIn_cons]
  refine wpAny_bind (wpAny_bind (wpAny_bind ?_))
  show wpAny M A (storeName (newEnv scope s.heap.objs.size globals (cellsFrom (s.heap.objs.size + 1) scope.names []) qual func code none builtins) p v) _ _ _
  rw [he]
  refine wpAny_storeName_local hl' hns (fun h' hn' hs' => ?_) (by rw [hk']; rfl)
  refine wpAny_pure ?_
  show wpAny M A (forIn [] PUnit.unit _) _ _ _
  rw [List.forIn_nil]
  refine wpAny_pure (wpAny_pure ?_)
  show Q (newEnv scope s.heap.objs.size globals (cellsFrom (s.heap.objs.size + 1) scope.names []) qual func code none builtins) _
  rw [he]
  refine hQ _ rfl _ ⟨⟨⟨_, _, rfl⟩, hn', fun b o e => hs'.extBut b o (fun q => ?_) (pushCells_keeps _ _ b o (Heap.get?_push_of_some _ e)), by rw [e4]; exact Nat.le_refl _⟩, fun n c hc => ?_, by rw [e5]; exact ok.apart, fun n c hm => ?_⟩ (Nat.le_refl _)
  · rw [q, e4] at e; exact absurd (Heap.lt_size e) (Nat.lt_irrefl _)
  · rw [e5] at hc
    have h2 := ok.empty n c (mem_of_lookup hc)
    exact h2.1.sameBut hs' (by rw [e4]; exact Nat.ne_of_gt h2.2)
  · rw [e5] at hm; rw [e4]; exact (ok.empty n c hm).2

section
variable (prog : Program) (w : World) (hb : Heap)
/-- as Ok, but the count of tokens may be nought yet -/
structure Ok1 (g : Froz) (s : Shared) : Prop where
  base : ∀ b o, hb.get? b = some o → g.ob b = some o
  ins : ∀ b o, g.ob b = some o → s.heap.get? b = some o
  tks : ∀ t x, g.tk t = some x → t ≠ 0 ∧ t < s.toks
/-- a callee that raises the count of tokens as it is entered -/
def Fn1 (n : Nat) (f : Value) (ds : List D) (d : D) : Prop :=
  ∀ (A : Around) (g : Froz) (s : Shared) (vs : List Value) (Q : Value → Shared → Prop) (E : Value → Shared → Prop), Rm n A → Ok1 hb g s → Reps prog w g vs ds →
    (∀ v g' s', Kp { s with toks := s.toks + 1 } s' → Rep prog w g' v d → Q v s') → wpAny (model prog w) A (call f vs) Q E s
end
section
variable {prog : Program} {w : World} {hb : Heap} {n : Nat} {sc : Scope} {K : Frag}
theorem Ok1.up {g : Froz} {s : Shared} (o : Ok1 hb g s) : Ok hb g { s with toks := s.toks + 1 } := ⟨o.base, o.ins, fun t x e => ⟨(o.tks t x e).1, Nat.lt_succ_of_lt (o.tks t x e).2⟩, Nat.succ_pos _⟩
theorem fn1_def (B : Bs K hb) {a : Addr} {p : Str} {body : List Stmt} {dp d : D} (hd : DefAt K a [p] sc body) (hloc : sc.names.lookup p = some .local)
    (h : Ex prog w hb n sc (st [(p, dp)]) (fun _ => none) body (.ret d)) : Fn1 prog w hb (n + 1) (.ref a) [dp] d := fun A g s vs Q E rm ok1 r hq => by
  obtain ⟨o, fd, c, oc, cvs, t, ho, hdat, hcode, hoc, hocd, hq1, hbody, hsc, hclo, hgl, hbl, hbind⟩ := hd.ex
  subst hsc
  have ok := ok1.up
  cases r with
  | cons r1 rn =>
  cases rn
  rename_i v
  refine wpAny_call (codeAny_call_function (by have := rm.depth; omega) (ok.inb _ _ (B.inK _ _ ho)) hdat hd.co hd.gen hbody ⟨c, oc, cvs, t, hcode, ok.inb _ _ (B.inK _ _ hoc), hocd, hq1⟩ ?_)
  rw [hbind [v] rfl, hclo]
  refine wpAny_pure (new_env1 hd.kind hloc fun env he s₁ x htk => ?_)
  subst he
  refine ⟨(B.nolimit.keeps ok.inb).keeps x.toInCall.keep, codeAny_func ?_⟩
  generalize he : newEnv fd.scope s.heap.objs.size fd.globals (cellsFrom (s.heap.objs.size + 1) fd.scope.names []) (fd.qualname ++ ".<locals>.") (some a) fd.code none fd.builtins = env at *
  have e1 : env.scope = fd.scope := by rw [← he]; rfl
  have e2 : env.globals = mainGlobals := by rw [← he]; exact hgl
  have e3 : env.builtins = builtinsNs := by rw [← he]; exact hbl
  have e4 : env.locals = s.heap.objs.size := by rw [← he]; rfl
  have e5 : env.cells = cellsFrom (s.heap.objs.size + 1) fd.scope.names [] := by rw [← he]; rfl
  have kp : Kp { s with toks := s.toks + 1 } s₁ := by
    obtain ⟨h₁, tk, rfl⟩ := x.toInCall.same
    exact ⟨⟨h₁, tk, rfl, x.toInCall.keep⟩, htk⟩
  have G := ok.at kp
  have kof : ∀ y, env.kindOf y = fd.scope.names.lookup y := fun y => by unfold Env.kindOf; rw [e1]
  have cl : ∀ y, fd.scope.names.lookup y = some .cell → ∃ c, env.cells.lookup y = some c := fun y hy => by
    rw [e5]; exact Option.isSome_iff_exists.mp (cellsFrom_has _ _ _ _ (.inl (mem_of_lookup hy)))
  have mutn : ∀ b, MutA env (fun _ => 0) (fun _ => none) b → s.heap.get? b = none := by
    rintro b (rfl | ⟨y, hy⟩ | ⟨x', d', hx', _⟩)
    · rw [e4]; exact size_none _
    · have hlt := x.above y b (mem_of_lookup hy)
      rw [e4] at hlt
      cases q : s.heap.get? b with
      | none => rfl
      | some o' => exact absurd (Nat.lt_trans hlt (Heap.lt_size q)) (Nat.lt_irrefl _)
    · cases hx'
  refine h (A.deeper env) env (fun _ => 0) g _ g s₁ _ _ rm.deeper ⟨e1, e2, e3, hd.kind⟩ ⟨ok, kp, G, ⟨_, x.toInCall.ns⟩, fun y c' hc' => ?_, fun y z c' hy hz => ?_, fun y hy => ?_, fun y dy hy => ?_, fun _ _ e => (nomatch e), fun _ _ _ _ e => (nomatch e), fun b hm => ⟨mutn b hm, ?_⟩⟩ fun v g' s' k' G' q' => hq v g' s' k' q'
  · exact ⟨Nat.ne_of_gt (x.above y c' (mem_of_lookup hc')), _, x.cell y c' hc'⟩
  · exact name_of_addr x.apart (mem_of_lookup hy) (mem_of_lookup hz)
  · exact cl y (by rw [← kof]; exact hy)
  · unfold st at hy
    rw [List.lookup_cons] at hy
    cases q : y == p with
    | false => rw [q] at hy; cases hy
    | true =>
      rw [q] at hy
      cases hy
      have := beq_iff_eq.mp q
      subst this
      exact ⟨v, .inl ⟨by rw [kof]; exact hloc, _, x.toInCall.ns, by simp⟩, r1⟩
  · cases q : g.ob b with
    | none => rfl
    | some o' => have := mutn b hm; rw [ok1.ins _ _ q] at this; cases this
end
theorem slot_search : Slot "re.Pattern" "search" "re.Pattern.search" :=
  .of (owner := "re.Pattern") (n := "search") (by rw [typeLookup_type, builtinLookup_eq_fast]; kernel_rfl) (by decide +kernel) (by decide +kernel) (by decide +kernel)
    (by first | exact .inl (by decide +kernel) | exact .inr (by decide +kernel)) (by rw [isSubtype_type]; kernel_rfl)
theorem type_search : typeOf (.builtin "re.Pattern.search") = pure (.type "method_descriptor") := by show builtinType _ = _; rw [builtinType_eq_fast]; kernel_rfl
theorem entry_search : entryFor table "re.Pattern.search" = some Builtin.«re.Pattern.search» := entryFor_of_tree (by kernel_rfl)
theorem plainAttrs_pattern : PlainAttrs "re.Pattern" :=
  ⟨⟨"object.__getattribute__", by rw [typeLookup_type, builtinLookup_eq_fast]; kernel_rfl, by decide +kernel⟩, by rw [typeLookup_type, builtinLookup_eq_fast]; kernel_rfl⟩
theorem args_search (a b : Value) : argsOk "re.Pattern.search" ⟨[a, b], []⟩ := by
  unfold argsOk; rw [signature?_of (id := "re.Pattern.search") (n := ['h', 'c', 'r', 'a', 'e', 's']) (o := ['n', 'r', 'e', 't', 't', 'a', 'P', '.', 'e', 'r']) (by kernel_rfl) (show Manifest.owners.lookup (String.ofList ['n', 'r', 'e', 't', 't', 'a', 'P', '.', 'e', 'r'].reverse) = some Manifest.sig_re_Pattern by kernel_rfl)]; kernel_rfl

/-- the machine's turns, as plain data -/
def drv : Nat → Sre.M → Option Sre.M
  | 0, _ => none
  | k + 1, m => if (m.runFor Builtin.Re.reTurnSteps).outcome.isSome then some (m.runFor Builtin.Re.reTurnSteps) else drv k (m.runFor Builtin.Re.reTurnSteps)
def failed : Option Sre.Outcome → Bool
  | some .failed => true
  | _ => false
def ipCode : Array Nat := #[14, 8, 1, 2, 4294967295, 1, 1, 46, 0, 16, 46, 24, 9, 1, 4294967295, 13, 4, 8, 0, 0, 1, 6, 5, 1]
def ipStart (x : Str) : Sre.M := Sre.forSearch ipCode x.cps 0 (min (0 : Int).toNat x.cps.size) (min (2 ^ 63 - 1 : Int).toNat x.cps.size) false
/-- the pattern is not found -/
def noIp (x : Str) : Bool := match drv 100 (ipStart x) with
  | some m => failed m.outcome
  | none => false

section
variable {M : Model} {A : Around} {E : Value → Shared → Prop} {s : Shared}
theorem drive {Q : Sre.M → Shared → Prop} {m' : Sre.M} : ∀ (k N : Nat) (m : Sre.M), k ≤ N → drv k m = some m' → Q m' s → wpAny M A (Builtin.Re.reDrive N m) Q E s
  | 0, _, _, _, h, _ => by cases h
  | k + 1, 0, _, hk, _, _ => absurd hk (by omega)
  | k + 1, N + 1, m, hk, h, hq => by
    unfold drv at h
    unfold Builtin.Re.reDrive
    dsimp only
    split at h
    · rename_i hc
      rw [if_pos hc]
      cases h
      exact wpAny_pure hq
    · rename_i hc
      rw [if_neg hc]
      exact wpAny_bind (wpAny_rule (drive k N _ (by omega) h hq))
theorem rules_go {f : Nat → PUnit → Sem (ForInStep PUnit)} (hf : ∀ i u (Q : ForInStep PUnit → Shared → Prop), Q (.yield ⟨⟩) s → wpAny M A (f i u) Q E s) {Q : PUnit → Shared → Prop} (hq : Q ⟨⟩ s) : ∀ (l : List Nat), wpAny M A (forIn l PUnit.unit f) Q E s
  | [] => by rw [List.forIn_nil]; exact wpAny_pure hq
  | i :: r => by
    rw [List.forIn_cons]
    exact wpAny_bind (hf i _ _ (rules_go hf hq r))
theorem run_end {x : Str} {Q : Option Sre.M → Shared → Prop} (h : noIp x = true) (hq : Q none s) : wpAny M A (Builtin.Re.reRunToEnd (ipStart x)) Q E s := by
  unfold noIp at h
  split at h
  · rename_i m hm
    unfold Builtin.Re.reRunToEnd
    refine wpAny_bind (drive 100 (2 ^ 64) _ (by decide) hm ?_)
    refine wpAny_bind (rules_go (fun i u Q hq => ?_) ?_ _)
    · cases h : m.seen.has i with
      | true =>
        simp only [if_true]
        exact wpAny_bind (wpAny_rule (wpAny_pure hq))
      | false =>
        simp only [Bool.false_eq_true, if_false]
        exact wpAny_pure hq
    cases ho : m.outcome with
    | none => rw [ho] at h; simp [failed] at h
    | some o =>
      rw [ho] at h
      cases o with
      | matched => simp [failed] at h
      | failed => exact wpAny_pure hq
      | stuck y => simp [failed] at h
  · cases h
end

def ipObj : Obj := { cls := .type "re.Pattern", data := .fields #[Value.str (Str.ofString "\\.\\d+$") 285, Value.int 256 312, Value.int 0 0, Value.none, Value.none, Value.ref 35, Value.int 0 0] }
def ipVals : Array Value := #[Value.int 14 0, Value.int 8 0, Value.int 1 0, Value.int 2 0, Value.int 4294967295 0, Value.int 1 0, Value.int 1 0, Value.int 46 0, Value.int 0 0, Value.int 16 0, Value.int 46 0, Value.int 24 0, Value.int 9 0, Value.int 1 0, Value.int 4294967295 0, Value.int 13 0, Value.int 4 0, Value.int 8 0, Value.int 0 0, Value.int 0 0, Value.int 1 0, Value.int 6 0, Value.int 5 0, Value.int 1 0]
def ipTup : Obj := { cls := .type "tuple", data := .seq ipVals }
theorem ip_code : (((some ipVals).getD #[]).map Builtin.Re.reRawOf).map (fun x => x.toNat) = ipCode := by decide +kernel
section
variable {prog : Program} {w : World} {hb : Heap} {n : Nat} {sc : Scope} {σ : St} {K : Frag} {A : Around} {E : Value → Shared → Prop} {s : Shared}
theorem named (v : Value) : Builtin.Re.reNamed "re.Pattern.search" "search" ["string", "pos", "endpos"] 1 [v] [] = pure [some v, none, none] := rfl
theorem call_search {x : Str} {t : Tok} {Q : Value → Shared → Prop} (h1 : s.heap.get? 36 = some ipObj) (h2 : s.heap.get? 35 = some ipTup) (h : noIp x = true) (hq : Q .none s) : wpAny (model prog w) A (PySem.call (.builtin "re.Pattern.search") [.ref 36, .str x t]) Q E s := by
  refine wpAny_call_entry slot_search (⟨_, h1, rfl⟩ : s.TypeIs (.ref 36) "re.Pattern") entry_search ?_ (args_search _ _)
  show wpAny _ _ (Builtin.Re.reTarget "re.Pattern.search" "search" ⟨[.ref 36, .str x t], []⟩ >>= fun t => Builtin.Re.reAnswer t (Sre.forSearch t.code t.text t.groups t.pos t.lim false)) _ _ s
  refine wpAny_bind ?_
  show wpAny _ _ (Builtin.Re.reNamed "re.Pattern.search" "search" ["string", "pos", "endpos"] 1 [.str x t] [] >>= _) _ _ s
  rw [named]
  refine wpAny_bind (wpAny_pure ?_)
  refine wpAny_bind (wpAny_pure (wpAny_bind (wpAny_pure ?_)))
  refine wpAny_bind (wpAny_fieldsOf h1 rfl ?_)
  refine wpAny_bind ?_
  show wpAny _ _ (pure (x.cps, 0)) _ _ s
  refine wpAny_pure ?_
  dsimp only
  refine wpAny_bind (m := Builtin.Re.reNoCollectionInside _ _) (wpAny_of_eq (a := ()) rfl ?_)
  refine wpAny_bind ?_
  show wpAny _ _ (Builtin.Re.reRawItems (.ref 35)) _ _ s
  unfold Builtin.Re.reRawItems seqItems?
  refine wpAny_bind (wpAny_bind (wpAny_load h2 (wpAny_pure (wpAny_pure (wpAny_pure ?_)))))
  dsimp only
  rw [ip_code]
  show wpAny _ _ (Builtin.Re.reRunToEnd (ipStart x) >>= _) _ _ s
  exact wpAny_bind (run_end h (wpAny_pure ⟨_, rfl, hq⟩))
/-- `IPV4_RE.search(e)` gives None -/
theorem Ev.search {xr : Str} {p apos pos : Pos} {e : Expr} {x : Str} (B : Bs K hb) (hc : Cal prog w hb sc (.Name xr p) (.ref 36)) (h1 : K.lookup 36 = some ipObj) (h2 : K.lookup 35 = some ipTup) (he : Ev prog w hb n sc σ e (.str x)) (h : noIp x = true) (hline : (apos.endLine == pos.line) = true := by rfl)
    (hst : ∀ env : Env, starEach [e] env = [(false, eval e env)] := by intro _; rfl) : Ev prog w hb n sc σ (.Call (.Attribute (.Name xr p) (Str.ofString "search") apos) [e] [] pos) .none :=
  fun A env g s Q E rm eo ok rd hq => wpAny_Call_method (T := "re.Pattern") rfl (by rw [hst env]; rfl) hline plainAttrs_pattern slot_search type_search (hc A env g s _ _ eo ok (by
    have o1 := ok.inb _ _ (B.inK _ _ h1)
    refine ⟨⟨_, o1, rfl⟩, fun a ea => by injection ea with ea; subst ea; exact ⟨_, o1, rfl⟩, ?_⟩
    rw [hst env]
    refine Calls.callWith_builtin rfl (Calls.evalArgs_plain (Calls.spliced_cons (he A env g s _ _ rm eo ok rd fun v g₁ s₁ k₁ G₁ q₁ => Calls.spliced_nil ?_)))
    cases q₁
    have ok₁ := ok.grow G₁
    exact call_search (ok₁.inb _ _ (B.inK _ _ h1)) (ok₁.inb _ _ (B.inK _ _ h2)) h (hq _ g₁ s₁ k₁ G₁ .none)))
end
theorem slot_md_get : Slot "method_descriptor" "__get__" "method_descriptor.__get__" :=
  .of (owner := "method_descriptor") (n := "__get__") (by rw [typeLookup_type, builtinLookup_eq_fast]; kernel_rfl) (by decide +kernel) (by decide +kernel) (by decide +kernel)
    (by first | exact .inl (by decide +kernel) | exact .inr (by decide +kernel)) (by rw [isSubtype_type]; kernel_rfl)
theorem md_set : typeLookup (.type "method_descriptor") "__set__" = pure none := by rw [typeLookup_type, builtinLookup_eq_fast]; kernel_rfl
theorem md_del : typeLookup (.type "method_descriptor") "__delete__" = pure none := by rw [typeLookup_type, builtinLookup_eq_fast]; kernel_rfl
theorem entry_md_get : entryFor table "method_descriptor.__get__" = some Builtin.«method_descriptor.__get__» := entryFor_of_tree (by kernel_rfl)
theorem args_md_get (a b c : Value) : argsOk "method_descriptor.__get__" ⟨[a, b, c], []⟩ := by unfold argsOk; kernel_rfl
theorem told : Manifest.toldItsClass.contains "list.__getitem__" = false := by decide +kernel
theorem owner_gi : (".".intercalate ("list.__getitem__".cutAt '.').dropLast) = "list" := by
  have e0 : "list.__getitem__".cutAt '.' = ["list", "__getitem__"] := by first | rfl | decide +kernel
  rw [e0]; decide +kernel
theorem sub_gi : isSubtype (.type "list") (.type (".".intercalate ("list.__getitem__".cutAt '.').dropLast)) = pure true := by
  rw [owner_gi, isSubtype_type]; kernel_rfl
abbrev bmO (a : Addr) : Obj := { cls := .type "builtin_function_or_method", data := .fields #[.builtin "list.__getitem__", .ref a] }
section
variable {prog : Program} {w : World} {A : Around} {E : Value → Shared → Prop} {h : Heap} {g : Array GenState} {d : Drawn} {t : Nat} {os : OsState} {a : Addr} {vs : List Value} {n : Nat}
theorem gi_get {R : Result → Shared → Prop} (hx : h.get? a = some (lstO vs n)) (hq : R (.ok (.ret (.ref h.objs.size))) ⟨h.push (bmO a), g, d, t, os⟩) :
    codeAny (model prog w) A (.call (.builtin "method_descriptor.__get__") ⟨[.builtin "list.__getitem__", .ref a, .type "list"], []⟩) R ⟨h, g, d, t, os⟩ := by
  have hT : (⟨h, g, d, t, os⟩ : Shared).TypeIs (.ref a) "list" := ⟨_, hx, rfl⟩
  have hT5 : (⟨h, g, d, t, os⟩ : Shared).TypeIs (.builtin "list.__getitem__") "method_descriptor" := F.type_list_getitem
  have f8 := sub_gi
  have f9 := told
  refine codeAny_call_builtin slot_md_get.plain entry_md_get (slot_md_get.check _ _ _ _ _ _ _ _ hT5 (args_md_get _ _ _) ?_)
  iterate 16 (any_goals (first | assumption | wp_step))
  refine wpAny_pure (wpAny_bind (wpAny_isInstance hT f8 ?_))
  refine wpAny_pure (wpAny_bind ?_)
  exact wpAny_newObj_type (T := "builtin_function_or_method") (wpAny_pure hq)
theorem inst_none {Q : Option Addr → Shared → Prop} (hx : h.get? a = some (lstO vs n)) (hq : Q none ⟨h, g, d, t, os⟩) : wpAny (model prog w) A (instanceDict a false) Q E ⟨h, g, d, t, os⟩ := by
  unfold instanceDict
  exact wpAny_bind (wpAny_loadPart' hx (wpAny_pure hq))
theorem gi_entry {tk : Tok} {Q : Fin → Shared → Prop} (hx : h.get? a = some (lstO vs n)) (hq : Q (.done (.ret (.ref h.objs.size))) ⟨h.push (bmO a), g, d, t, os⟩) :
    wpAny (model prog w) A (Builtin.«object.__getattribute__» ⟨[.ref a, .str "__getitem__" tk], []⟩) Q E ⟨h, g, d, t, os⟩ := by
  have hT : (⟨h, g, d, t, os⟩ : Shared).TypeIs (.ref a) "list" := ⟨_, hx, rfl⟩
  have hT5 : (⟨h, g, d, t, os⟩ : Shared).TypeIs (.builtin "list.__getitem__") "method_descriptor" := F.type_list_getitem
  have f4 := F.slot_list_getitem.lookup
  have f5 := F.type_list_getitem
  have f6 := slot_md_get.lookup
  have f7 := md_set
  have f8 := md_del
  repeat (any_goals (first | assumption | with_reducible apply inst_none hx | with_reducible apply gi_get hx | wp_step))
theorem gi_call {tk : Tok} {R : Result → Shared → Prop} (hx : h.get? a = some (lstO vs n)) (hq : R (.ok (.ret (.ref h.objs.size))) ⟨h.push (bmO a), g, d, t, os⟩) :
    codeAny (model prog w) A (.call (.builtin "list.__getattribute__") ⟨[.ref a, .str "__getitem__" tk], []⟩) R ⟨h, g, d, t, os⟩ :=
  codeAny_call_builtin F.slot_list_getattribute.plain F.entry_list_ga (F.slot_list_getattribute.check _ _ _ _ _ _ _ _ (show (⟨h, g, d, t, os⟩ : Shared).TypeIs (.ref a) "list" from ⟨_, hx, rfl⟩) (F.args_list_getattribute_2 _ _) (gi_entry hx hq))
theorem gi_by {tk : Tok} {Q : Value → Shared → Prop} (hx : h.get? a = some (lstO vs n)) (hq : Q (.ref h.objs.size) ⟨h.push (bmO a), g, d, t, os⟩) : wpAny (model prog w) A (getAttrBy (.ref a) (.str "__getitem__" tk) false) Q E ⟨h, g, d, t, os⟩ := by
  have hT : (⟨h, g, d, t, os⟩ : Shared).TypeIs (.ref a) "list" := ⟨_, hx, rfl⟩
  have f2 := F.slot_list_getattribute.lookup
  have f3 := F.slot_list_getattribute.bind (.ref a)
  repeat (any_goals (first | assumption | wp_step))
  refine gi_call hx ?_
  repeat (any_goals (first | assumption | wp_step))
theorem kind_hasattr : builtinKind "hasattr" = none := by decide +kernel
theorem plain_hasattr : plainId "hasattr" = true := by decide +kernel
theorem entry_hasattr : entryFor table "hasattr" = some Builtin.«hasattr» := entryFor_of_tree (by kernel_rfl)
theorem args_hasattr (a b : Value) : argsOk "hasattr" ⟨[a, b], []⟩ := by unfold argsOk; kernel_rfl
theorem sub_list_module : isSubtype (.type "list") (.type "module") = pure false := by rw [isSubtype_type]; kernel_rfl
theorem data_gi : (withoutEnding? "list.__getitem__" "#data").isSome = false := by decide +kernel
theorem has_entry {tk : Tok} {Q : Fin → Shared → Prop} (hx : h.get? a = some (lstO vs n)) (hq : Q (.done (.ret (.bool true))) ⟨h.push (bmO a), g, d, t, os⟩) :
    wpAny (model prog w) A (Builtin.«hasattr» ⟨[.ref a, .str "__getitem__" tk], []⟩) Q E ⟨h, g, d, t, os⟩ := by
  have hT : (⟨h, g, d, t, os⟩ : Shared).TypeIs (.ref a) "list" := ⟨_, hx, rfl⟩
  have f2 := F.slot_list_getattribute.lookup
  have f4 := F.slot_list_getitem.lookup
  have f5 := sub_list_module
  have f6 := data_gi
  unfold Builtin.«hasattr» getAttrBy?
  repeat (any_goals (first | assumption | with_reducible apply gi_by hx | wp_step))
end
section
variable {prog : Program} {w : World} {hb : Heap} {n : Nat}
theorem fn_hasattr {ds : List D} : Fn prog w hb n (.builtin "hasattr") [.list ds, .str (Str.ofString "__getitem__")] (.bool true) := fun A g s vs Q E rm o r h => by
  obtain ⟨v, u, rfl, q, q'⟩ := two_args r
  obtain ⟨a, vs, m, rfl, e, r⟩ := rep_list q
  cases q'
  refine call_function_any kind_hasattr plain_hasattr entry_hasattr (args_hasattr _ _) ?_
  have hx := o.ins _ _ e
  have k := kp_push s (bmO a)
  obtain ⟨hp, gg, dd, t, os⟩ := s
  exact has_entry hx (h _ g _ k (o.at k) (.bool true))
theorem op_add_list {ds es : List D} (hz : ds.length + es.length ≤ sizeLine) : Op2 prog w hb n (binaryOp .Add) (.list ds) (.list es) (.list (ds ++ es)) := fun A g s v₁ v₂ Q E rm o q₁ q₂ h => by
  obtain ⟨a, vs, m, rfl, e, r⟩ := rep_list q₁
  obtain ⟨b, us, k, rfl, e', r'⟩ := rep_list q₂
  have hsz : vs.toArray.size + us.toArray.size ≤ sizeLine := by simp [r.length, r'.length]; exact hz
  refine P.add_list (o.ins _ _ e) (o.ins _ _ e') ?_ hsz
  have ee : vs.toArray ++ us.toArray = (vs ++ us).toArray := by simp
  rw [ee]
  have G := grow_push (ob := lstO (vs ++ us) 0) o rfl
  exact h _ _ _ (kp_push _ _) G (.list Froz.put_self ((r.append r').mono G.sub))
end
theorem bind1 {fd : FuncData} {p : Str} (h : ∀ v, bindArgs fd ⟨[v], []⟩ = pure [(p, v)]) : ∀ vs : List Value, vs.length = [p].length → bindArgs fd ⟨vs, []⟩ = pure ([p].zip vs)
  | [v], _ => h v
theorem bind2 {fd : FuncData} {p q : Str} (h : ∀ v u, bindArgs fd ⟨[v, u], []⟩ = pure [(p, v), (q, u)]) : ∀ vs : List Value, vs.length = [p, q].length → bindArgs fd ⟨vs, []⟩ = pure ([p, q].zip vs)
  | [v, u], _ => h v u
abbrev E0 : St := fun _ => none
theorem le_nil {σ : St} : Le (st []) σ := fun _ _ e => nomatch e
theorem le_cons {σ : St} {x : Str} {d : D} {l : List (Str × D)} (h : σ x = some d) (h' : Le (st l) σ) : Le (st ((x, d) :: l)) σ := fun y e he => by
  unfold st at he
  rw [List.lookup_cons] at he
  cases q : y == x with
  | true => rw [q] at he; cases he; rw [beq_iff_eq.mp q]; exact h
  | false => rw [q] at he; exact h' y e he
section
variable {prog : Program} {w : World} {hb : Heap} {n : Nat} {sc : Scope} {σ σ' ω ω' : St} {K : Frag} {rest : List Stmt} {out : Out}
theorem Ex.set {x : Str} {pos' pos : Pos} {value : Expr} {d : D} (hv : Ev prog w hb n sc σ value d) (hx : Kept sc x) (hω : ω x = none) (hr : Ex prog w hb n sc (upd σ x d) ω rest out)
    (hs : ∀ env : Env, swapsWith value (some (.Name x pos')) pos.line env = pure false := by intro _; rfl) : Ex prog w hb n sc σ ω (.Assign [.Name x pos'] value pos :: rest) out := by
  have := Ex1.assign (ω := ω) hv hx hs (pos := pos)
  rw [del_id hω] at this
  exact Ex.cons this (Dom.refl ω) hr
theorem Ex.set_o {x : Str} {pos' pos : Pos} {value : Expr} {d : D} (hv : Ev prog w hb n sc (mix σ ω) value d) (hd : scal d = true) (hx : Kept sc x) (hω : ω x = none) (hr : Ex prog w hb n sc (upd σ x d) ω rest out)
    (hs : ∀ env : Env, swapsWith value (some (.Name x pos')) pos.line env = pure false := by intro _; rfl) : Ex prog w hb n sc σ ω (.Assign [.Name x pos'] value pos :: rest) out := by
  have := Ex1.assign_o (ω := ω) hv hd hx hs (pos := pos)
  rw [del_id hω] at this
  exact Ex.cons this (Dom.refl ω) hr
theorem Ex.add {x : Str} {pos' pos : Pos} {value : Expr} {op : Operator} {d₁ d₂ d : D} (h1 : σ x = some d₁) (hv : Ev prog w hb n sc σ value d₂) (ho : Op2 prog w hb n (inplaceOp op) d₁ d₂ d) (hx : Kept sc x) (hω : ω x = none) (hr : Ex prog w hb n sc (upd σ x d) ω rest out)
    (hn : (x == ("__classdict__" : Str)) = false := by decide) : Ex prog w hb n sc σ ω (.AugAssign (.Name x pos') op value pos :: rest) out := by
  have := Ex1.aug (ω := ω) h1 hv ho hx hn (pos := pos) (pos' := pos')
  rw [del_id hω] at this
  exact Ex.cons this (Dom.refl ω) hr
theorem Ex.tt {test : Expr} {body orelse : List Stmt} {pos : Pos} (ht : Tr prog w hb n sc (mix σ ω) test true) (hb' : Ex prog w hb n sc σ ω body (.next σ' ω')) (hd : Dom ω' ω) (hr : Ex prog w hb n sc σ' ω' rest out) : Ex prog w hb n sc σ ω (.If test body orelse pos :: rest) out :=
  Ex.cons (Ex1.if_tt ht hb') hd hr
theorem Ex.tt_ret {test : Expr} {body orelse : List Stmt} {pos : Pos} {d : D} (ht : Tr prog w hb n sc (mix σ ω) test true) (hb' : Ex prog w hb n sc σ ω body (.ret d)) : Ex prog w hb n sc σ ω (.If test body orelse pos :: rest) (.ret d) :=
  Ex.cons_ret (Ex1.if_tt ht hb')
theorem Ex.ff {test : Expr} {body : List Stmt} {pos : Pos} (ht : Tr prog w hb n sc (mix σ ω) test false) (hr : Ex prog w hb n sc σ ω rest out) : Ex prog w hb n sc σ ω (.If test body [] pos :: rest) out :=
  Ex.cons (Ex1.if_ff ht Ex.nil) (Dom.refl ω) hr
theorem Ex.app {x : Str} {p apos cpos pos : Pos} {e : Expr} {ds : List D} {d : D} (hx : ω x = some (.list ds)) (he : Ev prog w hb n sc σ e d) (hz : ds.length ≤ sizeLine) (hr : Ex prog w hb n sc σ (upd ω x (.list (ds ++ [d]))) rest out)
    (hst : ∀ env : Env, starEach [e] env = [(false, eval e env)] := by intro _; rfl) (hline : (apos.endLine == cpos.line) = true := by rfl) (hd : (x == ("__debug__" : Str)) = false := by decide) (hn : (x == ("__classdict__" : Str)) = false := by decide) :
    Ex prog w hb n sc σ ω (.Expr (.Call (.Attribute (.Name x p) (Str.ofString "append") apos) [e] [] cpos) pos :: rest) out :=
  Ex.cons (Ex1.append hx he hz hst hline hd hn) (fun y d' hy => by
    unfold upd at hy
    by_cases h : y = x
    · subst h; exact ⟨_, hx⟩
    · rw [if_neg h] at hy; exact ⟨_, hy⟩) hr
theorem Ex.key {x y : Str} {px py pos' pos : Pos} {value : Expr} {kvs : List (Str × D)} {k : Str} {d : D} (hx : ω x = some (.dict kvs)) (hv : Ev prog w hb n sc σ value d) (hy : σ y = some (.str k)) (hnew : k ∉ kvs.map (·.1)) (hz : kvs.length ≤ sizeLine) (hr : Ex prog w hb n sc σ (upd ω x (.dict (kvs ++ [(k, d)]))) rest out)
    (hs : ∀ env : Env, swapsWith value (some (.Subscript (.Name x px) (.Name y py) pos')) pos.line env = pure false := by intro _; rfl) (hd : (x == ("__debug__" : Str)) = false := by decide) (hn : (x == ("__classdict__" : Str)) = false := by decide) (hd' : (y == ("__debug__" : Str)) = false := by decide) (hn' : (y == ("__classdict__" : Str)) = false := by decide) :
    Ex prog w hb n sc σ ω (.Assign [.Subscript (.Name x px) (.Name y py) pos'] value pos :: rest) out :=
  Ex.cons (Ex1.setitem hx hv hy hnew hz hs hd hn hd' hn') (fun z d' hz' => by
    unfold upd at hz'
    by_cases h : z = x
    · subst h; exact ⟨_, hx⟩
    · rw [if_neg h] at hz'; exact ⟨_, hz'⟩) hr
theorem dom_one {x : Str} {d d' : D} {ω : St} (h : ω x = some d') : Dom (st [(x, d)]) ω := fun y e he => by
  unfold st at he
  rw [List.lookup_cons] at he
  cases q : y == x with
  | true => rw [beq_iff_eq.mp q]; exact ⟨_, h⟩
  | false => rw [q] at he; cases he
theorem dom_two {x y : Str} {d e d' e' : D} {ω : St} (h : ω x = some d') (h' : ω y = some e') : Dom (st [(x, d), (y, e)]) ω := fun z f hf => by
  unfold st at hf
  rw [List.lookup_cons] at hf
  cases q : z == x with
  | true => rw [beq_iff_eq.mp q]; exact ⟨_, h⟩
  | false => rw [q] at hf; exact dom_one (d := e) h' z f hf
theorem Tr.to {e : Expr} {b c : Bool} (h : Tr prog w hb n sc σ e b) (hbc : b = c) : Tr prog w hb n sc σ e c := hbc ▸ h
/-- a loop, then the rest -/
theorem Ex.loop {x : Str} {px : Pos} {iter : Expr} {body : List Stmt} {pos : Pos} {d : D} {ds : List D} (σs ωs : Nat → St)
    (hit : Ev prog w hb n sc σ iter d) (I : Itr prog w hb d ds) (hx : Kept sc x) (h0 : Le (σs 0) σ) (h0' : Le (ωs 0) ω) (hdom : ∀ i, Dom (ωs i) ω) (hωx : ∀ i, ωs i x = none)
    (hbody : ∀ i di, i < ds.length → ds[i]? = some di → Ex prog w hb n sc (upd (σs i) x di) (ωs i) body (.next (σs (i + 1)) (ωs (i + 1))))
    (hr : Ex prog w hb n sc (σs ds.length) (ωs ds.length) rest out)
    (hs : ∀ (env : Env) x, foldedSetIterable iter env x = pure x := by intro _ _; rfl) : Ex prog w hb n sc σ ω (.For (.Name x px) iter body [] pos :: rest) out :=
  Ex.cons (Ex1.for_ ds.length _ σs ωs hit I hx h0 h0' hdom hωx (Nat.le_refl _) hbody (.inl ⟨rfl, rfl, rfl⟩) hs) (hdom _) hr
/-- a loop that goes back from within -/
theorem Ex.loop_ret {x : Str} {px : Pos} {iter : Expr} {body orelse : List Stmt} {pos : Pos} {d dj dr : D} {ds : List D} (j : Nat) (σs ωs : Nat → St)
    (hit : Ev prog w hb n sc σ iter d) (I : Itr prog w hb d ds) (hx : Kept sc x) (h0 : Le (σs 0) σ) (h0' : Le (ωs 0) ω) (hdom : ∀ i, Dom (ωs i) ω) (hωx : ∀ i, ωs i x = none)
    (hj : ds[j]? = some dj)
    (hbody : ∀ i di, i < j → ds[i]? = some di → Ex prog w hb n sc (upd (σs i) x di) (ωs i) body (.next (σs (i + 1)) (ωs (i + 1))))
    (hr : Ex prog w hb n sc (upd (σs j) x dj) (ωs j) body (.ret dr))
    (hs : ∀ (env : Env) x, foldedSetIterable iter env x = pure x := by intro _ _; rfl) : Ex prog w hb n sc σ ω (.For (.Name x px) iter body orelse pos :: rest) (.ret dr) :=
  Ex.cons_ret (Ex1.for_ j _ σs ωs hit I hx h0 h0' hdom hωx (Nat.le_of_lt (List.getElem?_eq_some_iff.mp hj).1) hbody (.inr ⟨dj, dr, hj, rfl, hr⟩) hs)
end
section
variable {prog : Program} {w : World} {hb : Heap} {n : Nat} {P : Params}
theorem fn_le (B : Bs (hd.heap_39 P) hb) {a b : Int} : Fn prog w hb 1 (.ref 71) [.int a, .int b] (.bool (decide (a ≤ b))) := by
  refine fn_def B (ps := [Str.ofString "a", Str.ofString "b"]) ⟨⟨_, _, _, _, _, _, rfl, rfl, rfl, rfl, rfl, rfl, rfl, rfl, rfl, rfl, rfl, bind2 fun _ _ => rfl⟩, rfl, rfl, rfl, by decide, by decide⟩ rfl ?_
  exact Ex.ret (Ev.cmp (Ev.name rfl) (Ev.name rfl) op_le_int)
theorem fn_ge (B : Bs (hd.heap_39 P) hb) {a b : Int} : Fn prog w hb 1 (.ref 78) [.int a, .int b] (.bool (decide (a ≥ b))) := by
  refine fn_def B (ps := [Str.ofString "a", Str.ofString "b"]) ⟨⟨_, _, _, _, _, _, rfl, rfl, rfl, rfl, rfl, rfl, rfl, rfl, rfl, rfl, rfl, bind2 fun _ _ => rfl⟩, rfl, rfl, rfl, by decide, by decide⟩ rfl ?_
  exact Ex.ret (Ev.cmp (Ev.name rfl) (Ev.name rfl) op_ge_int)
theorem fn_mul (B : Bs (hd.heap_39 P) hb) {a b : Int} (hm : IntMulOk a b) : Fn prog w hb 1 (.ref 85) [.int a, .int b] (.int (a * b)) := by
  refine fn_def B (ps := [Str.ofString "a", Str.ofString "b"]) ⟨⟨_, _, _, _, _, _, rfl, rfl, rfl, rfl, rfl, rfl, rfl, rfl, rfl, rfl, rfl, bind2 fun _ _ => rfl⟩, rfl, rfl, rfl, by decide, by decide⟩ rfl ?_
  exact Ex.ret (Ev.bin (Ev.name rfl) (Ev.name rfl) (op_mul_int hm))
theorem fn_sub (B : Bs (hd.heap_39 P) hb) {a b : Int} : Fn prog w hb 1 (.ref 92) [.int a, .int b] (.int (a - b)) := by
  refine fn_def B (ps := [Str.ofString "a", Str.ofString "b"]) ⟨⟨_, _, _, _, _, _, rfl, rfl, rfl, rfl, rfl, rfl, rfl, rfl, rfl, rfl, rfl, bind2 fun _ _ => rfl⟩, rfl, rfl, rfl, by decide, by decide⟩ rfl ?_
  exact Ex.ret (Ev.bin (Ev.name rfl) (Ev.name rfl) op_sub_int)
theorem fn_concat (B : Bs (hd.heap_39 P) hb) {ds es : List D} (hz : ds.length + es.length ≤ sizeLine) : Fn prog w hb 1 (.ref 99) [.list ds, .list es] (.list (ds ++ es)) := by
  refine fn_def B (ps := [Str.ofString "a", Str.ofString "b"]) ⟨⟨_, _, _, _, _, _, rfl, rfl, rfl, rfl, rfl, rfl, rfl, rfl, rfl, rfl, rfl, bind2 fun _ _ => rfl⟩, rfl, rfl, rfl, by decide, by decide⟩ rfl ?_
  refine Ex.ff (Tr.not (b := true) (Tr.val (Ev.call (Cal.boot B rfl rfl boot_hasattr (by decide)) (.builtin _) (Evs.cons (Ev.name rfl) (Evs.cons Ev.str Evs.nil)) fn_hasattr) tru_bool)) ?_
  exact Ex.ret (Ev.bin (Ev.name rfl) (Ev.name rfl) (op_add_list hz))
theorem any_eqv (x : Str) : ∀ xs : List Str, ((pys (xs.map .str)).any fun y => PyData.eqv y (py (.str x))) = decide (x ∈ xs)
  | [] => rfl
  | y :: xs => by
    have ih := any_eqv x xs
    have e : PyData.eqv (py (.str y)) (py (.str x)) = decide (y = x) := by
      show (y == x) = _
      by_cases h : y = x
      · simp [h]
      · rw [beq_eq_false_iff_ne.mpr h, decide_eq_false h]
    rw [List.map_cons, pys, List.any_cons, ih, e]
    by_cases h : y = x
    · simp [h]
    · simp [h, Ne.symm h]
theorem flats_str : ∀ xs : List Str, flats (xs.map .str) = true
  | [] => rfl
  | y :: xs => by simp [flats, flat, flats_str xs]
def Fine (xs : List Str) : Prop := ∀ y ∈ xs, PyData.strOk y = true
theorem lays_str : ∀ {xs : List Str}, Fine xs → PyData.canLayAll0 (pys (xs.map .str)) = true
  | [], _ => rfl
  | y :: xs, h => by
    have h1 := h y (by simp)
    have h2 := lays_str (xs := xs) fun z hz => h z (by simp [hz])
    simp [pys, py, PyData.canLayAll0, PyData.canLay0, h1, h2]
theorem depth_str (x : Str) : (py (.str x)).depth ≤ 30 := by simp [py, PyData.depth]
theorem fn_contains (B : Bs (hd.heap_39 P) hb) {xs : List Str} {x : Str} (hx : PyData.strOk x = true) (hxs : Fine xs) : Fn prog w hb 1 (.ref 106) [.list (xs.map .str), .str x] (.bool (decide (x ∈ xs))) := by
  refine fn_def B (ps := [Str.ofString "a", Str.ofString "b"]) ⟨⟨_, _, _, _, _, _, rfl, rfl, rfl, rfl, rfl, rfl, rfl, rfl, rfl, rfl, rfl, bind2 fun _ _ => rfl⟩, rfl, rfl, rfl, by decide, by decide⟩ rfl ?_
  rw [← any_eqv x xs]
  exact Ex.ret (Ev.cmp (Ev.name rfl) (Ev.name rfl) (op_in rfl (flats_str xs) hx (lays_str hxs) (Nat.le_trans (Nat.min_le_right _ _) (depth_str x))))

/-- how often, as the walk counts -/
theorem count_take {α : Type} [BEq α] [LawfulBEq α] (xs : List α) (b : α) {i : Nat} {x : α} (h : xs[i]? = some x) : (xs.take (i + 1)).count b = (xs.take i).count b + (if x == b then 1 else 0) := by
  have : xs.take (i + 1) = xs.take i ++ [x] := by rw [List.take_add_one, h]; rfl
  rw [this, List.count_append, List.count_singleton]
theorem fn_countOf_bool (B : Bs (hd.heap_39 P) hb) {xs : List Bool} {b : Bool} : Fn prog w hb 1 (.ref 113) [.list (xs.map .bool), .bool b] (.int (xs.count b)) := by
  refine fn_def B (ps := [Str.ofString "a", Str.ofString "b"]) ⟨⟨_, _, _, _, _, _, rfl, rfl, rfl, rfl, rfl, rfl, rfl, rfl, rfl, rfl, rfl, bind2 fun _ _ => rfl⟩, rfl, rfl, rfl, by decide, by decide⟩ rfl ?_
  refine Ex.set Ev.int (.inl rfl) rfl ?_
  refine Ex.loop (fun i => st [(Str.ofString "a", .list (xs.map .bool)), (Str.ofString "b", .bool b), (Str.ofString "count", .int ((xs.take i).count b))]) (fun _ => E0) (Ev.name rfl) itr_list (.inl rfl) (le_cons rfl (le_cons rfl (le_cons rfl le_nil))) (Le.refl _) (fun _ => Dom.refl _) (fun _ => rfl) ?_ ?_
  · intro i di hi hdi
    rw [List.getElem?_map] at hdi
    cases hx : xs[i]? with
    | none => rw [hx] at hdi; cases hdi
    | some x =>
      rw [hx] at hdi
      cases hdi
      have hc := count_take xs b hx
      cases hxb : x == b with
      | true =>
        refine Ex.tt (Tr.to (tr_is_or_eq_bool (Ev.name rfl) (Ev.name rfl) (Ev.name rfl) (Ev.name rfl)) hxb) (Ex.add rfl Ev.int op_iadd_int (.inl rfl) rfl Ex.nil) (Dom.refl _) (Ex.nil_weak (le_cons rfl (le_cons rfl (le_cons ?_ le_nil))) (Le.refl _))
        rw [hc, hxb]
        rfl
      | false =>
        refine Ex.ff (Tr.to (tr_is_or_eq_bool (Ev.name rfl) (Ev.name rfl) (Ev.name rfl) (Ev.name rfl)) hxb) (Ex.nil_weak (le_cons rfl (le_cons rfl (le_cons ?_ le_nil))) (Le.refl _))
        rw [hc, hxb]
        rfl
  · simp only [List.length_map, List.take_length]
    exact Ex.ret (Ev.name rfl)
theorem fn_countOf_str (B : Bs (hd.heap_39 P) hb) {xs : List Str} {b : Str} : Fn prog w hb 1 (.ref 113) [.list (xs.map .str), .str b] (.int (xs.count b)) := by
  refine fn_def B (ps := [Str.ofString "a", Str.ofString "b"]) ⟨⟨_, _, _, _, _, _, rfl, rfl, rfl, rfl, rfl, rfl, rfl, rfl, rfl, rfl, rfl, bind2 fun _ _ => rfl⟩, rfl, rfl, rfl, by decide, by decide⟩ rfl ?_
  refine Ex.set Ev.int (.inl rfl) rfl ?_
  refine Ex.loop (fun i => st [(Str.ofString "a", .list (xs.map .str)), (Str.ofString "b", .str b), (Str.ofString "count", .int ((xs.take i).count b))]) (fun _ => E0) (Ev.name rfl) itr_list (.inl rfl) (le_cons rfl (le_cons rfl (le_cons rfl le_nil))) (Le.refl _) (fun _ => Dom.refl _) (fun _ => rfl) ?_ ?_
  · intro i di hi hdi
    rw [List.getElem?_map] at hdi
    cases hx : xs[i]? with
    | none => rw [hx] at hdi; cases hdi
    | some x =>
      rw [hx] at hdi
      cases hdi
      have hc := count_take xs b hx
      by_cases hxb : x = b
      · have e : decide (x = b) = true := by simp [hxb]
        refine Ex.tt (Tr.to (tr_is_or_eq_str B (Ev.name rfl) (Ev.name rfl) (Ev.name rfl) (Ev.name rfl)) e) (Ex.add rfl Ev.int op_iadd_int (.inl rfl) rfl Ex.nil) (Dom.refl _) (Ex.nil_weak (le_cons rfl (le_cons rfl (le_cons ?_ le_nil))) (Le.refl _))
        rw [hc, if_pos (by simp [hxb])]
        rfl
      · have e : decide (x = b) = false := by simp [hxb]
        refine Ex.ff (Tr.to (tr_is_or_eq_str B (Ev.name rfl) (Ev.name rfl) (Ev.name rfl) (Ev.name rfl)) e) (Ex.nil_weak (le_cons rfl (le_cons rfl (le_cons ?_ le_nil))) (Le.refl _))
        rw [hc, if_neg (by simp [hxb])]
        rfl
  · simp only [List.length_map, List.take_length]
    exact Ex.ret (Ev.name rfl)
/-- where it first stands -/
theorem fn_indexOf (B : Bs (hd.heap_39 P) hb) {xs : List Str} {b : Str} {j : Nat} (hj : xs[j]? = some b) (hf : ∀ i, i < j → xs[i]? ≠ some b) : Fn prog w hb 1 (.ref 120) [.list (xs.map .str), .str b] (.int j) := by
  refine fn_def B (ps := [Str.ofString "a", Str.ofString "b"]) ⟨⟨_, _, _, _, _, _, rfl, rfl, rfl, rfl, rfl, rfl, rfl, rfl, rfl, rfl, rfl, bind2 fun _ _ => rfl⟩, rfl, rfl, rfl, by decide, by decide⟩ rfl ?_
  refine Ex.cons_ret (Ex1.for_enum j (.str b) _ (Cal.boot B rfl rfl boot_enumerate (by decide)) (Ev.name rfl) (.inl rfl) (.inl rfl) rfl rfl (by simp [hj]) ?_ ?_)
  · intro i di hi hdi
    rw [List.getElem?_map] at hdi
    cases hx : xs[i]? with
    | none => rw [hx] at hdi; cases hdi
    | some x =>
      rw [hx] at hdi
      cases hdi
      have hne : x ≠ b := fun e => hf i hi (by rw [hx, e])
      have e : decide (x = b) = false := by simp [hne]
      exact Ex.ff (Tr.to (tr_is_or_eq_str B (Ev.name rfl) (Ev.name rfl) (Ev.name rfl) (Ev.name rfl)) e) (Ex.nil_weak (le_cons rfl (le_cons rfl le_nil)) (Le.refl _))
  · have e : decide (b = b) = true := by simp
    exact Ex.tt_ret (Tr.to (tr_is_or_eq_str B (Ev.name rfl) (Ev.name rfl) (Ev.name rfl) (Ev.name rfl)) e) (Ex.ret (Ev.name rfl))
end
abbrev dot : Str := Str.ofString "."
/-- a host's text as the walk wants it -/
structure Hdn (x : Str) : Prop where
  ip : noIp x = true
  ne : decide (x = Str.ofString "") = false
  fst : ∃ c, (seqIndex? 0 x.length).bind (x.cps[·]?) = some c ∧ decide ((⟨#[c]⟩ : Str) = dot) = false
  lst : ∃ c, (seqIndex? (-1) x.length).bind (x.cps[·]?) = some c ∧ decide ((⟨#[c]⟩ : Str) = dot) = false
section
variable {prog : Program} {w : World} {hb : Heap} {n : Nat} {P : Params}
theorem fn_liberal (B : Bs (hd.heap_39 P) hb) {x : Str} (h : noIp x = true) : Fn prog w hb 1 (.ref 50) [.str x] (.bool true) := by
  refine fn_def B (ps := [Str.ofString "text"]) ⟨⟨_, _, _, _, _, _, rfl, rfl, rfl, rfl, rfl, rfl, rfl, rfl, rfl, rfl, rfl, bind1 fun _ => rfl⟩, rfl, rfl, rfl, by decide, by decide⟩ rfl ?_
  refine Ex.ff (Tr.val (Ev.search B (Cal.glob B rfl rfl) rfl rfl (Ev.name rfl) h) tru_none) ?_
  exact Ex.ret Ev.bool
theorem fn_hdn (B : Bs (hd.heap_39 P) hb) {x : Str} (h : Hdn x) : Fn prog w hb 1 (.ref 43) [.str x] (.bool true) := by
  refine fn_def B (ps := [Str.ofString "text"]) ⟨⟨_, _, _, _, _, _, rfl, rfl, rfl, rfl, rfl, rfl, rfl, rfl, rfl, rfl, rfl, bind1 fun _ => rfl⟩, rfl, rfl, rfl, by decide, by decide⟩ rfl ?_
  obtain ⟨c, hc, hc'⟩ := h.fst
  obtain ⟨e, he, he'⟩ := h.lst
  refine Ex.ff (Tr.val (Ev.search B (Cal.glob B rfl rfl) rfl rfl (Ev.name rfl) h.ip) tru_none) ?_
  refine Ex.ff (Tr.to (Tr.cmp (Ev.name rfl) Ev.str op_eq_str) h.ne) ?_
  refine Ex.ff (Tr.boolOp (TrAll.or_ff (Tr.to (Tr.cmp (Ev.sub (Ev.name rfl) Ev.int (sub_str (by decide) hc)) Ev.str op_eq_str) hc') (TrAll.or_ff (Tr.to (Tr.cmp (Ev.sub (Ev.name rfl) (Ev.un Ev.int op_neg_int) (sub_str (by decide) he)) Ev.str op_eq_str) he') TrAll.or_nil))) ?_
  exact Ex.ret Ev.bool
theorem fn_udm (B : Bs (hd.heap_39 P) hb) {a b la lb : Str} {r : Bool} (ha : Txt.lower a = la) (hb' : Txt.lower b = lb) (fa : Builtin.Str.tooLong la.length = false) (fb : Builtin.Str.tooLong lb.length = false)
    (na : noIp la = true) (nb : noIp lb = true) (hs : Txt.startswith lb dot = true) (he : Txt.endswith la lb = r) : Fn prog w hb 2 (.ref 57) [.str a, .str b] (.bool r) := by
  refine fn_def B (ps := [Str.ofString "A", Str.ofString "B"]) ⟨⟨_, _, _, _, _, _, rfl, rfl, rfl, rfl, rfl, rfl, rfl, rfl, rfl, rfl, rfl, bind2 fun _ _ => rfl⟩, rfl, rfl, rfl, by decide, by decide⟩ rfl ?_
  subst ha hb'
  refine Ex.set (Ev.meth0 (Ev.name rfl) F.slot_str_lower F.type_str_lower (fn_lower fa)) (.inl rfl) rfl ?_
  refine Ex.set (Ev.meth0 (Ev.name rfl) F.slot_str_lower F.type_str_lower (fn_lower fb)) (.inl rfl) rfl ?_
  refine Ex.ff (Tr.not (b := true) (Tr.boolOp (TrAll.and_tt (Tr.val (Ev.call (Cal.glob B rfl rfl) (.fn (B.inK _ _ rfl) rfl) (Evs.cons (Ev.name rfl) Evs.nil) (fn_liberal B na)) tru_bool) (TrAll.and_tt (Tr.val (Ev.call (Cal.glob B rfl rfl) (.fn (B.inK _ _ rfl) rfl) (Evs.cons (Ev.name rfl) Evs.nil) (fn_liberal B nb)) tru_bool) TrAll.and_nil)))) ?_
  refine Ex.set (d := .bool true) (hs ▸ Ev.meth1 (Ev.name rfl) Ev.str F.slot_str_startswith F.type_str_startswith fn_startswith) (.inl rfl) rfl ?_
  cases r with
  | true =>
    refine Ex.tt_ret (Tr.boolOp (TrAll.and_tt (Tr.val (Ev.name rfl) tru_bool) (TrAll.and_tt (Tr.val (he ▸ Ev.meth1 (Ev.name rfl) (Ev.name rfl) F.slot_str_endswith F.type_str_endswith fn_endswith) tru_bool) TrAll.and_nil))) ?_
    exact Ex.ret Ev.bool
  | false =>
    refine Ex.ff (Tr.boolOp (TrAll.and_tt (Tr.val (Ev.name rfl) tru_bool) (TrAll.and_ff (Tr.val (he ▸ Ev.meth1 (Ev.name rfl) (Ev.name rfl) F.slot_str_endswith F.type_str_endswith fn_endswith) tru_bool)))) ?_
    refine Ex.ff (Tr.boolOp (TrAll.and_ff (Tr.not (b := true) (Tr.val (Ev.name rfl) tru_bool)))) ?_
    exact Ex.ret Ev.bool
end
/-! ### rows of labels, their names -/
abbrev Row := List Bool
def lab (b : Bool) : Str := if b then Str.ofString "ba" else Str.ofString "a"
abbrev locS : Str := Str.ofString "local"
def parts (r : Row) : List Str := (r.map lab).reverse ++ [locS]
def spell (r : Row) : Str := Builtin.Str.glued dot (parts r)
def all15 : List Row := [[], [false], [true], [false, false], [false, true], [true, false], [true, true], [false, false, false], [false, false, true], [false, true, false], [false, true, true], [true, false, false], [true, false, true], [true, true, false], [true, true, true]]
/-- the row's ends, longest first -/
def prefs (r : Row) : List Row := (List.range (r.length + 1)).map fun k => r.take (r.length - k)
def lad (r : Row) : List Str := (prefs r).map spell
def rowD (r : Row) : D := .list (r.map fun b => .str (lab b))
def ladD (r : Row) : D := .list ((lad r).map .str)
def hdnC : Option Nat → Bool
  | some c => !decide ((⟨#[c]⟩ : Str) = dot)
  | none => false
def hdnB (x : Str) : Bool := noIp x && (!decide (x = Str.ofString "") && (hdnC ((seqIndex? 0 x.length).bind (x.cps[·]?)) && hdnC ((seqIndex? (-1) x.length).bind (x.cps[·]?))))
theorem hdnC_some {o : Option Nat} (h : hdnC o = true) : ∃ c, o = some c ∧ decide ((⟨#[c]⟩ : Str) = dot) = false := by
  cases o with
  | none => cases h
  | some c => exact ⟨c, rfl, by simpa [hdnC] using h⟩
theorem hdn_of {x : Str} (h : hdnB x = true) : Hdn x := by
  unfold hdnB at h
  rw [Bool.and_eq_true, Bool.and_eq_true, Bool.and_eq_true] at h
  exact ⟨h.1, by simpa using h.2.1, hdnC_some h.2.2.1, hdnC_some h.2.2.2⟩
theorem all_reach : ∀ r ∈ all15, r ≠ [] → 0 ≤ Txt.find (spell r) dot ∧ cutS (spell r) (some (Txt.find (spell r) dot + 1)) none = spell r.dropLast ∧ hdnB (spell r) = true ∧ (decide (Txt.find (spell r.dropLast) dot ≥ 0) || decide (spell r.dropLast = locS)) = true := by
  unfold all15
  repeat refine List.forall_mem_cons.mpr ⟨by decide +kernel, ?_⟩
  exact fun _ h => nomatch h
theorem all_top : Txt.find (spell []) dot = -1 := by decide +kernel
theorem all_cut : ∀ r ∈ all15, cutS (dot ++ spell r) (some 1) none = spell r ∧ (spell r).length ≤ 100 ∧ (dot ++ spell r).length ≤ 100 := by decide +kernel
theorem all_drop : ∀ r ∈ all15, r.dropLast ∈ all15 := by decide
theorem all_take : ∀ r ∈ all15, ∀ k, r.take k ∈ all15 := by
  intro r hr k
  have h : ∀ r ∈ all15, r.length ≤ 3 ∧ ∀ k ≤ 3, r.take k ∈ all15 := by decide
  obtain ⟨h1, h2⟩ := h r hr
  by_cases hk : k ≤ 3
  · exact h2 k hk
  · rw [List.take_of_length_le (by omega)]; exact hr
theorem all_len : ∀ r ∈ all15, r.length ≤ 3 := by decide
theorem all_ne : ∀ r ∈ all15, r ≠ [] → spell r ≠ dot ++ spell r.dropLast := by decide +kernel
theorem all_join : ∀ r ∈ all15, Builtin.Str.tooLong ((parts r).toArray.foldl (· + ·.length + dot.length) 0) = false := by decide +kernel
theorem all_inj : ∀ r ∈ all15, ∀ p ∈ all15, spell r = spell p → r = p := by decide +kernel
theorem all_ok : ∀ r ∈ all15, PyData.strOk (spell r) = true := by decide +kernel
theorem line100 {m : Nat} (h : m ≤ 100) : m ≤ sizeLine := Nat.le_trans h (by decide)

section
variable {prog : Program} {w : World} {hb : Heap} {n : Nat} {P : Params}
theorem ev_rev {sc : Scope} {σ : St} {value step : Expr} {p pos : Pos} {ds : List D} (hv : Ev prog w hb n sc σ value (.list ds)) (hs : Ev prog w hb n sc σ step (.int (-1))) (hz : ds.length ≤ sizeLine) : Ev prog w hb n sc σ (.Subscript value (.Slice none none (some step) p) pos) (.list ds.reverse) := by
  have := Ev.slice (p := p) (pos := pos) (lower := none) (upper := none) (step := some step) (lo := none) (hi := none) (st := some (-1)) hv trivial trivial hs (by decide) hz
  rwa [pick_rev] at this
theorem ev_from {sc : Scope} {σ : St} {value e : Expr} {p pos : Pos} {ds : List D} {a : Nat} (hv : Ev prog w hb n sc σ value (.list ds)) (he : Ev prog w hb n sc σ e (.int a)) (hz : ds.length ≤ sizeLine) : Ev prog w hb n sc σ (.Subscript value (.Slice (some e) none none p) pos) (.list (ds.drop a)) := by
  have := Ev.slice (p := p) (pos := pos) (lower := some e) (upper := none) (step := none) (lo := some a) (hi := none) (st := none) hv he trivial trivial (by simp) hz
  rwa [pick_from] at this
theorem ev_upto {sc : Scope} {σ : St} {value e : Expr} {p pos : Pos} {ds : List D} {a : Nat} (hv : Ev prog w hb n sc σ value (.list ds)) (he : Ev prog w hb n sc σ e (.int a)) (hz : ds.length ≤ sizeLine) : Ev prog w hb n sc σ (.Subscript value (.Slice none (some e) none p) pos) (.list (ds.take a)) := by
  have := Ev.slice (p := p) (pos := pos) (lower := none) (upper := some e) (step := none) (lo := none) (hi := some a) (st := none) hv trivial he trivial (by simp) hz
  rwa [pick_upto] at this
theorem ev_wupto {sc : Scope} {σ : St} {value e : Expr} {p pos : Pos} {ds : List D} {a : Nat} (hv : Ev prog w hb n sc σ value (.wlist ds)) (he : Ev prog w hb n sc σ e (.int a)) (hz : ds.length ≤ sizeLine) : Ev prog w hb n sc σ (.Subscript value (.Slice none (some e) none p) pos) (.list (ds.take a)) := by
  have := Ev.wslice (p := p) (pos := pos) (lower := none) (upper := some e) (step := none) (lo := none) (hi := some a) (st := none) hv trivial he trivial (by simp) hz
  rwa [pick_upto] at this
theorem ev_second {sc : Scope} {σ : St} {value e f : Expr} {p pos : Pos} {ds : List D} (hv : Ev prog w hb n sc σ value (.list ds)) (he : Ev prog w hb n sc σ e (.int 1)) (hf : Ev prog w hb n sc σ f (.int 2)) (hz : ds.length ≤ sizeLine) : Ev prog w hb n sc σ (.Subscript value (.Slice (some e) (some f) none p) pos) (.list ((ds.drop 1).take 1)) := by
  have := Ev.slice (p := p) (pos := pos) (lower := some e) (upper := some f) (step := none) (lo := some 1) (hi := some 2) (st := none) hv he hf trivial (by simp) hz
  rwa [pick_12] at this
theorem ev_tail {sc : Scope} {σ : St} {value e : Expr} {p pos : Pos} {x b : Str} {i : Int} (hv : Ev prog w hb n sc σ value (.str x)) (he : Ev prog w hb n sc σ e (.int i)) (hcut : cutS x (some i) none = b) (hz : b.length ≤ 100)
    (ht : ∀ o r, letTemporaryGo value o r = pure () := by intro _ _; rfl) : Ev prog w hb n sc σ (.Subscript value (.Slice (some e) none none p) pos) (.str b) := by
  subst hcut
  exact Ev.slice_str (lower := some e) (upper := none) (lo := some i) (hi := none) hv he trivial (line100 hz) ht
theorem fn_reach_top (B : Bs (hd.heap_39 P) hb) {h : Str} (h0 : Txt.find h dot = -1) : Fn prog w hb 2 (.ref 64) [.str h] (.str h) := by
  refine fn_def B (ps := [Str.ofString "h"]) ⟨⟨_, _, _, _, _, _, rfl, rfl, rfl, rfl, rfl, rfl, rfl, rfl, rfl, rfl, rfl, bind1 fun _ => rfl⟩, rfl, rfl, rfl, by decide, by decide⟩ rfl ?_
  refine Ex.set (d := .int (-1)) (h0 ▸ Ev.meth1 (Ev.name rfl) Ev.str F.slot_str_find F.type_str_find fn_find) (.inl rfl) rfl ?_
  refine Ex.ff (Tr.to (Tr.cmp (Ev.name rfl) Ev.int op_ge_int) rfl) ?_
  exact Ex.ret (Ev.name rfl)
theorem fn_reach_up (B : Bs (hd.heap_39 P) hb) {h b : Str} {i : Int} (hi : Txt.find h dot = i) (h0 : 0 ≤ i) (hcut : cutS h (some (i + 1)) none = b) (hb1 : b.length ≤ 100) (hb2 : (dot ++ b).length ≤ 100) (hdn : Hdn h) (ht : (decide (Txt.find b dot ≥ 0) || decide (b = locS)) = true) :
    Fn prog w hb 2 (.ref 64) [.str h] (.str (dot ++ b)) := by
  refine fn_def B (ps := [Str.ofString "h"]) ⟨⟨_, _, _, _, _, _, rfl, rfl, rfl, rfl, rfl, rfl, rfl, rfl, rfl, rfl, rfl, bind1 fun _ => rfl⟩, rfl, rfl, rfl, by decide, by decide⟩ rfl ?_
  refine Ex.set (d := .int i) (hi ▸ Ev.meth1 (Ev.name rfl) Ev.str F.slot_str_find F.type_str_find fn_find) (.inl rfl) rfl ?_
  refine Ex.tt_ret (Tr.to (Tr.cmp (Ev.name rfl) Ev.int op_ge_int) (by simpa using h0)) ?_
  refine Ex.set (ev_tail (Ev.name rfl) (Ev.bin (Ev.name rfl) Ev.int op_add_int) hcut hb1) (.inl rfl) rfl ?_
  refine Ex.set (Ev.meth1 (Ev.name rfl) Ev.str F.slot_str_find F.type_str_find fn_find) (.inl rfl) rfl ?_
  refine Ex.tt_ret (Tr.boolOp (TrAll.and_tt (Tr.val (Ev.call (Cal.glob B rfl rfl) (.fn (B.inK _ _ rfl) rfl) (Evs.cons (Ev.name rfl) Evs.nil) (fn_hdn B hdn)) tru_bool) (TrAll.and_tt (Tr.boolOp ?_) TrAll.and_nil))) ?_
  · cases q : decide (Txt.find b dot ≥ 0) with
    | true => exact TrAll.or_tt (Tr.to (Tr.cmp (Ev.name rfl) Ev.int op_ge_int) q)
    | false =>
      rw [q] at ht
      exact TrAll.or_ff (Tr.to (Tr.cmp (Ev.name rfl) Ev.int op_ge_int) q) (TrAll.or_tt (Tr.to (Tr.cmp (Ev.name rfl) Ev.str op_eq_str) (by simpa using ht)))
  · exact Ex.ret (Ev.bin Ev.str (Ev.name rfl) (op_add_str (line100 hb2)))
theorem fn_reach (B : Bs (hd.heap_39 P) hb) {r : Row} (hr : r ∈ all15) : Fn prog w hb 2 (.ref 64) [.str (spell r)] (.str (if r = [] then spell r else dot ++ spell r.dropLast)) := by
  by_cases h : r = []
  · subst h
    exact fn_reach_top B all_top
  · rw [if_neg h]
    obtain ⟨h1, h2, h3, h4⟩ := all_reach r hr h
    obtain ⟨_, c1, c2⟩ := all_cut _ (all_drop r hr)
    exact fn_reach_up B rfl h1 h2 c1 c2 (hdn_of h3) h4
theorem fn_spelled (B : Bs (hd.heap_39 P) hb) {r : Row} (hr : r ∈ all15) : Fn prog w hb 1 (.ref 132) [rowD r] (.str (spell r)) := by
  refine fn_def B (ps := [Str.ofString "row"]) ⟨⟨_, _, _, _, _, _, rfl, rfl, rfl, rfl, rfl, rfl, rfl, rfl, rfl, rfl, rfl, bind1 fun _ => rfl⟩, rfl, rfl, rfl, by decide, by decide⟩ rfl ?_
  have hl := all_len r hr
  obtain ⟨_, c1, _⟩ := all_cut r hr
  refine Ex.ret (Ev.meth1 Ev.str (d₁ := .list ((parts r).map .str)) ?_ F.slot_str_join F.type_str_join (fn_join (all_join r hr) (line100 c1) (fun x e => by rw [e]; rfl)))
  have e : (parts r).map D.str = (r.map fun b => D.str (lab b)).reverse ++ [.str locS] := by simp [parts, Function.comp_def]
  rw [e]
  exact Ev.bin (ev_rev (Ev.name rfl) (Ev.un Ev.int op_neg_int) (line100 (by simp; omega))) (Ev.list (Evs.cons Ev.str Evs.nil) (by decide)) (op_add_list (line100 (by simp; omega)))
end
/-- the ladder so far -/
def ladTo (r : Row) (i : Nat) : List Str := (List.range (i + 1)).map fun k => spell (r.take (r.length - k))
theorem ladTo_last (r : Row) (i : Nat) : ((ladTo r i).map D.str).getLast? = some (.str (spell (r.take (r.length - i)))) := by
  simp [ladTo, List.range_succ]
theorem ladTo_succ (r : Row) (i : Nat) : ladTo r (i + 1) = ladTo r i ++ [spell (r.take (r.length - (i + 1)))] := by
  unfold ladTo
  rw [List.range_succ (n := i + 1)]
  simp
theorem ladTo_end (r : Row) : ladTo r r.length = lad r := by simp [ladTo, lad, prefs, Function.comp_def]
theorem ladTo_len (r : Row) (i : Nat) : (ladTo r i).length = i + 1 := by simp [ladTo]
theorem take_dropLast (r : Row) (i : Nat) (h : i < r.length) : (r.take (r.length - i)).dropLast = r.take (r.length - (i + 1)) := by
  rw [List.dropLast_eq_take, List.length_take, List.take_take]
  congr 1
  omega
section
variable {prog : Program} {w : World} {hb : Heap} {n : Nat} {P : Params}
theorem fn_ladder (B : Bs (hd.heap_39 P) hb) {r : Row} (hr : r ∈ all15) : Fn prog w hb 3 (.ref 139) [.str (spell r)] (ladD r) := by
  refine fn_def B (ps := [Str.ofString "host"]) ⟨⟨_, _, _, _, _, _, rfl, rfl, rfl, rfl, rfl, rfl, rfl, rfl, rfl, rfl, rfl, bind1 fun _ => rfl⟩, rfl, rfl, rfl, by decide, by decide⟩ rfl ?_
  have hl := all_len r hr
  refine Ex.new_list (Evs.cons (Ev.name rfl) Evs.nil) (line100 (by simp)) (.inl rfl) ?_
  refine Ex.loop_ret r.length (fun i => st [(Str.ofString "host", .str (spell r))]) (fun i => st [(Str.ofString "ladder", .list ((ladTo r i).map .str))])
    (Ev.call (Cal.boot B rfl rfl (by decide +kernel) (by decide)) (.type _) (Evs.cons Ev.int Evs.nil) fn_range1) (itr_range (m := 5) (by decide) (by decide)) (.inl rfl) (le_cons rfl le_nil) (le_cons (by simp [upd, ladTo]) le_nil) (fun i => dom_one rfl) (fun i => rfl) (dj := .int (0 + r.length * 1)) (by rw [List.getElem?_map, List.getElem?_range (by omega)]; rfl) ?_ ?_
  · intro i di hi _
    have hq := all_take r hr (r.length - i)
    have hne : r.take (r.length - i) ≠ [] := by
      intro e
      have := congrArg List.length e
      rw [List.length_take] at this
      simp at this
      omega
    have hzl : ((ladTo r i).map D.str).length ≤ sizeLine := line100 (by rw [List.length_map, ladTo_len]; omega)
    have hre := fn_reach (prog := prog) (w := w) B hq
    rw [if_neg hne, take_dropLast r i hi] at hre
    obtain ⟨c0, c1, c2⟩ := all_cut _ (all_take r hr (r.length - (i + 1)))
    refine Ex.set_o (Ev.call (Cal.glob B rfl rfl) (.fn (B.inK _ _ rfl) rfl) (Evs.cons (Ev.sub (Ev.name rfl) (Ev.un Ev.int op_neg_int) (sub_list_last (ladTo_last r i) hzl)) Evs.nil) hre) rfl (.inl rfl) rfl ?_
    refine Ex.ff (Tr.to (Tr.cmp (Ev.name rfl) (Ev.sub (Ev.name rfl) (Ev.un Ev.int op_neg_int) (sub_list_last (ladTo_last r i) hzl)) op_eq_str) ?_) ?_
    · have := all_ne _ hq hne
      rw [take_dropLast r i hi] at this
      exact decide_eq_false (Ne.symm this)
    refine Ex.app (ds := (ladTo r i).map D.str) rfl (ev_tail (Ev.name rfl) Ev.int c0 c1) hzl ?_
    refine Ex.nil_weak (le_cons rfl le_nil) (le_cons ?_ le_nil)
    rw [ladTo_succ, List.map_append]
    rfl
  · have hzl : ((ladTo r r.length).map D.str).length ≤ sizeLine := line100 (by rw [List.length_map, ladTo_len]; omega)
    have hlast := ladTo_last r r.length
    rw [Nat.sub_self, List.take_zero] at hlast
    have hre := fn_reach (prog := prog) (w := w) (r := []) B (by decide)
    rw [if_pos rfl] at hre
    refine Ex.set_o (Ev.call (Cal.glob B rfl rfl) (.fn (B.inK _ _ rfl) rfl) (Evs.cons (Ev.sub (Ev.name rfl) (Ev.un Ev.int op_neg_int) (sub_list_last hlast hzl)) Evs.nil) hre) rfl (.inl rfl) rfl ?_
    refine Ex.tt_ret (Tr.to (Tr.cmp (Ev.name rfl) (Ev.sub (Ev.name rfl) (Ev.un Ev.int op_neg_int) (sub_list_last hlast hzl)) op_eq_str) (by simp)) ?_
    have e : ladD r = .list ((ladTo r r.length).map .str) := by rw [ladTo_end]; rfl
    rw [e]
    exact Ex.cons_ret (Ex1.ret_own rfl)
end
theorem free1 {scope sc : Scope} {σ : St} {f : Str} {d : D} (h : ∀ y ∈ scope.names, y.2 = .free → y.1 = f) (hd : σ f = some d) (hk : sc.names.lookup f = some .cell ∨ sc.names.lookup f = some .free) :
    ∀ y ∈ scope.names, y.2 = .free → (∃ d, σ y.1 = some d) ∧ (sc.names.lookup y.1 = some .cell ∨ sc.names.lookup y.1 = some .free) := fun y hy hf => by
  rw [h y hy hf]; exact ⟨⟨d, hd⟩, hk⟩
theorem free2 {scope sc : Scope} {σ : St} {f f' : Str} {d d' : D} (h : ∀ y ∈ scope.names, y.2 = .free → y.1 = f ∨ y.1 = f') (hd : σ f = some d) (hk : sc.names.lookup f = some .cell ∨ sc.names.lookup f = some .free) (hd' : σ f' = some d') (hk' : sc.names.lookup f' = some .cell ∨ sc.names.lookup f' = some .free) :
    ∀ y ∈ scope.names, y.2 = .free → (∃ d, σ y.1 = some d) ∧ (sc.names.lookup y.1 = some .cell ∨ sc.names.lookup y.1 = some .free) := fun y hy hf => by
  rcases h y hy hf with e | e
  · rw [e]; exact ⟨⟨d, hd⟩, hk⟩
  · rw [e]; exact ⟨⟨d', hd'⟩, hk'⟩
theorem free0 {scope sc : Scope} {σ : St} (h : ∀ y ∈ scope.names, y.2 ≠ .free) :
    ∀ y ∈ scope.names, y.2 = .free → (∃ d, σ y.1 = some d) ∧ (sc.names.lookup y.1 = some .cell ∨ sc.names.lookup y.1 = some .free) := fun y hy hf => absurd hf (h y hy)
/-! ### the rows that a script stands for -/
def xs4 (ns : List Int) : List Int := ns.take 4 ++ ([11, 2, 6, 1] : List Int).drop ns.length
def bitI (m : Int) (k : Int) : Int := ((m.fdiv 4).fdiv (2 ^ k.toNat)).fmod 2
def rowI (m : Int) : Row := (List.range (m.fmod 4).toNat).map fun (k : Nat) => decide (bitI m (0 + k * 1) = 1)
def rowOf (x : Int) : Row := rowI (x.fmod 32)
theorem m32 (x : Int) : ∃ m : Nat, m < 32 ∧ x.fmod 32 = (m : Int) := by
  have h1 := Int.fmod_nonneg_of_pos x (b := 32) (by decide)
  have h2 := Int.fmod_lt_of_pos x (b := 32) (by decide)
  exact ⟨(x.fmod 32).toNat, by omega, by omega⟩
theorem row_facts : ∀ m : Nat, m < 32 → rowI m ∈ all15 ∧ Builtin.divisionGoesByPylong (m : Int) 4 = false ∧ Builtin.Range.small 0 ((m : Int).fmod 4) 1 = true ∧ Builtin.Range.rangeSize 0 ((m : Int).fmod 4) 1 = (((m : Int).fmod 4).toNat : Int) ∧ ((m : Int).fmod 4).toNat ≤ 3 := by decide +kernel
theorem bit_facts : ∀ m : Nat, m < 32 → ∀ k : Nat, k < 3 → Builtin.divisionGoesByPylong ((m : Int).fdiv 4) (2 ^ (0 + (k : Int) * 1).toNat) = false ∧ (2 : Int) ^ (0 + (k : Int) * 1).toNat ≠ 0 ∧ 0 ≤ 0 + (k : Int) * 1 ∧ (Builtin.Int.intBits 2 : Int) * (0 + (k : Int) * 1) ≤ 2 ^ 27 ∧ 0 ≤ bitI m (0 + (k : Int) * 1) ∧ bitI m (0 + (k : Int) * 1) < 2 ^ 63 ∧
    (bitI m (0 + (k : Int) * 1)).toNat = (if bitI m (0 + (k : Int) * 1) = 1 then 1 else 0) := by decide +kernel
theorem rowOf_mem (x : Int) : rowOf x ∈ all15 := by
  obtain ⟨m, hm, e⟩ := m32 x
  unfold rowOf
  rw [e]
  exact (row_facts m hm).1
theorem filt_all (l : List D) : l.filter (fun _ => true) = l := List.filter_eq_self.mpr (by simp)
def outBit (m : Int) : D → D
  | .int k => .str (lab (decide (bitI m k = 1)))
  | _ => .none
theorem xs4_len (ns : List Int) : (xs4 ns).length = 4 := by
  unfold xs4
  rw [List.length_append, List.length_take, List.length_drop]
  simp
  omega
section
variable {prog : Program} {w : World} {hb : Heap} {n : Nat} {P : Params}
theorem fn_rows (B : Bs (hd.heap_39 P) hb) {ns : List Int} (hns : ns.length ≤ 63) : Fn prog w hb 1 (.ref 125) [.wlist (ns.map .int)] (.list ((xs4 ns).map fun x => rowD (rowOf x))) := by
  refine fn_def B (ps := [Str.ofString "script"]) ⟨⟨_, _, _, _, _, _, rfl, rfl, rfl, rfl, rfl, rfl, rfl, rfl, rfl, rfl, rfl, bind1 fun _ => rfl⟩, rfl, rfl, rfl, by decide, by decide⟩ rfl ?_
  refine Ex.new_list Evs.nil (by decide) (.inl rfl) ?_
  have hx4 : (xs4 ns).map D.int = (ns.map D.int).take 4 ++ ([.int 11, .int 2, .int 6, .int 1] : List D).drop ns.length := by
    unfold xs4
    rw [List.map_append, List.map_take, List.map_drop]
    rfl
  refine Ex.loop (d := .list ((xs4 ns).map D.int)) (ds := (xs4 ns).map D.int) (fun i => st []) (fun i => st [(Str.ofString "rows", .list (((xs4 ns).take i).map fun x => rowD (rowOf x)))])
    ?_ itr_list (.inl rfl) le_nil (le_cons rfl le_nil) (fun i => dom_one rfl) (fun i => rfl) ?_ ?_
  · rw [hx4]
    exact Ev.bin (ev_wupto (a := 4) (Ev.name rfl) Ev.int (line100 (by simp; omega))) (ev_from (a := ns.length) (Ev.list (Evs.cons Ev.int (Evs.cons Ev.int (Evs.cons Ev.int (Evs.cons Ev.int Evs.nil)))) (by decide)) ((List.length_map (as := ns) D.int) ▸ Ev.call (Cal.boot B rfl rfl (by decide +kernel) (by decide)) (.builtin _) (Evs.cons (Ev.name rfl) Evs.nil) (fn_len_wlist (line100 (by simp; omega)))) (by decide)) (op_add_list (line100 (by simp; omega)))
  · intro i di hi hdi
    rw [List.getElem?_map] at hdi
    cases hx : (xs4 ns)[i]? with
    | none => rw [hx] at hdi; cases hdi
    | some x =>
      rw [hx] at hdi
      cases hdi
      obtain ⟨m, hm, em⟩ := m32 x
      obtain ⟨f1, f2, f3, f4, f5⟩ := row_facts m hm
      refine Ex.set (d := .int m) (em ▸ Ev.bin (Ev.name rfl) Ev.int (op_mod_int (by decide))) (.inr rfl) rfl ?_
      have hi4 : i < 4 := by rw [List.length_map, xs4_len] at hi; exact hi
      refine Ex.app (d := rowD (rowOf x)) rfl ?_ (line100 (by simp; omega)) (Ex.nil_weak le_nil (le_cons ?_ le_nil))
      · have e : rowD (rowOf x) = .list (((((List.range ((m : Int).fmod 4).toNat).map fun (i : Nat) => D.int (0 + i * 1))).filter (fun _ => true)).map (outBit m)) := by
          unfold rowD rowOf rowI
          rw [em]
          rw [filt_all, List.map_map, List.map_map]
          rfl
        rw [e]
        refine Ev.comp (fun _ => true) (outBit m) (Ev.call (Cal.boot B rfl rfl (by decide +kernel) (by decide)) (.type _) (Evs.cons (Ev.bin (Ev.name rfl) Ev.int (op_mod_int (by decide))) Evs.nil) fn_range1) (itr_range f3 f4) (line100 (by simp; omega)) (by decide) rfl (by decide) rfl (free1 (f := Str.ofString "n") (by decide) rfl (.inl rfl)) (fun d hd => Tst.nil) ?_
        intro d hd _
        rw [List.mem_map] at hd
        obtain ⟨k, hk, rfl⟩ := hd
        have hk3 : k < 3 := by have := List.mem_range.mp hk; omega
        obtain ⟨g1, g2, g3, g4, g5, g6, g7⟩ := bit_facts m hm k hk3
        refine Ev.sub (Ev.tup (Evs.cons Ev.str (Evs.cons Ev.str Evs.nil)) (by decide)) (Ev.bin (Ev.bin (Ev.bin (Ev.name rfl) Ev.int (op_floordiv_int (by decide) f2)) (Ev.bin Ev.int (Ev.name rfl) (op_pow_int g3 g4)) (op_floordiv_int g2 g1)) Ev.int (op_mod_int (by decide))) (sub_tup g5 g6 ?_)
        rw [show (((m : Int).fdiv 4).fdiv (2 ^ (0 + (k : Int) * 1).toNat)).fmod 2 = bitI m (0 + (k : Int) * 1) from rfl, g7]
        unfold outBit lab
        split <;> simp_all
      · have e : (xs4 ns).take (i + 1) = (xs4 ns).take i ++ [x] := by rw [List.take_add_one, hx]; rfl
        rw [e, List.map_append]
        rfl
  · rw [List.length_map, List.take_length]
    exact Ex.cons_ret (Ex1.ret_own rfl)
end
def In15 (l : List Row) : Prop := ∀ r ∈ l, r ∈ all15
def dictL (l : List Row) (f : Row → D) : List (Str × D) := l.map fun p => (spell p, f p)
theorem dictL_keys (l : List Row) (f : Row → D) : (dictL l f).map (·.1) = l.map spell := by simp [dictL, Function.comp_def]
theorem dictL_len (l : List Row) (f : Row → D) : (dictL l f).length = l.length := by simp [dictL]
theorem spell_mem {l : List Row} (hl : In15 l) {p : Row} (hp : p ∈ all15) (h : spell p ∈ l.map spell) : p ∈ l := by
  obtain ⟨q, hq, e⟩ := List.mem_map.mp h
  exact all_inj q (hl q hq) p hp e ▸ hq
theorem atKey_in {l : List Row} (hl : In15 l) {p : Row} (hp : p ∈ l) (f : Row → D) : atKey (dictL l f) (spell p) = some (f p) := by
  induction l with
  | nil => cases hp
  | cons q l ih =>
    unfold atKey dictL
    rw [List.map_cons, List.find?_cons]
    by_cases e : q = p
    · subst e; simp
    · have hne : spell q ≠ spell p := fun h => e (all_inj q (hl q (by simp)) p (hl p hp) h)
      rw [decide_eq_false hne]
      have hp' : p ∈ l := by
        rcases List.mem_cons.mp hp with h | h
        · exact absurd h.symm e
        · exact h
      exact ih (fun r hr => hl r (by simp [hr])) hp'
theorem atKey_some {l : List Row} (hl : In15 l) {p : Row} (hp : p ∈ all15) (f : Row → D) : (atKey (dictL l f) (spell p)).isSome = decide (p ∈ l) := by
  by_cases h : p ∈ l
  · rw [atKey_in hl h]; simp [h]
  · rw [decide_eq_false h]
    cases q : atKey (dictL l f) (spell p) with
    | none => rfl
    | some d =>
      unfold atKey at q
      cases q' : (dictL l f).find? (fun kv => decide (kv.1 = spell p)) with
      | none => rw [q'] at q; cases q
      | some kv =>
        have h1 := List.mem_of_find?_eq_some q'
        have h2 := List.find?_some q'
        exact absurd (spell_mem hl hp (by rw [← dictL_keys l f]; exact List.mem_map.mpr ⟨kv, h1, by simpa using h2⟩)) h
/-- each once, as they come -/
def add (acc : List Row) (p : Row) : List Row := if p ∈ acc then acc else acc ++ [p]
def nub (l : List Row) : List Row := l.foldl add []
theorem mem_add {acc : List Row} {p q : Row} (h : q ∈ add acc p) : q ∈ acc ∨ q = p := by
  unfold add at h
  split at h
  · exact .inl h
  · simpa using h
theorem mem_foldl_add : ∀ {l acc : List Row} {q : Row}, q ∈ l.foldl add acc → q ∈ acc ∨ q ∈ l
  | [], acc, q, h => .inl h
  | p :: l, acc, q, h => by
    rcases mem_foldl_add (l := l) (acc := add acc p) h with h | h
    · rcases mem_add h with h | h
      · exact .inl h
      · exact .inr (by simp [h])
    · exact .inr (by simp [h])
theorem add_len (acc : List Row) (p : Row) : (add acc p).length ≤ acc.length + 1 := by unfold add; split <;> simp
theorem foldl_add_len : ∀ (l acc : List Row), (l.foldl add acc).length ≤ acc.length + l.length
  | [], acc => by simp
  | p :: l, acc => by
    have h1 := foldl_add_len l (add acc p)
    have h2 := add_len acc p
    simp only [List.foldl_cons, List.length_cons]
    omega
theorem add_nodup {acc : List Row} {p : Row} (h : acc.Nodup) : (add acc p).Nodup := by
  unfold add
  split
  · exact h
  · rename_i hp
    rw [List.nodup_append]
    exact ⟨h, by simp, fun a ha b hb => by simp at hb; subst hb; exact fun e => hp (e ▸ ha)⟩
theorem foldl_add_nodup : ∀ {l acc : List Row}, acc.Nodup → (l.foldl add acc).Nodup
  | [], _, h => h
  | p :: l, acc, h => foldl_add_nodup (l := l) (add_nodup h)
theorem prefs_len (r : Row) : (prefs r).length = r.length + 1 := by simp [prefs]
theorem prefs_at (r : Row) (k : Nat) (h : k ≤ r.length) : (prefs r)[k]? = some (r.take (r.length - k)) := by
  unfold prefs
  rw [List.getElem?_map, List.getElem?_range (by omega)]; rfl
theorem prefs_15 {r : Row} (h : r ∈ all15) : In15 (prefs r) := fun q hq => by
  obtain ⟨k, _, rfl⟩ := List.mem_map.mp hq
  exact all_take r h _
theorem lad_at (r : Row) (k : Nat) (h : k ≤ r.length) : (lad r)[k]? = some (spell (r.take (r.length - k))) := by
  unfold lad
  rw [List.getElem?_map, prefs_at r k h]; rfl
theorem lad_first {r : Row} (hr : r ∈ all15) (k : Nat) (h : k ≤ r.length) : ∀ i, i < k → (lad r)[i]? ≠ some (spell (r.take (r.length - k))) := fun i hi e => by
  rw [lad_at r i (by omega)] at e
  have e' := all_inj _ (all_take r hr _) _ (all_take r hr _) (Option.some.inj e)
  have := congrArg List.length e'
  rw [List.length_take, List.length_take] at this
  omega
theorem lad_drop (r : Row) (k : Nat) (h : k ≤ r.length) : (lad r).drop k = lad (r.take (r.length - k)) := by
  unfold lad prefs
  rw [List.map_map, List.map_map]
  apply List.ext_getElem?
  intro i
  rw [List.getElem?_drop, List.getElem?_map, List.getElem?_map]
  have hl : (r.take (r.length - k)).length = r.length - k := by rw [List.length_take]; omega
  rw [hl]
  by_cases hi : i < r.length - k + 1
  · rw [List.getElem?_range (by omega), List.getElem?_range (by omega)]
    simp only [Option.map_some, Function.comp_apply, List.take_take]
    congr 3
    omega
  · rw [List.getElem?_eq_none (by simp; omega), List.getElem?_eq_none (by simp; omega)]
    rfl
theorem lad_len (r : Row) : (lad r).length = r.length + 1 := by simp [lad, prefs]
theorem take_succ' {α : Type} {l : List α} {i : Nat} {x : α} (h : l[i]? = some x) : l.take (i + 1) = l.take i ++ [x] := by rw [List.take_add_one, h]; rfl
theorem ladD_map (r : Row) : ladD r = .list ((lad r).map .str) := rfl

section
variable {prog : Program} {w : World} {hb : Heap} {n : Nat} {P : Params}
theorem fn_ways (B : Bs (hd.heap_39 P) hb) {rs : List Row} (hrs : In15 rs) (h4 : rs.length ≤ 4) : Fn prog w hb 2 (.ref 146) [.list (rs.map ladD)] (.dict (dictL (nub (rs.flatMap prefs)) ladD)) := by
  refine fn_def B (ps := [Str.ofString "ladders"]) ⟨⟨_, _, _, _, _, _, rfl, rfl, rfl, rfl, rfl, rfl, rfl, rfl, rfl, rfl, rfl, bind1 fun _ => rfl⟩, rfl, rfl, rfl, by decide, by decide⟩ rfl ?_
  refine Ex.new_dict B (.inl rfl) ?_
  have hacc : ∀ i, In15 (nub ((rs.take i).flatMap prefs)) := fun i q hq => by
    rcases mem_foldl_add hq with h | h
    · cases h
    · obtain ⟨r, hr, hq⟩ := List.mem_flatMap.mp h
      exact prefs_15 (hrs r (List.mem_of_mem_take hr)) q hq
  have hlen : ∀ i, i ≤ 4 → (nub ((rs.take i).flatMap prefs)).length ≤ 16 := fun i hi => by
    have h1 := foldl_add_len ((rs.take i).flatMap prefs) []
    have h2 : ∀ l : List Row, In15 l → (l.flatMap prefs).length ≤ 4 * l.length := by
      intro l hl
      induction l with
      | nil => simp
      | cons a l ih =>
        have := ih fun q hq => hl q (by simp [hq])
        have ha := all_len a (hl a (by simp))
        rw [List.flatMap_cons, List.length_append, prefs_len, List.length_cons]
        omega
    have h3 := h2 (rs.take i) fun q hq => hrs q (List.mem_of_mem_take hq)
    have h5 : (rs.take i).length ≤ 4 := by rw [List.length_take]; omega
    simp only [List.length_nil] at h1
    unfold nub
    omega
  refine Ex.loop (fun i => st [(Str.ofString "ladders", .list (rs.map ladD))]) (fun i => st [(Str.ofString "ways", .dict (dictL (nub ((rs.take i).flatMap prefs)) ladD))]) (Ev.name rfl) itr_list (.inl rfl) (le_cons rfl le_nil) (le_cons rfl le_nil) (fun i => dom_one rfl) (fun i => rfl) ?_ ?_
  · intro i di hi hdi
    rw [List.getElem?_map] at hdi
    cases hx : rs[i]? with
    | none => rw [hx] at hdi; cases hdi
    | some r =>
      rw [hx] at hdi
      cases hdi
      have hr : r ∈ all15 := hrs r (List.mem_of_getElem? hx)
      have hi4 : i < 4 := by rw [List.length_map] at hi; omega
      have hrl := all_len r hr
      have hA := hacc i
      have hAl := hlen i (by omega)
      have hnext : nub ((rs.take (i + 1)).flatMap prefs) = (prefs r).foldl add (nub ((rs.take i).flatMap prefs)) := by
        rw [take_succ' hx, List.flatMap_append]
        unfold nub
        rw [List.foldl_append]
        simp
      generalize nub ((rs.take i).flatMap prefs) = acc at hA hAl hnext ⊢
      have hA' : ∀ k, In15 (((prefs r).take k).foldl add acc) := fun k q hq => by
        rcases mem_foldl_add hq with h | h
        · exact hA q h
        · exact prefs_15 hr q (List.mem_of_mem_take h)
      refine Ex.loop (fun k => st [(Str.ofString "ladders", .list (rs.map ladD)), (Str.ofString "ladder", ladD r)]) (fun k => st [(Str.ofString "ways", .dict (dictL (((prefs r).take k).foldl add acc) ladD))]) (Ev.name rfl) itr_list (.inl rfl) (le_cons rfl (le_cons rfl le_nil)) (le_cons rfl le_nil) (fun i => dom_one rfl) (fun i => rfl) ?_ ?_
      · intro k dk hk hdk
        have hkl : k ≤ r.length := by rw [List.length_map, lad_len] at hk; omega
        rw [List.getElem?_map, lad_at r k hkl] at hdk
        cases hdk
        have hq := all_take r hr (r.length - k)
        have hsucc : ((prefs r).take (k + 1)).foldl add acc = add (((prefs r).take k).foldl add acc) (r.take (r.length - k)) := by
          rw [take_succ' (prefs_at r k hkl), List.foldl_append]; rfl
        have hAk := hA' k
        have hAkl : (((prefs r).take k).foldl add acc).length ≤ 20 := by
          have := foldl_add_len ((prefs r).take k) acc
          have h2 : ((prefs r).take k).length ≤ 4 := by rw [List.length_take, prefs_len]; omega
          omega
        generalize ((prefs r).take k).foldl add acc = ac at hsucc hAk hAkl ⊢
        have hat := atKey_some hAk hq ladD
        by_cases hm : r.take (r.length - k) ∈ ac
        · refine Ex.ff (Tr.to (Tr.cmp (Ev.name rfl) (Ev.name rfl) op_notin_dict) (by rw [hat]; simp [hm])) (Ex.nil_weak (le_cons rfl (le_cons rfl le_nil)) (le_cons ?_ le_nil))
          rw [hsucc, add, if_pos hm]; rfl
        · have hv : ladD (r.take (r.length - k)) = .list (((lad r).map D.str).drop k) := by rw [← List.map_drop, lad_drop r k hkl]; rfl
          refine Ex.tt (Tr.to (Tr.cmp (Ev.name rfl) (Ev.name rfl) op_notin_dict) (by rw [hat]; simp [hm])) (Ex.key (d := ladD (r.take (r.length - k))) rfl ?_ rfl ?_ (line100 (by rw [dictL_len]; omega)) Ex.nil) ?_ (Ex.nil_weak (le_cons rfl (le_cons rfl le_nil)) (le_cons ?_ le_nil))
          · rw [hv]
            exact ev_from (Ev.name rfl) (Ev.call (Cal.glob B rfl rfl) (.fn (B.inK _ _ rfl) rfl) (Evs.cons (Ev.name rfl) (Evs.cons (Ev.name rfl) Evs.nil)) (fn_indexOf B (lad_at r k hkl) (lad_first hr k hkl))) (line100 (by rw [List.length_map, lad_len]; omega))
          · rw [dictL_keys]
            exact fun h => hm (spell_mem hAk hq h)
          · exact fun y d hy => by
              unfold upd at hy
              by_cases h : y = Str.ofString "ways"
              · exact ⟨_, by rw [h]; rfl⟩
              · rw [if_neg h] at hy; exact ⟨_, hy⟩
          · rw [hsucc, add, if_neg hm]
            show some (D.dict (dictL ac ladD ++ [(spell (r.take (r.length - k)), ladD (r.take (r.length - k)))])) = some (D.dict (dictL (ac ++ [r.take (r.length - k)]) ladD))
            rw [dictL, dictL, List.map_append]
            rfl
      · refine Ex.nil_weak (le_cons rfl le_nil) (le_cons ?_ le_nil)
        rw [hnext, List.length_map, lad_len, ← prefs_len, List.take_length]
        rfl
  · rw [List.length_map, List.take_length]
    exact Ex.cons_ret (Ex1.ret_own rfl)
theorem fn_strung (B : Bs (hd.heap_39 P) hb) {rs : List Row} (hrs : In15 rs) (h4 : rs.length ≤ 4) : Fn prog w hb 2 (.ref 153) [.list (rs.map ladD)] (.list ((rs.flatMap lad).map .str)) := by
  refine fn_def B (ps := [Str.ofString "ladders"]) ⟨⟨_, _, _, _, _, _, rfl, rfl, rfl, rfl, rfl, rfl, rfl, rfl, rfl, rfl, rfl, bind1 fun _ => rfl⟩, rfl, rfl, rfl, by decide, by decide⟩ rfl ?_
  refine Ex.set (Ev.list Evs.nil (by decide)) (.inl rfl) rfl ?_
  have h2 : ∀ l : List Row, In15 l → (l.flatMap lad).length ≤ 4 * l.length := by
    intro l hl
    induction l with
    | nil => simp
    | cons a l ih =>
      have := ih fun q hq => hl q (by simp [hq])
      have ha := all_len a (hl a (by simp))
      rw [List.flatMap_cons, List.length_append, lad_len, List.length_cons]
      omega
  refine Ex.loop (fun i => st [(Str.ofString "ladders", .list (rs.map ladD)), (Str.ofString "strung", .list (((rs.take i).flatMap lad).map .str))]) (fun i => E0) (Ev.name rfl) itr_list (.inl rfl) (le_cons rfl (le_cons rfl le_nil)) (Le.refl _) (fun i => Dom.refl _) (fun i => rfl) ?_ ?_
  · intro i di hi hdi
    rw [List.getElem?_map] at hdi
    cases hx : rs[i]? with
    | none => rw [hx] at hdi; cases hdi
    | some r =>
      rw [hx] at hdi
      cases hdi
      have hr : r ∈ all15 := hrs r (List.mem_of_getElem? hx)
      have hrl := all_len r hr
      have h3 := h2 (rs.take i) fun q hq => hrs q (List.mem_of_mem_take hq)
      have h5 : (rs.take i).length ≤ 4 := by rw [List.length_take]; omega
      have e : ((rs.take (i + 1)).flatMap lad).map D.str = ((rs.take i).flatMap lad).map D.str ++ (lad r).map D.str := by
        rw [take_succ' hx, List.flatMap_append, List.map_append]; simp
      refine Ex.set (Ev.call (Cal.glob B rfl rfl) (.fn (B.inK _ _ rfl) rfl) (Evs.cons (Ev.name rfl) (Evs.cons (Ev.name rfl) Evs.nil)) (fn_concat B (line100 (by rw [List.length_map, List.length_map, lad_len]; omega)))) (.inl rfl) rfl (Ex.nil_weak (le_cons rfl (le_cons ?_ le_nil)) (Le.refl _))
      rw [e]; rfl
  · rw [List.length_map, List.take_length]
    exact Ex.ret (Ev.name rfl)
end
abbrev headX : Str := Str.ofString "X.A.LOCAL."
abbrev headx : Str := Str.ofString "x.a.local."
theorem up_facts : ∀ r ∈ all15, (Txt.upper (spell r)).length ≤ 100 ∧ (headX ++ Txt.upper (spell r)).length ≤ 100 ∧ (dot ++ Txt.upper (spell r)).length ≤ 100 ∧ Txt.lower (headX ++ Txt.upper (spell r)) = headx ++ spell r ∧ Txt.lower (dot ++ Txt.upper (spell r)) = dot ++ spell r := by
  unfold all15
  repeat refine List.forall_mem_cons.mpr ⟨by decide +kernel, ?_⟩
  exact fun _ h => nomatch h
theorem ip_facts : ∀ r ∈ all15, noIp (headx ++ spell r) = true ∧ noIp (dot ++ spell r) = true ∧ Txt.startswith (dot ++ spell r) dot = true ∧ (headx ++ spell r).length ≤ 100 ∧ (dot ++ spell r).length ≤ 100 := by
  unfold all15
  repeat refine List.forall_mem_cons.mpr ⟨by decide +kernel, ?_⟩
  exact fun _ h => nomatch h
theorem ends_facts : ∀ r ∈ all15, ∀ p ∈ all15, Txt.endswith (headx ++ spell r) (dot ++ spell p) = p.isPrefixOf r := by
  unfold all15
  repeat refine List.forall_mem_cons.mpr ⟨by decide +kernel, ?_⟩
  exact fun _ h => nomatch h
theorem long100 {m : Nat} (h : m ≤ 100) : Builtin.Str.tooLong m = false := by
  have h2 : ∀ m : Nat, m < 101 → Builtin.Str.tooLong m = false := by decide +kernel
  exact h2 m (by omega)
/-- the length of what two rows share -/
def lcp : Row → Row → Nat
  | a :: r, b :: p => if a = b then lcp r p + 1 else 0
  | _, _ => 0
def dist (r p : Row) : Nat := (r.length - lcp r p) + (p.length - lcp r p)
theorem lcp_facts : ∀ r ∈ all15, ∀ p ∈ all15, lcp r p ≤ r.length ∧ lcp r p ≤ p.length ∧ r.take (lcp r p) = p.take (lcp r p) ∧ ∀ i < r.length - lcp r p, r.take (r.length - i) ∉ prefs p := by decide +kernel
def saidD (rs : List Row) (p : Row) : D := .list (rs.map fun r => .bool (p.isPrefixOf r))
def cnt (rs : List Row) (a : Bool) (p : Row) : Nat := (rs.map fun r => p.isPrefixOf r == a).count true
def far (rs : List Row) (p : Row) : Int := (rs.map fun r => (dist r p : Int)).sum
def outSaid (p : Row) : D → D
  | .list (.str x :: _) => .bool (Txt.endswith (headx ++ x) (dot ++ spell p))
  | _ => .none
def outIs (a : Bool) : D → D
  | .bool b => .bool (b == a)
  | _ => .none
theorem itr_dictL {prog : Program} {w : World} {hb : Heap} {l : List Row} {f : Row → D} : Itr prog w hb (.dict (dictL l f)) (l.map fun p => .str (spell p)) := by
  have := itr_dict (prog := prog) (w := w) (hb := hb) (ds := dictL l f)
  have e : ((dictL l f).map fun p => D.str p.1) = l.map fun p => D.str (spell p) := by simp [dictL, Function.comp_def]
  rwa [e] at this
theorem take_new {l : List Row} (hl : In15 l) (hn : l.Nodup) {i : Nat} {p : Row} (h : l[i]? = some p) : spell p ∉ (l.take i).map spell := fun hm => by
  have hp : p ∈ all15 := hl p (List.mem_of_getElem? h)
  have := spell_mem (l := l.take i) (fun q hq => hl q (List.mem_of_mem_take hq)) hp hm
  obtain ⟨k, hk, e⟩ := List.mem_iff_getElem.mp this
  rw [List.length_take] at hk
  rw [List.getElem_take] at e
  obtain ⟨hi, e'⟩ := List.getElem?_eq_some_iff.mp h
  have := (List.getElem_inj hn (h₀ := by omega) (h₁ := hi)).mp (e.trans e'.symm)
  omega
theorem dictL_succ {l : List Row} {f : Row → D} {i : Nat} {p : Row} (h : l[i]? = some p) : dictL (l.take (i + 1)) f = dictL (l.take i) f ++ [(spell p, f p)] := by
  rw [take_succ' h, dictL, dictL, List.map_append]; rfl
theorem dom_upd {x : Str} {d d' : D} {ω : St} (h : ω x = some d') : Dom (upd ω x d) ω := fun y e hy => by
  unfold upd at hy
  by_cases h' : y = x
  · exact ⟨_, by rw [h']; exact h⟩
  · rw [if_neg h'] at hy; exact ⟨_, hy⟩

section
variable {prog : Program} {w : World} {hb : Heap} {n : Nat} {P : Params}
theorem fn_said (B : Bs (hd.heap_39 P) hb) {rs ps : List Row} (hrs : In15 rs) (h4 : rs.length ≤ 4) (hps : In15 ps) (hn : ps.Nodup) (h16 : ps.length ≤ 16) : Fn prog w hb 3 (.ref 158) [.dict (dictL ps ladD), .list (rs.map ladD)] (.dict (dictL ps (saidD rs))) := by
  refine fn_def B (ps := [Str.ofString "ways", Str.ofString "ladders"]) ⟨⟨_, _, _, _, _, _, rfl, rfl, rfl, rfl, rfl, rfl, rfl, rfl, rfl, rfl, rfl, bind2 fun _ _ => rfl⟩, rfl, rfl, rfl, by decide, by decide⟩ rfl ?_
  refine Ex.new_dict B (.inl rfl) ?_
  refine Ex.loop (fun i => st [(Str.ofString "ladders", .list (rs.map ladD))]) (fun i => st [(Str.ofString "said", .dict (dictL (ps.take i) (saidD rs)))]) (Ev.name rfl) itr_dictL (.inr rfl) (le_cons rfl le_nil) (le_cons rfl le_nil) (fun i => dom_one rfl) (fun i => rfl) ?_ ?_
  · intro i di hi hdi
    rw [List.getElem?_map] at hdi
    cases hx : ps[i]? with
    | none => rw [hx] at hdi; cases hdi
    | some p =>
      rw [hx] at hdi
      cases hdi
      have hp : p ∈ all15 := hps p (List.mem_of_getElem? hx)
      obtain ⟨u1, u2, u3, u4, u5⟩ := up_facts p hp
      obtain ⟨i1, i2, i3, i4, i5⟩ := ip_facts p hp
      refine Ex.key (d := saidD rs p) rfl ?_ rfl (by rw [dictL_keys]; exact take_new hps hn hx) (line100 (by rw [dictL_len, List.length_take]; omega)) (Ex.nil_weak (le_cons rfl le_nil) (le_cons ?_ le_nil))
      · have e : saidD rs p = .list (((rs.map ladD).filter (fun _ => true)).map (outSaid p)) := by
          rw [filt_all, List.map_map]
          unfold saidD
          congr 1
          apply List.map_congr_left
          intro r hr
          show _ = outSaid p (.list ((lad r).map .str))
          have h0 := lad_at r 0 (Nat.zero_le _)
          rw [Nat.sub_zero, List.take_length] at h0
          cases hl : lad r with
          | nil => rw [hl] at h0; cases h0
          | cons y l =>
            rw [hl] at h0
            cases h0
            show _ = D.bool (Txt.endswith (headx ++ spell r) (dot ++ spell p))
            rw [ends_facts r (hrs r hr) p hp]
        rw [e]
        refine Ev.comp (fun _ => true) (outSaid p) (Ev.name rfl) itr_list (line100 (by rw [List.length_map]; omega)) (by decide) rfl (by decide) rfl (free1 (f := Str.ofString "name") (by decide) rfl (.inl rfl)) (fun d hd => Tst.nil) ?_
        intro d hd _
        obtain ⟨r, hr, rfl⟩ := List.mem_map.mp hd
        have hr15 := hrs r hr
        obtain ⟨v1, v2, v3, v4, v5⟩ := up_facts r hr15
        obtain ⟨j1, j2, j3, j4, j5⟩ := ip_facts r hr15
        have h0 := lad_at r 0 (Nat.zero_le _)
        rw [Nat.sub_zero, List.take_length] at h0
        have ho : outSaid p (ladD r) = .bool (p.isPrefixOf r) := by
          show outSaid p (.list ((lad r).map .str)) = _
          cases hl : lad r with
          | nil => rw [hl] at h0; cases h0
          | cons y l =>
            rw [hl] at h0
            cases h0
            show D.bool (Txt.endswith (headx ++ spell r) (dot ++ spell p)) = _
            rw [ends_facts r hr15 p hp]
        rw [ho]
        exact Ev.call (Cal.glob B rfl rfl) (.fn (B.inK _ _ rfl) rfl)
          (Evs.cons (Ev.bin Ev.str (Ev.meth0 (Ev.sub (Ev.name rfl) Ev.int (sub_list (by decide) (by decide) (show ((lad r).map D.str)[(0 : Int).toNat]? = some (.str (spell r)) by rw [List.getElem?_map]; show ((lad r)[0]?).map D.str = _; rw [h0]; rfl))) F.slot_str_upper F.type_str_upper (fn_upper (long100 v1))) (op_add_str (line100 v2)))
            (Evs.cons (Ev.bin Ev.str (Ev.meth0 (Ev.name rfl) F.slot_str_upper F.type_str_upper (fn_upper (long100 u1))) (op_add_str (line100 u3))) Evs.nil))
          (fn_udm B v4 u5 (long100 j4) (long100 i5) j1 i2 i3 (ends_facts r hr15 p hp))
      · rw [dictL_succ hx]; rfl
  · rw [List.length_map, List.take_length]
    exact Ex.cons_ret (Ex1.ret_own rfl)
theorem fn_counted (B : Bs (hd.heap_39 P) hb) {rs ps : List Row} {a : Bool} (h4 : rs.length ≤ 4) (hps : In15 ps) (hn : ps.Nodup) (h16 : ps.length ≤ 16) : Fn prog w hb 2 (.ref 163) [.dict (dictL ps (saidD rs)), .bool a] (.dict (dictL ps fun p => .int (cnt rs a p))) := by
  refine fn_def B (ps := [Str.ofString "said", Str.ofString "answer"]) ⟨⟨_, _, _, _, _, _, rfl, rfl, rfl, rfl, rfl, rfl, rfl, rfl, rfl, rfl, rfl, bind2 fun _ _ => rfl⟩, rfl, rfl, rfl, by decide, by decide⟩ rfl ?_
  refine Ex.new_dict B (.inl rfl) ?_
  refine Ex.loop (fun i => st [(Str.ofString "said", .dict (dictL ps (saidD rs))), (Str.ofString "answer", .bool a)]) (fun i => st [(Str.ofString "counted", .dict (dictL (ps.take i) fun p => .int (cnt rs a p)))]) (Ev.name rfl) itr_dictL (.inl rfl) (le_cons rfl (le_cons rfl le_nil)) (le_cons rfl le_nil) (fun i => dom_one rfl) (fun i => rfl) ?_ ?_
  · intro i di hi hdi
    rw [List.getElem?_map] at hdi
    cases hx : ps[i]? with
    | none => rw [hx] at hdi; cases hdi
    | some p =>
      rw [hx] at hdi
      cases hdi
      have hp : p ∈ ps := List.mem_of_getElem? hx
      refine Ex.key (d := .int (cnt rs a p)) rfl ?_ rfl (by rw [dictL_keys]; exact take_new hps hn hx) (line100 (by rw [dictL_len, List.length_take]; omega)) (Ex.nil_weak (le_cons rfl (le_cons rfl le_nil)) (le_cons ?_ le_nil))
      · have e : ((rs.map fun r => p.isPrefixOf r == a).map D.bool) = ((((rs.map fun r => D.bool (p.isPrefixOf r)).filter (fun _ => true)).map (outIs a))) := by
          rw [filt_all, List.map_map, List.map_map]; rfl
        refine Ev.call (Cal.glob B rfl rfl) (.fn (B.inK _ _ rfl) rfl) (Evs.cons (d := .list ((rs.map fun r => p.isPrefixOf r == a).map D.bool)) ?_ (Evs.cons Ev.bool Evs.nil)) (fn_countOf_bool B)
        rw [e]
        refine Ev.comp (fun _ => true) (outIs a) (d := saidD rs p) (Ev.sub (Ev.name rfl) (Ev.name rfl) (sub_dict (atKey_in hps hp _))) itr_list (line100 (by rw [List.length_map]; omega)) (by decide) rfl (by decide) rfl (free1 (f := Str.ofString "answer") (by decide) rfl (.inl rfl)) (fun d hd => Tst.nil) ?_
        intro d hd _
        obtain ⟨r, hr, rfl⟩ := List.mem_map.mp hd
        exact Ev.cmp (Ev.name rfl) (Ev.name rfl) op_is_bool
      · rw [dictL_succ hx]; rfl
  · rw [List.length_map, List.take_length]
    exact Ex.cons_ret (Ex1.ret_own rfl)
theorem fine_lad {r : Row} (hr : r ∈ all15) : Fine (lad r) := fun y hy => by
  obtain ⟨q, hq, rfl⟩ := List.mem_map.mp hy
  exact all_ok q (prefs_15 hr q hq)
theorem mem_lad {p q : Row} (hp : p ∈ all15) (hq : q ∈ all15) (h : spell q ∈ lad p) : q ∈ prefs p := spell_mem (prefs_15 hp) hq h
theorem fn_steps (B : Bs (hd.heap_39 P) hb) {r p : Row} (hr : r ∈ all15) (hp : p ∈ all15) : Fn prog w hb 2 (.ref 170) [ladD r, ladD p] (.int (dist r p)) := by
  refine fn_def B (ps := [Str.ofString "ladder", Str.ofString "other"]) ⟨⟨_, _, _, _, _, _, rfl, rfl, rfl, rfl, rfl, rfl, rfl, rfl, rfl, rfl, rfl, bind2 fun _ _ => rfl⟩, rfl, rfl, rfl, by decide, by decide⟩ rfl ?_
  obtain ⟨c1, c2, c3, c4⟩ := lcp_facts r hr p hp
  have e1 : r.length - (r.length - lcp r p) = lcp r p := by omega
  have e2 : p.length - (p.length - lcp r p) = lcp r p := by omega
  have a1 := lad_at r (r.length - lcp r p) (by omega)
  have a2 := lad_at p (p.length - lcp r p) (by omega)
  have f1 := lad_first hr (r.length - lcp r p) (by omega)
  have f2 := lad_first hp (p.length - lcp r p) (by omega)
  rw [e1] at a1 f1
  rw [e2, ← c3] at a2 f2
  have hq := all_take r hr (lcp r p)
  refine Ex.loop_ret (r.length - lcp r p) (fun i => st [(Str.ofString "ladder", ladD r), (Str.ofString "other", ladD p)]) (fun i => E0) (Ev.name rfl) itr_list (.inl rfl) (le_cons rfl (le_cons rfl le_nil)) (Le.refl _) (fun i => Dom.refl _) (fun i => rfl) (dj := .str (spell (r.take (lcp r p)))) (by rw [List.getElem?_map, a1]; rfl) ?_ ?_
  · intro i di hi hdi
    rw [List.getElem?_map, lad_at r i (by omega)] at hdi
    cases hdi
    have hqi := all_take r hr (r.length - i)
    have hnot : spell (r.take (r.length - i)) ∉ lad p := fun h => c4 i hi (mem_lad hp hqi h)
    exact Ex.ff (Tr.to (Tr.val (Ev.call (Cal.glob B rfl rfl) (.fn (B.inK _ _ rfl) rfl) (Evs.cons (Ev.name rfl) (Evs.cons (Ev.name rfl) Evs.nil)) (fn_contains B (all_ok _ hqi) (fine_lad hp))) tru_bool) (by simp [hnot])) (Ex.nil_weak (le_cons rfl (le_cons rfl le_nil)) (Le.refl _))
  · have hin : spell (r.take (lcp r p)) ∈ lad p := List.mem_of_getElem? a2
    refine Ex.tt_ret (Tr.to (Tr.val (Ev.call (Cal.glob B rfl rfl) (.fn (B.inK _ _ rfl) rfl) (Evs.cons (Ev.name rfl) (Evs.cons (Ev.name rfl) Evs.nil)) (fn_contains B (all_ok _ hq) (fine_lad hp))) tru_bool) (by simp [hin])) ?_
    have e : (dist r p : Int) = ((r.length - lcp r p : Nat) : Int) + ((p.length - lcp r p : Nat) : Int) := by unfold dist; omega
    rw [e]
    exact Ex.ret (Ev.bin (Ev.call (Cal.glob B rfl rfl) (.fn (B.inK _ _ rfl) rfl) (Evs.cons (Ev.name rfl) (Evs.cons (Ev.name rfl) Evs.nil)) (fn_indexOf B a1 f1)) (Ev.call (Cal.glob B rfl rfl) (.fn (B.inK _ _ rfl) rfl) (Evs.cons (Ev.name rfl) (Evs.cons (Ev.name rfl) Evs.nil)) (fn_indexOf B a2 f2)) op_add_int)
end
def outFar (p : Row) : D → D
  | .list (.str x :: _) => match all15.find? (fun r => decide (spell r = x)) with
    | some r => .int (dist r p)
    | none => .none
  | _ => .none
theorem find_spell : ∀ r ∈ all15, all15.find? (fun q => decide (spell q = spell r)) = some r := by decide +kernel
theorem outFar_lad {r : Row} (hr : r ∈ all15) (p : Row) : outFar p (ladD r) = .int (dist r p) := by
  show outFar p (.list ((lad r).map .str)) = _
  have h0 := lad_at r 0 (Nat.zero_le _)
  rw [Nat.sub_zero, List.take_length] at h0
  cases hl : lad r with
  | nil => rw [hl] at h0; cases h0
  | cons y l =>
    rw [hl] at h0
    cases h0
    show (match all15.find? (fun q => decide (spell q = spell r)) with
    | some r => D.int (dist r p)
    | none => .none) = _
    rw [find_spell r hr]
section
variable {prog : Program} {w : World} {hb : Heap} {n : Nat} {P : Params}
theorem fn_far (B : Bs (hd.heap_39 P) hb) {rs ps : List Row} (hrs : In15 rs) (h4 : rs.length ≤ 4) (hps : In15 ps) (hn : ps.Nodup) (h16 : ps.length ≤ 16) : Fn prog w hb 3 (.ref 175) [.dict (dictL ps ladD), .list (rs.map ladD)] (.dict (dictL ps fun p => .int (far rs p))) := by
  refine fn_def B (ps := [Str.ofString "ways", Str.ofString "ladders"]) ⟨⟨_, _, _, _, _, _, rfl, rfl, rfl, rfl, rfl, rfl, rfl, rfl, rfl, rfl, rfl, bind2 fun _ _ => rfl⟩, rfl, rfl, rfl, by decide, by decide⟩ rfl ?_
  refine Ex.new_dict B (.inl rfl) ?_
  refine Ex.loop (fun i => st [(Str.ofString "ladders", .list (rs.map ladD)), (Str.ofString "ways", .dict (dictL ps ladD))]) (fun i => st [(Str.ofString "far", .dict (dictL (ps.take i) fun p => .int (far rs p)))]) (Ev.name rfl) itr_dictL (.inr rfl) (le_cons rfl (le_cons rfl le_nil)) (le_cons rfl le_nil) (fun i => dom_one rfl) (fun i => rfl) ?_ ?_
  · intro i di hi hdi
    rw [List.getElem?_map] at hdi
    cases hx : ps[i]? with
    | none => rw [hx] at hdi; cases hdi
    | some p =>
      rw [hx] at hdi
      cases hdi
      have hpm : p ∈ ps := List.mem_of_getElem? hx
      have hp : p ∈ all15 := hps p hpm
      refine Ex.key (d := .int (far rs p)) rfl ?_ rfl (by rw [dictL_keys]; exact take_new hps hn hx) (line100 (by rw [dictL_len, List.length_take]; omega)) (Ex.nil_weak (le_cons rfl (le_cons rfl le_nil)) (le_cons ?_ le_nil))
      · have e : (rs.map fun r => (dist r p : Int)).map D.int = ((rs.map ladD).filter (fun _ => true)).map (outFar p) := by
          rw [filt_all, List.map_map, List.map_map]
          apply List.map_congr_left
          intro r hr
          exact (outFar_lad (hrs r hr) p).symm
        refine Ev.call (Cal.boot B rfl rfl (by decide +kernel) (by decide)) (.builtin _) (Evs.cons (d := .list ((rs.map fun r => (dist r p : Int)).map D.int)) ?_ Evs.nil) fn_sum
        rw [e]
        refine Ev.comp (fun _ => true) (outFar p) (Ev.name rfl) itr_list (line100 (by rw [List.length_map]; omega)) (by decide) rfl (by decide) rfl (free2 (f := Str.ofString "ways") (f' := Str.ofString "name") (by decide) rfl (.inl rfl) rfl (.inl rfl)) (fun d hd => Tst.nil) ?_
        intro d hd _
        obtain ⟨r, hr, rfl⟩ := List.mem_map.mp hd
        rw [outFar_lad (hrs r hr) p]
        exact Ev.call (Cal.glob B rfl rfl) (.fn (B.inK _ _ rfl) rfl) (Evs.cons (Ev.name rfl) (Evs.cons (Ev.sub (Ev.name rfl) (Ev.name rfl) (sub_dict (atKey_in hps hpm _))) Evs.nil)) (fn_steps B (hrs r hr) hp)
      · rw [dictL_succ hx]; rfl
  · rw [List.length_map, List.take_length]
    exact Ex.cons_ret (Ex1.ret_own rfl)
end
theorem lab_inj (a b : Bool) : (lab a == lab b) = (a == b) := by cases a <;> cases b <;> decide
theorem lab_ok (a : Bool) : PyData.strOk (lab a) = true := by cases a <;> decide +kernel
theorem eqv_rows : ∀ a b : Row, PyData.eqvAll (pys (a.map fun x => .str (lab x))) (pys (b.map fun x => .str (lab x))) = decide (a = b)
  | [], [] => by simp [pys, PyData.eqvAll]
  | [], b :: bs => by simp [pys, PyData.eqvAll]
  | a :: as, [] => by simp [pys, PyData.eqvAll]
  | a :: as, b :: bs => by
    have ih := eqv_rows as bs
    have e : PyData.eqv (py (.str (lab a))) (py (.str (lab b))) = (a == b) := lab_inj a b
    rw [List.map_cons, List.map_cons, pys, pys, PyData.eqvAll, ih, e]
    by_cases h : a = b <;> by_cases h' : as = bs <;> simp [h, h']
theorem eqv_row (a b : Row) : PyData.eqv (py (rowD a)) (py (rowD b)) = decide (a = b) := eqv_rows a b
theorem flat_row : ∀ r : Row, flat (rowD r) = true := fun r => by
  show flats (r.map fun b => D.str (lab b)) = true
  induction r with
  | nil => rfl
  | cons a r ih => simp [flats, flat, ih]
theorem lay_row : ∀ r : Row, (py (rowD r)).canLay0 = true := fun r => by
  show PyData.canLayAll0 (pys (r.map fun b => D.str (lab b))) = true
  induction r with
  | nil => rfl
  | cons a r ih => simp [pys, py, PyData.canLayAll0, PyData.canLay0, ih, lab_ok]
theorem depth_row : ∀ r : Row, (py (rowD r)).depth ≤ 30 := fun r => by
  have h : PyData.depthAll (pys (r.map fun b => D.str (lab b))) = 0 := by
    induction r with
    | nil => rfl
    | cons a r ih => simp [pys, py, PyData.depthAll, PyData.depth, ih]
  show PyData.depthAll (pys (r.map fun b => D.str (lab b))) + 1 ≤ 30
  omega
theorem flats_rows (l : List Row) : flats (l.map rowD) = true := by
  induction l with
  | nil => rfl
  | cons a l ih => simp [flats, flat_row, ih]
theorem lays_rows (l : List Row) : PyData.canLayAll0 (pys (l.map rowD)) = true := by
  induction l with
  | nil => rfl
  | cons a l ih => simp [pys, PyData.canLayAll0, lay_row, ih]
theorem any_rows (q : Row) (l : List Row) : ((pys (l.map rowD)).any fun y => PyData.eqv y (py (rowD q))) = decide (q ∈ l) := by
  induction l with
  | nil => rfl
  | cons a l ih =>
    rw [List.map_cons, pys, List.any_cons, ih, eqv_row]
    by_cases h : a = q
    · simp [h]
    · simp [h, Ne.symm h]
def unrow : D → Row
  | .list l => l.map fun d => match d with
    | .str x => decide (x = lab true)
    | _ => false
  | _ => []
theorem unrow_row (r : Row) : unrow (rowD r) = r := by
  show (r.map fun b => D.str (lab b)).map _ = r
  rw [List.map_map]
  conv => rhs; rw [← List.map_id r]
  apply List.map_congr_left
  intro b _
  cases b <;> decide
theorem rowD_take (r : Row) (s : Nat) : rowD (r.take s) = .list ((r.map fun b => D.str (lab b)).take s) := by rw [← List.map_take]; rfl
section
variable {prog : Program} {w : World} {hb : Heap} {n : Nat} {P : Params} {sc : Scope} {σ : St}
theorem op_eq_row {a b : Row} : Op2 prog w hb n (compareOp .Eq) (rowD a) (rowD b) (.bool (decide (a = b))) := by
  rw [← eqv_row]
  exact op_eq (flat_row a) (flat_row b) (lay_row a) (lay_row b) (Nat.le_trans (Nat.min_le_left _ _) (depth_row a))
theorem op_notin_row {q : Row} {l : List Row} : Op2 prog w hb n (compareOp .NotIn) (rowD q) (.list (l.map rowD)) (.bool (!decide (q ∈ l))) := by
  rw [← any_rows]
  exact op_notin (flat_row q) (flats_rows l) (lay_row q) (lays_rows l) (Nat.le_trans (Nat.min_le_right _ _) (depth_row q))
theorem ev_row {value e : Expr} {p pos : Pos} {r : Row} {s : Nat} (hv : Ev prog w hb n sc σ value (rowD r)) (he : Ev prog w hb n sc σ e (.int s)) (hr : r ∈ all15) : Ev prog w hb n sc σ (.Subscript value (.Slice none (some e) none p) pos) (rowD (r.take s)) := by
  rw [rowD_take]
  have := all_len r hr
  exact ev_upto hv he (line100 (by rw [List.length_map]; omega))
theorem fn_len_row {r : Row} (hr : r ∈ all15) : Fn prog w hb n (.builtin "len") [rowD r] (.int r.length) := by
  have h := all_len r hr
  have := fn_len_list (prog := prog) (w := w) (hb := hb) (n := n) (ds := r.map fun b => D.str (lab b)) (line100 (by rw [List.length_map]; omega))
  rwa [List.length_map] at this
end
/-! ### what the table says of a name -/
def under (rs : List Row) (q : Row) : Nat := (rs.filter fun o => decide (o.take q.length = q)).length
def sameN (o r : Row) (s : Nat) : Nat := ((List.range s).filter fun i => decide (o.take (1 + i) = r.take (1 + i))).length
def stepI (o r : Row) (s : Nat) : Int := (s : Int) + o.length - 2 * (sameN o r s : Nat)
def entry (rs : List Row) (q : Row) (pos : Nat) : D := .list [.str (spell q), .int pos, .int (under rs q), .int (under rs q), .int (far rs q)]
theorem same_facts : ∀ o ∈ all15, ∀ q ∈ all15, stepI o q q.length = dist o q := by decide +kernel
theorem sameN_take (o r : Row) (s : Nat) : sameN o r s = sameN o (r.take s) s := by
  unfold sameN
  congr 1
  apply List.filter_congr
  intro i hi
  have := List.mem_range.mp hi
  rw [List.take_take, Nat.min_eq_left (by omega)]
theorem range_facts : ∀ l : Nat, l ≤ 3 → Builtin.divisionGoesByPylong (-1 - (l : Int)) (-1) = false ∧ Builtin.Range.small (l : Int) (-1) (-1) = true ∧ Builtin.Range.rangeSize (l : Int) (-1) (-1) = ((l + 1 : Nat) : Int) ∧ Builtin.Range.small 1 ((l : Int) + 1) 1 = true ∧ Builtin.Range.rangeSize 1 ((l : Int) + 1) 1 = (l : Int) := by decide +kernel
def tstK (o r : Row) : D → Bool
  | .int k => decide (o.take k.toNat = r.take k.toNat)
  | _ => false
theorem len_filter (o r : Row) (s : Nat) : (((List.range s).map fun (i : Nat) => D.int (1 + i * 1)).filter (tstK o r)).length = sameN o r s := by
  unfold sameN
  rw [List.filter_map, List.length_map]
  congr 1
  apply List.filter_congr
  intro i _
  show decide (o.take (1 + (i : Int) * 1).toNat = r.take (1 + (i : Int) * 1).toNat) = _
  rw [show (1 + (i : Int) * 1).toNat = 1 + i by omega]
theorem len_under (rs : List Row) (q : Row) : ((rs.map rowD).filter fun d => decide ((unrow d).take q.length = q)).length = under rs q := by
  unfold under
  rw [List.filter_map, List.length_map]
  congr 1
  apply List.filter_congr
  intro o _
  show decide ((unrow (rowD o)).take q.length = q) = _
  rw [unrow_row]
theorem mem_add_of {acc : List Row} {p q : Row} (h : q ∈ acc ∨ q = p) : q ∈ add acc p := by
  unfold add
  split
  · rename_i hp
    rcases h with h | h
    · exact h
    · rw [h]; exact hp
  · simpa using h
theorem mem_foldl_of : ∀ {l acc : List Row} {q : Row}, q ∈ acc ∨ q ∈ l → q ∈ l.foldl add acc
  | [], acc, q, h => by simpa using h
  | p :: l, acc, q, h => by
    refine mem_foldl_of (l := l) (acc := add acc p) ?_
    rcases h with h | h
    · exact .inl (mem_add_of (.inl h))
    · rcases List.mem_cons.mp h with h | h
      · exact .inl (mem_add_of (.inr h))
      · exact .inr h
theorem mem_nub {l : List Row} {q : Row} : q ∈ nub l ↔ q ∈ l := ⟨fun h => by
  rcases mem_foldl_add h with h | h
  · cases h
  · exact h, fun h => mem_foldl_of (.inr h)⟩
theorem nub_snoc (l : List Row) (q : Row) : nub (l ++ [q]) = add (nub l) q := by unfold nub; rw [List.foldl_append]; rfl
theorem idx_new {a b : List Row} {q : Row} (h : q ∉ a) : (a ++ q :: b).idxOf q = a.length := by
  induction a with
  | nil => simp
  | cons x a ih =>
    have h1 : x ≠ q := fun e => h (by simp [e])
    have h2 : q ∉ a := fun e => h (by simp [e])
    rw [List.cons_append, List.idxOf_cons, ih h2]
    have : (x == q) = false := by simpa using h1
    rw [this]
    rfl
theorem fine_len {l : List Row} (hl : In15 l) : (l.flatMap prefs).length ≤ 4 * l.length := by
  induction l with
  | nil => simp
  | cons a l ih =>
    have := ih fun q hq => hl q (by simp [hq])
    have ha := all_len a (hl a (by simp))
    rw [List.flatMap_cons, List.length_append, prefs_len, List.length_cons]
    omega
theorem nub_len (l : List Row) : (nub l).length ≤ l.length := by have := foldl_add_len l []; simpa [nub] using this
theorem dom_two' {x y : Str} {d e d' e' : D} {l : List (Str × D)} {ω : St} (h : ω x = some d') (h' : ω y = some e') : Dom (st [(x, d), (y, e)]) ω := dom_two h h'

section
variable {prog : Program} {w : World} {hb : Heap} {n : Nat} {P : Params}
theorem fn_len_id {ds : List D} (hl : ds.length ≤ 100) : Fn prog w hb n (.builtin "len") [.list (ds.map id)] (.int ds.length) := by
  have := fn_len_list (prog := prog) (w := w) (hb := hb) (n := n) (ds := ds.map id) (line100 (by rw [List.length_map]; exact hl))
  rwa [List.length_map] at this
theorem fn_table (B : Bs (hd.heap_39 P) hb) {rs : List Row} (hrs : In15 rs) (h4 : rs.length ≤ 4) : Fn prog w hb 2 (.ref 180) [.list (rs.map rowD)] (.list ((nub (rs.flatMap prefs)).map fun q => entry rs q ((rs.flatMap prefs).idxOf q))) := by
  refine fn_def B (ps := [Str.ofString "rows"]) ⟨⟨_, _, _, _, _, _, rfl, rfl, rfl, rfl, rfl, rfl, rfl, rfl, rfl, rfl, rfl, bind1 fun _ => rfl⟩, rfl, rfl, rfl, by decide, by decide⟩ rfl ?_
  refine Ex.new_list Evs.nil (by decide) (.inl rfl) ?_
  refine Ex.new_list Evs.nil (by decide) (.inl rfl) ?_
  refine Ex.set Ev.int (.inl rfl) rfl ?_
  refine Ex.loop (fun i => st [(Str.ofString "rows", .list (rs.map rowD)), (Str.ofString "ahead", .int ((rs.take i).flatMap prefs).length)])
    (fun i => st [(Str.ofString "seen", .list ((nub ((rs.take i).flatMap prefs)).map rowD)), (Str.ofString "table", .list ((nub ((rs.take i).flatMap prefs)).map fun q => entry rs q ((rs.flatMap prefs).idxOf q)))])
    (Ev.name rfl) itr_list (.inr rfl) (le_cons rfl (le_cons rfl le_nil)) (le_cons rfl (le_cons rfl le_nil)) (fun i => dom_two rfl rfl) (fun i => rfl) ?_ ?_
  · intro i di hi hdi
    rw [List.getElem?_map] at hdi
    cases hx : rs[i]? with
    | none => rw [hx] at hdi; cases hdi
    | some r =>
      rw [hx] at hdi
      cases hdi
      have hr : r ∈ all15 := hrs r (List.mem_of_getElem? hx)
      have hrl := all_len r hr
      obtain ⟨f1, f2, f3, _, _⟩ := range_facts r.length hrl
      have hnext : (rs.take (i + 1)).flatMap prefs = (rs.take i).flatMap prefs ++ prefs r := by
        rw [take_succ' hx, List.flatMap_append]; simp
      have hL : ∃ rest, rs.flatMap prefs = (rs.take i).flatMap prefs ++ (prefs r ++ rest) := by
        refine ⟨(rs.drop (i + 1)).flatMap prefs, ?_⟩
        rw [← List.append_assoc, ← hnext, ← List.flatMap_append, List.take_append_drop]
      obtain ⟨rest, hL⟩ := hL
      have hpl : ((rs.take i).flatMap prefs).length ≤ 16 := by
        have h1 := fine_len (l := rs.take i) fun q hq => hrs q (List.mem_of_mem_take hq)
        have h2 : (rs.take i).length ≤ 4 := by rw [List.length_take]; omega
        omega
      rw [hnext]
      generalize (rs.take i).flatMap prefs = pre at hL hpl ⊢
      generalize rs.flatMap prefs = L at hL ⊢
      refine Ex.loop (fun k => st [(Str.ofString "rows", .list (rs.map rowD)), (Str.ofString "ahead", .int pre.length), (Str.ofString "row", rowD r)])
        (fun k => st [(Str.ofString "seen", .list ((nub (pre ++ (prefs r).take k)).map rowD)), (Str.ofString "table", .list ((nub (pre ++ (prefs r).take k)).map fun q => entry rs q (L.idxOf q)))])
        (Ev.call (Cal.boot B rfl rfl (by decide +kernel) (by decide)) (.type _) (Evs.cons (Ev.call (Cal.boot B rfl rfl (by decide +kernel) (by decide)) (.builtin _) (Evs.cons (Ev.name rfl) Evs.nil) (fn_len_row hr)) (Evs.cons (Ev.un Ev.int op_neg_int) (Evs.cons (Ev.un Ev.int op_neg_int) Evs.nil))) (fn_range3 (by decide) f1))
        (itr_range (m := r.length + 1) f2 f3) (.inr rfl) (le_cons rfl (le_cons rfl (le_cons rfl le_nil))) (le_cons (by rw [List.take_zero, List.append_nil]; rfl) (le_cons (by rw [List.take_zero, List.append_nil]; rfl) le_nil)) (fun i => dom_two rfl rfl) (fun i => rfl) ?_ ?_
      · intro k dk hk hdk
        have hk' : k < r.length + 1 := by rw [List.length_map, List.length_range] at hk; exact hk
        rw [List.getElem?_map, List.getElem?_range hk'] at hdk
        have hdk2 : dk = .int ((r.length - k : Nat) : Int) := by
          have h := (Option.some.inj hdk).symm
          have e : ((r.length : Int) + ((k : Nat) : Int) * (-1)) = ((r.length - k : Nat) : Int) := by omega
          exact h.trans (congrArg D.int e)
        subst hdk2
        have hq := all_take r hr (r.length - k)
        have hql : (r.take (r.length - k)).length = r.length - k := by rw [List.length_take]; omega
        have hat := prefs_at r k (by omega)
        have hsucc : nub (pre ++ (prefs r).take (k + 1)) = add (nub (pre ++ (prefs r).take k)) (r.take (r.length - k)) := by
          rw [take_succ' hat, ← List.append_assoc, nub_snoc]
        have hidx : r.take (r.length - k) ∉ nub (pre ++ (prefs r).take k) → L.idxOf (r.take (r.length - k)) = pre.length + k := fun hn => by
          have e : L = (pre ++ (prefs r).take k) ++ (r.take (r.length - k)) :: ((prefs r).drop (k + 1) ++ rest) := by
            have h1 : prefs r = (prefs r).take k ++ (r.take (r.length - k)) :: (prefs r).drop (k + 1) := by
              obtain ⟨hk1, hk2⟩ := List.getElem?_eq_some_iff.mp hat
              have := (List.take_append_drop k (prefs r)).symm
              rw [List.drop_eq_getElem_cons hk1, hk2] at this
              exact this
            rw [hL]
            conv => lhs; rw [h1]
            simp
          rw [e, idx_new (fun h => hn (mem_nub.mpr h)), List.length_append, List.length_take, prefs_len]
          omega
        have hacl : (nub (pre ++ (prefs r).take k)).length ≤ 20 := by
          have h1 := nub_len (pre ++ (prefs r).take k)
          rw [List.length_append, List.length_take, prefs_len] at h1
          omega
        rw [hsucc]
        generalize hac : nub (pre ++ (prefs r).take k) = ac at hidx hacl ⊢
        have hs3 : r.length - k ≤ 3 := by omega
        obtain ⟨_, _, _, g1, g2⟩ := range_facts (r.length - k) hs3
        generalize hsz : r.length - k = s at *
        by_cases hm : r.take s ∈ ac
        · refine Ex.ff (Tr.to (Tr.cmp (ev_row (Ev.name rfl) (Ev.name rfl) hr) (Ev.name rfl) op_notin_row) (by simp [hm])) (Ex.nil_weak (le_cons rfl (le_cons rfl (le_cons rfl le_nil))) (le_cons ?_ (le_cons ?_ le_nil)))
          · rw [add, if_pos hm]; rfl
          · rw [add, if_pos hm]; rfl
        · refine Ex.tt (Tr.to (Tr.cmp (ev_row (Ev.name rfl) (Ev.name rfl) hr) (Ev.name rfl) op_notin_row) (by simp [hm])) (σ' := st [(Str.ofString "rows", .list (rs.map rowD)), (Str.ofString "ahead", .int pre.length), (Str.ofString "row", rowD r)]) (ω' := st [(Str.ofString "seen", .list ((ac ++ [r.take s]).map rowD)), (Str.ofString "table", .list ((ac ++ [r.take s]).map fun q => entry rs q (L.idxOf q)))]) ?_ (dom_two rfl rfl) (Ex.nil_weak (le_cons rfl (le_cons rfl (le_cons rfl le_nil))) (le_cons ?_ (le_cons ?_ le_nil)))
          · refine Ex.app (x := Str.ofString "seen") (ds := ac.map rowD) rfl (ev_row (Ev.name rfl) (Ev.name rfl) hr) (line100 (by rw [List.length_map]; omega)) ?_
            refine Ex.set (d := .int (under rs (r.take s))) ?_ (.inl rfl) rfl ?_
            · rw [← len_under]
              refine Ev.call (Cal.boot B rfl rfl (by decide +kernel) (by decide)) (.builtin "len") (Evs.cons (Ev.comp (fun d => decide ((unrow d).take (r.take s).length = r.take s)) id (Ev.name rfl) itr_list (line100 (by rw [List.length_map]; omega)) (by decide) rfl (by decide) rfl (free2 (f := Str.ofString "size") (f' := Str.ofString "row") (by decide) rfl (.inl rfl) rfl (.inl rfl)) ?_ ?_) Evs.nil) (fn_len_id ?_)
              · intro d hd
                obtain ⟨o, ho, rfl⟩ := List.mem_map.mp hd
                refine Tst.one (Tr.to (Tr.cmp (ev_row (Ev.name rfl) (Ev.name rfl) (hrs o ho)) (ev_row (Ev.name rfl) (Ev.name rfl) hr) op_eq_row) ?_)
                rw [unrow_row, hql]
              · intro d hd _
                exact Ev.name rfl
              · exact Nat.le_trans (List.length_filter_le _ _) (by rw [List.length_map]; omega)
            refine Ex.set Ev.int (.inl rfl) rfl ?_
            refine Ex.loop (fun m => st [(Str.ofString "rows", .list (rs.map rowD)), (Str.ofString "ahead", .int pre.length), (Str.ofString "row", rowD r), (Str.ofString "size", .int s), (Str.ofString "under", .int (under rs (r.take s))), (Str.ofString "steps", .int (((rs.take m).map fun o => stepI o r s).sum))])
              (fun m => st [(Str.ofString "seen", .list (ac.map rowD ++ [rowD (r.take s)])), (Str.ofString "table", .list (ac.map fun q => entry rs q (L.idxOf q)))])
              (Ev.name rfl) itr_list (.inr rfl) (le_cons rfl (le_cons rfl (le_cons rfl (le_cons rfl (le_cons rfl (le_cons rfl le_nil)))))) (le_cons rfl (le_cons rfl le_nil)) (fun m => dom_two rfl rfl) (fun m => rfl) ?_ ?_
            · intro m dm hmm hdm
              rw [List.getElem?_map] at hdm
              cases hox : rs[m]? with
              | none => rw [hox] at hdm; cases hdm
              | some o =>
                rw [hox] at hdm
                cases hdm
                have ho : o ∈ all15 := hrs o (List.mem_of_getElem? hox)
                refine Ex.set (d := .int (sameN o r s)) ?_ (.inl rfl) rfl ?_
                · rw [← len_filter]
                  refine Ev.call (Cal.boot B rfl rfl (by decide +kernel) (by decide)) (.builtin "len") (Evs.cons (Ev.comp (tstK o r) id (Ev.call (Cal.boot B rfl rfl (by decide +kernel) (by decide)) (.type _) (Evs.cons Ev.int (Evs.cons (Ev.bin (Ev.name rfl) Ev.int op_add_int) Evs.nil)) fn_range2) (itr_range g1 g2) (line100 (by rw [List.length_map, List.length_range]; omega)) (by decide) rfl (by decide) rfl (free2 (f := Str.ofString "other") (f' := Str.ofString "row") (by decide) rfl (.inl rfl) rfl (.inl rfl)) ?_ ?_) Evs.nil) (fn_len_id ?_)
                  · intro d hd
                    obtain ⟨j, hj, hd⟩ := List.mem_map.mp hd
                    have ej : (1 + (j : Int) * 1) = ((1 + j : Nat) : Int) := by omega
                    have hd' : d = .int ((1 + j : Nat) : Int) := hd.symm.trans (congrArg D.int ej)
                    subst hd'
                    exact Tst.one (Tr.to (Tr.cmp (ev_row (Ev.name rfl) (Ev.name rfl) ho) (ev_row (Ev.name rfl) (Ev.name rfl) hr) op_eq_row) rfl)
                  · intro d hd _
                    exact Ev.name rfl
                  · exact Nat.le_trans (List.length_filter_le _ _) (by rw [List.length_map, List.length_range]; omega)
                refine Ex.add rfl (Ev.bin (Ev.bin (Ev.name rfl) (Ev.call (Cal.boot B rfl rfl (by decide +kernel) (by decide)) (.builtin _) (Evs.cons (Ev.name rfl) Evs.nil) (fn_len_row ho)) op_add_int) (Ev.bin Ev.int (Ev.name rfl) (op_mul_int (IntMulOk.of_left (by decide)))) op_sub_int) op_iadd_int (.inl rfl) rfl (Ex.nil_weak (le_cons rfl (le_cons rfl (le_cons rfl (le_cons rfl (le_cons rfl (le_cons ?_ le_nil)))))) (Le.refl _))
                rw [take_succ' hox, List.map_append, List.sum_append]
                have e1 : (List.map (fun o => stepI o r s) [o]).sum = stepI o r s := by simp
                have e2 : stepI o r s = (s : Int) + o.length - 2 * (sameN o r s : Nat) := rfl
                rw [e1, e2]
                rfl
            · rw [List.length_map, List.take_length]
              have hfar : (rs.map fun o => stepI o r s).sum = far rs (r.take s) := by
                have hm : (rs.map fun o => stepI o r s) = rs.map fun o => (dist o (r.take s) : Int) := by
                  apply List.map_congr_left
                  intro o ho
                  have := same_facts o (hrs o ho) _ hq
                  rw [hql] at this
                  rw [← this]
                  unfold stepI
                  rw [sameN_take o r s]
                unfold far
                rw [hm]
              have epos : ((pre.length + k : Nat) : Int) = (pre.length : Int) + (r.length : Int) - (s : Int) := by omega
              refine Ex.app (x := Str.ofString "table") (ds := ac.map fun q => entry rs q (L.idxOf q)) (d := entry rs (r.take s) (L.idxOf (r.take s))) rfl ?_ (line100 (by rw [List.length_map]; omega)) (Ex.nil_weak (le_cons rfl (le_cons rfl (le_cons rfl le_nil))) (le_cons ?_ (le_cons ?_ le_nil)))
              · unfold entry
                rw [hidx hm, ← hfar, epos]
                exact Ev.list (Evs.cons (Ev.call (Cal.glob B rfl rfl) (.fn (B.inK _ _ rfl) rfl) (Evs.cons (ev_row (Ev.name rfl) (Ev.name rfl) hr) Evs.nil) (fn_spelled B hq)) (Evs.cons (Ev.bin (Ev.bin (Ev.name rfl) (Ev.call (Cal.boot B rfl rfl (by decide +kernel) (by decide)) (.builtin _) (Evs.cons (Ev.name rfl) Evs.nil) (fn_len_row hr)) op_add_int) (Ev.name rfl) op_sub_int) (Evs.cons (Ev.name rfl) (Evs.cons (Ev.name rfl) (Evs.cons (Ev.name rfl) Evs.nil))))) (line100 (by simp))
              · rw [List.map_append]; rfl
              · rw [List.map_append]; rfl
          · rw [add, if_neg hm]; rfl
          · rw [add, if_neg hm]; rfl
      · rw [List.length_map, List.length_range, ← prefs_len, List.take_length]
        refine Ex.add rfl (Ev.bin (Ev.call (Cal.boot B rfl rfl (by decide +kernel) (by decide)) (.builtin _) (Evs.cons (Ev.name rfl) Evs.nil) (fn_len_row hr)) Ev.int op_add_int) op_iadd_int (.inl rfl) rfl (Ex.nil_weak (le_cons rfl (le_cons ?_ le_nil)) (le_cons rfl (le_cons rfl le_nil)))
        have e : (((pre ++ prefs r).length : Nat) : Int) = (pre.length : Int) + ((r.length : Int) + 1) := by rw [List.length_append, prefs_len]; omega
        rw [e]
        rfl
  · rw [List.length_map, List.take_length]
    exact Ex.cons_ret (Ex1.ret_own rfl)
end
/-! ### the plain law, over rows -/
def ind (p r : Row) : Nat := if p.isPrefixOf r then 1 else 0
def hN (rs : List Row) (p : Row) : Nat := (rs.map (ind p)).sum
def tN (rs : List Row) (p : Row) : Nat := (rs.map fun r => dist r p).sum
structure Good (rs : List Row) (m : Nat) : Prop where
  low : ∀ p ∈ all15, 0 < hN rs p → m ≤ tN rs p
  hit : ∃ p ∈ all15, 0 < hN rs p ∧ tN rs p = m
  mid : ∀ p ∈ all15, 0 < hN rs p → ((decide (4 ≤ 2 * hN rs p) && all15.all (fun q => !(decide (q ≠ []) && decide (q.dropLast = p)) || decide (2 * hN rs q ≤ 4))) = decide (tN rs p = m))
  mins : (all15.map fun p => min (hN rs p) (4 - hN rs p)).sum = m
  ways : 2 * (all15.map fun p => hN rs p * (4 - hN rs p)).sum = (rs.map (tN rs)).sum
/-! the tables, packed -/
def HB : Nat := 279095111627852376422952450239437898036988026584363100587916725691367708460644115763461101978214878798493234874954965405894230950618635574723572238318529042393938135222470668091079215263605805675265502489281841895366833335419536949700853069057906358859849380751280309641547191642836091589553241396358558677147199732186732982944715893303689705621368248359513011733436533019143008094475533254811886270316203669063096378525905637749083707097344838505321058639880454421464438997296241141331454070481005921012993355342980176902491792911544352769
def DB : Nat := 2197532106219714919305350457873624203290173160852943057784761035762644142050999804344991294580304639519055193953486859100382518168366655223727046283737401734966032818960468578140134216714443152842632003575517163570098621300470737839000975412996601139970403873392001055530974386833628196581012607964086531653513022608261418089030043919551720152668743775661049690837876764406726702333652240178443696570574246446057992736654363712433723022594146740390853864417064011394908555784451397842706280006852485683333702931625184332014311903166791936
def hb (a j : Nat) : Nat := Nat.mod (Nat.shiftRight HB (Nat.mul 8 (Nat.add (Nat.mul 15 a) j))) 256
def db (a j : Nat) : Nat := Nat.mod (Nat.shiftRight DB (Nat.mul 8 (Nat.add (Nat.mul 15 a) j))) 256
def row (j : Nat) : Row := all15.getD j []
def kids (j : Nat) : List Nat := if j < 7 then [2 * j + 1, 2 * j + 2] else []
theorem hb_ok : ∀ a < 15, ∀ j < 15, hb a j = ind (row j) (row a) := by decide +kernel
theorem db_ok : ∀ a < 15, ∀ j < 15, db a j = dist (row a) (row j) := by decide +kernel
theorem kids_ok : ∀ j < 15, ∀ q < 15, (decide (row q ≠ []) && decide ((row q).dropLast = row j)) = (kids j).contains q := by decide +kernel
theorem all_rows : all15 = (List.range 15).map row := by decide
def hS : List Nat → Nat → Nat
  | [], _ => 0
  | a :: l, j => Nat.add (hb a j) (hS l j)
def tS : List Nat → Nat → Nat
  | [], _ => 0
  | a :: l, j => Nat.add (db a j) (tS l j)
def js : List Nat := [0, 1, 2, 3, 4, 5, 6, 7, 8, 9, 10, 11, 12, 13, 14]
/-- a sum -/
def sm (f : Nat → Nat) : List Nat → Nat
  | [] => 0
  | j :: l => Nat.add (f j) (sm f l)
/-- all of them -/
def al (f : Nat → Bool) : List Nat → Bool
  | [] => true
  | j :: l => match f j with
    | true => al f l
    | false => false
def mn (h : Nat) : Nat := Nat.sub h (Nat.sub h (Nat.sub 4 h))
def chkP (l : List Nat) (m j : Nat) : Bool := match Nat.beq (hS l j) 0 with
  | true => true
  | false => match Nat.ble m (tS l j) with
    | true => (match Nat.ble 2 (hS l j) with
      | true => al (fun q => Nat.ble (hS l q) 2) (kids j)
      | false => false) == Nat.beq (tS l j) m
    | false => false
def chkM (l : List Nat) (m : Nat) : Bool :=
  (js.any fun j => Nat.ble 1 (hS l j) && Nat.beq (tS l j) m) && (al (chkP l m) js && Nat.beq (Nat.mul 2 (sm (fun j => Nat.mul (hS l j) (Nat.sub 4 (hS l j))) js)) (sm (tS l) l))
def chk (l : List Nat) : Bool := chkM l (sm (fun j => mn (hS l j)) js)
def from_ (a : Nat) : List Nat := js.filter fun j => Nat.ble a j
def chkA (a : Nat) : Bool := (from_ a).all fun b => (from_ b).all fun c => (from_ c).all fun d => chk [a, b, c, d]
theorem chk0 : chkA 0 = true := by decide +kernel
theorem chk1 : chkA 1 = true := by decide +kernel
theorem chk2 : chkA 2 = true := by decide +kernel
theorem chk3 : chkA 3 = true := by decide +kernel
theorem chk4 : chkA 4 = true := by decide +kernel
theorem chk5 : chkA 5 = true := by decide +kernel
theorem chk6 : chkA 6 = true := by decide +kernel
theorem chk7 : chkA 7 = true := by decide +kernel
theorem chk8 : chkA 8 = true := by decide +kernel
theorem chk9 : chkA 9 = true := by decide +kernel
theorem chk10 : chkA 10 = true := by decide +kernel
theorem chk11 : chkA 11 = true := by decide +kernel
theorem chk12 : chkA 12 = true := by decide +kernel
theorem chk13 : chkA 13 = true := by decide +kernel
theorem chk14 : chkA 14 = true := by decide +kernel
theorem chk_all : ∀ a < 15, chkA a = true
  | 0, _ => chk0
  | 1, _ => chk1
  | 2, _ => chk2
  | 3, _ => chk3
  | 4, _ => chk4
  | 5, _ => chk5
  | 6, _ => chk6
  | 7, _ => chk7
  | 8, _ => chk8
  | 9, _ => chk9
  | 10, _ => chk10
  | 11, _ => chk11
  | 12, _ => chk12
  | 13, _ => chk13
  | 14, _ => chk14
  | n + 15, h => absurd h (by omega)
theorem js_range : js = List.range 15 := by decide
theorem mem_js {j : Nat} : j ∈ js ↔ j < 15 := by rw [js_range]; exact List.mem_range
theorem chk_sorted {a b c d : Nat} (hab : a ≤ b) (hbc : b ≤ c) (hcd : c ≤ d) (hd : d < 15) : chk [a, b, c, d] = true := by
  have h := chk_all a (by omega)
  unfold chkA at h
  rw [List.all_eq_true] at h
  have fr : ∀ {x y : Nat}, x ≤ y → y < 15 → y ∈ from_ x := fun {x y} hx hy => List.mem_filter.mpr ⟨mem_js.mpr hy, Nat.ble_eq.mpr hx⟩
  have h1 := h b (fr hab (by omega))
  rw [List.all_eq_true] at h1
  have h2 := h1 c (fr hbc (by omega))
  rw [List.all_eq_true] at h2
  exact h2 d (fr hcd hd)
theorem sm_sum (f : Nat → Nat) : ∀ l : List Nat, sm f l = (l.map f).sum
  | [] => rfl
  | j :: l => by rw [sm, sm_sum f l, List.map_cons, List.sum_cons]; rfl
theorem al_true {f : Nat → Bool} : ∀ {l : List Nat}, al f l = true ↔ ∀ j ∈ l, f j = true
  | [] => by simp [al]
  | j :: l => by
    unfold al
    cases h : f j with
    | true => rw [al_true (l := l)]; simp [h]
    | false => simp [h]
def Lo (l : List Nat) : Prop := ∀ a ∈ l, a < 15
theorem hS_eq : ∀ {l : List Nat}, Lo l → ∀ {j : Nat}, j < 15 → hS l j = hN (l.map row) (row j)
  | [], _, j, _ => rfl
  | a :: l, h, j, hj => by
    have ih := hS_eq (l := l) (fun b hb => h b (by simp [hb])) hj
    have e := hb_ok a (h a (by simp)) j hj
    rw [hS, ih, e]
    unfold hN
    rw [List.map_cons, List.map_cons, List.sum_cons]
    rfl
theorem tS_eq : ∀ {l : List Nat}, Lo l → ∀ {j : Nat}, j < 15 → tS l j = tN (l.map row) (row j)
  | [], _, j, _ => rfl
  | a :: l, h, j, hj => by
    have ih := tS_eq (l := l) (fun b hb => h b (by simp [hb])) hj
    have e := db_ok a (h a (by simp)) j hj
    rw [tS, ih, e]
    unfold tN
    rw [List.map_cons, List.map_cons, List.sum_cons]
    rfl
theorem row_of {p : Row} (h : p ∈ all15) : ∃ j, j < 15 ∧ row j = p := by
  rw [all_rows] at h
  obtain ⟨j, hj, e⟩ := List.mem_map.mp h
  exact ⟨j, List.mem_range.mp hj, e⟩
theorem row_in {j : Nat} (h : j < 15) : row j ∈ all15 := by
  rw [all_rows]; exact List.mem_map.mpr ⟨j, List.mem_range.mpr h, rfl⟩
theorem kids_lt : ∀ j < 15, ∀ q ∈ kids j, q < 15 := by decide
theorem kids_all {l : List Nat} (hl : Lo l) {j : Nat} (hj : j < 15) : (all15.all fun q => !(decide (q ≠ []) && decide (q.dropLast = row j)) || decide (2 * hN (l.map row) q ≤ 4)) = al (fun q => Nat.ble (hS l q) 2) (kids j) := by
  rw [Bool.eq_iff_iff, al_true, List.all_eq_true]
  constructor
  · intro h q hq
    have hq15 := kids_lt j hj q hq
    have := h (row q) (row_in hq15)
    rw [kids_ok j hj q hq15] at this
    have hc : (kids j).contains q = true := by simpa using hq
    rw [hc] at this
    rw [hS_eq hl hq15]
    have h2 : 2 * hN (l.map row) (row q) ≤ 4 := by simpa using this
    exact Nat.ble_eq.mpr (by omega)
  · intro h p hp
    obtain ⟨q, hq15, rfl⟩ := row_of hp
    rw [kids_ok j hj q hq15]
    cases hc : (kids j).contains q with
    | false => rfl
    | true =>
      have := h q (by simpa using hc)
      rw [hS_eq hl hq15] at this
      have h2 := Nat.ble_eq.mp this
      have h3 : decide (2 * hN (l.map row) (row q) ≤ 4) = true := by rw [decide_eq_true_iff]; omega
      rw [h3]; rfl
theorem sum15 (f : Row → Nat) : (all15.map f).sum = sm (fun j => f (row j)) js := by
  rw [sm_sum, js_range, all_rows, List.map_map]; rfl
theorem sm_congr {f g : Nat → Nat} : ∀ {l : List Nat}, (∀ j ∈ l, f j = g j) → sm f l = sm g l
  | [], _ => rfl
  | j :: l, h => by rw [sm, sm, h j (by simp), sm_congr fun k hk => h k (by simp [hk])]
theorem good_of_chk {l : List Nat} (hl : Lo l) (h : chk l = true) : ∃ m, Good (l.map row) m := by
  refine ⟨sm (fun j => mn (hS l j)) js, ?_⟩
  unfold chk at h
  generalize hm : sm (fun j => mn (hS l j)) js = m at h ⊢
  unfold chkM at h
  rw [Bool.and_eq_true, Bool.and_eq_true] at h
  obtain ⟨h1, h2, h3⟩ := h
  rw [al_true] at h2
  have key : ∀ j, j < 15 → 0 < hN (l.map row) (row j) → m ≤ tN (l.map row) (row j) ∧ ((match Nat.ble 2 (hN (l.map row) (row j)) with
      | true => al (fun q => Nat.ble (hS l q) 2) (kids j)
      | false => false) == Nat.beq (tN (l.map row) (row j)) m) = true := by
    intro j hj hpos
    have := h2 j (mem_js.mpr hj)
    unfold chkP at this
    rw [hS_eq hl hj, tS_eq hl hj] at this
    have hz : Nat.beq (hN (l.map row) (row j)) 0 = false := by
      cases q : Nat.beq (hN (l.map row) (row j)) 0 with
      | false => rfl
      | true => have := Nat.eq_of_beq_eq_true q; omega
    rw [hz] at this
    cases q : Nat.ble m (tN (l.map row) (row j)) with
    | false => rw [q] at this; cases this
    | true =>
      rw [q] at this
      exact ⟨Nat.ble_eq.mp q, this⟩
  refine ⟨fun p hp hpos => ?_, ?_, fun p hp hpos => ?_, ?_, ?_⟩
  · obtain ⟨j, hj, rfl⟩ := row_of hp
    exact (key j hj hpos).1
  · rw [List.any_eq_true] at h1
    obtain ⟨j, hj, h1⟩ := h1
    have hj := mem_js.mp hj
    rw [Bool.and_eq_true, hS_eq hl hj, tS_eq hl hj] at h1
    exact ⟨row j, row_in hj, Nat.ble_eq.mp h1.1, Nat.eq_of_beq_eq_true h1.2⟩
  · obtain ⟨j, hj, rfl⟩ := row_of hp
    have hk := (key j hj hpos).2
    rw [kids_all hl hj]
    have e1 : decide (4 ≤ 2 * hN (l.map row) (row j)) = Nat.ble 2 (hN (l.map row) (row j)) := by
      rw [Bool.eq_iff_iff, decide_eq_true_iff, Nat.ble_eq]; omega
    have e2 : decide (tN (l.map row) (row j) = m) = Nat.beq (tN (l.map row) (row j)) m := by
      rw [Bool.eq_iff_iff, decide_eq_true_iff, Nat.beq_eq]
    rw [e1, e2, ← beq_iff_eq.mp hk]
    cases Nat.ble 2 (hN (l.map row) (row j)) <;> rfl
  · rw [sum15, ← hm]
    apply sm_congr
    intro j hj
    rw [hS_eq hl (mem_js.mp hj)]
    unfold mn
    show min _ _ = _ - (_ - (4 - _))
    omega
  · have h3' := Nat.eq_of_beq_eq_true h3
    have ea : sm (tS l) l = ((l.map row).map (tN (l.map row))).sum := by
      rw [sm_sum, List.map_map]
      exact congrArg List.sum (List.map_congr_left fun a ha => tS_eq hl (hl a ha))
    have eb : (all15.map fun p => hN (l.map row) p * (4 - hN (l.map row) p)).sum = sm (fun j => Nat.mul (hS l j) (Nat.sub 4 (hS l j))) js := by
      rw [sum15]
      exact sm_congr fun j hj => by rw [hS_eq hl (mem_js.mp hj)]; rfl
    rw [← ea, eb]
    exact h3'
theorem Good.perm {rs rs' : List Row} {m : Nat} (g : Good rs m) (h : rs.Perm rs') : Good rs' m := by
  have e1 : hN rs = hN rs' := by funext p; exact (h.map _).sum_nat
  have e2 : tN rs = tN rs' := by funext p; exact (h.map _).sum_nat
  have e3 : (rs.map (tN rs)).sum = (rs'.map (tN rs')).sum := by rw [e2]; exact (h.map _).sum_nat
  obtain ⟨a, b, c, d, e⟩ := g
  rw [e3] at e
  rw [e1] at a b c d e
  rw [e2] at a b c
  exact ⟨a, b, c, d, e⟩
theorem good {rs : List Row} (hrs : In15 rs) (h4 : rs.length = 4) : ∃ m, Good rs m := by
  have hidx : ∃ l : List Nat, Lo l ∧ l.map row = rs := by
    clear h4
    induction rs with
    | nil => exact ⟨[], fun _ h => (nomatch h), rfl⟩
    | cons r rs ih =>
      obtain ⟨l, hl, rfl⟩ := ih fun q hq => hrs q (by simp [hq])
      obtain ⟨j, hj, rfl⟩ := row_of (hrs r (by simp))
      exact ⟨j :: l, fun a ha => by
        rcases List.mem_cons.mp ha with rfl | ha
        · exact hj
        · exact hl a ha, rfl⟩
  obtain ⟨l, hl, rfl⟩ := hidx
  have hlen : l.length = 4 := by rw [List.length_map] at h4; exact h4
  have hp := List.mergeSort_perm l (fun a b => decide (a ≤ b))
  have hs := List.pairwise_mergeSort (le := fun a b => decide (a ≤ b)) (fun a b c h1 h2 => by simp at *; omega) (fun a b => by simp; omega) l
  have hlen' : (l.mergeSort (fun a b => decide (a ≤ b))).length = 4 := hp.length_eq.trans hlen
  generalize l.mergeSort (fun a b => decide (a ≤ b)) = s at hp hs hlen'
  have hls : Lo s := fun a ha => hl a (hp.mem_iff.mp ha)
  match s, hlen' with
  | [a, b, c, d], _ =>
    simp only [List.pairwise_cons, List.mem_cons, decide_eq_true_eq] at hs
    obtain ⟨h1, h2, h3, _⟩ := hs
    obtain ⟨m, g⟩ := good_of_chk hls (chk_sorted (h1 b (by simp)) (h2 c (by simp)) (h3 d (by simp)) (hls d (by simp)))
    exact ⟨m, g.perm (hp.map row)⟩
theorem cnt_true (rs : List Row) (p : Row) : cnt rs true p = hN rs p := by
  unfold cnt hN
  induction rs with
  | nil => rfl
  | cons r rs ih =>
    rw [List.map_cons, List.map_cons, List.count_cons, List.sum_cons, ih]
    unfold ind
    cases p.isPrefixOf r <;> simp <;> omega
theorem cnt_both (rs : List Row) (p : Row) : cnt rs true p + cnt rs false p = rs.length := by
  unfold cnt
  induction rs with
  | nil => rfl
  | cons r rs ih =>
    rw [List.map_cons, List.map_cons, List.count_cons, List.count_cons, List.length_cons]
    generalize List.count true (List.map (fun r => p.isPrefixOf r == true) rs) = c1 at ih ⊢
    generalize List.count true (List.map (fun r => p.isPrefixOf r == false) rs) = c2 at ih ⊢
    cases p.isPrefixOf r <;> simp <;> omega
theorem far_tN (rs : List Row) (p : Row) : far rs p = (tN rs p : Int) := by
  unfold far tN
  induction rs with
  | nil => rfl
  | cons r rs ih => rw [List.map_cons, List.map_cons, List.sum_cons, List.sum_cons, ih]; omega
theorem pref_facts : ∀ r ∈ all15, ∀ p ∈ all15, decide (p ∈ prefs r) = p.isPrefixOf r ∧ decide (r.take p.length = p) = p.isPrefixOf r ∧ (prefs r).count p = ind p r := by decide +kernel
theorem hN_pos {rs : List Row} {p : Row} : 0 < hN rs p ↔ ∃ r ∈ rs, p.isPrefixOf r = true := by
  unfold hN
  induction rs with
  | nil => simp
  | cons r rs ih =>
    rw [List.map_cons, List.sum_cons]
    unfold ind at ih ⊢
    by_cases h : p.isPrefixOf r = true
    · rw [if_pos h]; exact ⟨fun _ => ⟨r, by simp, h⟩, fun _ => by omega⟩
    · rw [if_neg h, Nat.zero_add, ih]
      constructor
      · rintro ⟨q, hq, e⟩; exact ⟨q, by simp [hq], e⟩
      · rintro ⟨q, hq, e⟩
        rcases List.mem_cons.mp hq with rfl | hq
        · exact absurd e h
        · exact ⟨q, hq, e⟩
theorem names_15 {rs : List Row} (hrs : In15 rs) : In15 (nub (rs.flatMap prefs)) := fun q hq => by
  obtain ⟨r, hr, hq⟩ := List.mem_flatMap.mp (mem_nub.mp hq)
  exact prefs_15 (hrs r hr) q hq
theorem mem_names {rs : List Row} (hrs : In15 rs) {p : Row} (hp : p ∈ all15) : p ∈ nub (rs.flatMap prefs) ↔ 0 < hN rs p := by
  rw [mem_nub, List.mem_flatMap, hN_pos]
  constructor
  · rintro ⟨r, hr, h⟩
    exact ⟨r, hr, by rw [← (pref_facts r (hrs r hr) p hp).1]; simpa using h⟩
  · rintro ⟨r, hr, h⟩
    exact ⟨r, hr, by rw [← (pref_facts r (hrs r hr) p hp).1] at h; simpa using h⟩
theorem names_nodup (rs : List Row) : (nub (rs.flatMap prefs)).Nodup := foldl_add_nodup (by simp)
theorem sum_filter (f : Row → Nat) (t : Row → Bool) : ∀ l : List Row, (∀ p ∈ l, t p = false → f p = 0) → ((l.filter t).map f).sum = (l.map f).sum
  | [], _ => rfl
  | p :: l, h => by
    have ih := sum_filter f t l fun q hq => h q (by simp [hq])
    rw [List.filter_cons]
    cases q : t p with
    | true => simp [ih]
    | false => simp [ih, h p (by simp) q]
theorem names_sum {rs : List Row} (hrs : In15 rs) (f : Row → Nat) (h0 : ∀ p ∈ all15, hN rs p = 0 → f p = 0) : ((nub (rs.flatMap prefs)).map f).sum = (all15.map f).sum := by
  have hperm : (nub (rs.flatMap prefs)).Perm (all15.filter fun p => decide (0 < hN rs p)) := by
    rw [List.perm_ext_iff_of_nodup (names_nodup rs) (List.Pairwise.filter _ (show all15.Nodup by decide))]
    intro p
    rw [List.mem_filter]
    constructor
    · intro h
      have hp := names_15 hrs p h
      exact ⟨hp, by rw [decide_eq_true_iff]; exact (mem_names hrs hp).mp h⟩
    · rintro ⟨hp, h⟩
      exact (mem_names hrs hp).mpr (by simpa using h)
  rw [(hperm.map f).sum_nat]
  exact sum_filter f _ all15 fun p hp h => h0 p hp (by simpa using h)
/-! ### least and greatest -/
theorem foldl_min : ∀ (l : List Int) (a : Int), (l.foldl (fun a b => if b < a then b else a) a ∈ a :: l) ∧ ∀ x ∈ a :: l, l.foldl (fun a b => if b < a then b else a) a ≤ x
  | [], a => by simp
  | b :: l, a => by
    rw [List.foldl_cons]
    have hc : ((if b < a then b else a) = b ∨ (if b < a then b else a) = a) ∧ (if b < a then b else a) ≤ a ∧ (if b < a then b else a) ≤ b := by split <;> omega
    generalize (if b < a then b else a) = c at hc ⊢
    obtain ⟨h1, h2⟩ := foldl_min l c
    constructor
    · rcases List.mem_cons.mp h1 with h | h
      · rw [h]; rcases hc.1 with e | e <;> simp [e]
      · simp [h]
    · intro x hx
      have h3 := h2 c (by simp)
      rcases List.mem_cons.mp hx with rfl | hx
      · omega
      · rcases List.mem_cons.mp hx with rfl | hx
        · omega
        · exact h2 x (by simp [hx])
theorem minL_eq {l : List Int} {m : Int} (hm : m ∈ l) (hl : ∀ x ∈ l, m ≤ x) : minL l = m := by
  cases l with
  | nil => cases hm
  | cons a l =>
    obtain ⟨h1, h2⟩ := foldl_min l a
    show l.foldl (fun a b => if b < a then b else a) a = m
    have h3 := h2 m hm
    have h4 := hl _ h1
    omega
theorem foldl_max : ∀ (l : List Int) (a k : Int), (l.foldl (fun a b => if b > a then b else a) a ≤ k) ↔ a ≤ k ∧ ∀ x ∈ l, x ≤ k
  | [], a, k => by simp
  | b :: l, a, k => by
    rw [List.foldl_cons, foldl_max l]
    constructor
    · rintro ⟨h1, h2⟩
      split at h1 <;> rename_i hc
      · exact ⟨by omega, fun x hx => by rcases List.mem_cons.mp hx with rfl | hx; exact h1; exact h2 x hx⟩
      · exact ⟨h1, fun x hx => by rcases List.mem_cons.mp hx with rfl | hx; omega; exact h2 x hx⟩
    · rintro ⟨h1, h2⟩
      refine ⟨?_, fun x hx => h2 x (by simp [hx])⟩
      split
      · exact h2 b (by simp)
      · exact h1
theorem least_eq {rs : List Row} {m : Nat} (hrs : In15 rs) (g : Good rs m) : minL ((nub (rs.flatMap prefs)).map (far rs)) = m := by
  apply minL_eq
  · obtain ⟨p, hp, h1, h2⟩ := g.hit
    exact List.mem_map.mpr ⟨p, (mem_names hrs hp).mpr h1, by rw [far_tN, h2]⟩
  · intro x hx
    obtain ⟨p, hp, rfl⟩ := List.mem_map.mp hx
    have hp15 := names_15 hrs p hp
    rw [far_tN]
    have := g.low p hp15 ((mem_names hrs hp15).mp hp)
    omega
/-- a name right below -/
def child (p q : Row) : Bool := decide (q ≠ []) && decide (q.dropLast = p)
theorem mid_eq {rs : List Row} {m : Nat} (hrs : In15 rs) (g : Good rs m) {p : Row} (hp : p ∈ nub (rs.flatMap prefs)) :
    (decide (2 * (cnt rs true p : Int) ≥ 4) && decide (2 * maxL (0 :: ((nub (rs.flatMap prefs)).filter (child p)).map fun q => (cnt rs true q : Int)) ≤ 4)) = (far rs p == (m : Int)) := by
  have hp15 := names_15 hrs p hp
  have hg := g.mid p hp15 ((mem_names hrs hp15).mp hp)
  have e1 : decide (2 * (cnt rs true p : Int) ≥ 4) = decide (4 ≤ 2 * hN rs p) := by rw [cnt_true, Bool.eq_iff_iff, decide_eq_true_iff, decide_eq_true_iff]; omega
  have e3 : (far rs p == (m : Int)) = decide (tN rs p = m) := by rw [far_tN, Bool.eq_iff_iff, beq_iff_eq, decide_eq_true_iff]; omega
  have e2 : decide (2 * maxL (0 :: ((nub (rs.flatMap prefs)).filter (child p)).map fun q => (cnt rs true q : Int)) ≤ 4) = all15.all (fun q => !(decide (q ≠ []) && decide (q.dropLast = p)) || decide (2 * hN rs q ≤ 4)) := by
    rw [Bool.eq_iff_iff, decide_eq_true_iff, List.all_eq_true]
    have hmax := foldl_max (((nub (rs.flatMap prefs)).filter (child p)).map fun q => (cnt rs true q : Int)) 0 2
    have hd : maxL (0 :: ((nub (rs.flatMap prefs)).filter (child p)).map fun q => (cnt rs true q : Int)) ≤ 2 ↔ (0 : Int) ≤ 2 ∧ ∀ x ∈ ((nub (rs.flatMap prefs)).filter (child p)).map (fun q => (cnt rs true q : Int)), x ≤ 2 := hmax
    constructor
    · intro h q hq
      obtain ⟨_, h2⟩ := hd.mp (by omega)
      cases hc : (decide (q ≠ []) && decide (q.dropLast = p)) with
      | false => rfl
      | true =>
        show decide (2 * hN rs q ≤ 4) = true
        rw [decide_eq_true_iff]
        by_cases hz : 0 < hN rs q
        · have := h2 _ (List.mem_map.mpr ⟨q, List.mem_filter.mpr ⟨(mem_names hrs hq).mpr hz, hc⟩, rfl⟩)
          rw [cnt_true] at this
          omega
        · omega
    · intro h
      have : maxL (0 :: ((nub (rs.flatMap prefs)).filter (child p)).map fun q => (cnt rs true q : Int)) ≤ 2 := hd.mpr ⟨by decide, fun x hx => by
        obtain ⟨q, hq, rfl⟩ := List.mem_map.mp hx
        obtain ⟨hq1, hq2⟩ := List.mem_filter.mp hq
        have h3 := h q (names_15 hrs q hq1)
        unfold child at hq2
        rw [hq2] at h3
        have h4 : 2 * hN rs q ≤ 4 := by simpa using h3
        show (cnt rs true q : Int) ≤ 2
        rw [cnt_true]
        omega⟩
      omega
  rw [e1, e2, e3]
  exact hg
theorem sum_cast (f : Row → Nat) (l : List Row) : (l.map fun p => (f p : Int)).sum = ((l.map f).sum : Nat) := by
  induction l with
  | nil => rfl
  | cons p l ih => rw [List.map_cons, List.map_cons, List.sum_cons, List.sum_cons, ih]; omega
theorem hN_le (rs : List Row) (p : Row) : hN rs p ≤ rs.length := by have := cnt_both rs p; rw [cnt_true] at this; omega
theorem mins_eq {rs : List Row} {m : Nat} (hrs : In15 rs) (h4 : rs.length = 4) (g : Good rs m) : ((nub (rs.flatMap prefs)).map fun p => min (cnt rs true p : Int) (cnt rs false p)).sum = m := by
  have e : ((nub (rs.flatMap prefs)).map fun p => min (cnt rs true p : Int) (cnt rs false p)) = (nub (rs.flatMap prefs)).map fun p => ((min (hN rs p) (4 - hN rs p) : Nat) : Int) := by
    apply List.map_congr_left
    intro p _
    have := cnt_both rs p
    rw [cnt_true] at this ⊢
    omega
  rw [e, sum_cast, names_sum hrs _ (fun p _ h => by simp [h]), g.mins]
theorem ways_eq {rs : List Row} {m : Nat} (hrs : In15 rs) (h4 : rs.length = 4) (g : Good rs m) : 2 * ((nub (rs.flatMap prefs)).map fun p => (cnt rs true p : Int) * (4 - (cnt rs true p : Int))).sum = (rs.map fun r => far rs r).sum := by
  have e : ((nub (rs.flatMap prefs)).map fun p => (cnt rs true p : Int) * (4 - (cnt rs true p : Int))) = (nub (rs.flatMap prefs)).map fun p => ((hN rs p * (4 - hN rs p) : Nat) : Int) := by
    apply List.map_congr_left
    intro p _
    have := hN_le rs p
    rw [cnt_true, Int.natCast_mul]
    congr 1
    omega
  have e2 : (rs.map fun r => far rs r) = rs.map fun r => ((tN rs r : Nat) : Int) := List.map_congr_left fun r _ => far_tN rs r
  have := g.ways
  rw [e, sum_cast, e2, sum_cast, names_sum hrs _ (fun p _ h => by simp [h])]
  omega
/-! ### the table's rows -/
theorem strung_eq (rs : List Row) : rs.flatMap lad = (rs.flatMap prefs).map spell := by
  rw [List.map_flatMap]; rfl
theorem count_names {rs : List Row} (hrs : In15 rs) {p : Row} (hp : p ∈ all15) : (rs.flatMap prefs).count p = hN rs p := by
  unfold hN
  induction rs with
  | nil => rfl
  | cons r rs ih =>
    rw [List.flatMap_cons, List.count_append, List.map_cons, List.sum_cons, ih fun q hq => hrs q (by simp [hq]), (pref_facts r (hrs r (by simp)) p hp).2.2]
theorem count_spell {l : List Row} (hl : In15 l) {p : Row} (hp : p ∈ all15) : (l.map spell).count (spell p) = l.count p := by
  induction l with
  | nil => rfl
  | cons q l ih =>
    rw [List.map_cons, List.count_cons, List.count_cons, ih fun r hr => hl r (by simp [hr])]
    have : (spell q == spell p) = (q == p) := by
      rw [Bool.eq_iff_iff, beq_iff_eq, beq_iff_eq]
      exact ⟨fun h => all_inj q (hl q (by simp)) p hp h, fun h => by rw [h]⟩
    rw [this]
theorem under_eq {rs : List Row} (hrs : In15 rs) {p : Row} (hp : p ∈ all15) : under rs p = hN rs p := by
  unfold under hN
  induction rs with
  | nil => rfl
  | cons r rs ih =>
    have h1 := (pref_facts r (hrs r (by simp)) p hp).2.1
    rw [List.filter_cons, List.map_cons, List.sum_cons, ← ih fun q hq => hrs q (by simp [hq]), h1]
    unfold ind
    cases p.isPrefixOf r <;> simp <;> omega
theorem idx_spell {l : List Row} (hl : In15 l) {p : Row} (hp : p ∈ l) : (l.map spell)[l.idxOf p]? = some (spell p) ∧ ∀ i, i < l.idxOf p → (l.map spell)[i]? ≠ some (spell p) := by
  induction l with
  | nil => cases hp
  | cons q l ih =>
    have hl' : In15 l := fun r hr => hl r (by simp [hr])
    by_cases h : q = p
    · subst h
      rw [List.idxOf_cons_self]
      exact ⟨rfl, fun i hi => absurd hi (by omega)⟩
    · have hp' : p ∈ l := by
        rcases List.mem_cons.mp hp with e | e
        · exact absurd e.symm h
        · exact e
      obtain ⟨h1, h2⟩ := ih hl' hp'
      have e : (q :: l).idxOf p = l.idxOf p + 1 := by
        rw [List.idxOf_cons]
        have : (q == p) = false := by simpa using h
        rw [this]; rfl
      rw [e]
      refine ⟨by simpa using h1, fun i hi => ?_⟩
      cases i with
      | zero =>
        intro e'
        have : spell q = spell p := by simpa using e'
        exact h (all_inj q (hl q (by simp)) p (hl p hp) this)
      | succ i => simpa using h2 i (by omega)
theorem free3 {scope sc : Scope} {σ : St} {f f' f'' : Str} {d d' d'' : D} (h : ∀ y ∈ scope.names, y.2 = .free → y.1 = f ∨ y.1 = f' ∨ y.1 = f'') (hd : σ f = some d) (hk : sc.names.lookup f = some .cell ∨ sc.names.lookup f = some .free) (hd' : σ f' = some d') (hk' : sc.names.lookup f' = some .cell ∨ sc.names.lookup f' = some .free) (hd'' : σ f'' = some d'') (hk'' : sc.names.lookup f'' = some .cell ∨ sc.names.lookup f'' = some .free) :
    ∀ y ∈ scope.names, y.2 = .free → (∃ d, σ y.1 = some d) ∧ (sc.names.lookup y.1 = some .cell ∨ sc.names.lookup y.1 = some .free) := fun y hy hf => by
  rcases h y hy hf with e | e | e
  · rw [e]; exact ⟨⟨d, hd⟩, hk⟩
  · rw [e]; exact ⟨⟨d', hd'⟩, hk'⟩
  · rw [e]; exact ⟨⟨d'', hd''⟩, hk''⟩
def onRow (f : Row → D) : D → D
  | .str x => match all15.find? (fun r => decide (spell r = x)) with
    | some r => f r
    | none => .none
  | _ => .none
def tRow (t : Row → Bool) : D → Bool
  | .str x => match all15.find? (fun r => decide (spell r = x)) with
    | some r => t r
    | none => false
  | _ => false
theorem onRow_spell {f : Row → D} {r : Row} (hr : r ∈ all15) : onRow f (.str (spell r)) = f r := by
  show (match all15.find? (fun q => decide (spell q = spell r)) with
    | some r => f r
    | none => .none) = _
  rw [find_spell r hr]
theorem tRow_spell {t : Row → Bool} {r : Row} (hr : r ∈ all15) : tRow t (.str (spell r)) = t r := by
  show (match all15.find? (fun q => decide (spell q = spell r)) with
    | some r => t r
    | none => false) = _
  rw [find_spell r hr]
theorem comp_rows {ps : List Row} (hps : In15 ps) (t : Row → Bool) (f : Row → D) : ((ps.map fun p => D.str (spell p)).filter (tRow t)).map (onRow f) = (ps.filter t).map f := by
  induction ps with
  | nil => rfl
  | cons p ps ih =>
    have hp := hps p (by simp)
    have ih := ih fun q hq => hps q (by simp [hq])
    rw [List.map_cons, List.filter_cons, List.filter_cons, tRow_spell hp]
    cases t p with
    | true => simp only [if_true, List.map_cons, ih, onRow_spell hp]
    | false => simpa using ih
theorem comp_all {ps : List Row} (hps : In15 ps) (f : Row → D) : ((ps.map fun p => D.str (spell p)).filter (fun _ => true)).map (onRow f) = ps.map f := by
  rw [filt_all, List.map_map]
  exact List.map_congr_left fun p hp => onRow_spell (hps p hp)
def onHost (f : Row → D) : D → D
  | .list l => onRow f (.str (Builtin.Str.glued dot (l.reverse.map fun d => match d with
    | .str x => x
    | _ => locS)))
  | _ => .none
def onLad (f : Row → D) : D → D
  | .list (.str x :: _) => onRow f (.str x)
  | _ => .none
theorem onLad_lad {f : Row → D} {r : Row} (hr : r ∈ all15) : onLad f (ladD r) = f r := by
  show onLad f (.list ((lad r).map .str)) = _
  have h0 := lad_at r 0 (Nat.zero_le _)
  rw [Nat.sub_zero, List.take_length] at h0
  cases hl : lad r with
  | nil => rw [hl] at h0; cases h0
  | cons y l =>
    rw [hl] at h0
    cases h0
    exact onRow_spell hr
theorem second_child : ∀ q ∈ all15, ∀ p ∈ all15, decide (((lad q).drop 1).take 1 = [spell p]) = child p q := by decide +kernel
theorem eqv_strs : ∀ a b : List Str, PyData.eqvAll (pys (a.map .str)) (pys (b.map .str)) = decide (a = b)
  | [], [] => by simp [pys, PyData.eqvAll]
  | [], b :: bs => by simp [pys, PyData.eqvAll]
  | a :: as, [] => by simp [pys, PyData.eqvAll]
  | a :: as, b :: bs => by
    have ih := eqv_strs as bs
    have e : PyData.eqv (py (.str a)) (py (.str b)) = (a == b) := rfl
    rw [List.map_cons, List.map_cons, pys, pys, PyData.eqvAll, ih, e]
    by_cases h : a = b <;> by_cases h' : as = bs <;> simp [h, h']
theorem depth_strs : ∀ a : List Str, PyData.depthAll (pys (a.map .str)) = 0
  | [] => rfl
  | a :: as => by simp [pys, py, PyData.depthAll, PyData.depth, depth_strs as]
/-- a table's row -/
def tabRow (rs : List Row) (p : Row) : D := .list [.str (spell p), .int ((rs.flatMap prefs).idxOf p), .int ((rs.flatMap lad).count (spell p)), .int (cnt rs true p), .int (far rs p)]
theorem tabRow_eq {rs : List Row} (hrs : In15 rs) {p : Row} (hp : p ∈ all15) : tabRow rs p = entry rs p ((rs.flatMap prefs).idxOf p) := by
  have h15 : In15 (rs.flatMap prefs) := fun q hq => by
    obtain ⟨r, hr, hq⟩ := List.mem_flatMap.mp hq
    exact prefs_15 (hrs r hr) q hq
  unfold tabRow entry
  rw [strung_eq, count_spell h15 hp, count_names hrs hp, under_eq hrs hp, cnt_true]
theorem tab_eqv (rs : List Row) (l : List Row) (k : Row → Nat) : PyData.eqvAll (pys (l.map fun p => entry rs p (k p))) (pys (l.map fun p => entry rs p (k p))) = true := by
  induction l with
  | nil => rfl
  | cons p l ih =>
    rw [List.map_cons, pys, PyData.eqvAll, ih]
    simp [entry, py, pys, PyData.eqv, PyData.eqvAll]
theorem tab_flat (rs : List Row) (l : List Row) (k : Row → Nat) : flats (l.map fun p => entry rs p (k p)) = true := by
  induction l with
  | nil => rfl
  | cons p l ih => rw [List.map_cons, flats, ih]; rfl
theorem tab_lay (rs : List Row) {l : List Row} (hl : In15 l) (k : Row → Nat) : PyData.canLayAll0 (pys (l.map fun p => entry rs p (k p))) = true := by
  induction l with
  | nil => rfl
  | cons p l ih =>
    rw [List.map_cons, pys, PyData.canLayAll0, ih fun q hq => hl q (by simp [hq])]
    have := all_ok p (hl p (by simp))
    simp [entry, py, pys, PyData.canLay0, PyData.canLayAll0, this]
theorem tab_depth (rs : List Row) (l : List Row) (k : Row → Nat) : PyData.depthAll (pys (l.map fun p => entry rs p (k p))) ≤ 1 := by
  induction l with
  | nil => simp [pys, PyData.depthAll]
  | cons p l ih =>
    rw [List.map_cons, pys, PyData.depthAll]
    have : (py (entry rs p (k p))).depth = 1 := by simp [entry, py, pys, PyData.depth, PyData.depthAll]
    omega
section
variable {prog : Program} {w : World} {hb : Heap} {n : Nat} {P : Params} {sc : Scope} {σ : St}
theorem op_eq_strs {a b : List Str} (ha : Fine a) (hb' : Fine b) : Op2 prog w hb n (compareOp .Eq) (.list (a.map .str)) (.list (b.map .str)) (.bool (decide (a = b))) := by
  rw [← eqv_strs]
  exact op_eq (by simpa [flat] using flats_str a) (by simpa [flat] using flats_str b) (by simpa [py, PyData.canLay0] using lays_str ha) (by simpa [py, PyData.canLay0] using lays_str hb') (Nat.le_trans (Nat.min_le_left _ _) (by show PyData.depthAll (pys (a.map .str)) + 1 ≤ 30; rw [depth_strs]; omega))
theorem op_eq_tab {rs l : List Row} {k : Row → Nat} (hl : In15 l) : Op2 prog w hb n (compareOp .Eq) (.list (l.map fun p => entry rs p (k p))) (.list (l.map fun p => entry rs p (k p))) (.bool true) := by
  have e : true = PyData.eqv (py (.list (l.map fun p => entry rs p (k p)))) (py (.list (l.map fun p => entry rs p (k p)))) := (tab_eqv rs l k).symm
  rw [e]
  have h1 := tab_depth rs l k
  exact op_eq (tab_flat rs l k) (tab_flat rs l k) (tab_lay rs hl k) (tab_lay rs hl k) (Nat.le_trans (Nat.min_le_left _ _) (by show PyData.depthAll (pys (l.map fun p => entry rs p (k p))) + 1 ≤ 30; omega))
theorem Ex.set_comp {ω : St} {rest : List Stmt} {res : Out} {y : Str} {py spos : Pos} {elt iter : Expr} {x : Str} {px : Pos} {ifs : List Expr} {scope : Scope} {pos : Pos} {d : D} {ds L : List D} (tst : D → Bool) (out : D → D) (hL : (ds.filter tst).map out = L) (hr : Ex prog w hb n sc (upd σ y (.list L)) ω rest res)
    (hit : Ev prog w hb n sc σ iter d) (I : Itr prog w hb d ds) (hsz : ds.length ≤ sizeLine) (hy : Kept sc y) (hω : ω y = none)
    (hcell : ∀ y ∈ scope.names, y.2 ≠ .cell) (hkind : scope.kind = .function) (hnames : ∀ y ∈ scope.names, y.2 = .local → scope.names.lookup y.1 = some .local) (hx : scope.names.lookup x = some .local)
    (hfree : ∀ y ∈ scope.names, y.2 = .free → (∃ d, σ y.1 = some d) ∧ (sc.names.lookup y.1 = some .cell ∨ sc.names.lookup y.1 = some .free))
    (ht : ∀ d ∈ ds, Tst prog w hb n (relS scope sc) (cst scope x d σ) ifs (tst d))
    (he : ∀ d ∈ ds, tst d = true → Ev prog w hb n (relS scope sc) (cst scope x d σ) elt (out d))
    (hsw : ∀ env : Env, env.scope = sc → swapsWith (.ListComp elt [⟨.Name x px, iter, ifs, 0⟩] scope pos) (some (.Name y py)) spos.line env = pure true)
    (hs : ∀ (env : Env) x, foldedSetIterable iter env x = pure x := by intro _ _; rfl) :
    Ex prog w hb n sc σ ω (.Assign [.Name y py] (.ListComp elt [⟨.Name x px, iter, ifs, 0⟩] scope pos) spos :: rest) res := by
  subst hL
  have := Ex1.assign_comp (ω := ω) (y := y) (py := py) (spos := spos) (px := px) (pos := pos) tst out hit I hsz hy hcell hkind hnames hx hfree ht he hsw hs
  rw [del_id hω] at this
  exact Ex.cons this (Dom.refl ω) hr
theorem ev_comp {elt iter : Expr} {x : Str} {px : Pos} {ifs : List Expr} {scope : Scope} {pos : Pos} {d : D} {ds L : List D} (tst : D → Bool) (out : D → D) (hL : (ds.filter tst).map out = L)
    (hit : Ev prog w hb n sc σ iter d) (I : Itr prog w hb d ds) (hsz : ds.length ≤ sizeLine)
    (hcell : ∀ y ∈ scope.names, y.2 ≠ .cell) (hkind : scope.kind = .function) (hnames : ∀ y ∈ scope.names, y.2 = .local → scope.names.lookup y.1 = some .local) (hx : scope.names.lookup x = some .local)
    (hfree : ∀ y ∈ scope.names, y.2 = .free → (∃ d, σ y.1 = some d) ∧ (sc.names.lookup y.1 = some .cell ∨ sc.names.lookup y.1 = some .free))
    (ht : ∀ d ∈ ds, Tst prog w hb n (relS scope sc) (cst scope x d σ) ifs (tst d))
    (he : ∀ d ∈ ds, tst d = true → Ev prog w hb n (relS scope sc) (cst scope x d σ) elt (out d))
    (hs : ∀ (env : Env) x, foldedSetIterable iter env x = pure x := by intro _ _; rfl) : Ev prog w hb n sc σ (.ListComp elt [⟨.Name x px, iter, ifs, 0⟩] scope pos) (.list L) := by
  subst hL
  exact Ev.comp tst out hit I hsz hcell hkind hnames hx hfree ht he hs
theorem fn_law (B : Bs (hd.heap_39 P) hb) {ns : List Int} (hns : ns.length ≤ 63) : Fn1 prog w hb 4 (.ref 185) [.wlist (ns.map .int)] (.bool true) := by
  refine fn1_def B (p := Str.ofString "script") ⟨⟨_, _, _, _, _, _, rfl, rfl, rfl, rfl, rfl, rfl, rfl, rfl, rfl, rfl, rfl, bind1 fun _ => rfl⟩, rfl, rfl, rfl, by decide, by decide⟩ rfl ?_
  refine Ex.set (Ev.call (Cal.glob B rfl rfl) (.fn (B.inK _ _ rfl) rfl) (Evs.cons (Ev.name rfl) Evs.nil) ((fn_rows B hns).le (by decide))) (.inl rfl) rfl ?_
  have e0 : ((xs4 ns).map fun x => rowD (rowOf x)) = ((xs4 ns).map rowOf).map rowD := by rw [List.map_map]; rfl
  rw [e0]
  have hrs : In15 ((xs4 ns).map rowOf) := fun r hr => by obtain ⟨x, _, rfl⟩ := List.mem_map.mp hr; exact rowOf_mem x
  have h4 : ((xs4 ns).map rowOf).length = 4 := by rw [List.length_map, xs4_len]
  generalize (xs4 ns).map rowOf = rs at hrs h4 ⊢
  obtain ⟨m, g⟩ := good hrs h4
  refine Ex.set_comp (fun _ => true) (fun d => ladD (unrow d)) (L := rs.map ladD) (by rw [filt_all, List.map_map]; exact List.map_congr_left (fun r _ => by show ladD (unrow (rowD r)) = ladD r; rw [unrow_row])) ?_ (Ev.name rfl) itr_list (line100 (by rw [List.length_map]; omega)) (.inl rfl) rfl (by decide) rfl (by decide) rfl (free0 (by decide)) (fun d hd => Tst.nil) ?_ (by intro env he; cases env; subst he; rfl)
  rotate_left
  · intro d hd _
    obtain ⟨r, hr, rfl⟩ := List.mem_map.mp hd
    rw [unrow_row]
    exact Ev.call (Cal.glob B rfl rfl) (.fn (B.inK _ _ rfl) rfl) (Evs.cons (Ev.call (Cal.glob B rfl rfl) (.fn (B.inK _ _ rfl) rfl) (Evs.cons (Ev.name rfl) Evs.nil) ((fn_spelled B (hrs r hr)).le (by decide))) Evs.nil) (fn_ladder B (hrs r hr))
  have hps := names_15 hrs
  have hnd := names_nodup rs
  have hpl : (nub (rs.flatMap prefs)).length ≤ 16 := by
    have h1 := nub_len (rs.flatMap prefs)
    have h2 := fine_len hrs
    omega
  have hleast := least_eq hrs g
  have hmid := fun (p : Row) (hp : p ∈ nub (rs.flatMap prefs)) => mid_eq hrs g hp
  have hmins := mins_eq hrs h4 g
  have hways := ways_eq hrs h4 g
  have hne : (nub (rs.flatMap prefs)).map (far rs) ≠ [] := by
    obtain ⟨p, hp, h1, _⟩ := g.hit
    intro e
    have := (mem_names hrs hp).mpr h1
    rw [List.map_eq_nil_iff.mp e] at this
    cases this
  refine Ex.set (Ev.call (Cal.glob B rfl rfl) (.fn (B.inK _ _ rfl) rfl) (Evs.cons (Ev.name rfl) Evs.nil) ((fn_ways B hrs (by omega)).le (by decide))) (.inr rfl) rfl ?_
  refine Ex.set (Ev.call (Cal.glob B rfl rfl) (.fn (B.inK _ _ rfl) rfl) (Evs.cons (Ev.name rfl) (Evs.cons (Ev.name rfl) Evs.nil)) (fn_said B hrs (by omega) hps hnd hpl)) (.inl rfl) rfl ?_
  refine Ex.set (Ev.call (Cal.glob B rfl rfl) (.fn (B.inK _ _ rfl) rfl) (Evs.cons (Ev.name rfl) (Evs.cons Ev.bool Evs.nil)) ((fn_counted B (by omega) hps hnd hpl).le (by decide))) (.inr rfl) rfl ?_
  refine Ex.set (Ev.call (Cal.glob B rfl rfl) (.fn (B.inK _ _ rfl) rfl) (Evs.cons (Ev.name rfl) (Evs.cons Ev.bool Evs.nil)) ((fn_counted B (by omega) hps hnd hpl).le (by decide))) (.inr rfl) rfl ?_
  refine Ex.set (Ev.call (Cal.glob B rfl rfl) (.fn (B.inK _ _ rfl) rfl) (Evs.cons (Ev.name rfl) (Evs.cons (Ev.name rfl) Evs.nil)) (fn_far B hrs (by omega) hps hnd hpl)) (.inr rfl) rfl ?_
  generalize hpsd : nub (rs.flatMap prefs) = ps at *
  refine Ex.set (d := .int m) ?_ (.inl rfl) rfl ?_
  · rw [← hleast]
    refine Ev.call (Cal.boot B rfl rfl (by decide +kernel) (by decide)) (.builtin "min") (Evs.cons (d := .list ((ps.map (far rs)).map .int)) (ev_comp (fun _ => true) (onRow fun p => .int (far rs p)) (by rw [comp_all hps, List.map_map]; rfl) (Ev.name rfl) itr_dictL (line100 (by rw [List.length_map]; omega)) (by decide) rfl (by decide) rfl (free1 (f := Str.ofString "total") (by decide) rfl (.inl rfl)) (fun d hd => Tst.nil) ?_) Evs.nil) (fn_min hne)
    intro d hd _
    obtain ⟨p, hp, rfl⟩ := List.mem_map.mp hd
    rw [onRow_spell (hps p hp)]
    exact Ev.sub (Ev.name rfl) (Ev.name rfl) (sub_dict (atKey_in hps hp _))
  refine Ex.loop (fun _ => st [(Str.ofString "hosts", .list (rs.map rowD)), (Str.ofString "climbs", .list (rs.map ladD)), (Str.ofString "names", .dict (dictL ps ladD)), (Str.ofString "holds", .dict (dictL ps fun p => .int (cnt rs true p))), (Str.ofString "lacks", .dict (dictL ps fun p => .int (cnt rs false p))), (Str.ofString "total", .dict (dictL ps fun p => .int (far rs p))), (Str.ofString "least", .int m)]) (fun _ => E0) (Ev.name rfl) itr_dictL (.inr rfl)
    (le_cons rfl (le_cons rfl (le_cons rfl (le_cons rfl (le_cons rfl (le_cons rfl (le_cons rfl le_nil))))))) (Le.refl _) (fun _ => Dom.refl _) (fun _ => rfl) ?_ ?_
  · intro i di hi hdi
    rw [List.getElem?_map] at hdi
    cases hx : ps[i]? with
    | none => rw [hx] at hdi; cases hdi
    | some p =>
      rw [hx] at hdi
      cases hdi
      have hp : p ∈ ps := List.mem_of_getElem? hx
      have hp15 := hps p hp
      refine Ex.set_comp (tRow (child p)) (onRow fun q => .int (cnt rs true q)) (comp_rows hps _ _) ?_ (Ev.name rfl) itr_dictL (line100 (by rw [List.length_map]; omega)) (.inl rfl) rfl (by decide) rfl (by decide) rfl (free3 (f := Str.ofString "names") (f' := Str.ofString "one") (f'' := Str.ofString "holds") (by decide) rfl (.inl rfl) rfl (.inl rfl) rfl (.inl rfl)) ?_ ?_ (by intro env he; cases env; subst he; rfl)
      rotate_left
      · intro d hd
        obtain ⟨q, hq, rfl⟩ := List.mem_map.mp hd
        have hq15 := hps q hq
        have hql := all_len q hq15
        rw [tRow_spell hq15]
        refine Tst.one (Tr.to (Tr.cmp (d₁ := .list ((((lad q).drop 1).take 1).map .str)) (d₂ := .list ([spell p].map .str)) ?_ (Ev.list (Evs.cons (Ev.name rfl) Evs.nil) (line100 (by simp))) (op_eq_strs (fun y hy => fine_lad hq15 y (List.mem_of_mem_drop (List.mem_of_mem_take hy))) (fun y hy => by rw [List.mem_singleton.mp hy]; exact all_ok p hp15))) (second_child q hq15 p hp15))
        rw [List.map_take, List.map_drop]
        exact ev_second (Ev.sub (Ev.name rfl) (Ev.name rfl) (sub_dict (atKey_in hps hq _))) Ev.int Ev.int (line100 (by rw [List.length_map, lad_len]; omega))
      · intro d hd _
        obtain ⟨q, hq, rfl⟩ := List.mem_map.mp hd
        rw [onRow_spell (hps q hq)]
        exact Ev.sub (Ev.name rfl) (Ev.name rfl) (sub_dict (atKey_in hps hq _))
      have hmp := hmid p hp
      refine Ex.set (d := .bool (far rs p == (m : Int))) ?_ (.inl rfl) rfl ?_
      · rw [← hmp]
        refine Ev.and2 (Ev.call (Cal.glob B rfl rfl) (.fn (B.inK _ _ rfl) rfl) (Evs.cons (Ev.bin Ev.int (Ev.sub (Ev.name rfl) (Ev.name rfl) (sub_dict (atKey_in hps hp _))) (op_mul_int (IntMulOk.of_left (by decide)))) (Evs.cons Ev.int Evs.nil)) ((fn_ge B).le (by decide))) (fun _ => ?_)
        refine Ev.call (Cal.glob B rfl rfl) (.fn (B.inK _ _ rfl) rfl) (Evs.cons (Ev.bin Ev.int (Ev.call (Cal.boot B rfl rfl (by decide +kernel) (by decide)) (.builtin "max") (Evs.cons (d := .list ((0 :: ((ps.filter (child p)).map fun q => (cnt rs true q : Int))).map .int)) ?_ Evs.nil) (fn_max (by simp))) (op_mul_int (IntMulOk.of_left (by decide)))) (Evs.cons Ev.int Evs.nil)) ((fn_le B).le (by decide))
        have e : ((0 :: ((ps.filter (child p)).map fun q => (cnt rs true q : Int))).map D.int) = [.int 0] ++ (ps.filter (child p)).map fun q => D.int (cnt rs true q) := by rw [List.map_cons, List.map_map]; rfl
        rw [e]
        exact Ev.bin (Ev.list (Evs.cons Ev.int Evs.nil) (line100 (by simp))) (Ev.name rfl) (op_add_list (line100 (by rw [List.length_map]; have := List.length_filter_le (child p) ps; simp; omega)))
      refine Ex.ff (Tr.to (Tr.cmp (Ev.name rfl) (Ev.cmp (Ev.sub (Ev.name rfl) (Ev.name rfl) (sub_dict (atKey_in hps hp _))) (Ev.name rfl) op_eq_int) op_ne_bool) (by simp)) ?_
      exact Ex.nil_weak (le_cons rfl (le_cons rfl (le_cons rfl (le_cons rfl (le_cons rfl (le_cons rfl (le_cons rfl le_nil))))))) (Le.refl _)
  have hcomp : ∀ {f : Row → Int}, (ps.map f).map D.int = ps.map fun p => D.int (f p) := fun {f} => by rw [List.map_map]; rfl
  refine Ex.ff (Tr.to (Tr.cmp (d₁ := .int m) (hmins ▸ Ev.call (Cal.boot B rfl rfl (by decide +kernel) (by decide)) (.builtin "sum") (Evs.cons (d := .list ((ps.map fun p => min (cnt rs true p : Int) (cnt rs false p)).map .int)) (ev_comp (fun _ => true) (onRow fun p => .int (min (cnt rs true p : Int) (cnt rs false p))) (by rw [comp_all hps, hcomp]) (Ev.name rfl) itr_dictL (line100 (by rw [List.length_map]; omega)) (by decide) rfl (by decide) rfl (free2 (f := Str.ofString "holds") (f' := Str.ofString "lacks") (by decide) rfl (.inl rfl) rfl (.inl rfl)) (fun d hd => Tst.nil) ?_) Evs.nil) fn_sum) (Ev.name rfl) op_ne_int) (by simp)) ?_
  · intro d hd _
    obtain ⟨p, hp, rfl⟩ := List.mem_map.mp hd
    rw [onRow_spell (hps p hp)]
    exact Ev.call (Cal.boot B rfl rfl (by decide +kernel) (by decide)) (.builtin "min") (Evs.cons (Ev.sub (Ev.name rfl) (Ev.name rfl) (sub_dict (atKey_in hps hp _))) (Evs.cons (Ev.sub (Ev.name rfl) (Ev.name rfl) (sub_dict (atKey_in hps hp _))) Evs.nil)) fn_min2
  have hbits : ∀ k : Nat, k ≤ 4 → Builtin.Int.intBits (k : Int) ≤ 64 := by
    have : ∀ k : Nat, k < 5 → Builtin.Int.intBits (k : Int) ≤ 64 := by decide +kernel
    exact fun k hk => this k (by omega)
  have hc4 : ∀ p, cnt rs true p ≤ 4 := fun p => by have := cnt_both rs p; omega
  have hall : ∀ r ∈ rs, r ∈ ps := fun r hr => by
    rw [← hpsd]
    exact mem_nub.mpr (List.mem_flatMap.mpr ⟨r, hr, by have := List.mem_of_getElem? (prefs_at r 0 (Nat.zero_le _)); rwa [Nat.sub_zero, List.take_length] at this⟩)
  refine Ex.ff (Tr.to (Tr.cmp (d₁ := .int (2 * (ps.map fun p => (cnt rs true p : Int) * (4 - (cnt rs true p : Int))).sum)) (d₂ := .int ((rs.map fun r => far rs r).sum)) ?_ ?_ op_ne_int) (by rw [hways]; simp)) ?_
  · refine Ev.bin Ev.int (Ev.call (Cal.boot B rfl rfl (by decide +kernel) (by decide)) (.builtin "sum") (Evs.cons (d := .list ((ps.map fun p => (cnt rs true p : Int) * (4 - (cnt rs true p : Int))).map .int)) (ev_comp (fun _ => true) (onRow fun p => .int ((cnt rs true p : Int) * (4 - (cnt rs true p : Int)))) (by rw [comp_all hps, hcomp]) (Ev.name rfl) itr_dictL (line100 (by rw [List.length_map]; omega)) (by decide) rfl (by decide) rfl (free1 (f := Str.ofString "holds") (by decide) rfl (.inl rfl)) (fun d hd => Tst.nil) ?_) Evs.nil) fn_sum) (op_mul_int (IntMulOk.of_left (by decide)))
    intro d hd _
    obtain ⟨p, hp, rfl⟩ := List.mem_map.mp hd
    rw [onRow_spell (hps p hp)]
    exact Ev.call (Cal.glob B rfl rfl) (.fn (B.inK _ _ rfl) rfl) (Evs.cons (Ev.sub (Ev.name rfl) (Ev.name rfl) (sub_dict (atKey_in hps hp _))) (Evs.cons (Ev.call (Cal.glob B rfl rfl) (.fn (B.inK _ _ rfl) rfl) (Evs.cons Ev.int (Evs.cons (Ev.sub (Ev.name rfl) (Ev.name rfl) (sub_dict (atKey_in hps hp _))) Evs.nil)) ((fn_sub B).le (by decide))) Evs.nil)) ((fn_mul B (IntMulOk.of_left (hbits _ (hc4 p)))).le (by decide))
  · refine Ev.call (Cal.boot B rfl rfl (by decide +kernel) (by decide)) (.builtin "sum") (Evs.cons (d := .list ((rs.map fun r => far rs r).map .int)) (ev_comp (fun _ => true) (onLad fun p => .int (far rs p)) (by rw [filt_all, List.map_map, List.map_map]; exact List.map_congr_left (fun r hr => onLad_lad (hrs r hr))) (Ev.name rfl) itr_list (line100 (by rw [List.length_map]; omega)) (by decide) rfl (by decide) rfl (free1 (f := Str.ofString "total") (by decide) rfl (.inl rfl)) (fun d hd => Tst.nil) ?_) Evs.nil) fn_sum
    intro d hd _
    obtain ⟨r, hr, rfl⟩ := List.mem_map.mp hd
    rw [onLad_lad (hrs r hr)]
    have h0 := lad_at r 0 (Nat.zero_le _)
    rw [Nat.sub_zero, List.take_length] at h0
    exact Ev.sub (Ev.name rfl) (Ev.sub (Ev.name rfl) Ev.int (sub_list (by decide) (by decide) (show ((lad r).map D.str)[(0 : Int).toNat]? = some (.str (spell r)) by rw [List.getElem?_map]; show ((lad r)[0]?).map D.str = _; rw [h0]; rfl))) (sub_dict (atKey_in hps (hall r hr) _))
  refine Ex.set (Ev.call (Cal.glob B rfl rfl) (.fn (B.inK _ _ rfl) rfl) (Evs.cons (Ev.name rfl) Evs.nil) ((fn_strung B hrs (by omega)).le (by decide))) (.inr rfl) rfl ?_
  have htab := fn_table (prog := prog) (w := w) B hrs (by omega)
  rw [hpsd] at htab
  have hL15 : In15 (rs.flatMap prefs) := fun q hq => by
    obtain ⟨r, hr, hq⟩ := List.mem_flatMap.mp hq
    exact prefs_15 (hrs r hr) q hq
  refine Ex.ret (Ev.cmp (d₁ := .list (ps.map fun p => entry rs p ((rs.flatMap prefs).idxOf p))) (d₂ := .list (ps.map fun p => entry rs p ((rs.flatMap prefs).idxOf p))) (ev_comp (fun _ => true) (onRow fun p => entry rs p ((rs.flatMap prefs).idxOf p)) (comp_all hps _) (Ev.name rfl) itr_dictL (line100 (by rw [List.length_map]; omega)) (by decide) rfl (by decide) rfl (free3 (f := Str.ofString "row_of_all") (f' := Str.ofString "holds") (f'' := Str.ofString "total") (by decide) rfl (.inl rfl) rfl (.inl rfl) rfl (.inl rfl)) (fun d hd => Tst.nil) ?_) (Ev.call (Cal.glob B rfl rfl) (.fn (B.inK _ _ rfl) rfl) (Evs.cons (Ev.name rfl) Evs.nil) (htab.le (by decide))) (op_eq_tab hps))
  intro d hd _
  obtain ⟨p, hp, rfl⟩ := List.mem_map.mp hd
  have hp15 := hps p hp
  rw [onRow_spell hp15, ← tabRow_eq hrs hp15]
  obtain ⟨i1, i2⟩ := idx_spell hL15 (p := p) (mem_nub.mp (hpsd ▸ hp))
  rw [← strung_eq] at i1 i2
  exact Ev.list (Evs.cons (Ev.name rfl) (Evs.cons (Ev.call (Cal.glob B rfl rfl) (.fn (B.inK _ _ rfl) rfl) (Evs.cons (Ev.name rfl) (Evs.cons (Ev.name rfl) Evs.nil)) ((fn_indexOf B i1 i2).le (by decide))) (Evs.cons (Ev.call (Cal.glob B rfl rfl) (.fn (B.inK _ _ rfl) rfl) (Evs.cons (Ev.name rfl) (Evs.cons (Ev.name rfl) Evs.nil)) ((fn_countOf_str B).le (by decide))) (Evs.cons (Ev.sub (Ev.name rfl) (Ev.name rfl) (sub_dict (atKey_in hps hp _))) (Evs.cons (Ev.sub (Ev.name rfl) (Ev.name rfl) (sub_dict (atKey_in hps hp _))) Evs.nil))))) (line100 (by simp))
end
theorem ns_none {K : Frag} {h : Heap} {ns : Addr} {m : Str → Option Value} {n : Str} (X : K.In h) (G : h.Ns ns m) (e : nsIn K ns n = some none) : m n = none := by
  obtain ⟨o, es, ep, ho, hd, _, hf⟩ := G
  unfold nsIn at e
  split at e
  · rename_i c d es' n' sl q
    have := X _ _ q
    rw [ho] at this
    cases this
    cases hd
    split at e
    · cases e
    · rename_i he
      rw [← hf]
      unfold nsFind findBy
      rw [← Array.find?_toList, he]
      rfl
  · cases e
theorem has_true : WShape.has [] (.bool true) .bool = true := by decide +kernel
theorem same_true : PySem.W.same (.bool true) (.bool true) = true := by decide +kernel
theorem post_true (xs ys : List WData) : (WShape.has [] (.bool true) .bool && WTm.holds [] (.eq .res (.lit (.bool true))) { args := xs, res := some (.bool true), after := ys }) = true := by
  rw [has_true]
  simp [WTm.holds, WTm.value, same_true]
theorem reps_ints {prog : Program} {w : World} {g : Froz} : ∀ {vs : List Value} {ns : List Int}, IntsAre vs ns → Reps prog w g vs (ns.map .int)
  | _, _, .nil => .nil
  | _, _, .cons n t r => .cons (.int n t) (reps_ints r)
theorem law_call {w : World} {s : Shared} {mg mb : Str → Option Value} {p : Program} {loose : List Str} {mean : ExcName → Option Value} {fa L : Addr} {vs : List Value} {ns : List Int} {Q : Value → Shared → Prop} {E : Value → Shared → Prop} {prog : Program}
    (KX : (hd.heap_39 w.params).In s.heap) (T : Top p loose mean mg mb s.heap) (hm : mg (Str.ofString "law") = some (.ref fa)) (hL : s.heap.IsList L vs.toArray) (hI : IntsAre vs ns) (hn : ns.length ≤ 63)
    (h : ∀ s', (∀ b o, s.heap.get? b = some o → s'.heap.get? b = some o) → s'.os = s.os → s'.gens = s.gens → Q (.bool true) s') : wpAny (model prog w) callerA (call (.ref fa) [.ref L]) Q E s := by
  have B : Bs (hd.heap_39 w.params) s.heap := ⟨KX, ⟨mg, T.g⟩, ⟨mb, T.b, T.builtins⟩, T.nolimit, by
    obtain ⟨mc, h1, _⟩ := T.nodigits
    exact ⟨mc, h1, ns_none KX h1 rfl⟩⟩
  have e := mg_of KX T.g (n := Str.ofString "law") (v := .ref 185) rfl
  rw [hm] at e
  cases e
  obtain ⟨o, ho, hc, n, hd⟩ := hL
  refine fn_law B hn callerA ⟨s.heap.get?, fun _ => none⟩ s [.ref L] Q E ⟨rfl, by decide +kernel, by decide +kernel⟩ ⟨fun _ _ e => e, fun _ _ e => e, fun _ _ e => nomatch e⟩ (.cons (.wlist ho hc hd (reps_ints hI)) .nil) fun v g' s' k r => ?_
  cases r
  obtain ⟨⟨h', tk, rfl, hk⟩, _⟩ := k
  exact h _ hk rfl rfl
end Mine
theorem PySem.Challenge.cw_re0043_01_holds : PySem.Challenge.rw_re0043_01.Holds := by
  refine Mine.hd ?_
  intro w s₀ s₁ mg mb G Y fa o pm cd doc dV kV ho hd hcd hD hmg hg args vals as hpre hlay hrd hwl hlo
  have KX := kIn_of Y
  have hmg' : mg (Str.ofString "law") = some (.ref fa) := hmg
  refine Ground.open G ?_
  intro T B D TE TW
  clear hd hcd hD hmg Y
  wrow_args hpre hlay hrd hwl hlo
  rename_i hL ra w1 r0 hI hr hc _
  refine Mine.law_call KX T hmg' hL hI (by omega) fun s' hk hos hgn => GoodW.toG ⟨.inl ⟨_, .bool true, [], rfl, fun _ => rfl, .bool true, ?_, unshared_nil⟩, hk, hos, hgn.trans hg⟩
  exact Mine.post_true _ _
