import PyProof.Rows.All
import Wide.All
import OpenK.AllK
import Wide.FinOn
import Lean
import PySem.Challenge.RW_gk0004_01
set_option Elab.async false
set_option linter.unusedVariables false
open PySem PySem.W PyProof.Rows
set_option maxRecDepth 100000 in
set_option maxHeartbeats 8000000 in
open_top Mine.hd for PySem.Challenge.rw_gk0004_01
open PySem PySem.W PySem.Calls PyProof.Rows
namespace Mine
/-- every object of g stands in h -/
def Sub (g h : Heap) : Prop := ∀ b o, g.get? b = some o → h.get? b = some o
theorem Sub.refl (g : Heap) : Sub g g := fun _ _ e => e
theorem Sub.trans {g h k : Heap} (x : Sub g h) (y : Sub h k) : Sub g k := fun b o e => y b o (x b o e)
theorem keepsRefl (s : Shared) : Keeps s s := ⟨s.heap, s.toks, rfl, fun _ _ e => e⟩
theorem keepsTrans {s s' s'' : Shared} (x : Keeps s s') (y : Keeps s' s'') : Keeps s s'' := by
  obtain ⟨h, t, rfl, k⟩ := x
  obtain ⟨h', t', rfl, k'⟩ := y
  exact ⟨h', t', rfl, fun b o e => k' b o (k b o e)⟩
theorem keepsSub {s s' : Shared} (x : Keeps s s') : Sub s.heap s'.heap := by
  obtain ⟨h, t, rfl, k⟩ := x
  exact k
theorem keepsTok (s : Shared) (t : Nat) : Keeps s { s with toks := t } := ⟨s.heap, t, rfl, fun _ _ e => e⟩
theorem keepsOf {s : Shared} {h : Heap} {t : Nat} (k : Sub s.heap h) : Keeps s { s with heap := h, toks := t } := ⟨h, t, rfl, k⟩
theorem keepsPush (s : Shared) (o : Obj) : Keeps s { s with heap := s.heap.push o } := ⟨_, s.toks, rfl, fun _ _ e => Heap.get?_push_of_some _ e⟩
/-- views: parts of a heap that stay as they are -/
abbrev View := Addr → Option Obj
def Le (g g' : View) : Prop := ∀ a o, g a = some o → g' a = some o
def On (g : View) (h : Heap) : Prop := ∀ a o, g a = some o → h.get? a = some o
theorem Le.refl (g : View) : Le g g := fun _ _ e => e
theorem Le.trans {a b c : View} (x : Le a b) (y : Le b c) : Le a c := fun p o e => y p o (x p o e)
theorem On.le {g g' : View} {h : Heap} (x : On g' h) (y : Le g g') : On g h := fun p o e => x p o (y p o e)
theorem On.sub {g : View} {h h' : Heap} (x : On g h) (y : Sub h h') : On g h' := fun p o e => y p o (x p o e)
/-- g and one object more -/
def ext (g : View) (a : Addr) (o : Obj) : View := fun b => if b = a then some o else g b
theorem ext_self (g : View) (a : Addr) (o : Obj) : ext g a o a = some o := by simp [ext]
theorem le_ext {g : View} {a : Addr} {o : Obj} (h : g a = none) : Le g (ext g a o) := fun b o' e => by
  by_cases hb : b = a
  · subst hb; rw [h] at e; cases e
  · simp [ext, hb, e]
/-- what is said of a value -/
structure VP where
  is : Value → View → Prop
  mono : ∀ {v : Value} {g g' : View}, Le g g' → is v g → is v g'
/-- the end of an expression: all that stood stands, the view has grown by new objects alone -/
def Fin {α : Type} (g : View) (s : Shared) (P : α → View → Prop) (v : α) (s' : Shared) : Prop :=
  Keeps s s' ∧ ∃ g', Le g g' ∧ On g' s'.heap ∧ (∀ a o, g' a = some o → g a = some o ∨ s.heap.get? a = none) ∧ P v g'
/-- t, run where r and g stand, ends without a raise and gives P -/
structure Ev {α : Type} (prog : Program) (w : World) (A : Around) (r : Heap) (g : View) (t : Sem α) (P : α → View → Prop) : Prop where
  run : ∀ s : Shared, Sub r s.heap → On g s.heap → wpAny (model prog w) A t (Fin g s P) (fun _ _ => False) s
section
variable {α β : Type} {prog : Program} {w : World} {A : Around} {r r' : Heap} {g g' : View} {s s' : Shared}
theorem Fin.same {P : α → View → Prop} {v : α} (hg : On g s.heap) (h : P v g) : Fin g s P v s := ⟨keepsRefl s, g, Le.refl g, hg, fun _ _ e => .inl e, h⟩
theorem Fin.tok {P : α → View → Prop} {v : α} {t : Nat} (hg : On g s.heap) (h : P v g) : Fin g s P v { s with toks := t } := ⟨keepsTok s t, g, Le.refl g, hg, fun _ _ e => .inl e, h⟩
theorem Fin.keeps {P : α → View → Prop} {v : α} (k : Keeps s s') (hg : On g s.heap) (h : P v g) : Fin g s P v s' := ⟨k, g, Le.refl g, hg.sub (keepsSub k), fun _ _ e => .inl e, h⟩
theorem Fin.new {P : α → View → Prop} {v : α} {a : Addr} {o : Obj} (k : Keeps s s') (hg : On g s.heap) (hn : s.heap.get? a = none) (ho : s'.heap.get? a = some o) (h : P v (ext g a o)) : Fin g s P v s' := by
  have hga : g a = none := by
    cases e : g a with
    | none => rfl
    | some o' => rw [hg a o' e] at hn; cases hn
  refine ⟨k, ext g a o, le_ext hga, fun b o' e => ?_, fun b o' e => ?_, h⟩
  · by_cases hb : b = a
    · subst hb; simp [ext] at e; subst e; exact ho
    · simp [ext, hb] at e; exact keepsSub k _ _ (hg _ _ e)
  · by_cases hb : b = a
    · subst hb; exact .inr hn
    · simp [ext, hb] at e; exact .inl e
theorem fresh_size (h : Heap) : h.get? h.objs.size = none := by
  cases e : h.get? h.objs.size with
  | none => rfl
  | some o => exact absurd (Heap.lt_size e) (Nat.lt_irrefl _)
theorem Fin.push {P : α → View → Prop} {v : α} {o : Obj} {t : Nat} (hg : On g s.heap) (h : P v (ext g s.heap.objs.size o)) (hf : o.isFreed = false := by rfl) : Fin g s P v { s with heap := s.heap.push o, toks := t } :=
  Fin.new (a := s.heap.objs.size) ⟨_, _, rfl, fun _ _ e => Heap.get?_push_of_some _ e⟩ hg (fresh_size _) (Heap.get?_push_size _ hf) h
theorem Ev.up {t : Sem α} {P : α → View → Prop} (h : Ev prog w A r g t P) (k : Sub r r') : Ev prog w A r' g t P := .mk fun s hs => h.run s (k.trans hs)
theorem Ev.mono {t : Sem α} {P P' : α → View → Prop} (h : Ev prog w A r g t P) (k : ∀ v g', Le g g' → P v g' → P' v g') : Ev prog w A r g t P' :=
  .mk fun s hs hg => wpAny_mono (h.run s hs hg) (fun v s' x => ⟨x.1, let ⟨g', a, b, c, d⟩ := x.2; ⟨g', a, b, c, k v g' a d⟩⟩) fun _ _ f => f
theorem Ev.pure {a : α} {P : α → View → Prop} (h : P a g) : Ev prog w A r g (Pure.pure a : Sem α) P := .mk fun s hs hg => wpAny_pure (Fin.same hg h)
theorem Fin.trans {P : α → View → Prop} {P' : β → View → Prop} {v : α} {u : β} {s'' : Shared} (x : Fin g s P v s') (y : ∀ g', Le g g' → On g' s'.heap → P v g' → Fin g' s' P' u s'') : Fin g s P' u s'' := by
  obtain ⟨k, g', a, b, c, d⟩ := x
  obtain ⟨k', g'', a', b', c', d'⟩ := y g' a b d
  refine ⟨keepsTrans k k', g'', a.trans a', b', fun p o e => ?_, d'⟩
  rcases c' p o e with e | e
  · exact c p o e
  · refine .inr ?_
    cases e' : s.heap.get? p with
    | none => rfl
    | some o' => rw [keepsSub k _ _ e'] at e; cases e
theorem Ev.bind {m : Sem α} {f : α → Sem β} {P : α → View → Prop} {P' : β → View → Prop} (hm : Ev prog w A r g m P)
    (hf : ∀ v g', Le g g' → P v g' → Ev prog w A r g' (f v) P') : Ev prog w A r g (m >>= f) P' := .mk fun s hs hg => by
  refine wpAny_bind (wpAny_mono (hm.run s hs hg) (fun v s' x => ?_) fun _ _ f => f)
  obtain ⟨k, g', a, b, c, d⟩ := x
  refine wpAny_mono ((hf v g' a d).run s' (hs.trans (keepsSub k)) b) (fun u s'' y => ?_) fun _ _ f => f
  exact Fin.trans (P := fun _ g'' => g'' = g') (v := v) ⟨k, g', a, b, c, rfl⟩ (fun g'' _ _ e => e ▸ y)
/-- use of an expression inside a longer run -/
theorem Ev.use {t : Sem α} {P : α → View → Prop} {Q : α → Shared → Prop} {E : Value → Shared → Prop} (h : Ev prog w A r g t P) (hs : Sub r s.heap) (hg : On g s.heap)
    (k : ∀ v s' g', Keeps s s' → Le g g' → On g' s'.heap → (∀ a o, g' a = some o → g a = some o ∨ s.heap.get? a = none) → P v g' → Q v s') : wpAny (model prog w) A t Q E s :=
  wpAny_mono (h.run s hs hg) (fun v s' x => let ⟨g', a, b, c, d⟩ := x.2; k v s' g' x.1 a b c d) fun _ _ f => f.elim
/-- the general way in: a rule of the library, then an expression behind it -/
theorem Ev.seq {t : Sem α} {P : α → View → Prop} (P' : β → View → Prop) {Q : α → Shared → Prop} {E : Value → Shared → Prop} (h : Ev prog w A r g t P) (hs : Sub r s.heap) (hg : On g s.heap)
    (k : ∀ v s' g', Keeps s s' → Le g g' → On g' s'.heap → P v g' → (∀ u s'', Fin g' s' P' u s'' → Fin g s P' u s'') → Q v s') : wpAny (model prog w) A t Q E s :=
  h.use hs hg fun v s' g' a b c d e => k v s' g' a b c e fun u s'' y => Fin.trans (P := fun _ g'' => g'' = g') (v := v) ⟨a, g', b, c, d, rfl⟩ (fun g'' _ _ e => e ▸ y)
end
/-- the values -/
def I (i : Int) : VP := ⟨fun v _ => ∃ t, v = .int i t, fun _ h => h⟩
def S (x : Str) : VP := ⟨fun v _ => ∃ t, v = .str x t, fun _ h => h⟩
def B (b : Bool) : VP := ⟨fun v _ => v = .bool b, fun _ h => h⟩
def C (u : Value) : VP := ⟨fun v _ => v = u, fun _ h => h⟩
def Any : VP := ⟨fun _ _ => True, fun _ h => h⟩
def listObj (vs : List Value) (n : Nat) : Obj := { cls := .type "list", data := .seq vs.toArray n }
def tupObj (vs : List Value) : Obj := { cls := .type "tuple", data := .seq vs.toArray }
/-- vs are the xs, one by one -/
inductive Are {α : Type} (P : α → VP) (g : View) : List α → List Value → Prop
  | nil : Are P g [] []
  | cons {x : α} {v : Value} {xs : List α} {vs : List Value} : (P x).is v g → Are P g xs vs → Are P g (x :: xs) (v :: vs)
theorem Are.mono {α : Type} {P : α → VP} {g g' : View} (k : Le g g') : ∀ {xs : List α} {vs : List Value}, Are P g xs vs → Are P g' xs vs
  | _, _, .nil => .nil
  | _, _, .cons h r => .cons ((P _).mono k h) (r.mono k)
theorem Are.length {α : Type} {P : α → VP} {g : View} : ∀ {xs : List α} {vs : List Value}, Are P g xs vs → vs.length = xs.length
  | _, _, .nil => rfl
  | _, _, .cons h r => by simp [r.length]
theorem Are.get {α : Type} {P : α → VP} {g : View} : ∀ {xs : List α} {vs : List Value}, Are P g xs vs → ∀ {i : Nat} {v : Value}, vs[i]? = some v → ∃ x, xs[i]? = some x ∧ (P x).is v g
  | _, _, .nil, i, v, h => by simp at h
  | _, _, .cons (x := x) h r, 0, v, e => by simp at e; subst e; exact ⟨x, by simp, h⟩
  | _, _, .cons h r, i + 1, v, e => by simp at e; simpa using r.get e
theorem Are.get' {α : Type} {P : α → VP} {g : View} : ∀ {xs : List α} {vs : List Value}, Are P g xs vs → ∀ {i : Nat} {x : α}, xs[i]? = some x → ∃ v, vs[i]? = some v ∧ (P x).is v g
  | _, _, .nil, i, v, h => by simp at h
  | _, _, .cons (v := v) h r, 0, x, e => by simp at e; subst e; exact ⟨v, by simp, h⟩
  | _, _, .cons h r, i + 1, v, e => by simp at e; simpa using r.get' e
theorem Are.append {α : Type} {P : α → VP} {g : View} : ∀ {xs ys : List α} {vs us : List Value}, Are P g xs vs → Are P g ys us → Are P g (xs ++ ys) (vs ++ us)
  | _, _, _, _, .nil, h => h
  | _, _, _, _, .cons a r, h => .cons a (r.append h)
theorem Are.drop {α : Type} {P : α → VP} {g : View} : ∀ {xs : List α} {vs : List Value} (k : Nat), Are P g xs vs → Are P g (xs.drop k) (vs.drop k)
  | _, _, 0, h => h
  | _, _, k + 1, .nil => by simpa using Are.nil
  | _, _, k + 1, .cons a r => by simpa using r.drop k
theorem Are.take {α : Type} {P : α → VP} {g : View} : ∀ {xs : List α} {vs : List Value} (k : Nat), Are P g xs vs → Are P g (xs.take k) (vs.take k)
  | _, _, 0, h => by simpa using Are.nil
  | _, _, k + 1, .nil => by simpa using Are.nil
  | _, _, k + 1, .cons a r => by simpa using Are.cons a (r.take k)
theorem Are.strs {g : View} : ∀ {xs : List Str} {vs : List Value}, Are S g xs vs → StrsAre vs xs
  | _, _, .nil => .nil
  | _, _, .cons ⟨t, h⟩ r => h ▸ .cons _ t r.strs
theorem Are.of_strs {g : View} : ∀ {xs : List Str} {vs : List Value}, StrsAre vs xs → Are S g xs vs
  | _, _, .nil => .nil
  | _, _, .cons y t r => .cons ⟨t, rfl⟩ (Are.of_strs r)
theorem Are.ints {g : View} : ∀ {xs : List Int} {vs : List Value}, Are I g xs vs → IntsAre vs xs
  | _, _, .nil => .nil
  | _, _, .cons ⟨t, h⟩ r => h ▸ .cons _ t r.ints
theorem Are.of_ints {g : View} : ∀ {xs : List Int} {vs : List Value}, IntsAre vs xs → Are I g xs vs
  | _, _, .nil => .nil
  | _, _, .cons y t r => .cons ⟨t, rfl⟩ (Are.of_ints r)
/-- a list that stays as it is -/
def L {α : Type} (P : α → VP) (xs : List α) : VP :=
  ⟨fun v g => ∃ a vs n, v = .ref a ∧ g a = some (listObj vs n) ∧ Are P g xs vs, fun k ⟨a, vs, n, e, h, r⟩ => ⟨a, vs, n, e, k _ _ h, r.mono k⟩⟩
/-- a host's word: ('of', host, 'zone') -/
def Wd (x : Str) : VP :=
  ⟨fun v g => ∃ a t₁ t t₂, v = .ref a ∧ g a = some (tupObj [.str "of" t₁, .str x t, .str "zone" t₂]), fun k ⟨a, t₁, t, t₂, e, h⟩ => ⟨a, t₁, t, t₂, e, k _ _ h⟩⟩
/-- names of a frame and what is said of their values; the newest first -/
abbrev Cx := List (Str × VP)
def Readable (h : Heap) (env : Env) (x : Str) (v : Value) : Prop :=
  (env.kindOf x = some .local ∧ ∃ m, h.Ns env.locals m ∧ m x = some v) ∨
  (∃ c, (env.kindOf x = some .cell ∨ env.kindOf x = some .free) ∧ env.cells.lookup x = some c ∧ h.IsCell c (some v))
theorem Readable.sub {h h' : Heap} {env : Env} {x : Str} {v : Value} (k : Sub h h') : Readable h env x v → Readable h' env x v
  | .inl ⟨a, m, b, c⟩ => .inl ⟨a, m, b.keeps k, c⟩
  | .inr ⟨c, a, b, d⟩ => .inr ⟨c, a, b, d.keeps k⟩
def Var (h : Heap) (g : View) (env : Env) (x : Str) (P : VP) : Prop := ∃ v, Readable h env x v ∧ P.is v g
theorem Var.up {h h' : Heap} {g g' : View} {env : Env} {x : Str} {P : VP} (k : Sub h h') (l : Le g g') : Var h g env x P → Var h' g' env x P :=
  fun ⟨v, a, b⟩ => ⟨v, a.sub k, P.mono l b⟩
/-- what stands from the start: the text's own objects, the two tables of names -/
structure Gd (w : World) (h : Heap) : Prop where
  kin : (Mine.hd.heap_39 w.params).In h
  lim : h.NoLimit
  glob : ∃ mg, h.Ns mainGlobals mg
  blt : ∃ mb, h.Ns builtinsNs mb ∧ ∀ x : Str, x ≠ "__name__" → mb x = bootBuiltins x
  dig : ∃ mc, h.Ns cStatics mc ∧ mc "sys.int_max_str_digits" = none
  seer : h.NoSeer
theorem Gd.sub {w : World} {h h' : Heap} (G : Gd w h) (k : Sub h h') : Gd w h' :=
  ⟨G.kin.keeps k, G.lim.keeps k, let ⟨mg, e⟩ := G.glob; ⟨mg, e.keeps k⟩, let ⟨mb, e, r⟩ := G.blt; ⟨mb, e.keeps k, r⟩, let ⟨mb, e, r⟩ := G.dig; ⟨mb, e.keeps k, r⟩, G.seer.keeps k⟩
/-- what is said of an object that changes -/
structure MP where
  is : Obj → View → Prop
  mono : ∀ {o : Obj} {g g' : View}, Le g g' → is o g → is o g'
/-- what an expression may read -/
structure Rd (w : World) (r : Heap) (g : View) (env : Env) (Γ : Cx) (mu : List (Addr × MP)) : Prop where
  gd : Gd w r
  vars : ∀ x P, Γ.lookup x = some P → Var r g env x P
  muts : ∀ a M, mu.lookup a = some M → ∃ o, r.get? a = some o ∧ M.is o g
  fn : env.scope.kind = .function
  gl : env.globals = mainGlobals
  bl : env.builtins = builtinsNs
theorem Rd.up {w : World} {r r' : Heap} {g g' : View} {env : Env} {Γ : Cx} {mu : List (Addr × MP)} (R : Rd w r g env Γ mu) (k : Sub r r') (l : Le g g') : Rd w r' g' env Γ mu :=
  ⟨R.gd.sub k, fun x P e => (R.vars x P e).up k l, fun a M e => let ⟨o, h, m⟩ := R.muts a M e; ⟨o, k _ _ h, M.mono l m⟩, R.fn, R.gl, R.bl⟩
/-- room for n more frames -/
structure Rm (A : Around) (n : Nat) : Prop where
  hd : A.handled = none
  dp : A.depth + n ≤ 850
  un : A.units + 20 * n + 200 ≤ cLine
  fr : ∃ (e : Env) (l : List Env), A.frames = some (e :: l) ∧ e.scope.isGenerator = false ∧ e.scope.isCoroutine = false ∧ e.builtins = builtinsNs ∧ e.globals = mainGlobals
theorem Rm.deeper {A : Around} {n : Nat} (R : Rm A (n + 1)) {env : Env} (h1 : env.scope.isGenerator = false) (h2 : env.scope.isCoroutine = false) (h3 : env.builtins = builtinsNs) (h4 : env.globals = mainGlobals) : Rm (A.deeper env) n := by
  obtain ⟨a, b, c, e, l, hf, _⟩ := R
  refine ⟨a, ?_, ?_, env, e :: l, ?_, h1, h2, h3, h4⟩
  · simp only [Around.deeper]; omega
  · simp only [Around.deeper]; omega
  · simp only [Around.deeper, hf, Option.map_some]
theorem Rm.down {A : Around} {n k : Nat} (R : Rm A n) (h : k ≤ n) : Rm A k := ⟨R.hd, by have := R.dp; omega, by have := R.un; omega, R.fr⟩
end Mine
open PySem PySem.W PySem.Calls PyProof.Rows
namespace Mine
section
variable {prog : Program} {w : World} {A : Around} {env : Env} {Γ : Cx} {mu : List (Addr × MP)} {n : Nat}
/-- an expression, by what may be read -/
def Ex (prog : Program) (w : World) (A : Around) (env : Env) (Γ : Cx) (mu : List (Addr × MP)) (e : Expr) (P : VP) : Prop :=
  ∀ r g, Rd w r g env Γ mu → Ev prog w A r g (eval e env) P.is
/-- operations on values -/
def Op1 (prog : Program) (w : World) (A : Around) (env : Env) (Γ : Cx) (mu : List (Addr × MP)) {α : Type} (f : Value → Sem α) (P : VP) (Q : α → View → Prop) : Prop :=
  ∀ r g v, Rd w r g env Γ mu → P.is v g → Ev prog w A r g (f v) Q
def Op2 (prog : Program) (w : World) (A : Around) (env : Env) (Γ : Cx) (mu : List (Addr × MP)) (f : Value → Value → Sem Value) (P P' Q : VP) : Prop :=
  ∀ r g v u, Rd w r g env Γ mu → P.is v g → P'.is u g → Ev prog w A r g (f v u) Q.is
theorem Ex.mono {e : Expr} {P P' : VP} (h : Ex prog w A env Γ mu e P) (k : ∀ v g, P.is v g → P'.is v g) : Ex prog w A env Γ mu e P' :=
  fun r g R => (h r g R).mono fun v g' _ x => k v g' x
theorem Ex.name {x : Str} {pos : Pos} {P : VP} (hv : Γ.lookup x = some P) (hd : (x == ("__debug__" : Str)) = false := by decide) (hc : (x == ("__classdict__" : Str)) = false := by decide) :
    Ex prog w A env Γ mu (.Name x pos) P := fun r g R => .mk fun s hs hg => by
  obtain ⟨v, hr, hP⟩ := R.vars x P hv
  refine wpAny_Name ?_ hd
  rcases hr with ⟨hk, m, hn, hm⟩ | ⟨c, hk, hl, hcell⟩
  · exact wpAny_loadName_local R.fn hk (hn.keeps hs) hm (Fin.same hg hP)
  · rcases hk with hk | hk
    · exact wpAny_loadName_cell R.fn hk hl (hcell.keeps hs) (Fin.same hg hP)
    · exact wpAny_loadName_free R.fn hk hl (hcell.keeps hs) (Fin.same hg hP) hc
theorem Ex.glob {x : Str} {pos : Pos} {v : Value} (e : ∀ P, nsIn (Mine.hd.heap_39 P) mainGlobals x = some (some v)) (hx : env.kindOf x = some .globalImplicit) (hd : (x == ("__debug__" : Str)) = false := by decide) :
    Ex prog w A env Γ mu (.Name x pos) (C v) := fun r g R => .mk fun s hs hg => by
  obtain ⟨mg, hmg⟩ := R.gd.glob
  exact Name_function_global R.fn hx (loadGlobal_global (env := env) (by rw [R.gl]; exact hmg.keeps hs) (mg_of R.gd.kin hmg (e _)) (Fin.same hg rfl)) hd
theorem Ex.blt {x : Str} {pos : Pos} {v : Value} (e : ∀ P, nsIn (Mine.hd.heap_39 P) mainGlobals x = some none) (hv : bootBuiltins x = some v) (hx : env.kindOf x = some .globalImplicit) (hn : x ≠ "__name__" := by decide) (hd : (x == ("__debug__" : Str)) = false := by decide) :
    Ex prog w A env Γ mu (.Name x pos) (C v) := fun r g R => .mk fun s hs hg => by
  obtain ⟨mg, hmg⟩ := R.gd.glob
  obtain ⟨mb, hmb, hb'⟩ := R.gd.blt
  exact Name_function_global R.fn hx (loadGlobal_builtin (env := env) (by rw [R.gl]; exact hmg.keeps hs) (mg_none_of R.gd.kin hmg (e _)) (by rw [R.bl]; exact hmb.keeps hs) ((hb' x hn).trans hv) (Fin.same hg rfl)) hd
theorem Ex.int {i : Int} {k : Nat} {pos : Pos} : Ex prog w A env Γ mu (.Constant (.int i) k pos) (I i) := fun r g R => .mk fun s hs hg => wpAny_Constant_int (Fin.tok hg ⟨_, rfl⟩)
theorem Ex.str {x : Str} {k : Nat} {pos : Pos} : Ex prog w A env Γ mu (.Constant (.str x) k pos) (S x) := fun r g R => .mk fun s hs hg => Constant_str (Fin.tok hg ⟨_, rfl⟩)
theorem Ex.bool {b : Bool} {k : Nat} {pos : Pos} : Ex prog w A env Γ mu (.Constant (.bool b) k pos) (B b) := fun r g R => .mk fun s hs hg => by
  show wpAny _ A (Pure.pure (Value.bool b)) _ _ s
  exact wpAny_pure (Fin.same hg rfl)
/-- two expressions, then an operation -/
theorem ev2 {r : Heap} {g : View} {s : Shared} {e f : Expr} {o : Value → Value → Sem Value} {P P' Q : VP} (R : Rd w r g env Γ mu) (h₁ : Ex prog w A env Γ mu e P) (h₂ : Ex prog w A env Γ mu f P') (ho : Op2 prog w A env Γ mu o P P' Q)
    (hs : Sub r s.heap) (hg : On g s.heap) :
    wpAny (model prog w) A (eval e env) (fun a s₁ => wpAny (model prog w) A (eval f env) (fun b s₂ => wpAny (model prog w) A (o a b) (Fin g s Q.is) (fun _ _ => False) s₂) (fun _ _ => False) s₁) (fun _ _ => False) s := by
  refine (h₁ r g R).seq Q.is hs hg fun a s₁ g₁ k₁ l₁ o₁ p₁ t₁ => ?_
  refine (h₂ r g₁ (R.up (Sub.refl r) l₁)).seq Q.is (hs.trans (keepsSub k₁)) o₁ fun b s₂ g₂ k₂ l₂ o₂ p₂ t₂ => ?_
  refine wpAny_mono ((ho r g₂ a b (R.up (Sub.refl r) (l₁.trans l₂)) (P.mono l₂ p₁) p₂).run s₂ ((hs.trans (keepsSub k₁)).trans (keepsSub k₂)) o₂) (fun u s₃ x => t₁ u s₃ (t₂ u s₃ x)) fun _ _ f => f
theorem Ex.binop {l r : Expr} {op : Operator} {pos : Pos} {P P' Q : VP} (h₁ : Ex prog w A env Γ mu l P) (h₂ : Ex prog w A env Γ mu r P') (ho : Op2 prog w A env Γ mu (binaryOp op) P P' Q) : Ex prog w A env Γ mu (.BinOp l op r pos) Q :=
  fun _ _ R => .mk fun s hs hg => wpAny_BinOp (ev2 R h₁ h₂ ho hs hg)
theorem Ex.cmp {l r : Expr} {op : CmpOp} {pos : Pos} {P P' Q : VP} (h₁ : Ex prog w A env Γ mu l P) (h₂ : Ex prog w A env Γ mu r P') (ho : Op2 prog w A env Γ mu (compareOp op) P P' Q)
    (hm : behindInMarks op r = false := by with_unfolding_all rfl) : Ex prog w A env Γ mu (.Compare l [op] [r] pos) Q :=
  fun _ _ R => .mk fun s hs hg => wpAny_Compare1 (ev2 R h₁ h₂ ho hs hg) hm
/-- tests -/
def Tst (prog : Program) (w : World) (A : Around) (env : Env) (Γ : Cx) (mu : List (Addr × MP)) (e : Expr) (b : Bool) : Prop :=
  ∀ r g, Rd w r g env Γ mu → Ev prog w A r g (isTrue e env (eval e env)) (fun v _ => v = b)
def Tru (prog : Program) (w : World) (A : Around) (P : VP) (b : Bool) : Prop := ∀ r g v, P.is v g → Ev prog w A r g (truthy v) (fun t _ => t = b)
theorem Tru.bool {b : Bool} : Tru prog w A (B b) b := by
  rintro r g v rfl
  refine .mk fun s hs hg => ?_
  exact wpAny_truthy_bool (Fin.same hg rfl)
theorem evT {α : Type} {r : Heap} {g : View} {e : Expr} {P : VP} {k : Value → Sem α} {Q : α → View → Prop} (R : Rd w r g env Γ mu) (h : Ex prog w A env Γ mu e P) (hk : ∀ g' v, Le g g' → P.is v g' → Ev prog w A r g' (k v) Q) :
    ∀ s, Sub r s.heap → On g s.heap → wpAny (model prog w) A (eval e env) (fun v s₁ => wpAny (model prog w) A (k v) (Fin g s Q) (fun _ _ => False) s₁) (fun _ _ => False) s := by
  intro s hs hg
  refine (h r g R).seq Q hs hg fun a s₁ g₁ k₁ l₁ o₁ p₁ t₁ => ?_
  exact wpAny_mono ((hk g₁ a l₁ p₁).run s₁ (hs.trans (keepsSub k₁)) o₁) (fun u s₃ x => t₁ u s₃ x) fun _ _ f => f
theorem Tst.val {e : Expr} {P : VP} {b : Bool} (h : Ex prog w A env Γ mu e P) (t : Tru prog w A P b)
    (he : ∀ whole, isTrue e env whole = (do let v ← whole; standAt e.pos; holding [v] (truthy v)) := by intro _; rfl) : Tst prog w A env Γ mu e b :=
  fun r g R => .mk fun s hs hg => wpAny_isTrue_value (evT R h (fun g' v l p => t r g' v p) s hs hg) (he _)
theorem Tst.cmp {l r : Expr} {op : CmpOp} {pos : Pos} {P P' : VP} {b : Bool} (h₁ : Ex prog w A env Γ mu l P) (h₂ : Ex prog w A env Γ mu r P') (ho : Op2 prog w A env Γ mu (compareOp op) P P' (B b))
    (hm : behindInMarks op r = false := by with_unfolding_all rfl) : Tst prog w A env Γ mu (.Compare l [op] [r] pos) b := fun rr g R => .mk fun s hs hg => by
  refine wpAny_isTrue_Compare1 ?_ hm
  refine wpAny_mono (ev2 R h₁ h₂ ho hs hg) (fun a s₁ x => wpAny_mono x (fun b' s₂ y => wpAny_mono y (fun c s₃ z => ?_) fun _ _ f => f) fun _ _ f => f) fun _ _ f => f
  obtain ⟨k, g', l, o, nw, hc⟩ := z
  cases hc
  exact wpAny_truthy_bool ⟨k, g', l, o, nw, rfl⟩
theorem Tst.not {x : Expr} {pos : Pos} {b : Bool} (h : Tst prog w A env Γ mu x b) : Tst prog w A env Γ mu (.UnaryOp .Not x pos) (!b) := fun r g R => .mk fun s hs hg => by
  refine wpAny_isTrue_Not (wpAny_mono ((h r g R).run s hs hg) (fun c s₁ z => ?_) fun _ _ f => f)
  obtain ⟨k, g', l, o, nw, rfl⟩ := z
  exact ⟨k, g', l, o, nw, rfl⟩
theorem Ex.ifexp {t b o : Expr} {pos : Pos} {c : Bool} {P : VP} (ht : Tst prog w A env Γ mu t c) (hb : c = true → Ex prog w A env Γ mu b P) (ho : c = false → Ex prog w A env Γ mu o P) : Ex prog w A env Γ mu (.IfExp t b o pos) P := fun r g R => .mk fun s hs hg => by
  refine wpAny_IfExp ((ht r g R).seq P.is hs hg fun v s₁ g₁ k₁ l₁ o₁ p₁ t₁ => ?_)
  subst p₁
  cases v with
  | true => exact wpAny_mono ((hb rfl r g₁ (R.up (Sub.refl r) l₁)).run s₁ (hs.trans (keepsSub k₁)) o₁) (fun u s₃ x => t₁ u s₃ x) fun _ _ f => f
  | false => exact wpAny_mono ((ho rfl r g₁ (R.up (Sub.refl r) l₁)).run s₁ (hs.trans (keepsSub k₁)) o₁) (fun u s₃ x => t₁ u s₃ x) fun _ _ f => f
/-- operations on ints -/
theorem op_add {a b : Int} : Op2 prog w A env Γ mu (binaryOp .Add) (I a) (I b) (I (a + b)) := by
  rintro r g v u R ⟨t, rfl⟩ ⟨t', rfl⟩
  refine .mk fun s hs hg => ?_
  exact PyProof.Rows.add_int (Fin.tok hg ⟨_, rfl⟩)
theorem op_sub {a b : Int} : Op2 prog w A env Γ mu (binaryOp .Sub) (I a) (I b) (I (a - b)) := by
  rintro r g v u R ⟨t, rfl⟩ ⟨t', rfl⟩
  refine .mk fun s hs hg => ?_
  exact PyProof.Rows.sub_int (Fin.tok hg ⟨_, rfl⟩)
theorem op_iadd {a b : Int} : Op2 prog w A env Γ mu (inplaceOp .Add) (I a) (I b) (I (a + b)) := by
  rintro r g v u R ⟨t, rfl⟩ ⟨t', rfl⟩
  refine .mk fun s hs hg => ?_
  exact wpAny_iadd_int (Fin.tok hg ⟨_, rfl⟩)
theorem op_mod {a b : Int} (hb : b ≠ 0) : Op2 prog w A env Γ mu (binaryOp .Mod) (I a) (I b) (I (a.fmod b)) := by
  rintro r g v u R ⟨t, rfl⟩ ⟨t', rfl⟩
  refine .mk fun s hs hg => ?_
  exact PyProof.Rows.mod_int hb (Fin.tok hg ⟨_, rfl⟩)
theorem op_div {a b : Int} (hR : Rm A n) (ht : prog.given.tree = none) (hb : b ≠ 0) : Op2 prog w A env Γ mu (binaryOp .FloorDiv) (I a) (I b) (I (a.fdiv b)) := by
  rintro r g v u R ⟨t, rfl⟩ ⟨t', rfl⟩
  refine .mk fun s hs hg => ?_
  obtain ⟨e, l, h1, h2, h3, h4, h5⟩ := hR.fr
  have hp : PylongRoom (model prog w) A s := PylongRoom.of (R.gd.lim.keeps hs) (by have := hR.dp; show A.depth + 100 < 1000; omega) (SeerAt.of (R.gd.seer.keeps hs) ht h1 h2 h3 h4 h5)
  exact PyProof.Rows.floordiv_int hb (Fin.tok hg ⟨_, rfl⟩) (.inr hp)
theorem op_eqI {a b : Int} : Op2 prog w A env Γ mu (compareOp .Eq) (I a) (I b) (B (a == b)) := by
  rintro r g v u R ⟨t, rfl⟩ ⟨t', rfl⟩
  refine .mk fun s hs hg => ?_
  exact PyProof.Rows.eq_int (Fin.same hg rfl)
theorem op_neI {a b : Int} : Op2 prog w A env Γ mu (compareOp .NotEq) (I a) (I b) (B (a != b)) := by
  rintro r g v u R ⟨t, rfl⟩ ⟨t', rfl⟩
  refine .mk fun s hs hg => ?_
  exact PyProof.Rows.ne_int (Fin.same hg rfl)
theorem op_ltI {a b : Int} : Op2 prog w A env Γ mu (compareOp .Lt) (I a) (I b) (B (decide (a < b))) := by
  rintro r g v u R ⟨t, rfl⟩ ⟨t', rfl⟩
  refine .mk fun s hs hg => ?_
  exact PyProof.Rows.lt_int (Fin.same hg rfl)
theorem op_gtI {a b : Int} : Op2 prog w A env Γ mu (compareOp .Gt) (I a) (I b) (B (decide (b < a))) := by
  rintro r g v u R ⟨t, rfl⟩ ⟨t', rfl⟩
  refine .mk fun s hs hg => ?_
  exact PyProof.Rows.gt_int (Fin.same hg rfl)
theorem op_geI {a b : Int} : Op2 prog w A env Γ mu (compareOp .GtE) (I a) (I b) (B (decide (b ≤ a))) := by
  rintro r g v u R ⟨t, rfl⟩ ⟨t', rfl⟩
  refine .mk fun s hs hg => ?_
  exact PyProof.Rows.ge_int (Fin.same hg rfl)
/-- operations on strs -/
theorem op_addS {x y : Str} (hsz : x.length + y.length ≤ sizeLine) : Op2 prog w A env Γ mu (binaryOp .Add) (S x) (S y) (S (x ++ y)) := by
  rintro r g v u R ⟨t, rfl⟩ ⟨t', rfl⟩
  refine .mk fun s hs hg => ?_
  exact PyProof.Rows.add_str (fun _ _ => Fin.tok hg ⟨_, rfl⟩) hsz
theorem op_eqS {x y : Str} : Op2 prog w A env Γ mu (compareOp .Eq) (S x) (S y) (B (x == y)) := by
  rintro r g v u R ⟨t, rfl⟩ ⟨t', rfl⟩
  refine .mk fun s hs hg => ?_
  exact PyProof.Rows.eq_str (Fin.same hg rfl)
theorem op_neS {x y : Str} : Op2 prog w A env Γ mu (compareOp .NotEq) (S x) (S y) (B (x != y)) := by
  rintro r g v u R ⟨t, rfl⟩ ⟨t', rfl⟩
  refine .mk fun s hs hg => ?_
  exact PyProof.Rows.ne_str (Fin.same hg rfl)
/-- lists -/
theorem isList_of {α : Type} {P : α → VP} {g : View} {h : Heap} {a : Addr} {vs : List Value} {k : Nat} (hg : On g h) (e : g a = some (listObj vs k)) : h.IsList a vs.toArray := ⟨_, hg _ _ e, rfl, k, rfl⟩
theorem op_addL {α : Type} {P : α → VP} {xs ys : List α} (hsz : xs.length + ys.length ≤ sizeLine) : Op2 prog w A env Γ mu (binaryOp .Add) (L P xs) (L P ys) (L P (xs ++ ys)) := by
  rintro r g v u R ⟨a, vs, k, rfl, ha, hx⟩ ⟨b, us, k', rfl, hb, hy⟩
  refine .mk fun s hs hg => ?_
  have e : vs.toArray ++ us.toArray = (vs ++ us).toArray := by simp
  have ho := hg _ _ ha
  have ho2 := hg _ _ hb
  refine concat_meets ⟨_, ho, rfl⟩ ⟨_, ho2, rfl⟩ noFill_list_add seq_list_add PySem.F.slot_list_add PySem.F.entry_list_add (PySem.F.args_list_add_2 _ _)
    (list_addW a b vs.toArray us.toArray k k' none none #[] #[] (by simpa [hx.length, hy.length] using hsz)) ⟨ho, ho2, ?_⟩
  rw [e]
  exact Fin.push hg ⟨_, vs ++ us, 0, rfl, ext_self _ _ _, (hx.append hy).mono (le_ext (by
    cases e' : g s.heap.objs.size with
    | none => rfl
    | some o => exact absurd (Heap.lt_size (hg _ _ e')) (Nat.lt_irrefl _)))⟩
theorem fresh_view {g : View} {h : Heap} (hg : On g h) : g h.objs.size = none := by
  cases e' : g h.objs.size with
  | none => rfl
  | some o => exact absurd (Heap.lt_size (hg _ _ e')) (Nat.lt_irrefl _)
theorem any_strs {x : Str} {g : View} : ∀ {ys : List Str} {vs : List Value}, Are S g ys vs → vs.any (fun v => match v with | .str y _ => y == x | _ => false) = ys.any (· == x)
  | _, _, .nil => rfl
  | _, _, .cons ⟨t, h⟩ r => by subst h; simp only [List.any_cons, any_strs r]
theorem eqGives_strs {x : Str} {u : Tok} {g : View} : ∀ {ys : List Str} {vs : List Value}, Are S g ys vs → ∀ y ∈ vs, MeetsSeq.EqGives y (.str x u) (match y with | .str y _ => y == x | _ => false)
  | _, _, .nil, y, h => by simp at h
  | _, _, .cons ⟨t, e⟩ r, y, h => by
    rcases List.mem_cons.mp h with h | h
    · subst h; subst e; exact eqGives_str _ _ _ _
    · exact eqGives_strs r y h
theorem op_inS {x : Str} {ys : List Str} : Op2 prog w A env Γ mu (compareOp .In) (S x) (L S ys) (B (ys.any (· == x))) := by
  rintro r g v u R ⟨t, rfl⟩ ⟨a, vs, k, rfl, ha, hy⟩
  refine .mk fun s hs hg => ?_
  refine SeqRoads2.in_list _ (fun y hm => eqGives_strs hy y (by simpa using hm)) (hg _ _ ha) (Fin.same hg ?_)
  show Value.bool _ = Value.bool _
  rw [← any_strs hy]; simp
theorem op_notInS {x : Str} {ys : List Str} : Op2 prog w A env Γ mu (compareOp .NotIn) (S x) (L S ys) (B (!ys.any (· == x))) := by
  rintro r g v u R ⟨t, rfl⟩ ⟨a, vs, k, rfl, ha, hy⟩
  refine .mk fun s hs hg => ?_
  refine SeqRoads2.notIn_list _ (fun y hm => eqGives_strs hy y (by simpa using hm)) (hg _ _ ha) (Fin.same hg ?_)
  show Value.bool _ = Value.bool _
  rw [← any_strs hy]; simp
end
end Mine
open PySem PySem.W PySem.Calls PyProof.Rows
namespace Mine
section
variable {prog : Program} {w : World} {A : Around} {env : Env} {Γ : Cx} {mu : List (Addr × MP)} {n : Nat}
/-- no star in front -/
def star? : Expr → Bool
  | .Starred .. => true
  | _ => false
theorem starEach_of {e : Expr} (h : star? e = false) (es : List Expr) (env : Env) : starEach (e :: es) env = (false, eval e env) :: starEach es env := by
  cases e <;> first | rfl | cases h
theorem backTo_of {e : Expr} (h : star? e = false) (es : List Expr) (env : Env) (pos : Pos) : backTo pos (starEach (e :: es) env) = (false, eval e env) :: backTo pos (starEach es env) := by
  rw [starEach_of h]; rfl
/-- expressions one after another -/
inductive Exs (prog : Program) (w : World) (A : Around) (env : Env) (Γ : Cx) (mu : List (Addr × MP)) {α : Type} (P : α → VP) : List Expr → List α → Prop
  | nil : Exs prog w A env Γ mu P [] []
  | cons {e : Expr} {es : List Expr} {x : α} {xs : List α} (h : Ex prog w A env Γ mu e (P x)) (r : Exs prog w A env Γ mu P es xs)
      (hst : star? e = false := by rfl) : Exs prog w A env Γ mu P (e :: es) (x :: xs)
theorem Exs.ev {α : Type} {P : α → VP} {pos : Pos} : ∀ {es : List Expr} {xs : List α}, Exs prog w A env Γ mu P es xs → ∀ r g, Rd w r g env Γ mu →
    Ev prog w A r g (spliced (backTo pos (starEach es env))) (fun vs g' => Are P g' xs vs)
  | _, _, .nil, r, g, R => .mk fun s hs hg => by
    show wpAny _ A (Pure.pure []) _ _ s
    exact wpAny_pure (Fin.same hg .nil)
  | _, _, .cons (x := x) (xs := xs) h rest hst, r, g, R => .mk fun s hs hg => by
    rw [backTo_of hst]
    refine Calls.spliced_cons ?_
    refine (h r g R).seq (fun vs g' => Are P g' (x :: xs) vs) hs hg fun a s₁ g₁ k₁ l₁ o₁ p₁ t₁ => ?_
    refine (rest.ev r g₁ (R.up (Sub.refl r) l₁)).seq (fun vs g' => Are P g' (x :: xs) vs) (hs.trans (keepsSub k₁)) o₁ fun b s₂ g₂ k₂ l₂ o₂ p₂ t₂ => ?_
    exact t₁ _ _ (t₂ _ _ (Fin.same o₂ (.cons ((P x).mono l₂ p₁) p₂)))
theorem Exs.one {e : Expr} {P : VP} (h : Ex prog w A env Γ mu e P) (hst : star? e = false := by rfl) : Exs prog w A env Γ mu id [e] [P] := .cons h .nil hst
theorem Exs.two {e f : Expr} {P P' : VP} (h : Ex prog w A env Γ mu e P) (h' : Ex prog w A env Γ mu f P')
    (hst : star? e = false := by rfl) (hst' : star? f = false := by rfl) : Exs prog w A env Γ mu id [e, f] [P, P'] := .cons h (.cons h' .nil hst') hst
/-- a call with its arguments' values -/
def OpV (prog : Program) (w : World) (A : Around) (env : Env) (Γ : Cx) (mu : List (Addr × MP)) (f : List Value → Sem Value) (Ps : List VP) (Q : VP) : Prop :=
  ∀ r g vs, Rd w r g env Γ mu → Are id g Ps vs → Ev prog w A r g (f vs) Q.is
theorem evV {r : Heap} {g : View} {es : List Expr} {pos : Pos} {Ps : List VP} {f : List Value → Sem Value} {Q : VP} (R : Rd w r g env Γ mu) (h : Exs prog w A env Γ mu id es Ps) (ho : OpV prog w A env Γ mu f Ps Q) :
    ∀ s, Sub r s.heap → On g s.heap → wpAny (model prog w) A (spliced (backTo pos (starEach es env))) (fun vs s₁ => wpAny (model prog w) A (f vs) (Fin g s Q.is) (fun _ _ => False) s₁) (fun _ _ => False) s := by
  intro s hs hg
  refine (h.ev r g R).seq Q.is hs hg fun a s₁ g₁ k₁ l₁ o₁ p₁ t₁ => ?_
  exact wpAny_mono ((ho r g₁ a (R.up (Sub.refl r) l₁) p₁).run s₁ (hs.trans (keepsSub k₁)) o₁) (fun u s₃ x => t₁ u s₃ x) fun _ _ f => f
theorem OpV.one {f : List Value → Sem Value} {P Q : VP} (h : Op1 prog w A env Γ mu (fun v => f [v]) P Q.is) : OpV prog w A env Γ mu f [P] Q := by
  rintro r g vs R h'
  cases h' with
  | cons a rest => cases rest; exact h r g _ R a
theorem OpV.two {f : List Value → Sem Value} {P P' Q : VP} (h : Op2 prog w A env Γ mu (fun v u => f [v, u]) P P' Q) : OpV prog w A env Γ mu f [P, P'] Q := by
  rintro r g vs R h'
  cases h' with
  | cons a rest => cases rest with
    | cons b rest => cases rest; exact h r g _ _ R a b
theorem noStars {pos : Pos} : ∀ {es : List Expr}, es.all (fun e => !star? e) = true → ((backTo pos (starEach es env)).any fun x => x.1) = false
  | [], _ => rfl
  | e :: es, h => by
    rw [List.all_cons, Bool.and_eq_true] at h
    rw [backTo_of (by simpa using h.1), List.any_cons, noStars h.2]; rfl
theorem Ex.callB {x : Str} {np pos : Pos} {e : Expr} {es : List Expr} {id : String} {Ps : List VP} {Q : VP} (hf : Ex prog w A env Γ mu (.Name x np) (C (.builtin id))) (h : Exs prog w A env Γ mu _root_.id (e :: es) Ps)
    (ho : OpV prog w A env Γ mu (fun vs => call (.builtin id) vs) Ps Q)
    (hst : star? e = false := by rfl) (hes : es.all (fun e => !star? e) = true := by rfl) :
    Ex prog w A env Γ mu (.Call (.Name x np) (e :: es) [] pos) Q := fun r g R => .mk fun s hs hg => by
  refine wpAny_Call_NameR ((hf r g R).seq Q.is hs hg fun a s₁ g₁ k₁ l₁ o₁ p₁ t₁ => ?_)
  obtain rfl : a = .builtin id := p₁
  exact callWith_builtin1 (wpAny_mono (evV (R.up (Sub.refl r) l₁) h ho s₁ (hs.trans (keepsSub k₁)) o₁) (fun vs s₂ y => wpAny_mono y (fun u s₃ z => t₁ u s₃ z) fun _ _ f => f) fun _ _ f => f) (starEach_of hst es env) (noStars hes)
theorem Ex.callT {x : Str} {np pos : Pos} {e : Expr} {es : List Expr} {T : String} {Ps : List VP} {Q : VP} (hf : Ex prog w A env Γ mu (.Name x np) (C (.type T))) (h : Exs prog w A env Γ mu _root_.id (e :: es) Ps)
    (ho : OpV prog w A env Γ mu (fun vs => call (.type T) vs) Ps Q)
    (hst : star? e = false := by rfl) (hes : es.all (fun e => !star? e) = true := by rfl) :
    Ex prog w A env Γ mu (.Call (.Name x np) (e :: es) [] pos) Q := fun r g R => .mk fun s hs hg => by
  refine wpAny_Call_NameR ((hf r g R).seq Q.is hs hg fun a s₁ g₁ k₁ l₁ o₁ p₁ t₁ => ?_)
  obtain rfl : a = .type T := p₁
  exact PyProof.Rows.callWith_type1 (wpAny_mono (evV (R.up (Sub.refl r) l₁) h ho s₁ (hs.trans (keepsSub k₁)) o₁) (fun vs s₂ y => wpAny_mono y (fun u s₃ z => t₁ u s₃ z) fun _ _ f => f) fun _ _ f => f) (starEach_of hst es env) (noStars hes)
/-- f is one of the text's defs -/
def IsFn (f : Addr) : Prop := ∀ P, ∃ (o : Obj) (fd : FuncData), (Mine.hd.heap_39 P).lookup f = some o ∧ o.data = .func fd
theorem Ex.callF {x : Str} {np pos : Pos} {e : Expr} {es : List Expr} {f : Addr} {Ps : List VP} {Q : VP} (hfn : IsFn f) (hf : Ex prog w A env Γ mu (.Name x np) (C (.ref f))) (h : Exs prog w A env Γ mu _root_.id (e :: es) Ps)
    (ho : OpV prog w A env Γ mu (fun vs => call (.ref f) vs) Ps Q)
    (hst : star? e = false := by rfl) :
    Ex prog w A env Γ mu (.Call (.Name x np) (e :: es) [] pos) Q := fun r g R => .mk fun s hs hg => by
  obtain ⟨o, fd, hl, hd⟩ := hfn w.params
  refine wpAny_Call_NameR ((hf r g R).seq Q.is hs hg fun a s₁ g₁ k₁ l₁ o₁ p₁ t₁ => ?_)
  obtain rfl : a = .ref f := p₁
  have hs₁ := hs.trans (keepsSub k₁)
  refine callWith_def hd ?_ (starEach_of hst es env)
  refine (h.ev r g₁ (R.up (Sub.refl r) l₁)).seq Q.is hs₁ o₁ fun vs s₂ g₂ k₂ l₂ o₂ p₂ t₂ => ?_
  refine ⟨(R.gd.sub (hs₁.trans (keepsSub k₂))).kin f o hl, ?_⟩
  exact wpAny_mono ((ho r g₂ vs (R.up (Sub.refl r) (l₁.trans l₂)) p₂).run s₂ (hs₁.trans (keepsSub k₂)) o₂) (fun u s₃ z => t₁ u s₃ (t₂ u s₃ z)) fun _ _ f => f
/-- what a method call asks of its object -/
def Has (w : World) (env : Env) (Γ : Cx) (mu : List (Addr × MP)) (P : VP) (T : String) : Prop :=
  ∀ r g v (s : Shared), Rd w r g env Γ mu → P.is v g → Sub r s.heap → On g s.heap → s.TypeIs v T ∧ (∀ a, v = .ref a → ∃ ob, s.heap.get? a = some ob ∧ ob.dict = none)
theorem has_str {x : Str} : Has w env Γ mu (S x) "str" := by
  rintro r g v s R ⟨t, rfl⟩ hs hg
  exact ⟨typeIs_str _ _ _, fun a e => by cases e⟩
theorem Ex.meth0 {o : Expr} {name : Str} {apos pos : Pos} {T id : String} {P Q : VP} (pa : PlainAttrs T) (slot : Slot T name id) (hty : typeOf (.builtin id) = pure (.type "method_descriptor")) (ho : Ex prog w A env Γ mu o P) (hT : Has w env Γ mu P T)
    (hop : Op1 prog w A env Γ mu (fun v => call (.builtin id) [v]) P Q.is) (hb : ∀ m, attributeBase o name env m = m := by intro _; rfl) (hline : (apos.endLine == pos.line) = true := by rfl) :
    Ex prog w A env Γ mu (.Call (.Attribute o name apos) [] [] pos) Q := fun r g R => .mk fun s hs hg => by
  refine wpAny_Call_method0_late (hb _) hline ((ho r g R).seq Q.is hs hg fun a s₁ g₁ k₁ l₁ o₁ p₁ t₁ => ?_)
  have hs₁ := hs.trans (keepsSub k₁)
  obtain ⟨h1, h2⟩ := hT r g₁ a s₁ (R.up (Sub.refl r) l₁) p₁ hs₁ o₁
  refine ⟨T, id, pa, slot, hty, h1, h2, callWith_method0 (env := env) ?_⟩
  exact wpAny_mono ((hop r g₁ a (R.up (Sub.refl r) l₁) p₁).run s₁ hs₁ o₁) (fun u s₃ z => t₁ u s₃ z) fun _ _ f => f
theorem Ex.meth1 {o e : Expr} {name : Str} {apos pos : Pos} {T id : String} {P P' Q : VP} (pa : PlainAttrs T) (slot : Slot T name id) (hty : typeOf (.builtin id) = pure (.type "method_descriptor")) (ho : Ex prog w A env Γ mu o P) (hT : Has w env Γ mu P T)
    (he : Ex prog w A env Γ mu e P') (hop : Op2 prog w A env Γ mu (fun v u => call (.builtin id) [v, u]) P P' Q) (hb : ∀ m, attributeBase o name env m = m := by intro _; rfl) (hline : (apos.endLine == pos.line) = true := by rfl)
    (hst : star? e = false := by rfl) :
    Ex prog w A env Γ mu (.Call (.Attribute o name apos) [e] [] pos) Q := fun r g R => .mk fun s hs hg => by
  have htrees : backTo pos (starEach [e] env) = [(false, eval e env)] := by rw [backTo_of hst]; rfl
  refine wpAny_Call_method1_late (hb _) hline htrees ((ho r g R).seq Q.is hs hg fun a s₁ g₁ k₁ l₁ o₁ p₁ t₁ => ?_)
  have hs₁ := hs.trans (keepsSub k₁)
  obtain ⟨h1, h2⟩ := hT r g₁ a s₁ (R.up (Sub.refl r) l₁) p₁ hs₁ o₁
  refine ⟨T, id, pa, slot, hty, h1, h2, ?_⟩
  rw [← htrees]
  refine callWith_method1 ?_ (starEach_of hst [] env) rfl
  rw [htrees]
  refine Calls.spliced_cons ?_
  refine (he r g₁ (R.up (Sub.refl r) l₁)).seq Q.is hs₁ o₁ fun b s₂ g₂ k₂ l₂ o₂ p₂ t₂ => ?_
  show wpAny _ A (Pure.pure []) _ _ s₂
  refine wpAny_pure ?_
  exact wpAny_mono ((hop r g₂ a b (R.up (Sub.refl r) (l₁.trans l₂)) (P.mono l₂ p₁) p₂).run s₂ (hs₁.trans (keepsSub k₂)) o₂) (fun u s₃ z => t₁ u s₃ (t₂ u s₃ z)) fun _ _ f => f
/-- the strs' methods -/
theorem op_lower {x : Str} (h : x.length ≤ 5592405) : Op1 prog w A env Γ mu (fun v => call (.builtin "str.lower") [v]) (S x) (S (Txt.lower x)).is := by
  rintro r g v R ⟨t, rfl⟩
  refine .mk fun s hs hg => ?_
  exact SCL.lower h fun _ => Fin.tok hg ⟨_, rfl⟩
theorem op_startswith {x y : Str} : Op2 prog w A env Γ mu (fun v u => call (.builtin "str.startswith") [v, u]) (S x) (S y) (B (Txt.startswith x y)) := by
  rintro r g v u R ⟨t, rfl⟩ ⟨t', rfl⟩
  refine .mk fun s hs hg => ?_
  exact SC.startswith (Fin.same hg rfl)
theorem op_endswith {x y : Str} : Op2 prog w A env Γ mu (fun v u => call (.builtin "str.endswith") [v, u]) (S x) (S y) (B (Txt.endswith x y)) := by
  rintro r g v u R ⟨t, rfl⟩ ⟨t', rfl⟩
  refine .mk fun s hs hg => ?_
  exact SC.endswith (Fin.same hg rfl)
theorem op_find {x y : Str} : Op2 prog w A env Γ mu (fun v u => call (.builtin "str.find") [v, u]) (S x) (S y) (I (Txt.find x y)) := by
  rintro r g v u R ⟨t, rfl⟩ ⟨t', rfl⟩
  refine .mk fun s hs hg => ?_
  exact SC.find (Fin.tok hg ⟨_, rfl⟩)
theorem op_count {x y : Str} : Op2 prog w A env Γ mu (fun v u => call (.builtin "str.count") [v, u]) (S x) (S y) (I (Txt.count x y)) := by
  rintro r g v u R ⟨t, rfl⟩ ⟨t', rfl⟩
  refine .mk fun s hs hg => ?_
  exact SC.count (Fin.tok hg ⟨_, rfl⟩)
theorem op_join {x : Str} {ys : List Str} (h1 : x.length ≤ 16) (h2 : (ys.map (·.length)).sum + ys.length ≤ 1048576) : Op2 prog w A env Γ mu (fun v u => call (.builtin "str.join") [v, u]) (S x) (L S ys) (S (Txt.join x ys)) := by
  rintro r g v u R ⟨t, rfl⟩ ⟨a, vs, k, rfl, ha, hy⟩
  refine .mk fun s hs hg => ?_
  exact join_listW (isList_of (P := S) hg ha) (by simpa using hy.strs) h1 h2 fun _ _ => Fin.tok hg ⟨_, rfl⟩
theorem are_strValues {g : View} : ∀ (l : List (Str × Tok)), Are S g (l.map (·.1)) (strValues l)
  | [] => .nil
  | (x, t) :: r => .cons ⟨t, rfl⟩ (are_strValues r)
theorem op_split {x y : Str} (hy : (y.length == 0) = false) (hsz : x.length + 2 ≤ sizeLine) : Op2 prog w A env Γ mu (fun v u => call (.builtin "str.split") [v, u]) (S x) (S y) (L S (Txt.split x y)) := by
  rintro r g v uu R ⟨t, rfl⟩ ⟨u, rfl⟩
  refine .mk fun s hs hg => ?_
  have key : ∀ (l : List (Str × Tok)) (k : Nat), l.map (·.1) = Txt.split x y → Fin g s (L S (Txt.split x y)).is (.ref s.heap.objs.size) { s with heap := s.heap.push { cls := .type "list", data := .seq (strValues l).toArray }, toks := k } := fun l k e =>
    Fin.push hg ⟨_, strValues l, 0, rfl, ext_self _ _ _, e ▸ are_strValues l⟩
  have hn : (Builtin.Str.partsBetween x (Builtin.Str.occurrences x y 0 x.length (x.length + 1)) y.length).length ≤ sizeLine := by
    have e1 := StrLaws.occ_length_le x y 0 x.length (x.length + 1)
    rw [length_partsBetween]; omega
  show wpAny _ A (call (.builtin "str.split") [.str x t, .str y u]) _ _ s
  cases h1 : (decide (x.length < y.length) || decide (PySem.Builtin.Str.strKind x < PySem.Builtin.Str.strKind y)) with
  | false =>
    cases hf : (Builtin.Str.occurrences x y 0 x.length (x.length + 1)).isEmpty with
    | false =>
      refine call_meets F.slot_str_split (typeIs_str _ _ _) F.entry_str_split (F.args_str_split_2 _ _) (meets_str_split_sep x y t u h1 hy hf (by omega) hn) ?_
      show wants _ _ _ { s with toks := _, heap := s.heap.push { cls := .type "list", data := .seq (strsFrom s.toks (Builtin.Str.partsBetween x (Builtin.Str.occurrences x y 0 x.length (x.length + 1)) y.length)).toArray } }
      rw [strsFrom_eq]
      exact key (numbered s.toks _) _ ((numbered_texts _ _).trans ((if_neg (ne_true_of_eq_false h1)).trans (if_neg (ne_true_of_eq_false hf))).symm)
    | true =>
      exact call_meets F.slot_str_split (typeIs_str _ _ _) F.entry_str_split (F.args_str_split_2 _ _) (meets_str_split_not_found x y t u h1 hy hf)
        (key [(x, t)] s.toks ((if_neg (ne_true_of_eq_false h1)).trans (if_pos hf)).symm)
  | true =>
    exact call_meets F.slot_str_split (typeIs_str _ _ _) F.entry_str_split (F.args_str_split_2 _ _) (meets_str_split_cannot_occur x y t u h1)
      (key [(x, t)] s.toks (if_pos h1).symm)
/-- places -/
theorem Ex.sub {o i : Expr} {pos : Pos} {P P' Q : VP} (ho : Ex prog w A env Γ mu o P) (hi : Ex prog w A env Γ mu i P') (hop : Op2 prog w A env Γ mu (subscriptTail o i) P P' Q) : Ex prog w A env Γ mu (.Subscript o i pos) Q :=
  fun r g R => .mk fun s hs hg => Subscript_ (ev2 R ho hi hop hs hg)
theorem op_itemS {o i : Expr} {x : Str} {k : Int} (h0 : fitsSsize k = true) (h1 : -(x.length : Int) ≤ k) (h2 : k < x.length)
    (hs1 : ∀ t u, subscripted i false (.str x t) (.int k u) = operate [.str x t, .int k u] (getItem (.str x t) (.int k u)) := by intro _ _; rfl) (hs2 : ∀ t r, letTemporaryGo o (.str x t) r = pure () := by intro _ _; rfl) :
    Op2 prog w A env Γ mu (subscriptTail o i) (S x) (I k) (S (Txt.item x k)) := by
  rintro r g v u R ⟨t, rfl⟩ ⟨t', rfl⟩
  refine .mk fun s hs hg => ?_
  exact item_str h0 h1 h2 (fun _ => Fin.tok hg ⟨_, rfl⟩) (hs1 _ _) (hs2 _)
theorem op_itemL {o i : Expr} {α : Type} {P : α → VP} {xs : List α} {x : α} {k : Int} (h0 : 0 ≤ k) (h1 : k < 2 ^ 63) (hx : xs[k.toNat]? = some x)
    (hs1 : ∀ a u, subscripted i false (.ref a) (.int k u) = operate [.ref a, .int k u] (getItem (.ref a) (.int k u)) := by intro _ _; with_unfolding_all rfl) :
    Op2 prog w A env Γ mu (subscriptTail o i) (L P xs) (I k) (P x) := by
  rintro r g v u R ⟨a, vs, n, rfl, ha, hv⟩ ⟨t', rfl⟩
  refine .mk fun s hs hg => ?_
  obtain ⟨y, hy, hP⟩ := hv.get' hx
  have hl := isList_of (P := P) hg ha
  exact tail_any hl.typeIs slot_list_getitem.lookup (wpAny_getItem_list hl h0 h1 (by simpa using hy) (Fin.same hg hP)) (hs1 _ _)
/-- parts -/
def Part (p : Option Int) : VP := ⟨fun v _ => match p with | none => v = .none | some i => ∃ t, v = .int i t, fun _ h => h⟩
def ExP (prog : Program) (w : World) (A : Around) (env : Env) (Γ : Cx) (mu : List (Addr × MP)) (e : Option Expr) (p : Option Int) : Prop := ∀ r g, Rd w r g env Γ mu → Ev prog w A r g (evalPart e env) (Part p).is
theorem ExP.none : ExP prog w A env Γ mu none none := fun r g R => .mk fun s hs hg => wpAny_evalPart_none (Fin.same hg rfl)
theorem ExP.some {e : Expr} {i : Int} (h : Ex prog w A env Γ mu e (I i)) : ExP prog w A env Γ mu (some e) (some i) := fun r g R => .mk fun s hs hg =>
  wpAny_evalPart_some (wpAny_mono ((h r g R).run s hs hg) (fun _ _ x => x) fun _ _ f => f)
theorem ev3 {r : Heap} {g : View} {s : Shared} {e : Expr} {p q : Option Expr} {P : VP} {i j : Option Int} {Q : VP} {K : Value → Value → Value → Shared → Prop} (R : Rd w r g env Γ mu) (h : Ex prog w A env Γ mu e P) (h₁ : ExP prog w A env Γ mu p i) (h₂ : ExP prog w A env Γ mu q j)
    (hk : ∀ v a b g' s', Sub s.heap s'.heap → Le g g' → On g' s'.heap → P.is v g' → (Part i).is a g' → (Part j).is b g' → (∀ u s'', Fin g' s' Q.is u s'' → Fin g s Q.is u s'') → K v a b s')
    (hs : Sub r s.heap) (hg : On g s.heap) :
    wpAny (model prog w) A (eval e env) (fun v s₁ => wpAny (model prog w) A (evalPart p env) (fun a s₂ => wpAny (model prog w) A (evalPart q env) (fun b s₃ => K v a b s₃) (fun _ _ => False) s₂) (fun _ _ => False) s₁) (fun _ _ => False) s := by
  refine (h r g R).seq Q.is hs hg fun v s₁ g₁ k₁ l₁ o₁ p₁ t₁ => ?_
  refine (h₁ r g₁ (R.up (Sub.refl r) l₁)).seq Q.is (hs.trans (keepsSub k₁)) o₁ fun a s₂ g₂ k₂ l₂ o₂ p₂ t₂ => ?_
  refine (h₂ r g₂ (R.up (Sub.refl r) (l₁.trans l₂))).seq Q.is ((hs.trans (keepsSub k₁)).trans (keepsSub k₂)) o₂ fun b s₃ g₃ k₃ l₃ o₃ p₃ t₃ => ?_
  exact hk v a b g₃ s₃ (((keepsSub k₁).trans (keepsSub k₂)).trans (keepsSub k₃)) ((l₁.trans l₂).trans l₃) o₃ (P.mono (l₂.trans l₃) p₁) ((Part i).mono l₃ p₂) p₃ fun u s'' z => t₁ _ _ (t₂ _ _ (t₃ _ _ z))
theorem isPart_of {p : Option Int} {v : Value} {g : View} (h : (Part p).is v g) : IsPart v p := by
  cases p with
  | none => obtain rfl : v = .none := h; exact .none
  | some i => obtain ⟨t, rfl⟩ := h; exact .int i t
theorem Ex.sliceS {o e : Expr} {p pos : Pos} {x : Str} {i : Int} (ho : Ex prog w A env Γ mu o (S x)) (hi : Ex prog w A env Γ mu e (I i)) (hsz : x.length ≤ sizeLine) (ht : ∀ v r, letTemporaryGo o v r = pure () := by intro _ _; rfl) :
    Ex prog w A env Γ mu (.Subscript o (.Slice (some e) none none p) pos) (S (Txt.slice x (some i) none)) := fun r g R => .mk fun s hs hg => by
  refine wpAny_Subscript_str_slice (ev3 (Q := S (Txt.slice x (some i) none)) R ho (.some hi) .none (fun v a b g' s' kk l o p₁ p₂ p₃ t => ?_) hs hg) ht
  obtain ⟨tx, rfl⟩ := p₁
  obtain ⟨ti, rfl⟩ := p₂
  obtain rfl : b = .none := p₃
  refine ⟨x, tx, some (i, ti), none, rfl, rfl, rfl, post_val_or_str ⟨Nat.le_trans (Txt.slice_le x _ _) hsz, fun t' k => t _ _ ?_⟩⟩
  exact Fin.keeps ⟨_, _, rfl, fun _ _ e => Heap.get?_push_of_some _ e⟩ o ⟨_, rfl⟩
theorem Ex.sliceL {o : Expr} {lo hi : Option Expr} {p pos : Pos} {α : Type} {P : α → VP} {xs : List α} {i j : Option Int} {ys : List α} (ho : Ex prog w A env Γ mu o (L P xs)) (h₁ : ExP prog w A env Γ mu lo i) (h₂ : ExP prog w A env Γ mu hi j) (hsz : xs.length ≤ sizeLine)
    (hpick : ∀ (vs : List Value) (g : View), Are P g xs vs → Are P g ys (slicePick vs.toArray i j none).toList) (ht : ∀ v r, letTemporaryGo o v r = pure () := by intro _ _; rfl) :
    Ex prog w A env Γ mu (.Subscript o (.Slice lo hi none p) pos) (L P ys) := fun r g R => .mk fun s hs hg => by
  refine wpAny_Subscript_list_slice (ev3 (Q := L P ys) R ho h₁ h₂ (fun v a b g' s' kk l o p₁ p₂ p₃ t => ?_) hs hg) ht
  obtain ⟨ad, vs, n, rfl, ha, hv⟩ := p₁
  refine ⟨ad, vs.toArray, i, j, rfl, isList_of (P := P) o ha, by simpa [hv.length] using hsz, isPart_of p₂, isPart_of p₃, t _ _ ?_⟩
  have hsz1 : s'.heap.get? (s'.heap.objs.size + 1) = none := by
    cases e : s'.heap.get? (s'.heap.objs.size + 1) with
    | none => rfl
    | some o' => exact absurd (Heap.lt_size e) (Nat.not_lt.mpr (Nat.le_succ _))
  refine Fin.new (a := s'.heap.objs.size + 1) ⟨_, _, rfl, fun _ _ e => Heap.get?_push_of_some _ (Heap.get?_push_of_some _ e)⟩ o hsz1 (o := { cls := .type "list", data := .seq (slicePick vs.toArray i j none) }) ?_ ?_
  · rw [← Heap.size_push s'.heap]; exact Heap.get?_push_size _ rfl
  · refine ⟨_, (slicePick vs.toArray i j none).toList, 0, rfl, by rw [ext_self]; rfl, (hpick vs g' hv).mono (le_ext ?_)⟩
    cases e : g' (s'.heap.objs.size + 1) with
    | none => rfl
    | some o' => rw [o _ _ e] at hsz1; cases hsz1
/-- displays -/
theorem Ex.list {α : Type} {P : α → VP} {es : List Expr} {xs : List α} {pos : Pos} (h : Exs prog w A env Γ mu P es xs) (hsz : xs.length ≤ sizeLine) : Ex prog w A env Γ mu (.List es pos) (L P xs) := fun r g R => .mk fun s hs hg => by
  refine wpAny_List_spliced ((h.ev r g R).seq (L P xs).is hs hg fun vs s₁ g₁ k₁ l₁ o₁ p₁ t₁ => ⟨by rw [p₁.length]; exact hsz, t₁ _ _ ?_⟩)
  exact Fin.push (t := s₁.toks) o₁ ⟨_, vs, 0, rfl, ext_self _ _ _, p₁.mono (le_ext (fresh_view o₁))⟩
end
end Mine
open PySem PySem.W PySem.Calls PyProof.Rows
namespace Mine
def dictO (es : Array DictEntry) (ep : Nat) : Obj := { cls := .type "dict", data := .dict es ep }
def keyIt (d i n ep : Nat) : Obj := { cls := .type "dict_keyiterator", data := .fields #[.ref d, .int i 0, .int n 0, .int ep 0] }
def valIt (d i n ep : Nat) : Obj := { cls := .type "dict_valueiterator", data := .fields #[.ref d, .int i 0, .int n 0, .int ep 0] }
def itemIt (d i n ep : Nat) (x y : Value) : Obj := { cls := .type "dict_itemiterator", data := .fields #[.none, .bool false, .ref d, .int i 0, .int n 0, .int ep 0, x, y] }
def itemOut (d i n ep : Nat) (x y : Value) (a : Addr) : Obj := { cls := .type "dict_itemiterator", data := .fields #[rawInt a, .bool false, .ref d, .int i 0, .int n 0, .int ep 0, x, y] }
def viewO (T : String) (d : Addr) : Obj := { cls := .type T, data := .fields #[.ref d] }
section
variable {prog : Program} {w : World} {A : Around} {E : Value → Shared → Prop} {s : Shared} {it d : Addr} {es : Array DictEntry} {i ep : Nat}
theorem keyNext {e : DictEntry} {Q : Option Value → Shared → Prop} (hit : s.heap.get? it = some (keyIt d i es.size ep)) (hd : s.heap.get? d = some (dictO es ep)) (hx : es[i]? = some e)
    (hQ : ∀ h', h'.get? it = some (keyIt d (i + 1) es.size ep) → Heap.SameBut it s.heap h' → Q (some e.key) { s with heap := h' }) : wpAny (model prog w) A (pyNext (.ref it)) Q E s := by
  have hT : s.TypeIs (.ref it) "dict_keyiterator" := ⟨_, hit, rfl⟩
  unfold pyNext
  refine wpAny_bind (wpAny_attempt (wpAny_callSpecial?_slot (name := Str.ofString "__next__") hT F.slot_dict_keyiterator_next (wpAny_call_entry F.slot_dict_keyiterator_next hT F.entry_dict_keyiterator_next ?_ (F.args_dict_keyiterator_next_1 _))))
  refine wpAny_bind (wpAny_pure ?_)
  refine wpAny_bind (wpAny_bind ?_)
  refine wpAny_bind (wpAny_typeNameOfWhole_keyiter hT (wpAny_pure ?_))
  refine wpAny_bind (wpAny_fieldsOf hit rfl ?_)
  simp only [show Builtin.Dict_items.ownsTuple "dict_keyiterator" = false from by decide, Bool.false_eq_true, if_false]
  show wpAny _ _ (if (Value.ref d == Value.none) = true then _ else _) _ _ _
  rw [if_neg (show ¬ ((Value.ref d == Value.none) = true) from Bool.false_ne_true)]
  refine wpAny_bind (wpAny_pure (wpAny_bind (wpAny_dictEntries hd rfl ?_)))
  rw [if_neg (by simp)]
  refine wpAny_bind (wpAny_pure (wpAny_bind (wpAny_dictEpoch hd rfl ?_)))
  rw [if_neg (by simp)]
  refine wpAny_pure ?_
  simp only [show ¬ ((i : Int) < 0) from by omega, if_false, Int.toNat_natCast, hx]
  refine wpAny_bind (wpAny_bind (wpAny_typeNameOfWhole_keyiter hT (wpAny_pure ?_)))
  refine wpAny_bind (wpAny_isOneOf_keyiter hT ?_)
  show wpAny _ _ (setField (.ref it) 1 (rawInt ((i : Int) + 1)) >>= _) _ _ s
  refine wpAny_bind (wpAny_setField_rec hit (by simp) fun h₁ he hs => ?_)
  have he' : h₁.get? it = some (keyIt d (i + 1) es.size ep) := by
    have e : ((i + 1 : Nat) : Int) = (i : Int) + 1 := by omega
    unfold keyIt; rw [e]; simpa [rawInt] using he
  have hT₁ : Shared.TypeIs { s with heap := h₁ } (.ref it) "dict_keyiterator" := ⟨_, he', rfl⟩
  refine wpAny_bind (wpAny_holding ?_)
  refine wpAny_bind (wpAny_isOneOf_keyiter (s := { s with heap := h₁ }) hT₁ ?_)
  show wpAny _ _ (pure e.key) _ _ _
  exact wpAny_pure (wpAny_pure ⟨_, rfl, wpAny_pure (hQ h₁ he' hs)⟩)
theorem valNext {e : DictEntry} {Q : Option Value → Shared → Prop} (hit : s.heap.get? it = some (valIt d i es.size ep)) (hd : s.heap.get? d = some (dictO es ep)) (hx : es[i]? = some e)
    (hQ : ∀ h', h'.get? it = some (valIt d (i + 1) es.size ep) → Heap.SameBut it s.heap h' → Q (some e.val) { s with heap := h' }) : wpAny (model prog w) A (pyNext (.ref it)) Q E s := by
  have hT : s.TypeIs (.ref it) "dict_valueiterator" := ⟨_, hit, rfl⟩
  unfold pyNext
  refine wpAny_bind (wpAny_attempt (wpAny_callSpecial?_slot (name := Str.ofString "__next__") hT F.slot_dict_valueiterator_next (wpAny_call_entry F.slot_dict_valueiterator_next hT F.entry_dict_valueiterator_next ?_ (F.args_dict_valueiterator_next_1 _))))
  refine wpAny_bind (wpAny_pure ?_)
  refine wpAny_bind (wpAny_bind ?_)
  refine wpAny_bind (wpAny_typeNameOfWhole_valiter hT (wpAny_pure ?_))
  refine wpAny_bind (wpAny_fieldsOf hit rfl ?_)
  simp only [show Builtin.Dict_items.ownsTuple "dict_valueiterator" = false from by decide, Bool.false_eq_true, if_false]
  show wpAny _ _ (if (Value.ref d == Value.none) = true then _ else _) _ _ _
  rw [if_neg (show ¬ ((Value.ref d == Value.none) = true) from Bool.false_ne_true)]
  refine wpAny_bind (wpAny_pure (wpAny_bind (wpAny_dictEntries hd rfl ?_)))
  rw [if_neg (by simp)]
  refine wpAny_bind (wpAny_pure (wpAny_bind (wpAny_dictEpoch hd rfl ?_)))
  rw [if_neg (by simp)]
  refine wpAny_pure ?_
  simp only [show ¬ ((i : Int) < 0) from by omega, if_false, Int.toNat_natCast, hx]
  refine wpAny_bind (wpAny_bind (wpAny_typeNameOfWhole_valiter hT (wpAny_pure ?_)))
  refine wpAny_bind (wpAny_isOneOf_valiter hT ?_)
  show wpAny _ _ (setField (.ref it) 1 (rawInt ((i : Int) + 1)) >>= _) _ _ s
  refine wpAny_bind (wpAny_setField_rec hit (by simp) fun h₁ he hs => ?_)
  have he' : h₁.get? it = some (valIt d (i + 1) es.size ep) := by
    have e : ((i + 1 : Nat) : Int) = (i : Int) + 1 := by omega
    unfold valIt; rw [e]; simpa [rawInt] using he
  have hT₁ : Shared.TypeIs { s with heap := h₁ } (.ref it) "dict_valueiterator" := ⟨_, he', rfl⟩
  refine wpAny_bind (wpAny_holding ?_)
  refine wpAny_bind (wpAny_isOneOf_valiter (s := { s with heap := h₁ }) hT₁ ?_)
  refine wpAny_bind (wpAny_isOneOf_valiter (s := { s with heap := h₁ }) hT₁ ?_)
  show wpAny _ _ (pure e.val) _ _ _
  exact wpAny_pure (wpAny_pure ⟨_, rfl, wpAny_pure (hQ h₁ he' hs)⟩)
theorem keyEnd {Q : Option Value → Shared → Prop} (hh : A.handled = none) (hit : s.heap.get? it = some (keyIt d i es.size ep)) (hd : s.heap.get? d = some (dictO es ep)) (hx : es.size ≤ i)
    (hQ : ∀ h', Heap.ExtBut it s.heap h' → Q none { s with heap := h' }) : wpAny (model prog w) A (pyNext (.ref it)) Q E s := by
  have hT : s.TypeIs (.ref it) "dict_keyiterator" := ⟨_, hit, rfl⟩
  unfold pyNext
  refine wpAny_bind (wpAny_attempt (wpAny_callSpecial?_slot (name := Str.ofString "__next__") hT F.slot_dict_keyiterator_next (wpAny_call_entry F.slot_dict_keyiterator_next hT F.entry_dict_keyiterator_next ?_ (F.args_dict_keyiterator_next_1 _))))
  refine wpAny_bind (wpAny_pure ?_)
  refine wpAny_bind (wpAny_bind ?_)
  refine wpAny_bind (wpAny_typeNameOfWhole_keyiter hT (wpAny_pure ?_))
  refine wpAny_bind (wpAny_fieldsOf hit rfl ?_)
  simp only [show Builtin.Dict_items.ownsTuple "dict_keyiterator" = false from by decide, Bool.false_eq_true, if_false]
  show wpAny _ _ (if (Value.ref d == Value.none) = true then _ else _) _ _ _
  rw [if_neg (show ¬ ((Value.ref d == Value.none) = true) from Bool.false_ne_true)]
  refine wpAny_bind (wpAny_pure (wpAny_bind (wpAny_dictEntries hd rfl ?_)))
  rw [if_neg (by simp)]
  refine wpAny_bind (wpAny_pure (wpAny_bind (wpAny_dictEpoch hd rfl ?_)))
  rw [if_neg (by simp)]
  refine wpAny_pure ?_
  simp only [show ¬ ((i : Int) < 0) from by omega, if_false, Int.toNat_natCast, Array.getElem?_eq_none hx]
  refine wpAny_bind (wpAny_bind (wpAny_typeNameOfWhole_keyiter hT (wpAny_pure ?_)))
  show wpAny _ _ (setField (.ref it) 0 .none >>= _) _ _ s
  refine wpAny_bind (wpAny_setField_rec hit (by simp) fun h₁ he hs => ?_)
  show wpAny _ _ (newExc (.type "StopIteration") [] >>= _) _ _ _
  refine wpAny_bind ?_
  simp only [newExc, newTuple]
  refine wpAny_bind (wpAny_newObj_type ?_ (by size_fits))
  refine wpAny_bind (m := firstArgMember _ _) (wpAny_of_eq (a := Value.none) (by first | rfl | (simp only [firstArgMember]; rfl)) ?_)
  refine wpAny_newObj_type ?_ (by size_fits)
  simp only [raiseNew]
  refine wpAny_bind (wpAny_handled ?_)
  rw [show A.in1.handled = none from hh]
  refine wpAny_bind (wpAny_pure (wpAny_throw ?_))
  refine wpAny_bind (wpAny_isInstance (T := "StopIteration") (b := true) ⟨_, Heap.get?_push_size _ rfl, rfl⟩ isSubtype_stop ?_)
  exact wpAny_pure (hQ _ ((hs.extBut.push _).push _))
theorem valEnd {Q : Option Value → Shared → Prop} (hh : A.handled = none) (hit : s.heap.get? it = some (valIt d i es.size ep)) (hd : s.heap.get? d = some (dictO es ep)) (hx : es.size ≤ i)
    (hQ : ∀ h', Heap.ExtBut it s.heap h' → Q none { s with heap := h' }) : wpAny (model prog w) A (pyNext (.ref it)) Q E s := by
  have hT : s.TypeIs (.ref it) "dict_valueiterator" := ⟨_, hit, rfl⟩
  unfold pyNext
  refine wpAny_bind (wpAny_attempt (wpAny_callSpecial?_slot (name := Str.ofString "__next__") hT F.slot_dict_valueiterator_next (wpAny_call_entry F.slot_dict_valueiterator_next hT F.entry_dict_valueiterator_next ?_ (F.args_dict_valueiterator_next_1 _))))
  refine wpAny_bind (wpAny_pure ?_)
  refine wpAny_bind (wpAny_bind ?_)
  refine wpAny_bind (wpAny_typeNameOfWhole_valiter hT (wpAny_pure ?_))
  refine wpAny_bind (wpAny_fieldsOf hit rfl ?_)
  simp only [show Builtin.Dict_items.ownsTuple "dict_valueiterator" = false from by decide, Bool.false_eq_true, if_false]
  show wpAny _ _ (if (Value.ref d == Value.none) = true then _ else _) _ _ _
  rw [if_neg (show ¬ ((Value.ref d == Value.none) = true) from Bool.false_ne_true)]
  refine wpAny_bind (wpAny_pure (wpAny_bind (wpAny_dictEntries hd rfl ?_)))
  rw [if_neg (by simp)]
  refine wpAny_bind (wpAny_pure (wpAny_bind (wpAny_dictEpoch hd rfl ?_)))
  rw [if_neg (by simp)]
  refine wpAny_pure ?_
  simp only [show ¬ ((i : Int) < 0) from by omega, if_false, Int.toNat_natCast, Array.getElem?_eq_none hx]
  refine wpAny_bind (wpAny_bind (wpAny_typeNameOfWhole_valiter hT (wpAny_pure ?_)))
  show wpAny _ _ (setField (.ref it) 0 .none >>= _) _ _ s
  refine wpAny_bind (wpAny_setField_rec hit (by simp) fun h₁ he hs => ?_)
  show wpAny _ _ (newExc (.type "StopIteration") [] >>= _) _ _ _
  refine wpAny_bind ?_
  simp only [newExc, newTuple]
  refine wpAny_bind (wpAny_newObj_type ?_ (by size_fits))
  refine wpAny_bind (m := firstArgMember _ _) (wpAny_of_eq (a := Value.none) (by first | rfl | (simp only [firstArgMember]; rfl)) ?_)
  refine wpAny_newObj_type ?_ (by size_fits)
  simp only [raiseNew]
  refine wpAny_bind (wpAny_handled ?_)
  rw [show A.in1.handled = none from hh]
  refine wpAny_bind (wpAny_pure (wpAny_throw ?_))
  refine wpAny_bind (wpAny_isInstance (T := "StopIteration") (b := true) ⟨_, Heap.get?_push_size _ rfl, rfl⟩ isSubtype_stop ?_)
  exact wpAny_pure (hQ _ ((hs.extBut.push _).push _))
theorem itemEnd {Q : Option Value → Shared → Prop} {x y : Value} (hh : A.handled = none) (hit : s.heap.get? it = some (itemIt d i es.size ep x y)) (hd : s.heap.get? d = some (dictO es ep)) (hx : es.size ≤ i)
    (hQ : ∀ h', Heap.ExtBut it s.heap h' → Q none { s with heap := h' }) : wpAny (model prog w) A (pyNext (.ref it)) Q E s := by
  have hT : s.TypeIs (.ref it) "dict_itemiterator" := ⟨_, hit, rfl⟩
  unfold pyNext
  refine wpAny_bind (wpAny_attempt (wpAny_callSpecial?_slot (name := Str.ofString "__next__") hT F.slot_dict_itemiterator_next (wpAny_call_entry F.slot_dict_itemiterator_next hT F.entry_dict_itemiterator_next ?_ (F.args_dict_itemiterator_next_1 _))))
  refine wpAny_bind (wpAny_pure ?_)
  refine wpAny_bind (wpAny_bind ?_)
  refine wpAny_bind (wpAny_typeNameOfWhole_itemiter hT (wpAny_pure ?_))
  refine wpAny_bind (wpAny_fieldsOf hit rfl ?_)
  simp only [show Builtin.Dict_items.ownsTuple "dict_itemiterator" = true from by decide, if_true]
  show wpAny _ _ (if (Value.ref d == Value.none) = true then _ else _) _ _ _
  rw [if_neg (show ¬ ((Value.ref d == Value.none) = true) from Bool.false_ne_true)]
  refine wpAny_bind (wpAny_pure (wpAny_bind (wpAny_dictEntries hd rfl ?_)))
  rw [if_neg (by simp)]
  refine wpAny_bind (wpAny_pure (wpAny_bind (wpAny_dictEpoch hd rfl ?_)))
  rw [if_neg (by simp)]
  refine wpAny_pure ?_
  simp only [show ¬ ((i : Int) < 0) from by omega, if_false, Int.toNat_natCast, Array.getElem?_eq_none hx]
  refine wpAny_bind (wpAny_bind (wpAny_typeNameOfWhole_itemiter hT (wpAny_pure ?_)))
  show wpAny _ _ (setField (.ref it) 2 .none >>= _) _ _ s
  refine wpAny_bind (wpAny_setField_rec hit (by simp) fun h₁ he hs => ?_)
  show wpAny _ _ (newExc (.type "StopIteration") [] >>= _) _ _ _
  refine wpAny_bind ?_
  simp only [newExc, newTuple]
  refine wpAny_bind (wpAny_newObj_type ?_ (by size_fits))
  refine wpAny_bind (m := firstArgMember _ _) (wpAny_of_eq (a := Value.none) (by first | rfl | (simp only [firstArgMember]; rfl)) ?_)
  refine wpAny_newObj_type ?_ (by size_fits)
  simp only [raiseNew]
  refine wpAny_bind (wpAny_handled ?_)
  rw [show A.in1.handled = none from hh]
  refine wpAny_bind (wpAny_pure (wpAny_throw ?_))
  refine wpAny_bind (wpAny_isInstance (T := "StopIteration") (b := true) ⟨_, Heap.get?_push_size _ rfl, rfl⟩ isSubtype_stop ?_)
  exact wpAny_pure (hQ _ ((hs.extBut.push _).push _))
theorem itemNext {e : DictEntry} {x y : Value} {Q : Option Value → Shared → Prop} (hit : s.heap.get? it = some (itemIt d i es.size ep x y)) (hd : s.heap.get? d = some (dictO es ep)) (hx : es[i]? = some e)
    (hQ : ∀ h', h'.get? it = some (itemOut d (i + 1) es.size ep e.key e.val s.heap.objs.size) → h'.get? s.heap.objs.size = some (tupObj [e.key, e.val]) →
      (∀ b o, b ≠ it → s.heap.get? b = some o → h'.get? b = some o) → Q (some (.ref s.heap.objs.size)) { s with heap := h' }) : wpAny (model prog w) A (pyNext (.ref it)) Q E s := by
  obtain ⟨hp, gn, dr, tk, os⟩ := s
  have hT : Shared.TypeIs ⟨hp, gn, dr, tk, os⟩ (.ref it) "dict_itemiterator" := ⟨_, hit, rfl⟩
  unfold pyNext
  refine wpAny_bind (wpAny_attempt (wpAny_callSpecial?_slot (name := Str.ofString "__next__") hT F.slot_dict_itemiterator_next (wpAny_call_entry F.slot_dict_itemiterator_next hT F.entry_dict_itemiterator_next ?_ (F.args_dict_itemiterator_next_1 _))))
  refine wpAny_bind (wpAny_pure ?_)
  refine wpAny_bind (wpAny_bind ?_)
  refine wpAny_bind (wpAny_typeNameOfWhole_itemiter hT (wpAny_pure ?_))
  refine wpAny_bind (wpAny_fieldsOf hit rfl ?_)
  simp only [show Builtin.Dict_items.ownsTuple "dict_itemiterator" = true from by decide, if_true]
  show wpAny _ _ (if (Value.ref d == Value.none) = true then _ else _) _ _ _
  rw [if_neg (show ¬ ((Value.ref d == Value.none) = true) from Bool.false_ne_true)]
  refine wpAny_bind (wpAny_pure (wpAny_bind (wpAny_dictEntries hd rfl ?_)))
  rw [if_neg (by simp)]
  refine wpAny_bind (wpAny_pure (wpAny_bind (wpAny_dictEpoch hd rfl ?_)))
  rw [if_neg (by simp)]
  refine wpAny_pure ?_
  simp only [show ¬ ((i : Int) < 0) from by omega, if_false, Int.toNat_natCast, hx]
  refine wpAny_bind (wpAny_bind (wpAny_typeNameOfWhole_itemiter hT (wpAny_pure ?_)))
  refine wpAny_bind (wpAny_isOneOf_itemiter hT ?_)
  show wpAny _ _ (setField (.ref it) 3 (rawInt ((i : Int) + 1)) >>= _) _ _ ⟨hp, gn, dr, tk, os⟩
  refine wpAny_bind (wpAny_setField_rec hit (by simp) fun h₁ he₁ hs₁ => ?_)
  replace hs₁ : Heap.SameBut it hp h₁ := hs₁
  replace he₁ : h₁.get? it = some (itemIt d (i + 1) es.size ep x y) := by
    have e : ((i + 1 : Nat) : Int) = (i : Int) + 1 := by omega
    unfold itemIt; rw [e]; simpa [rawInt] using he₁
  have hT₁ : Shared.TypeIs ⟨h₁, gn, dr, tk, os⟩ (.ref it) "dict_itemiterator" := ⟨_, he₁, rfl⟩
  refine wpAny_bind (wpAny_holding ?_)
  refine wpAny_bind (wpAny_isOneOf_itemiter hT₁ (wpAny_bind (wpAny_isOneOf_itemiter hT₁ ?_)))
  show wpAny _ _ (Builtin.Dict_items.pairFromOwner (.ref it) 6 e.key e.val) _ _ ⟨h₁, gn, dr, tk, os⟩
  unfold Builtin.Dict_items.pairFromOwner
  refine wpAny_bind (wpAny_newTuple ?_)
  have hz : h₁.objs.size = hp.objs.size := hs₁.1
  have hl : it < hp.objs.size := Heap.lt_size hit
  rw [show (Shared.mk h₁ gn dr tk os).heap.objs.size = hp.objs.size from hz]
  generalize hh : h₁.push { cls := .type "tuple", data := .seq #[e.key, e.val] } = h₂
  have he₂ : h₂.get? it = some (itemIt d (i + 1) es.size ep x y) := hh ▸ Heap.get?_push_of_some _ he₁
  have ht : h₂.get? hp.objs.size = some (tupObj [e.key, e.val]) := by rw [← hh, ← hz]; exact Heap.get?_push_size _ rfl
  have hk : ∀ b o, b ≠ it → hp.get? b = some o → h₂.get? b = some o := fun b o hb q => hh ▸ Heap.get?_push_of_some _ (hs₁.extBut b o hb q)
  have hne : hp.objs.size ≠ it := Nat.ne_of_gt hl
  clear hh he₁ hs₁ hT₁ hz
  show wpAny _ _ (Builtin.Dict_items.ownedTupleIsFree (.ref it) >>= _) _ _ ⟨h₂, gn, dr, tk, os⟩
  refine wpAny_bind ?_
  unfold Builtin.Dict_items.ownedTupleIsFree
  refine wpAny_bind (wpAny_field he₂ rfl (x := .none) rfl (wpAny_pure ?_))
  simp only [if_true]
  refine wpAny_bind (wpAny_field he₂ rfl (x := x) rfl (wpAny_bind (wpAny_field he₂ rfl (x := y) rfl ?_)))
  refine wpAny_bind (wpAny_setField_rec he₂ (by simp) fun h₃ he₃ hs₃ => ?_)
  refine wpAny_bind (wpAny_setField_rec (a := it) (s := ⟨h₃, gn, dr, tk, os⟩) he₃ (by simp) fun h₄ he₄ hs₄ => ?_)
  refine wpAny_bind (wpAny_setField_rec (a := it) (s := ⟨h₄, gn, dr, tk, os⟩) he₄ (by simp) fun h₅ he₅ hs₅ => ?_)
  refine wpAny_bind (wpAny_setField_rec (a := it) (s := ⟨h₅, gn, dr, tk, os⟩) he₅ (by simp) fun h₆ he₆ hs₆ => ?_)
  have up : ∀ b o, b ≠ it → h₂.get? b = some o → h₆.get? b = some o := fun b o hb q => hs₆.extBut b o hb (hs₅.extBut b o hb (hs₄.extBut b o hb (hs₃.extBut b o hb q)))
  exact wpAny_bind (wpAny_letGo (wpAny_pure (wpAny_pure ⟨_, rfl, wpAny_pure (hQ h₆ he₆ (up _ _ hne ht) fun b o hb q => up b o hb (hk b o hb q))⟩)))
end
end Mine
open PySem PySem.W PySem.Calls PyProof.Rows
namespace Mine
section
variable {prog : Program} {w : World} {A : Around} {E : Value → Shared → Prop} {s : Shared} {it d v : Addr} {es : Array DictEntry} {i ep : Nat}
theorem callItems {Q : Value → Shared → Prop} (hd : s.heap.get? d = some (dictO es ep)) (hm : (d == sysModules) = false) (hQ : Q (.ref s.heap.objs.size) { s with heap := s.heap.push (viewO "dict_items" d) }) :
    wpAny (model prog w) A (call (.builtin "dict.items") [.ref d]) Q E s := by
  have hT : s.TypeIs (.ref d) "dict" := ⟨_, hd, rfl⟩
  refine wpAny_call_entry F.slot_dict_items hT F.entry_dict_items ?_ (F.args_dict_items_1 _)
  unfold Builtin.«dict.items»
  refine wpAny_bind ?_
  unfold Builtin.Dict.noArgs
  refine wpAny_bind (wpAny_notOrdered_dict hT ?_)
  show wpAny _ _ (pure d) _ _ s
  refine wpAny_pure ?_
  show wpAny _ _ (Builtin.Dict.showsAll d >>= _) _ _ s
  unfold Builtin.Dict.showsAll
  rw [if_neg (by rw [hm]; exact Bool.false_ne_true)]
  exact wpAny_bind (wpAny_pure (wpAny_bind (wpAny_newObj_type (wpAny_pure ⟨_, rfl, hQ⟩))))
theorem callValues {Q : Value → Shared → Prop} (hd : s.heap.get? d = some (dictO es ep)) (hm : (d == sysModules) = false) (hQ : Q (.ref s.heap.objs.size) { s with heap := s.heap.push (viewO "dict_values" d) }) :
    wpAny (model prog w) A (call (.builtin "dict.values") [.ref d]) Q E s := by
  have hT : s.TypeIs (.ref d) "dict" := ⟨_, hd, rfl⟩
  refine wpAny_call_entry F.slot_dict_values hT F.entry_dict_values ?_ (F.args_dict_values_1 _)
  unfold Builtin.«dict.values»
  refine wpAny_bind ?_
  unfold Builtin.Dict.noArgs
  refine wpAny_bind (wpAny_notOrdered_dict hT ?_)
  show wpAny _ _ (pure d) _ _ s
  refine wpAny_pure ?_
  show wpAny _ _ (Builtin.Dict.showsAll d >>= _) _ _ s
  unfold Builtin.Dict.showsAll
  rw [if_neg (by rw [hm]; exact Bool.false_ne_true)]
  exact wpAny_bind (wpAny_pure (wpAny_bind (wpAny_newObj_type (wpAny_pure ⟨_, rfl, hQ⟩))))
theorem iterKeys {Q : Value → Shared → Prop} (hd : s.heap.get? d = some (dictO es ep)) (hm : (d == sysModules) = false) (hQ : Q (.ref s.heap.objs.size) { s with heap := s.heap.push (keyIt d 0 es.size ep) }) :
    wpAny (model prog w) A (pyIter (.ref d)) Q E s := by
  have hT : s.TypeIs (.ref d) "dict" := ⟨_, hd, rfl⟩
  refine wpAny_pyIter_slot hT F.slot_dict_iter (wpAny_call_entry F.slot_dict_iter hT F.entry_dict_iter ?_ (F.args_dict_iter_1 _))
  unfold Builtin.«dict.__iter__»
  refine wpAny_bind ?_
  unfold Builtin.Dict.dictSlotNone
  refine wpAny_bind (wpAny_notOrdered_dict hT ?_)
  show wpAny _ _ (pure (Value.ref d)) _ _ s
  refine wpAny_pure ?_
  show wpAny _ _ (Builtin.Dict.showsAll d >>= _) _ _ s
  unfold Builtin.Dict.showsAll
  rw [if_neg (by rw [hm]; exact Bool.false_ne_true)]
  refine wpAny_bind (wpAny_pure (wpAny_bind (wpAny_dictEntries hd rfl (wpAny_bind (wpAny_dictEpoch hd rfl ?_)))))
  exact wpAny_bind (wpAny_newObj_type (wpAny_pure ⟨_, rfl, "dict_keyiterator", _, ⟨_, Heap.get?_push_size _ rfl, rfl⟩, F.slot_dict_keyiterator_next.lookup, hQ⟩))
theorem iterValues {Q : Value → Shared → Prop} (hv : s.heap.get? v = some (viewO "dict_values" d)) (hd : s.heap.get? d = some (dictO es ep)) (hQ : Q (.ref s.heap.objs.size) { s with heap := s.heap.push (valIt d 0 es.size ep) }) :
    wpAny (model prog w) A (pyIter (.ref v)) Q E s := by
  have hT : s.TypeIs (.ref v) "dict_values" := ⟨_, hv, rfl⟩
  refine wpAny_pyIter_slot hT F.slot_dict_values_iter (wpAny_call_entry F.slot_dict_values_iter hT F.entry_dict_values_iter ?_ (F.args_dict_values_iter_1 _))
  unfold Builtin.«dict_values.__iter__»
  refine wpAny_bind (wpAny_pure (wpAny_bind ?_))
  unfold Builtin.Dict_items.dictOf
  refine wpAny_bind (wpAny_field hv rfl (x := .ref d) rfl (wpAny_pure (wpAny_bind ?_)))
  unfold Builtin.Dict_items.newIterator
  refine wpAny_bind (wpAny_dictEntries hd rfl (wpAny_bind (wpAny_dictEpoch hd rfl ?_)))
  simp only [show Builtin.Dict_items.ownsTuple "dict_valueiterator" = false from by decide, Bool.false_eq_true, if_false]
  exact wpAny_newObj_type (wpAny_pure ⟨_, rfl, "dict_valueiterator", _, ⟨_, Heap.get?_push_size _ rfl, rfl⟩, F.slot_dict_valueiterator_next.lookup, hQ⟩)
theorem iterItems {Q : Value → Shared → Prop} (hv : s.heap.get? v = some (viewO "dict_items" d)) (hd : s.heap.get? d = some (dictO es ep)) (hQ : Q (.ref s.heap.objs.size) { s with heap := s.heap.push (itemIt d 0 es.size ep .none .none) }) :
    wpAny (model prog w) A (pyIter (.ref v)) Q E s := by
  have hT : s.TypeIs (.ref v) "dict_items" := ⟨_, hv, rfl⟩
  refine wpAny_pyIter_slot hT F.slot_dict_items_iter (wpAny_call_entry F.slot_dict_items_iter hT F.entry_dict_items_iter ?_ (F.args_dict_items_iter_1 _))
  unfold Builtin.«dict_items.__iter__»
  refine wpAny_bind (wpAny_pure (wpAny_bind ?_))
  unfold Builtin.Dict_items.dictOf
  refine wpAny_bind (wpAny_field hv rfl (x := .ref d) rfl (wpAny_pure (wpAny_bind ?_)))
  unfold Builtin.Dict_items.newIterator
  refine wpAny_bind (wpAny_dictEntries hd rfl (wpAny_bind (wpAny_dictEpoch hd rfl ?_)))
  simp only [show Builtin.Dict_items.ownsTuple "dict_itemiterator" = true from by decide, if_true]
  exact wpAny_newObj_type (wpAny_pure ⟨_, rfl, "dict_itemiterator", _, ⟨_, Heap.get?_push_size _ rfl, rfl⟩, F.slot_dict_itemiterator_next.lookup, hQ⟩)
    (by simp only [sizeOk, Builtin.Dict_items.ownedTupleFields, List.size_toArray, List.length_append, List.length_cons, List.length_nil, sizeLine_eq]; omega)
theorem Walks.keys (hh : A.handled = none) (it d : Addr) (hne : d ≠ it) (es : Array DictEntry) (ep : Nat) :
    Walks prog w A it [it, d] [it] es.size (fun i v => ∃ e, es[i]? = some e ∧ v = e.key) (fun i h => h.get? it = some (keyIt d i es.size ep) ∧ h.get? d = some (dictO es ep)) where
  sub := fun b hb => by simp at hb; simp [hb]
  frame := fun _ _ _ st hk => ⟨hk it (by simp) _ st.1, hk d (by simp) _ st.2⟩
  item := fun i s Q E hi st hQ => keyNext (e := es[i]) st.1 st.2 (by simp [hi]) fun h' h1 h2 =>
    hQ _ h' s.toks ⟨es[i], by simp [hi], rfl⟩ ⟨h1, h2.extBut d _ hne st.2⟩ fun b o hb e => h2.extBut b o (fun h => hb (by simp [h])) e
  done := fun s Q E st hQ => keyEnd hh st.1 st.2 (Nat.le_refl _) fun h' h1 => hQ h' s.toks fun b o hb e => h1 b o (fun h => hb (by simp [h])) e
  self := fun i s Q E st hQ => wpAny_pyIter_keyiter ⟨_, st.1, rfl, rfl⟩ hQ
theorem Walks.vals (hh : A.handled = none) (it d : Addr) (hne : d ≠ it) (es : Array DictEntry) (ep : Nat) :
    Walks prog w A it [it, d] [it] es.size (fun i v => ∃ e, es[i]? = some e ∧ v = e.val) (fun i h => h.get? it = some (valIt d i es.size ep) ∧ h.get? d = some (dictO es ep)) where
  sub := fun b hb => by simp at hb; simp [hb]
  frame := fun _ _ _ st hk => ⟨hk it (by simp) _ st.1, hk d (by simp) _ st.2⟩
  item := fun i s Q E hi st hQ => valNext (e := es[i]) st.1 st.2 (by simp [hi]) fun h' h1 h2 =>
    hQ _ h' s.toks ⟨es[i], by simp [hi], rfl⟩ ⟨h1, h2.extBut d _ hne st.2⟩ fun b o hb e => h2.extBut b o (fun h => hb (by simp [h])) e
  done := fun s Q E st hQ => valEnd hh st.1 st.2 (Nat.le_refl _) fun h' h1 => hQ h' s.toks fun b o hb e => h1 b o (fun h => hb (by simp [h])) e
  self := fun i s Q E st hQ => wpAny_pyIter_valiter ⟨_, st.1, rfl, rfl⟩ hQ
end
end Mine
open PySem PySem.W PySem.Calls PyProof.Rows
namespace Mine
/-- a host's key in a table -/
def wkey (x : Str) : List Str := ["of", x, "zone"]
theorem wkey_inj {x y : Str} (h : wkey x = wkey y) : x = y := by injection h with _ h; injection h
def wordO (x : Str) (t₁ t t₂ : Tok) : Obj := tupObj [.str "of" t₁, .str x t, .str "zone" t₂]
inductive KVs (g : View) : List Str → List (List Str × Addr × Value) → Prop
  | nil : KVs g [] []
  | cons {x : Str} {a : Addr} {t₁ t t₂ u : Tok} {xs : List Str} {kvs : List (List Str × Addr × Value)} : g a = some (wordO x t₁ t t₂) → KVs g xs kvs → KVs g (x :: xs) ((wkey x, a, .int 1 u) :: kvs)
theorem KVs.mono {g g' : View} (k : Le g g') : ∀ {xs : List Str} {kvs : List (List Str × Addr × Value)}, KVs g xs kvs → KVs g' xs kvs
  | _, _, .nil => .nil
  | _, _, .cons h r => .cons (k _ _ h) (r.mono k)
theorem KVs.keys {g : View} : ∀ {xs : List Str} {kvs : List (List Str × Addr × Value)}, KVs g xs kvs → kvs.map (·.1) = xs.map wkey
  | _, _, .nil => rfl
  | _, _, .cons h r => by simp [r.keys]
theorem KVs.length {g : View} {xs : List Str} {kvs : List (List Str × Addr × Value)} (h : KVs g xs kvs) : kvs.length = xs.length := by
  have := congrArg List.length h.keys
  simpa using this
theorem KVs.snoc {g : View} {y : Str} {a : Addr} {t₁ t t₂ u : Tok} (hy : g a = some (wordO y t₁ t t₂)) : ∀ {xs : List Str} {kvs : List (List Str × Addr × Value)}, KVs g xs kvs → KVs g (xs ++ [y]) (kvs ++ [(wkey y, a, .int 1 u)])
  | _, _, .nil => .cons hy .nil
  | _, _, .cons h r => .cons h (r.snoc hy)
theorem KVs.get {g : View} : ∀ {xs : List Str} {kvs : List (List Str × Addr × Value)}, KVs g xs kvs → ∀ {i : Nat} {k : List Str × Addr × Value}, kvs[i]? = some k → ∃ x t₁ t t₂ u, xs[i]? = some x ∧ k = (wkey x, k.2.1, .int 1 u) ∧ g k.2.1 = some (wordO x t₁ t t₂)
  | _, _, .nil, i, k, h => by simp at h
  | _, _, .cons (x := x) (t₁ := t₁) (t := t) (t₂ := t₂) (u := u) h r, 0, k, e => by simp at e; subst e; exact ⟨x, t₁, t, t₂, u, by simp, rfl, h⟩
  | _, _, .cons h r, i + 1, k, e => by simp at e; simpa using r.get e
theorem nodup_wkey {xs : List Str} (h : xs.Nodup) : (xs.map wkey).Nodup := by
  induction xs with
  | nil => exact List.nodup_nil
  | cons x r ih =>
    rw [List.nodup_cons] at h
    rw [List.map_cons, List.nodup_cons]
    refine ⟨fun hm => ?_, ih h.2⟩
    obtain ⟨y, hy, e⟩ := List.mem_map.mp hm
    exact h.1 (wkey_inj e ▸ hy)
/-- a table of hosts: {('of', host, 'zone'): 1, ..} -/
def DObj (prog : Program) (w : World) (xs : List Str) (o : Obj) (g : View) : Prop :=
  ∃ kvs es ep, o = dictO es ep ∧ es.toList = kvs.map (entryOfKey (tupleKind (PySem.strKind prog w))) ∧ KVs g xs kvs ∧ xs.Nodup
theorem DObj.mono {prog : Program} {w : World} {xs : List Str} {o : Obj} {g g' : View} (k : Le g g') : DObj prog w xs o g → DObj prog w xs o g'
  | ⟨kvs, es, ep, a, b, c, d⟩ => ⟨kvs, es, ep, a, b, c.mono k, d⟩
def Dv (prog : Program) (w : World) (xs : List Str) : VP :=
  ⟨fun v g => ∃ a o, v = .ref a ∧ g a = some o ∧ (a == sysModules) = false ∧ DObj prog w xs o g, fun k ⟨a, o, e, h, n, d⟩ => ⟨a, o, e, k _ _ h, n, d.mono k⟩⟩
theorem tupleKey_of {prog : Program} {w : World} {g : View} {h : Heap} {a : Addr} {x : Str} {t₁ t t₂ : Tok} (hg : On g h) (e : g a = some (wordO x t₁ t t₂)) : (tupleKind (PySem.strKind prog w)).is h (wkey x) a :=
  ⟨_, _, _, hg _ _ e, rfl, rfl, .cons (strKind_is _ _ _ _) (.cons (strKind_is _ _ _ _) (.cons (strKind_is _ _ _ _) .nil))⟩
theorem dictOfH_of {prog : Program} {w : World} {g : View} {h : Heap} {d : Addr} {xs : List Str} {kvs : List (List Str × Addr × Value)} {es : Array DictEntry} {ep : Nat} (hg : On g h) (hd : h.get? d = some (dictO es ep))
    (he : es.toList = kvs.map (entryOfKey (tupleKind (PySem.strKind prog w)))) (hk : KVs g xs kvs) (hn : xs.Nodup) : h.DictOfH (tupleKind (PySem.strKind prog w)) d kvs := by
  refine ⟨_, es, ep, hd, ⟨rfl, rfl, rfl⟩, rfl, he, fun k hm => ?_, by rw [hk.keys]; exact nodup_wkey hn⟩
  obtain ⟨i, hi⟩ := List.mem_iff_getElem?.mp hm
  obtain ⟨x, t₁, t, t₂, u, _, e, hw⟩ := hk.get hi
  rw [e]
  exact tupleKey_of hg hw
theorem atKey_of {g : View} {y : Str} : ∀ {xs : List Str} {kvs : List (List Str × Addr × Value)}, KVs g xs kvs → (atKey kvs (wkey y)).isSome = xs.any (· == y)
  | _, _, .nil => rfl
  | _, _, .cons (x := x) (a := a) (u := u) (xs := xs) (kvs := kvs) h r => by
    have ih := atKey_of (y := y) r
    unfold atKey at ih ⊢
    rw [List.find?_cons, List.any_cons]
    by_cases e : x = y
    · subst e; simp
    · have : ¬ wkey x = wkey y := fun q => e (wkey_inj q)
      simp only [this, decide_false]
      rw [ih]
      simp [beq_eq_false_iff_ne.mpr e]
theorem two_alive {w : World} {h : Heap} (G : Gd w h) : 2 < h.objs.size := by
  have : ∃ o, (Mine.hd.heap_39 w.params).lookup 2 = some o := ⟨_, rfl⟩
  obtain ⟨o, ho⟩ := this
  exact Heap.lt_size (G.kin 2 o ho)
theorem ne_sys {w : World} {h : Heap} (G : Gd w h) : (h.objs.size == sysModules) = false := by
  have := two_alive G
  rw [beq_eq_false_iff_ne]
  show h.objs.size ≠ 1
  omega
section
variable {prog : Program} {w : World} {A : Around} {env : Env} {Γ : Cx} {mu : List (Addr × MP)} {n : Nat}
theorem Ex.dict0 {pos : Pos} : Ex prog w A env Γ mu (.Dict [] [] pos) (Dv prog w []) := fun r g R => .mk fun s hs hg =>
  wpAny_Dict_empty (Fin.push (t := s.toks) hg ⟨_, _, rfl, ext_self _ _ _, ne_sys (R.gd.sub hs), [], #[], 0, rfl, rfl, .nil, List.nodup_nil⟩)
theorem callLenDict {s : Shared} {E : Value → Shared → Prop} {d : Addr} {es : Array DictEntry} {ep : Nat} {Q : Value → Shared → Prop} (hd : s.heap.get? d = some (dictO es ep)) (hm : (d == sysModules) = false) (hfit : (es.size : Int) < 2 ^ 63)
    (h : Q (.int es.size (s.toks + 1)) { s with toks := s.toks + 1 + 1 }) : wpAny (model prog w) A (call (.builtin "len") [.ref d]) Q E s := by
  have hT : s.TypeIs (.ref d) "dict" := ⟨_, hd, rfl⟩
  refine Calls.call_function_entry kind_len plain_len entry_len (args_len1 _) ?_
  unfold Builtin.«len»
  refine wpAny_bind (m := oneArg "len" _) (wpAny_pure ?_)
  refine wpAny_bind (m := callSpecial? (.ref d) (Str.ofString "__len__")) (wpAny_callSpecial?_slot (name := Str.ofString "__len__") hT F.slot_dict_len
    (wpAny_call_entry F.slot_dict_len hT F.entry_dict_len ?_ (F.args_dict_len_1 _)))
  show wpAny _ _ (dictSize d >>= _) _ _ s
  unfold dictSize
  refine wpAny_bind (wpAny_bind (wpAny_dictEntries hd rfl (wpAny_pure ?_)))
  show wpAny _ _ (Builtin.Dict.pendingCount d >>= _) _ _ s
  refine wpAny_bind (wpAny_pendingCount_other hm ?_)
  refine wpAny_ret_mkInt ?_
  rw [show ((es.size : Int) + ((0 : Nat) : Int)) = (es.size : Int) from by simp]
  show wpAny _ _ _ _ _ { s with toks := s.toks + 1 }
  refine wpAny_bind (wpAny_holding (wpAny_pure ?_))
  refine wpAny_bind (wpAny_letGo ?_)
  show wpAny _ _ (if ((es.size : Nat) : Int) < 0 then _ else _) _ _ _
  rw [if_neg (by omega)]
  show wpAny _ _ (if ((es.size : Nat) : Int) ≥ 2 ^ 63 then _ else _) _ _ _
  rw [if_neg (by omega)]
  exact wpAny_bind (wpAny_mkInt (wpAny_pure ⟨_, rfl, h⟩))
theorem op_lenD {xs : List Str} (hfit : xs.length ≤ 1000) : Op1 prog w A env Γ mu (fun v => call (.builtin "len") [v]) (Dv prog w xs) (I xs.length).is := by
  rintro r g v R ⟨a, o, rfl, ha, hn, kvs, es, ep, rfl, he, hk, _⟩
  refine .mk fun s hs hg => ?_
  have hsz : es.size = xs.length := by rw [← Array.length_toList, he, List.length_map, hk.length]
  refine callLenDict (hg _ _ ha) hn (by omega) ?_
  rw [hsz]
  exact Fin.tok hg ⟨_, rfl⟩
theorem op_lenL {α : Type} {P : α → VP} {xs : List α} (hfit : xs.length ≤ 1000) : Op1 prog w A env Γ mu (fun v => call (.builtin "len") [v]) (L P xs) (I xs.length).is := by
  rintro r g v R ⟨a, vs, k, rfl, ha, hx⟩
  refine .mk fun s hs hg => ?_
  have hsz : vs.toArray.size = xs.length := by simp [hx.length]
  refine Calls.call_len_list (isList_of (P := P) hg ha) (by omega) ?_
  rw [hsz]
  exact Fin.tok hg ⟨_, rfl⟩
theorem op_abs {a : Int} : Op1 prog w A env Γ mu (fun v => call (.builtin "abs") [v]) (I a) (I (if a < 0 then -a else a)).is := by
  rintro r g v R ⟨t, rfl⟩
  refine .mk fun s hs hg => ?_
  exact call_abs_int fun _ _ => Fin.tok hg ⟨_, rfl⟩
theorem op_min {a b : Int} (hR : Rm A n) : Op2 prog w A env Γ mu (fun v u => call (.builtin "min") [v, u]) (I a) (I b) (I (if b < a then b else a)) := by
  rintro r g v u R ⟨t, rfl⟩ ⟨t', rfl⟩
  refine .mk fun s hs hg => ?_
  refine min_two_ints hR.hd fun h' tk k => Fin.keeps ⟨h', tk, rfl, k⟩ hg ?_
  split <;> exact ⟨_, rfl⟩
def RangeO (a b : Int) (t u v : Tok) : Obj := { cls := .type "range", data := .fields #[.int a t, .int b u, .int 1 v] }
def Rg (a b : Int) : VP := ⟨fun v g => ∃ r t u x, v = .ref r ∧ g r = some (RangeO a b t u x), fun k ⟨r, t, u, x, e, h⟩ => ⟨r, t, u, x, e, k _ _ h⟩⟩
theorem op_range1 {b : Int} : Op1 prog w A env Γ mu (fun v => call (.type "range") [v]) (I b) (Rg 0 b).is := by
  rintro r g v R ⟨t, rfl⟩
  refine .mk fun s hs hg => ?_
  exact call_range_1 (Fin.push hg ⟨_, _, _, _, rfl, ext_self _ _ _⟩)
theorem op_range2 {a b : Int} : Op2 prog w A env Γ mu (fun v u => call (.type "range") [v, u]) (I a) (I b) (Rg a b) := by
  rintro r g v u R ⟨t, rfl⟩ ⟨t', rfl⟩
  refine .mk fun s hs hg => ?_
  exact call_range_2 (Fin.push hg ⟨_, _, _, _, rfl, ext_self _ _ _⟩)
/-- sorted: one and the same list of texts for one and the same texts -/
noncomputable def Srt (xs : List Str) : VP := ⟨fun v g => ∃ ys : List Str, ys.Perm xs ∧ sortedS ys = true ∧ (L S ys).is v g, fun k ⟨ys, a, b, c⟩ => ⟨ys, a, b, (L S ys).mono k c⟩⟩
theorem op_sorted {xs : List Str} (h64 : xs.length < 64) : Op1 prog w A env Γ mu (fun v => call (.builtin "sorted") [v]) (L S xs) (Srt xs).is := by
  rintro r g v R ⟨a, vs, k, rfl, ha, hx⟩
  refine .mk fun s hs hg => ?_
  refine sorted_strs (isList_of (P := S) hg ha) hx.strs (by rw [hx.length]; exact h64) fun out ss' h1 h2 h3 => ?_
  obtain ⟨e, he⟩ := sortedAll_at s.heap vs out
  have hn : s.heap.get? (s.heap.objs.size + 1) = none := by
    cases e : s.heap.get? (s.heap.objs.size + 1) with
    | none => rfl
    | some o' => exact absurd (Heap.lt_size e) (Nat.not_lt.mpr (Nat.le_succ _))
  exact Fin.new ⟨_, s.toks, rfl, fun b o e => sortedAll_old e⟩ hg hn he ⟨ss', h2, h3, _, out.toList, e, rfl, ext_self _ _ _, Are.of_strs h1⟩
theorem are_intItems {g : View} : ∀ {xs : List Int} {vs : List Value}, Are I g xs vs → ∃ ps : List (Int × Tok), vs = ps.map (fun p => .int p.1 p.2) ∧ ps.map (·.1) = xs
  | _, _, .nil => ⟨[], rfl, rfl⟩
  | _, _, .cons ⟨t, h⟩ r => by
    obtain ⟨ps, rfl, rfl⟩ := are_intItems r
    exact ⟨(_, t) :: ps, by simp [h], rfl⟩
theorem preSum_eq (ps : List (Int × Tok)) : ∀ k, k ≤ ps.length → preSum (numAt ps.toArray) k = ((ps.map (·.1)).take k).sum := by
  intro k
  induction k with
  | zero => intro _; rfl
  | succ k ih =>
    intro hk
    have hlt : k < ps.length := hk
    show preSum (numAt ps.toArray) k + numAt ps.toArray k = _
    rw [ih (Nat.le_of_lt hlt), List.take_add_one]
    simp [numAt, hlt]
theorem op_sum {xs : List Int} (hR : Rm A n) (h1 : ∀ x ∈ xs, 0 ≤ x ∧ x ≤ 1000000) (h2 : xs.length ≤ 1000000) : Op1 prog w A env Γ mu (fun v => call (.builtin "sum") [v]) (L I xs) (I xs.sum).is := by
  rintro r g v R ⟨a, vs, k, rfl, ha, hx⟩
  refine .mk fun s hs hg => ?_
  obtain ⟨ps, rfl, rfl⟩ := are_intItems hx
  have hl : s.heap.IsList a (intItems ps.toArray) := by
    have := isList_of (P := I) hg ha
    simpa [intItems] using this
  have bound : ∀ (l : List Int), (∀ x ∈ l, 0 ≤ x ∧ x ≤ 1000000) → 0 ≤ l.sum ∧ l.sum ≤ 1000000 * l.length := by
    intro l
    induction l with
    | nil => intro _; simp
    | cons x r ih =>
      intro h
      have a1 := h x (by simp)
      have a2 := ih fun y hy => h y (by simp [hy])
      simp only [List.sum_cons, List.length_cons]
      omega
  refine sum_intList hR.hd hl (fun j hj => ?_) fun h' tk t' kk => Fin.keeps ⟨h', tk, rfl, kk⟩ hg ?_
  · have hj' : j < ps.length := by simpa using hj
    have e := preSum_eq ps (j + 1) hj'
    have b1 := bound ((ps.map (·.1)).take (j + 1)) fun x hxm => h1 x (List.mem_of_mem_take hxm)
    have b2 : ((ps.map (·.1)).take (j + 1)).length ≤ 1000000 := by
      rw [List.length_take]; exact Nat.le_trans (Nat.min_le_right _ _) h2
    have b3 := h1 (numAt ps.toArray j) (by
      refine List.mem_map.mpr ⟨ps[j], List.getElem_mem _, ?_⟩
      simp [numAt, hj'])
    unfold InLong
    rw [e]
    constructor <;> constructor <;> omega
  · have e := preSum_eq ps ps.length (Nat.le_refl _)
    refine ⟨t', ?_⟩
    simp only [List.size_toArray]
    rw [e, ← List.length_map (·.1), List.take_length]
/-- comparing lists -/
def Enc {α : Type} (P : α → VP) (enc : α → PyData) : Prop := ∀ (h : Heap) (g : View) (x : α) (v : Value), On g h → (P x).is v g → ∃ as, Reads h v (enc x) as
theorem enc_S : Enc S PyData.str := by rintro h g x v hg ⟨t, rfl⟩; exact ⟨_, .str x t⟩
theorem enc_I : Enc I PyData.int := by rintro h g x v hg ⟨t, rfl⟩; exact ⟨_, .int x t⟩
def encW (x : Str) : PyData := .tuple [.str "of", .str x, .str "zone"]
theorem enc_W : Enc Wd encW := by
  rintro h g x v hg ⟨a, t₁, t, t₂, rfl, ha⟩
  exact ⟨_, .tuple (hg _ _ ha) rfl rfl (.cons (.str _ _) (.cons (.str _ _) (.cons (.str _ _) .nil)))⟩
theorem readsAll_of {α : Type} {P : α → VP} {enc : α → PyData} (he : Enc P enc) {h : Heap} {g : View} (hg : On g h) : ∀ {xs : List α} {vs : List Value}, Are P g xs vs → ∃ as, ReadsAll h vs (xs.map enc) as
  | _, _, .nil => ⟨_, .nil⟩
  | _, _, .cons a r => by
    obtain ⟨as, ha⟩ := he h g _ _ hg a
    obtain ⟨bs, hb⟩ := readsAll_of he hg r
    exact ⟨_, .cons ha hb⟩
theorem reads_of {α : Type} {P : α → VP} {enc : α → PyData} (he : Enc P enc) {h : Heap} {g : View} (hg : On g h) {xs : List α} {v : Value} (hv : (L P xs).is v g) : ∃ as, Reads h v (.list (xs.map enc)) as := by
  obtain ⟨a, vs, k, rfl, ha, hx⟩ := hv
  obtain ⟨as, hr⟩ := readsAll_of he hg hx
  exact ⟨_, .list (hg _ _ ha) rfl rfl (by simpa using hr)⟩
theorem same_strs : ∀ xs ys : List Str, Spec.sameAll (xs.map PyData.str) (ys.map PyData.str) = decide (xs = ys)
  | [], [] => by simp [Spec.sameAll]
  | [], _ :: _ => by simp [Spec.sameAll]
  | _ :: _, [] => by simp [Spec.sameAll]
  | x :: r, y :: q => by
    simp only [List.map_cons, Spec.sameAll, Spec.same, same_strs r q]
    by_cases h : x = y <;> simp [h]
theorem noMix_strs : ∀ xs ys : List Str, SeqAt.noMixAll (xs.map PyData.str) (ys.map PyData.str) = true
  | [], [] => by simp [SeqAt.noMixAll]
  | [], _ :: _ => by simp [SeqAt.noMixAll]
  | _ :: _, [] => by simp [SeqAt.noMixAll]
  | _ :: r, _ :: q => by simp [SeqAt.noMixAll, SeqAt.noMix, noMix_strs r q]
theorem shaped_strs {xs : List Str} (h : ∀ x ∈ xs, PyData.strOk x = true) : SeqAt.shaped (.list (xs.map .str)) = true := by
  show (PyData.canLay0 (.list (xs.map PyData.str)) && decide (PyData.depth (.list (xs.map PyData.str)) ≤ 64)) = true
  rw [Bool.and_eq_true]
  refine ⟨?_, ?_⟩
  · simp only [PyData.canLay0]; rw [canLayAll_strs']; exact List.all_eq_true.mpr h
  · have := depthAll_strs' xs
    refine decide_eq_true ?_
    simp only [PyData.depth]
    omega
theorem op_neLS {xs ys : List Str} (hR : Rm A n) (hx : ∀ x ∈ xs, PyData.strOk x = true) (hy : ∀ x ∈ ys, PyData.strOk x = true) : Op2 prog w A env Γ mu (compareOp .NotEq) (L S xs) (L S ys) (B (!decide (xs = ys))) := by
  rintro r g v u R h₁ h₂
  refine .mk fun s hs hg => ?_
  obtain ⟨as, ra⟩ := reads_of enc_S hg h₁
  obtain ⟨bs, rb⟩ := reads_of enc_S hg h₂
  refine ne_dataH_same ra rb (shaped_strs hx) (shaped_strs hy) (by have := hR.un; omega) (by simp only [SeqAt.noMix]; exact noMix_strs _ _) ?_
  simp only [Spec.same]
  rw [same_strs]
  exact Fin.same hg rfl
theorem op_eqLS {xs ys : List Str} (hR : Rm A n) (hx : ∀ x ∈ xs, PyData.strOk x = true) (hy : ∀ x ∈ ys, PyData.strOk x = true) : Op2 prog w A env Γ mu (compareOp .Eq) (L S xs) (L S ys) (B (decide (xs = ys))) := by
  rintro r g v u R h₁ h₂
  refine .mk fun s hs hg => ?_
  obtain ⟨as, ra⟩ := reads_of enc_S hg h₁
  obtain ⟨bs, rb⟩ := reads_of enc_S hg h₂
  refine eq_dataH_same ra rb (shaped_strs hx) (shaped_strs hy) (by have := hR.un; omega) (by simp only [SeqAt.noMix]; exact noMix_strs _ _) ?_
  simp only [Spec.same]
  rw [same_strs]
  exact Fin.same hg rfl
/-- sorted(xs) != sorted(xs) -/
theorem op_neSrt {xs ys : List Str} (hR : Rm A n) (hx : ∀ x ∈ xs, PyData.strOk x = true) (hp : ys.Perm xs) (hu : ∀ a b : List Str, a.Perm xs → b.Perm xs → sortedS a = true → sortedS b = true → a = b) :
    Op2 prog w A env Γ mu (compareOp .NotEq) (Srt xs) (Srt ys) (B false) := by
  rintro r g v u R ⟨as, ha, ha', h₁⟩ ⟨bs, hb, hb', h₂⟩
  refine .mk fun s hs hg => ?_
  have e := hu as bs ha (hb.trans hp) ha' hb'
  subst e
  have := op_neLS (prog := prog) (w := w) (A := A) (env := env) (Γ := Γ) (mu := mu) hR (xs := as) (ys := as) (fun x hm => hx x (ha.mem_iff.mp hm)) (fun x hm => hx x (ha.mem_iff.mp hm)) r g v u R h₁ h₂ |>.run s hs hg
  refine wpAny_mono this (fun c s' ⟨k, g', a, b, nw, hc⟩ => ⟨k, g', a, b, nw, ?_⟩) fun _ _ f => f
  obtain rfl := hc
  show Value.bool _ = Value.bool _
  simp
theorem op_neLI0 {xs : List Int} (hR : Rm A n) : Op2 prog w A env Γ mu (compareOp .NotEq) (L I xs) (L I []) (B (!decide (xs = []))) := by
  rintro r g v u R h₁ h₂
  refine .mk fun s hs hg => ?_
  obtain ⟨as, ra⟩ := reads_of enc_I hg h₁
  obtain ⟨bs, rb⟩ := reads_of enc_I hg h₂
  refine ne_dataH_same ra rb (shaped_ints _) (shaped_ints _) (by have := hR.un; omega) (by simp only [SeqAt.noMix]; exact noMix_ints _ _) ?_
  simp only [Spec.same]
  rw [same_ints]
  exact Fin.same hg rfl
theorem shaped_words : ∀ {xs : List Str} (h : ∀ x ∈ xs, PyData.strOk x = true), SeqAt.shaped (.list (xs.map encW)) = true := by
  intro xs h
  show (PyData.canLay0 (.list (xs.map encW)) && decide (PyData.depth (.list (xs.map encW)) ≤ 64)) = true
  have h1 : ∀ {xs : List Str}, (∀ x ∈ xs, PyData.strOk x = true) → PyData.canLayAll0 (xs.map encW) = true := by
    intro xs
    induction xs with
    | nil => intro _; rfl
    | cons x r ih =>
      intro h
      have hx := h x (by simp)
      simp only [List.map_cons, PyData.canLayAll0, encW, PyData.canLay0, Bool.and_eq_true, hx, true_and]
      refine ⟨by decide +kernel, ih fun y hy => h y (by simp [hy])⟩
  have h2 : ∀ xs : List Str, PyData.depthAll (xs.map encW) ≤ 2 := by
    intro xs
    induction xs with
    | nil => simp [PyData.depthAll]
    | cons x r ih => simp only [List.map_cons, PyData.depthAll, encW, PyData.depth] at ih ⊢; omega
  rw [Bool.and_eq_true]
  refine ⟨by simp only [PyData.canLay0]; exact h1 h, ?_⟩
  have := h2 xs
  refine decide_eq_true ?_
  simp only [PyData.depth]
  omega
theorem op_neLW0 {xs : List Str} (hR : Rm A n) (hx : ∀ x ∈ xs, PyData.strOk x = true) : Op2 prog w A env Γ mu (compareOp .NotEq) (L Wd xs) (L Wd []) (B (!decide (xs = []))) := by
  rintro r g v u R h₁ h₂
  refine .mk fun s hs hg => ?_
  obtain ⟨as, ra⟩ := reads_of enc_W hg h₁
  obtain ⟨bs, rb⟩ := reads_of enc_W hg h₂
  refine ne_dataH_same ra rb (shaped_words hx) (shaped_words (xs := []) (by simp)) (by have := hR.un; omega) (by cases xs <;> simp [SeqAt.noMix, SeqAt.noMixAll]) ?_
  have : Spec.same (PyData.list (xs.map encW)) (PyData.list ([].map encW)) = decide (xs = []) := by cases xs <;> simp [Spec.same, Spec.sameAll]
  rw [this]
  exact Fin.same hg rfl
/-- word in table -/
theorem op_inD {x : Str} {ys : List Str} (hR : Rm A n) : Op2 prog w A env Γ mu (compareOp .In) (Wd x) (Dv prog w ys) (B (ys.any (· == x))) := by
  rintro r g v u R ⟨a, t₁, t, t₂, rfl, ha⟩ ⟨d, o, rfl, hd, hn, kvs, es, ep, rfl, he, hk, hnd⟩
  refine .mk fun s hs hg => ?_
  refine wpAny_in_heap (knd := tupleKind (PySem.strKind prog w)) (tupleKind_room_in1 (by have := hR.un; omega)) (tupleKey_of hg ha) hn (dictOfH_of hg (hg _ _ hd) he hk hnd) ?_
  rw [atKey_of hk]
  exact Fin.tok hg rfl
/-- word[1] -/
theorem op_itemW {o i : Expr} {x : Str} (hs1 : ∀ a u, subscripted i false (.ref a) (.int 1 u) = operate [.ref a, .int 1 u] (getItem (.ref a) (.int 1 u)) := by intro _ _; with_unfolding_all rfl) :
    Op2 prog w A env Γ mu (subscriptTail o i) (Wd x) (I 1) (S x) := by
  rintro r g v u R ⟨a, t₁, t, t₂, rfl, ha⟩ ⟨t', rfl⟩
  refine .mk fun s hs hg => ?_
  exact item_tupleT (l := [.str "of" t₁, .str x t, .str "zone" t₂]) (j := 1) (x := .str x t) ⟨_, hg _ _ ha, rfl, _, rfl⟩ (by decide) (by decide) (by rfl) (by rfl) (Fin.same hg ⟨_, rfl⟩) (hs1 _ _)
end
end Mine
open PySem PySem.W PySem.Calls PyProof.Rows
namespace Mine
section
variable {prog : Program} {w : World} {A : Around} {env : Env} {Γ : Cx} {mu : List (Addr × MP)} {n : Nat}
theorem Walks.weaken {I : Addr} {fp wr : List Addr} {k : Nat} {P P' : Nat → Value → Prop} {St : Nat → Heap → Prop} (W : Walks prog w A I fp wr k P St) (h : ∀ i v, i < k → P i v → P' i v) : Walks prog w A I fp wr k P' St where
  sub := W.sub
  frame := W.frame
  item := fun i s Q E hi st hQ => W.item i s Q E hi st fun v h' tk hp => hQ v h' tk (h i v hi hp)
  done := W.done
  self := W.self
/-- the values of V are gone through as the xs -/
def Iter (prog : Program) (w : World) (A : Around) (env : Env) (Γ : Cx) (mu : List (Addr × MP)) (V : VP) {α : Type} (xs : List α) (P : α → VP) : Prop :=
  ∀ (r : Heap) (g : View) (v : Value) (s : Shared) (Q : Value → Shared → Prop) (E : Value → Shared → Prop), Rd w r g env Γ mu → V.is v g → Sub r s.heap → On g s.heap →
    (∀ (I : Addr) (fp wr : List Addr) (St : Nat → Heap → Prop) (h₂ : Heap), Sub s.heap h₂ → Walks prog w A I fp wr xs.length (fun i u => ∃ x, xs[i]? = some x ∧ (P x).is u g) St → St 0 h₂ → (∀ b ∈ fp, b < h₂.objs.size) →
      (∀ b ∈ wr, s.heap.get? b = none ∧ ∃ o, h₂.get? b = some o) → (∀ b ∈ fp, b ∈ wr ∨ ∃ o, g b = some o) → (∀ i h, St i h → ∀ b ∈ wr, ∃ o, h.get? b = some o) → Q (.ref I) { s with heap := h₂ }) → wpAny (model prog w) A (pyIter v) Q E s
theorem fresh_ne {g : View} {h : Heap} (hg : On g h) {a : Addr} {o : Obj} (e : g a = some o) : a ≠ h.objs.size := Nat.ne_of_lt (Heap.lt_size (hg _ _ e))
theorem iter_list {α : Type} {P : α → VP} {xs : List α} (hh : A.handled = none) : Iter prog w A env Γ mu (L P xs) xs P := by
  rintro r g v s Q E R ⟨a, vs, k, rfl, ha, hx⟩ hs hg hQ
  have hl := isList_of (P := P) hg ha
  refine wpAny_pyIter_list hl ?_
  have W := Walks.list (prog := prog) (w := w) hh s.heap.objs.size a (fresh_ne hg ha) vs.toArray
  have e : vs.toArray.size = xs.length := by simp [hx.length]
  rw [e] at W
  refine hQ _ _ _ _ _ (fun _ _ e => Heap.get?_push_of_some _ e) (Walks.weaken W fun i u hlt hu => hx.get (by simpa using hu)) ⟨⟨_, Heap.get?_push_size _ rfl, rfl, rfl⟩, hl.push _⟩ ?_ ?_ ?_ (fun j h st b hb => by rw [List.mem_singleton.mp hb]; obtain ⟨o, ho, _⟩ := st.1; exact ⟨o, ho⟩)
  · intro b hb
    rw [Heap.size_push]
    rcases List.mem_cons.mp hb with rfl | hb
    · exact Nat.lt_succ_self _
    · rw [List.mem_singleton.mp hb]; exact Nat.lt_succ_of_lt (Heap.lt_size (hg _ _ ha))
  · intro b hb; rw [List.mem_singleton.mp hb]; exact ⟨fresh_size _, _, Heap.get?_push_size _ rfl⟩
  · intro b hb
    rcases List.mem_cons.mp hb with rfl | hb
    · exact .inl (by simp)
    · rw [List.mem_singleton.mp hb]; exact .inr ⟨_, ha⟩
def upto (a b : Int) : List Int := (List.range (b - a).toNat).map fun (i : Nat) => a + (i : Int)
theorem iter_range {a b : Int} (hh : A.handled = none) (ha : -1000 ≤ a ∧ a ≤ 1000) (hb : -1000 ≤ b ∧ b ≤ 1000) : Iter prog w A env Γ mu (Rg a b) (upto a b) I := by
  rintro r g v s Q E R ⟨q, t, u, x, rfl, hq⟩ hs hg hQ
  refine wpAny_pyIter_range (hg _ _ hq) (small_one (by omega) (by omega) (by omega) (by omega)) ?_
  have W := Walks.range (prog := prog) (w := w) hh s.heap.objs.size a 1 (b - a).toNat
  have e : (upto a b).length = (b - a).toNat := by simp [upto]
  rw [← e] at W
  have hsz : Builtin.Range.rangeSize a b 1 = (((upto a b).length : Nat) : Int) := by rw [rangeSize_one, e]; split <;> omega
  refine hQ _ _ _ _ _ (fun _ _ e => Heap.get?_push_of_some _ e) (Walks.weaken W fun i u hlt hu => ?_) ?_ ?_ ?_ ?_ (fun j h st b hb => by rw [List.mem_singleton.mp hb]; exact ⟨_, st⟩)
  · obtain ⟨t', rfl⟩ := hu
    rw [e] at hlt
    refine ⟨a + (i : Int) * 1, ?_, t', rfl⟩
    simp [upto, hlt]
  · show IsRangeIter _ _ _ _ _
    rw [hsz]
    simpa using Heap.get?_push_size s.heap rfl
  · intro b hb; rw [Heap.size_push, List.mem_singleton.mp hb]; exact Nat.lt_succ_self _
  · intro b hb; rw [List.mem_singleton.mp hb]; exact ⟨fresh_size _, _, Heap.get?_push_size _ rfl⟩
  · intro b hb; exact .inl hb
theorem iter_keys {xs : List Str} (hh : A.handled = none) : Iter prog w A env Γ mu (Dv prog w xs) xs Wd := by
  rintro r g v s Q E R ⟨d, o, rfl, hd, hn, kvs, es, ep, rfl, he, hk, hnd⟩ hs hg hQ
  refine iterKeys (hg _ _ hd) hn ?_
  have W := Walks.keys (prog := prog) (w := w) hh s.heap.objs.size d (fresh_ne hg hd) es ep
  have e : es.size = xs.length := by rw [← Array.length_toList, he, List.length_map, hk.length]
  rw [e] at W
  refine hQ _ _ _ _ _ (fun _ _ e => Heap.get?_push_of_some _ e) (Walks.weaken W fun i u hlt hu => ?_) ⟨by rw [e]; exact Heap.get?_push_size _ rfl, Heap.get?_push_of_some _ (hg _ _ hd)⟩ ?_ ?_ ?_ (fun j h st b hb => by rw [List.mem_singleton.mp hb]; exact ⟨_, st.1⟩)
  · obtain ⟨en, h1, rfl⟩ := hu
    have h2 : es.toList[i]? = some en := by simpa using h1
    rw [he, List.getElem?_map] at h2
    obtain ⟨k, h3, rfl⟩ := Option.map_eq_some_iff.mp h2
    obtain ⟨x, t₁, t, t₂, u, hx, hkk, hw⟩ := hk.get h3
    exact ⟨x, hx, k.2.1, t₁, t, t₂, rfl, hw⟩
  · intro b hb
    rw [Heap.size_push]
    rcases List.mem_cons.mp hb with rfl | hb
    · exact Nat.lt_succ_self _
    · rw [List.mem_singleton.mp hb]; exact Nat.lt_succ_of_lt (Heap.lt_size (hg _ _ hd))
  · intro b hb; rw [List.mem_singleton.mp hb]; exact ⟨fresh_size _, _, Heap.get?_push_size _ rfl⟩
  · intro b hb
    rcases List.mem_cons.mp hb with rfl | hb
    · exact .inl (by simp)
    · rw [List.mem_singleton.mp hb]; exact .inr ⟨_, hd⟩
/-- a table's values -/
def Vv (prog : Program) (w : World) (xs : List Str) : VP := ⟨fun v g => ∃ a d o, v = .ref a ∧ g a = some (viewO "dict_values" d) ∧ g d = some o ∧ DObj prog w xs o g, fun k ⟨a, d, o, e, h, h', q⟩ => ⟨a, d, o, e, k _ _ h, k _ _ h', q.mono k⟩⟩
theorem op_values {xs : List Str} : Op1 prog w A env Γ mu (fun v => call (.builtin "dict.values") [v]) (Dv prog w xs) (Vv prog w xs).is := by
  rintro r g v R ⟨d, o, rfl, hd, hn, D⟩
  refine .mk fun s hs hg => ?_
  obtain ⟨kvs, es, ep, rfl, he, hk, hnd⟩ := D
  refine callValues (hg _ _ hd) hn (Fin.push (t := s.toks) hg ⟨_, d, _, rfl, ext_self _ _ _, le_ext (fresh_view hg) _ _ hd, kvs, es, ep, rfl, he, hk.mono (le_ext (fresh_view hg)), hnd⟩)
theorem iter_values {xs : List Str} (hh : A.handled = none) : Iter prog w A env Γ mu (Vv prog w xs) xs (fun _ => I 1) := by
  rintro r g v s Q E R ⟨a, d, o, rfl, ha, hd, kvs, es, ep, rfl, he, hk, hnd⟩ hs hg hQ
  refine iterValues (hg _ _ ha) (hg _ _ hd) ?_
  have W := Walks.vals (prog := prog) (w := w) hh s.heap.objs.size d (fresh_ne hg hd) es ep
  have e : es.size = xs.length := by rw [← Array.length_toList, he, List.length_map, hk.length]
  rw [e] at W
  refine hQ _ _ _ _ _ (fun _ _ e => Heap.get?_push_of_some _ e) (Walks.weaken W fun i u hlt hu => ?_) ⟨by rw [e]; exact Heap.get?_push_size _ rfl, Heap.get?_push_of_some _ (hg _ _ hd)⟩ ?_ ?_ ?_ (fun j h st b hb => by rw [List.mem_singleton.mp hb]; exact ⟨_, st.1⟩)
  · obtain ⟨en, h1, rfl⟩ := hu
    have h2 : es.toList[i]? = some en := by simpa using h1
    rw [he, List.getElem?_map] at h2
    obtain ⟨k, h3, rfl⟩ := Option.map_eq_some_iff.mp h2
    obtain ⟨x, t₁, t, t₂, u, hx, hkk, hw⟩ := hk.get h3
    refine ⟨x, hx, u, ?_⟩
    rw [hkk]; rfl
  · intro b hb
    rw [Heap.size_push]
    rcases List.mem_cons.mp hb with rfl | hb
    · exact Nat.lt_succ_self _
    · rw [List.mem_singleton.mp hb]; exact Nat.lt_succ_of_lt (Heap.lt_size (hg _ _ hd))
  · intro b hb; rw [List.mem_singleton.mp hb]; exact ⟨fresh_size _, _, Heap.get?_push_size _ rfl⟩
  · intro b hb
    rcases List.mem_cons.mp hb with rfl | hb
    · exact .inl (by simp)
    · rw [List.mem_singleton.mp hb]; exact .inr ⟨_, hd⟩
/-- names that a comprehension takes from its frame -/
def Caps (scope : Scope) (cl : List (Str × Addr)) (env : Env) (Γ : Cx) : Cx → Prop
  | [] => True
  | p :: r => (Γ.lookup p.1 = some p.2 ∧ env.kindOf p.1 = some .cell ∧ (relabel scope env).names.lookup p.1 = some .cell ∧ cl.lookup p.1 = env.cells.lookup p.1) ∧ Caps scope cl env Γ r
theorem Caps.get {scope : Scope} {cl : List (Str × Addr)} : ∀ {Γ' : Cx}, Caps scope cl env Γ Γ' → ∀ {x : Str} {P : VP}, Γ'.lookup x = some P →
    Γ.lookup x = some P ∧ env.kindOf x = some .cell ∧ (relabel scope env).names.lookup x = some .cell ∧ cl.lookup x = env.cells.lookup x
  | [], _, x, P, h => by simp at h
  | p :: r, hc, x, P, h => by
    rw [List.lookup_cons] at h
    cases e : x == p.1 with
    | true =>
      rw [e] at h
      have e' : x = p.1 := eq_of_beq e
      have h' : p.2 = P := by simpa using h
      subst e'; subst h'
      exact hc.1
    | false => rw [e] at h; exact hc.2.get h
/-- what a comprehension's element may read -/
theorem Rd.comp {r r' : Heap} {g g' : View} {scope : Scope} {cl : List (Str × Addr)} {C : Addr} {Γ' : Cx} {x : Str} {P : VP} {v : Value} {m : Str → Option Value} (R : Rd w r g env Γ mu) (hcap : Caps scope cl env Γ Γ') (hkind : scope.kind = .function)
    (hx : scope.names.lookup x = some .local) (k : Sub r r') (l : Le g g') (hn : r'.Ns C m) (hm : m x = some v) (hP : P.is v g') : Rd w r' g' (compEnvC scope cl C env) ((x, P) :: Γ') mu := by
  refine ⟨R.gd.sub k, fun y P' e => ?_, fun a M e => let ⟨o, h, q⟩ := R.muts a M e; ⟨o, k _ _ h, M.mono l q⟩, hkind, R.gl, R.bl⟩
  rw [List.lookup_cons] at e
  cases ey : y == x with
  | true =>
    rw [ey] at e
    have ey' : y = x := eq_of_beq ey
    have e' : P = P' := by simpa using e
    subst ey'; subst e'
    exact ⟨v, .inl ⟨lookup_relabel_local hx, m, hn, hm⟩, hP⟩
  | false =>
    rw [ey] at e
    obtain ⟨h1, h2, h3, h4⟩ := hcap.get e
    obtain ⟨u, hu, hPu⟩ := R.vars y P' h1
    refine ⟨u, ?_, P'.mono l hPu⟩
    rcases hu with ⟨hk, _⟩ | ⟨c, _, hc, hcell⟩
    · rw [h2] at hk; cases hk
    · exact .inr ⟨c, .inl h3, (show (compEnvC scope cl C env).cells.lookup y = some c from h4.trans hc), hcell.keeps k⟩
theorem are_of_get {α : Type} {P : α → VP} {g : View} : ∀ {xs : List α} {vs : List Value}, vs.length = xs.length → (∀ (j : Nat) v, vs[j]? = some v → ∃ x, xs[j]? = some x ∧ (P x).is v g) → Are P g xs vs
  | [], [], _, _ => .nil
  | [], _ :: _, h, _ => by simp at h
  | _ :: _, [], h, _ => by simp at h
  | x :: xs, v :: vs, h, hg => by
    obtain ⟨y, hy, hp⟩ := hg 0 v (by simp)
    obtain rfl : x = y := by simpa using hy
    exact .cons hp (are_of_get (by simpa using h) fun j u hu => by simpa using hg (j + 1) u (by simpa using hu))
/-- one value stands for one thing -/
def Inj {α : Type} (P : α → VP) : Prop := ∀ (g : View) (v : Value) (a b : α), (P a).is v g → (P b).is v g → a = b
theorem inj_S : Inj S := by rintro g v a b ⟨t, rfl⟩ ⟨u, e⟩; injection e
theorem inj_I : Inj I := by rintro g v a b ⟨t, rfl⟩ ⟨u, e⟩; injection e
theorem inj_W : Inj Wd := by
  rintro g v x y ⟨a, t₁, t, t₂, rfl, h⟩ ⟨b, u₁, u, u₂, e, h'⟩
  injection e with e
  subst e
  rw [h] at h'
  injection h' with h'
  simp only [tupObj, Obj.mk.injEq, Data.seq.injEq, true_and, and_true] at h'
  simp at h'
  exact h'.2.1.1
open Classical in
/-- those values that stand for a thing of p -/
noncomputable def sel {α : Type} (P : α → VP) (g : View) (xs : List α) (p : α → Bool) : Value → Bool := fun v => decide (∃ a ∈ xs, (P a).is v g ∧ p a = true)
theorem sel_eq {α : Type} {P : α → VP} {g : View} {xs : List α} {p : α → Bool} {v : Value} {a : α} (hi : Inj P) (ha : a ∈ xs) (h : (P a).is v g) : sel P g xs p v = p a := by
  unfold sel
  cases e : p a with
  | true => simp only [decide_eq_true_eq]; exact ⟨a, ha, h, e⟩
  | false =>
    simp only [decide_eq_false_iff_not]
    rintro ⟨b, _, hb, hp⟩
    rw [hi g v b a hb h, e] at hp
    cases hp
theorem are_filter {α : Type} {P : α → VP} {g : View} {zs : List α} {p : α → Bool} (hi : Inj P) {xs : List α} {vs : List Value} (hz : ∀ x ∈ xs, x ∈ zs) (h : Are P g xs vs) : Are P g (xs.filter p) (vs.filter (sel P g zs p)) := by
  induction h with
  | nil => exact .nil
  | @cons x v xs vs h r ih =>
    have ih := ih fun y hy => hz y (by simp [hy])
    rw [List.filter_cons, List.filter_cons, sel_eq hi (hz x (by simp)) h]
    cases hp : p x with
    | true => simp only [if_true]; exact .cons h ih
    | false => simpa using ih
theorem paired_eq : ∀ {vs us : List Value}, Paired (fun v y => y = v) vs us → us = vs
  | _, _, .nil => rfl
  | _, _, .cons h r => by rw [h, paired_eq r]
theorem are_map {α β : Type} {P : α → VP} {R : β → VP} {f : α → β} {g : View} {zs : List α} (hi : Inj P) (hfl : ∀ b v g g', (R b).is v g → (R b).is v g') {xs : List α} {vs : List Value} (hz : ∀ x ∈ xs, x ∈ zs) (h : Are P g xs vs) :
    ∀ {us : List Value}, Paired (fun v y => ∃ a ∈ zs, (P a).is v g ∧ (R (f a)).is y (fun _ => none)) vs us → Are R g (xs.map f) us := by
  induction h with
  | nil => intro us q; cases q; exact .nil
  | @cons x v xs vs h r ih =>
    intro us q
    cases q with
    | cons hh q =>
      obtain ⟨a, ha, h', h''⟩ := hh
      rw [hi g v a x h' h] at h''
      exact .cons (hfl _ _ _ _ h'') (ih (fun y hy => hz y (by simp [hy])) q)
/-- the inner run of «[x for x in .. if test]» -/
theorem quiet_self {α : Type} {P : α → VP} {xs : List α} {p : α → Bool} {x : Str} {px : Pos} {test : Expr} {scope : Scope} {cl : List (Str × Addr)} {Γ' : Cx} {r : Heap} {g : View} {wr : List Addr} {s₂ : Shared} (R : Rd w r g env Γ mu) (hi : Inj P)
    (hkind : scope.kind = .function) (hx : scope.names.lookup x = some .local) (hcap : Caps scope cl env Γ Γ') (hd : (x == ("__debug__" : Str)) = false)
    (ht : ∀ C a, a ∈ xs → Tst prog w A (compEnvC scope cl C env) ((x, P a) :: Γ') mu test (p a))
    (hr : ∀ b o, r.get? b = some o → b ∉ wr) (hg : ∀ b o, g b = some o → b ∉ wr) (hs : Sub r s₂.heap) (ho : On g s₂.heap) :
    QuietOnC prog w A env scope cl x [test] (.Name x px) wr (fun i u => ∃ a, xs[i]? = some a ∧ (P a).is u g) (sel P g xs p) (fun v y => y = v) s₂ where
  tests := fun C i v s₃ m₃ E' hC hP hn hm hk _ => by
    obtain ⟨a, ha, hPa⟩ := hP
    have hmem := List.mem_of_getElem? ha
    have hs₃ : Sub r s₃.heap := fun b o e => hk b o (hr b o e) (hs b o e)
    have hg₃ : On g s₃.heap := fun b o e => hk b o (hg b o e) (ho b o e)
    have R' : Rd w s₃.heap g (compEnvC scope cl C env) ((x, P a) :: Γ') mu := R.comp hcap hkind hx hs₃ (Le.refl g) hn hm hPa
    refine wpAny_tests_one ((ht C a hmem s₃.heap g R').use (Sub.refl _) hg₃ fun b s' g' k _ _ _ e => ?_)
    exact ⟨e.trans (sel_eq hi hmem hPa).symm, k⟩
  elt := fun C i v s₃ m₃ E' hC hP _ hn hm hk _ => by
    refine wpAny_Name (wpAny_loadName_local (env := compEnvC scope cl C env) hkind (lookup_relabel_local hx) hn hm ⟨rfl, keepsRefl _⟩) hd
theorem quiet_map {α β : Type} {P : α → VP} {K : β → VP} {f : α → β} {xs : List α} {x : Str} {elt : Expr} {scope : Scope} {cl : List (Str × Addr)} {Γ' : Cx} {r : Heap} {g : View} {wr : List Addr} {s₂ : Shared} (R : Rd w r g env Γ mu)
    (hfl : ∀ b v g g', (K b).is v g → (K b).is v g') (hkind : scope.kind = .function) (hx : scope.names.lookup x = some .local) (hcap : Caps scope cl env Γ Γ')
    (ht : ∀ C a, a ∈ xs → Ex prog w A (compEnvC scope cl C env) ((x, P a) :: Γ') mu elt (K (f a)))
    (hr : ∀ b o, r.get? b = some o → b ∉ wr) (hg : ∀ b o, g b = some o → b ∉ wr) (hs : Sub r s₂.heap) (ho : On g s₂.heap) :
    QuietOnC prog w A env scope cl x [] elt wr (fun i u => ∃ a, xs[i]? = some a ∧ (P a).is u g) (fun _ => true) (fun v y => ∃ a ∈ xs, (P a).is v g ∧ (K (f a)).is y (fun _ => none)) s₂ where
  tests := fun C i v s₃ m₃ E' hC hP hn hm hk _ => wpAny_tests_nil ⟨rfl, keepsRefl _⟩
  elt := fun C i v s₃ m₃ E' hC hP _ hn hm hk _ => by
    obtain ⟨a, ha, hPa⟩ := hP
    have hmem := List.mem_of_getElem? ha
    have hs₃ : Sub r s₃.heap := fun b o e => hk b o (hr b o e) (hs b o e)
    have hg₃ : On g s₃.heap := fun b o e => hk b o (hg b o e) (ho b o e)
    have R' : Rd w s₃.heap g (compEnvC scope cl C env) ((x, P a) :: Γ') mu := R.comp hcap hkind hx hs₃ (Le.refl g) hn hm hPa
    exact (ht C a hmem s₃.heap g R').use (Sub.refl _) hg₃ fun b s' g' k _ _ _ e => ⟨⟨a, hmem, hPa, hfl _ _ _ _ e⟩, k⟩
theorem fin_list {α : Type} {P : α → VP} {zs : List α} {g : View} {s s₂ : Shared} {h' : Heap} {tk : Nat} {D : Addr} {ys : Array Value} {wr : List Addr} (hg : On g s.heap) (k : Keeps s s₂) (hw : ∀ b ∈ wr, s.heap.get? b = none) (hD : s₂.heap.get? D = none) (hp : h'.PlainList D ys)
    (ha : Are P g zs ys.toList) (hk : ∀ b o, b ∉ wr → s₂.heap.get? b = some o → h'.get? b = some o) : Fin g s (L P zs).is (.ref D) { s₂ with heap := h', toks := tk } := by
  obtain ⟨m, hp⟩ := hp
  obtain ⟨h₂, t₂, rfl, k⟩ := k
  have hDs : s.heap.get? D = none := by
    cases e : s.heap.get? D with
    | none => rfl
    | some o => rw [k _ _ e] at hD; cases hD
  refine Fin.new (a := D) ⟨h', tk, rfl, fun b o e => hk b o (fun hb => by rw [hw b hb] at e; cases e) (k b o e)⟩ hg hDs hp ⟨D, ys.toList, m, rfl, by rw [ext_self]; rfl, ha.mono (le_ext ?_)⟩
  cases e : g D with
  | none => rfl
  | some o => rw [hg _ _ e] at hDs; cases hDs
/-- the rule of the library, its test and its element's word said behind the source -/
theorem listComp {s : Shared} {E : Value → Shared → Prop} {elt iter : Expr} {x : Str} {px : Pos} {ifs : List Expr} {scope : Scope} {cl : List (Str × Addr)} {pos : Pos} {Q : Value → Shared → Prop}
    (hclos : closureFor scope env = pure cl) (hcell : ∀ y ∈ scope.names, y.2 ≠ .cell) (hkind : scope.kind = .function)
    (hnames : ∀ y ∈ scope.names, y.2 = .local → scope.names.lookup y.1 = some .local) (hx : scope.names.lookup x = some .local)
    (h : wpAny (model prog w) A (eval iter env) (fun xv s₁ => wpAny (model prog w) A (pyIter xv) (fun it s₂ => ∃ (p : Value → Bool) (F : Value → Value → Prop), ∃ I fp wr n P St, it = .ref I ∧ Walks prog w A I fp wr n P St ∧ n ≤ sizeLine ∧ St 0 s₂.heap ∧ (∀ b ∈ fp, b < s₂.heap.objs.size) ∧
      QuietOnC prog w A env scope cl x ifs elt wr P p F s₂ ∧
      (∀ D h' tk ys (vs : List Value), s₂.heap.get? D = none → h'.PlainList D ys → vs.length = n → (∀ j v, vs[j]? = some v → P j v) → Paired F (vs.filter p) ys.toList →
        (∀ b o, b ∉ wr → s₂.heap.get? b = some o → h'.get? b = some o) → Q (.ref D) { s₂ with heap := h', toks := tk })) E s₁) E s)
    (hs : ∀ x, foldedSetIterable iter env x = pure x) :
    wpAny (model prog w) A (eval (.ListComp elt [⟨.Name x px, iter, ifs, 0⟩] scope pos) env) Q E s := by
  rw [eval_ListComp]
  refine wpAny_comprehension_free (use := none) rfl hs hclos hkind hnames (wpAny_mono h (fun xv s₁ h₁ => wpAny_mono h₁ (fun it s₂ h₂ => ?_) fun _ _ e => e) fun _ _ e => e)
  obtain ⟨p, F, I, fp, wr, n, P, St, rfl, W, hsz, hst, hfp, hq, hQ⟩ := h₂
  refine comp_block_walkC (RR := fun acc C => compPost (model prog w) A E none Q acc C) W hsz p F hcell hkind hx hst hfp hq ?_
  intro D C h' tk m' ys vs hD hC hDC hn hl hpl hlen hP hF hk
  exact ⟨m', hn, fun h'' hs'' => hQ D h'' tk ys vs hD (hpl.extBut hs''.extBut hDC) hlen hP hF fun b o hbf e => hs''.extBut b o (by rintro rfl; rw [hC] at e; cases e) (hk b o hbf e)⟩
/-- a source, then what is made of it -/
theorem ev_source {α : Type} {V : VP} {P : α → VP} {xs : List α} {iter : Expr} {r : Heap} {g : View} {s : Shared} {K : Value → Shared → Prop} (R : Rd w r g env Γ mu) (hi : Ex prog w A env Γ mu iter V) (hI : Iter prog w A env Γ mu V xs P) (hs : Sub r s.heap) (hg : On g s.heap)
    (hk : ∀ (I : Addr) (fp wr : List Addr) (St : Nat → Heap → Prop) (g₁ : View) (s₁ s₂ : Shared), Keeps s s₁ → Le g g₁ → On g₁ s₁.heap → (∀ a o, g₁ a = some o → g a = some o ∨ s.heap.get? a = none) → Keeps s₁ s₂ → Walks prog w A I fp wr xs.length (fun i u => ∃ x, xs[i]? = some x ∧ (P x).is u g₁) St → St 0 s₂.heap →
      (∀ b ∈ fp, b < s₂.heap.objs.size) → (∀ b ∈ wr, s₁.heap.get? b = none ∧ ∃ o, s₂.heap.get? b = some o) → (∀ b ∈ fp, b ∈ wr ∨ ∃ o, g₁ b = some o) → K (.ref I) s₂) :
    wpAny (model prog w) A (eval iter env) (fun xv s₁ => wpAny (model prog w) A (pyIter xv) K (fun _ _ => False) s₁) (fun _ _ => False) s := by
  refine (hi r g R).use hs hg fun v s₁ g₁ k₁ l₁ o₁ n₁ p₁ => ?_
  refine hI r g₁ v s₁ _ _ (R.up (Sub.refl r) l₁) p₁ (hs.trans (keepsSub k₁)) o₁ fun I fp wr St h₂ k₂ W st hfp hwr hfg _ => ?_
  exact hk I fp wr St g₁ s₁ { s₁ with heap := h₂ } k₁ l₁ o₁ n₁ ⟨h₂, s₁.toks, rfl, k₂⟩ W st hfp hwr hfg
theorem Ex.compSelf {α : Type} {V : VP} {P : α → VP} {xs : List α} (p : α → Bool) {x : Str} {px px' pos : Pos} {iter test : Expr} {scope : Scope} {cl : List (Str × Addr)} {Γ' : Cx}
    (hi : Ex prog w A env Γ mu iter V) (hI : Iter prog w A env Γ mu V xs P) (hinj : Inj P) (hsz : xs.length ≤ 1000) (hclos : closureFor scope env = pure cl) (hcap : Caps scope cl env Γ Γ')
    (ht : ∀ C a, a ∈ xs → Tst prog w A (compEnvC scope cl C env) ((x, P a) :: Γ') mu test (p a))
    (hcell : ∀ y ∈ scope.names, y.2 ≠ .cell := by decide) (hkind : scope.kind = .function := by rfl)
    (hnames : ∀ y ∈ scope.names, y.2 = .local → scope.names.lookup y.1 = some .local := by decide) (hx : scope.names.lookup x = some .local := by rfl) (hd : (x == ("__debug__" : Str)) = false := by decide)
    (hfs : ∀ x, foldedSetIterable iter env x = pure x := by intro _; rfl) :
    Ex prog w A env Γ mu (.ListComp (.Name x px') [⟨.Name x px, iter, [test], 0⟩] scope pos) (L P (xs.filter p)) := fun r g R => .mk fun s hs hg => by
  refine listComp hclos hcell hkind hnames hx (ev_source R hi hI hs hg fun I fp wr St g₁ s₁ s₂ k₁ l₁ o₁ n₁ k₂ W st hfp hwr hfg => ?_) hfs
  have hs₁ := hs.trans (keepsSub k₁)
  have nw : ∀ {h : Heap} b o, Sub h s₁.heap → h.get? b = some o → b ∉ wr := fun b o hsub e hb => by have := (hwr b hb).1; rw [hsub b o e] at this; cases this
  refine ⟨sel P g₁ xs p, _, I, fp, wr, xs.length, _, St, rfl, W, by rw [sizeLine_eq]; omega, st, hfp,
    quiet_self (R.up hs₁ l₁) hinj hkind hx hcap hd ht (fun b o e => nw b o (Sub.refl _) e) (fun b o e hb => by have := (hwr b hb).1; rw [o₁ b o e] at this; cases this) (keepsSub k₂) (o₁.sub (keepsSub k₂)), fun D h' tk ys vs hD hp hlen hP hF hk => ?_⟩
  have hA : Are P g₁ (xs.filter p) ys.toList := by
    rw [paired_eq hF]
    exact are_filter hinj (fun _ h => h) (are_of_get hlen hP)
  have f := fin_list (tk := tk) o₁ k₂ (fun b hb => (hwr b hb).1) hD hp hA hk
  exact Fin.trans (P := fun _ g' => g' = g₁) (v := ()) ⟨k₁, g₁, l₁, o₁, n₁, rfl⟩ fun g' _ _ e => e ▸ f
theorem Ex.compMap {α β : Type} {V : VP} {P : α → VP} {K : β → VP} {xs : List α} (f : α → β) {x : Str} {px pos : Pos} {iter elt : Expr} {scope : Scope} {cl : List (Str × Addr)} {Γ' : Cx}
    (hi : Ex prog w A env Γ mu iter V) (hI : Iter prog w A env Γ mu V xs P) (hinj : Inj P) (hfl : ∀ b v g g', (K b).is v g → (K b).is v g') (hsz : xs.length ≤ 1000) (hclos : closureFor scope env = pure cl) (hcap : Caps scope cl env Γ Γ')
    (ht : ∀ C a, a ∈ xs → Ex prog w A (compEnvC scope cl C env) ((x, P a) :: Γ') mu elt (K (f a)))
    (hcell : ∀ y ∈ scope.names, y.2 ≠ .cell := by decide) (hkind : scope.kind = .function := by rfl)
    (hnames : ∀ y ∈ scope.names, y.2 = .local → scope.names.lookup y.1 = some .local := by decide) (hx : scope.names.lookup x = some .local := by rfl)
    (hfs : ∀ x, foldedSetIterable iter env x = pure x := by intro _; rfl) :
    Ex prog w A env Γ mu (.ListComp elt [⟨.Name x px, iter, [], 0⟩] scope pos) (L K (xs.map f)) := fun r g R => .mk fun s hs hg => by
  refine listComp hclos hcell hkind hnames hx (ev_source R hi hI hs hg fun I fp wr St g₁ s₁ s₂ k₁ l₁ o₁ n₁ k₂ W st hfp hwr hfg => ?_) hfs
  have hs₁ := hs.trans (keepsSub k₁)
  refine ⟨fun _ => true, _, I, fp, wr, xs.length, _, St, rfl, W, by rw [sizeLine_eq]; omega, st, hfp,
    quiet_map (R.up hs₁ l₁) hfl hkind hx hcap ht (fun b o e hb => by have := (hwr b hb).1; rw [e] at this; cases this) (fun b o e hb => by have := (hwr b hb).1; rw [o₁ b o e] at this; cases this) (keepsSub k₂) (o₁.sub (keepsSub k₂)), fun D h' tk ys vs hD hp hlen hP hF hk => ?_⟩
  have hA : Are K g₁ (xs.map f) ys.toList := by
    rw [List.filter_eq_self.mpr (by intros; rfl)] at hF
    exact are_map hinj hfl (fun _ h => h) (are_of_get hlen hP) hF
  have f := fin_list (tk := tk) o₁ k₂ (fun b hb => (hwr b hb).1) hD hp hA hk
  exact Fin.trans (P := fun _ g' => g' = g₁) (v := ()) ⟨k₁, g₁, l₁, o₁, n₁, rfl⟩ fun g' _ _ e => e ▸ f
end
end Mine
open PySem PySem.W PySem.Calls PyProof.Rows
namespace Mine
/-- what a run of statements is measured against -/
structure Bs where
  s₀ : Shared
  g₀ : View
  k : View
  z : List Addr
def owned (env : Env) (mu : List (Addr × MP)) : List Addr := env.locals :: (env.cells.map (·.2) ++ mu.map (·.1))
structure Fm (w : World) (B : Bs) (env : Env) (Γ : Cx) (mu : List (Addr × MP)) (g : View) (s : Shared) : Prop where
  same : ∃ h tk, s = { B.s₀ with heap := h, toks := tk }
  bk : On B.k s.heap
  b0 : ∀ a o, B.s₀.heap.get? a = some o → B.k a = some o
  gd₀ : Gd w B.s₀.heap
  on : On g s.heap
  le : Le B.g₀ g
  new : ∀ a o, g a = some o → B.g₀ a = some o ∨ B.s₀.heap.get? a = none
  own : ∀ a ∈ owned env mu, B.k a = none ∧ g a = none ∧ a ∉ B.z ∧ ∃ o, s.heap.get? a = some o
  nod : (owned env mu).Nodup
  hz : ∀ a ∈ B.z, g a = none ∧ ∃ o, s.heap.get? a = some o
  ns : ∃ m, s.heap.Ns env.locals m
  cl : ∀ p ∈ env.cells, ∃ v, s.heap.IsCell p.2 v
  rd : Rd w s.heap g env Γ mu
def At (w : World) (B : Bs) (env : Env) (Γ : Cx) (mu : List (Addr × MP)) (s : Shared) : Prop := ∃ g, Fm w B env Γ mu g s
/-- the end of a call -/
def Out (B : Bs) (P : VP) (v : Value) (s : Shared) : Prop :=
  (∃ h tk, s = { B.s₀ with heap := h, toks := tk }) ∧ On B.k s.heap ∧ (∀ a o, B.s₀.heap.get? a = some o → B.k a = some o) ∧ ∃ g, Le B.g₀ g ∧ On g s.heap ∧ (∀ a o, g a = some o → B.g₀ a = some o ∨ B.s₀.heap.get? a = none) ∧ P.is v g
def Fl (B : Bs) (P : VP) (K : Shared → Prop) (f : Flow) (s : Shared) : Prop := match f with | .next => K s | .ret v => Out B P v s | _ => False
structure TrS (prog : Program) (w : World) (A : Around) (B : Bs) (env : Env) (P : VP) (I : Shared → Prop) (st : Stmt) (K : Shared → Prop) : Prop where
  run : ∀ s, I s → wpAny (model prog w) A (exec st env) (Fl B P K) (fun _ _ => False) s
structure Tr (prog : Program) (w : World) (A : Around) (B : Bs) (env : Env) (P : VP) (I : Shared → Prop) (body : List Stmt) (K : Shared → Prop) : Prop where
  run : ∀ s, I s → wpAny (model prog w) A (execs body env) (Fl B P K) (fun _ _ => False) s
theorem ns_uniq {h : Heap} {a : Addr} {m m' : Str → Option Value} (x : h.Ns a m) (y : h.Ns a m') : ∀ n, m n = m' n := by
  obtain ⟨o, es, ep, h1, h2, _, h3⟩ := x
  obtain ⟨o', es', ep', h1', h2', _, h3'⟩ := y
  rw [h1] at h1'
  obtain rfl := Option.some.inj h1'
  rw [h2] at h2'
  injection h2' with e1 e2
  subst e1
  intro n
  rw [← h3, h3']
theorem ns_not_cell {h : Heap} {a : Addr} {m : Str → Option Value} {v : Option Value} (x : h.Ns a m) (y : h.IsCell a v) : False := by
  obtain ⟨o, es, ep, h1, h2, _⟩ := x
  obtain ⟨o', h1', h2'⟩ := y
  rw [h1] at h1'
  obtain rfl := Option.some.inj h1'
  rw [h2] at h2'
  cases h2'
theorem lookup_mem {α β : Type} [BEq α] [LawfulBEq α] {x : α} {y : β} : ∀ {l : List (α × β)}, l.lookup x = some y → (x, y) ∈ l
  | [], h => by simp at h
  | (a, b) :: r, h => by
    rw [List.lookup_cons] at h
    cases e : x == a with
    | true => rw [e] at h; obtain rfl := eq_of_beq e; obtain rfl : b = y := by simpa using h
              exact List.mem_cons_self
    | false => rw [e] at h; exact List.mem_cons_of_mem _ (lookup_mem h)
theorem snd_inj {α β : Type} {l : List (α × β)} (h : (l.map (·.2)).Nodup) {x y : α} {c : β} (hx : (x, c) ∈ l) (hy : (y, c) ∈ l) : x = y := by
  induction l with
  | nil => simp at hx
  | cons p r ih =>
    rw [List.map_cons, List.nodup_cons] at h
    rcases List.mem_cons.mp hx with e | hx
    · rcases List.mem_cons.mp hy with e' | hy
      · rw [← e] at e'; exact (Prod.mk.inj e').1.symm
      · exact absurd (List.mem_map.mpr ⟨_, hy, by rw [← e]⟩) h.1
    · rcases List.mem_cons.mp hy with e' | hy
      · exact absurd (List.mem_map.mpr ⟨_, hx, by rw [← e']⟩) h.1
      · exact ih h.2 hx hy
section
variable {prog : Program} {w : World} {A : Around} {B : Bs} {env : Env} {Γ Γ' : Cx} {mu : List (Addr × MP)} {n : Nat} {P : VP} {g : View} {s s' : Shared} {K : Shared → Prop}
/-- after an expression -/
theorem Fm.finE {g' : View} (F : Fm w B env Γ mu g s) (k : Keeps s s') (l : Le g g') (o : On g' s'.heap) (nw : ∀ a o, g' a = some o → g a = some o ∨ s.heap.get? a = none) : Fm w B env Γ mu g' s' := by
  have ks := keepsSub k
  have dead : ∀ a, g a = none → (∃ o, s.heap.get? a = some o) → g' a = none := fun a h ⟨o, ho⟩ => by
    cases e : g' a with
    | none => rfl
    | some o' =>
      rcases nw a o' e with e | e
      · rw [h] at e; cases e
      · rw [ho] at e; cases e
  refine ⟨?_, F.bk.sub ks, F.b0, F.gd₀, o, F.le.trans l, fun a o' e => ?_, fun a ha => ?_, F.nod, fun a ha => ?_, let ⟨m, hm⟩ := F.ns; ⟨m, hm.keeps ks⟩, fun p hp => let ⟨v, hv⟩ := F.cl p hp; ⟨v, hv.keeps ks⟩, F.rd.up ks l⟩
  · obtain ⟨h, tk, rfl⟩ := F.same
    obtain ⟨h', t', rfl, _⟩ := k
    exact ⟨h', t', rfl⟩
  · rcases nw a o' e with e | e
    · exact F.new a o' e
    · refine .inr ?_
      cases e' : B.s₀.heap.get? a with
      | none => rfl
      | some o'' => rw [F.bk _ _ (F.b0 _ _ e')] at e; cases e
  · obtain ⟨h1, h2, h3, o, h4⟩ := F.own a ha
    exact ⟨h1, dead a h2 ⟨o, h4⟩, h3, o, ks _ _ h4⟩
  · obtain ⟨h1, o, h2⟩ := F.hz a ha
    exact ⟨dead a h1 ⟨o, h2⟩, o, ks _ _ h2⟩
theorem Fm.fin {Q : VP} {v : Value} (F : Fm w B env Γ mu g s) (x : Fin g s Q.is v s') : ∃ g', Fm w B env Γ mu g' s' ∧ Le g g' ∧ Q.is v g' ∧ Sub s.heap s'.heap := by
  obtain ⟨k, g', l, o, nw, hQ⟩ := x
  exact ⟨g', F.finE k l o nw, l, hQ, keepsSub k⟩
theorem Fm.out {Q : VP} {v : Value} (F : Fm w B env Γ mu g s) (x : Fin g s Q.is v s') : Out B Q v s' := by
  obtain ⟨g', F', l, hQ, _⟩ := F.fin x
  exact ⟨F'.same, F'.bk, F'.b0, g', F'.le, F'.on, F'.new, hQ⟩
theorem Fm.ev {Q : VP} {e : Expr} {R : Value → Shared → Prop} {E : Value → Shared → Prop} (F : Fm w B env Γ mu g s) (h : Ex prog w A env Γ mu e Q) (k : ∀ v g' s', Fm w B env Γ mu g' s' → Le g g' → Q.is v g' → Sub s.heap s'.heap → R v s') : wpAny (model prog w) A (eval e env) R E s :=
  wpAny_mono ((h s.heap g F.rd).run s (Sub.refl _) F.on) (fun v s' x => let ⟨g', F', l, q, ks⟩ := F.fin x; k v g' s' F' l q ks) fun _ _ f => f.elim
/-- one owned object changes; what is read must be said anew -/
theorem Fm.chg {a : Addr} {h' : Heap} {tk : Nat} {mu' : List (Addr × MP)} (F : Fm w B env Γ mu g s) (ha : a ∈ owned env mu) (hk : ∀ b o, b ≠ a → s.heap.get? b = some o → h'.get? b = some o) (hmu : mu'.map (·.1) = mu.map (·.1)) (hal : ∃ o, h'.get? a = some o) (hns : ∃ m, h'.Ns env.locals m) (hcl : ∀ p ∈ env.cells, ∃ v, h'.IsCell p.2 v)
    (hv : ∀ x Q, Γ'.lookup x = some Q → Var h' g env x Q) (hm : ∀ b M, mu'.lookup b = some M → ∃ o, h'.get? b = some o ∧ M.is o g) : Fm w B env Γ' mu' g { s with heap := h', toks := tk } := by
  have e0 : owned env mu' = owned env mu := by unfold owned; rw [hmu]
  obtain ⟨hak, hag, haz, _⟩ := F.own a ha
  have k1 : On B.k h' := fun b o e => hk b o (fun q => by subst q; rw [hak] at e; cases e) (F.bk _ _ e)
  have k2 : On g h' := fun b o e => hk b o (fun q => by subst q; rw [hag] at e; cases e) (F.on _ _ e)
  refine ⟨?_, k1, F.b0, F.gd₀, k2, F.le, F.new, fun b hb => ?_, by rw [e0]; exact F.nod, fun b hb => ?_, hns, hcl, ?_, hv, hm, F.rd.fn, F.rd.gl, F.rd.bl⟩
  · obtain ⟨h, t, rfl⟩ := F.same; exact ⟨_, _, rfl⟩
  · rw [e0] at hb
    obtain ⟨h1, h2, h3, o, h4⟩ := F.own b hb
    refine ⟨h1, h2, h3, ?_⟩
    by_cases q : b = a
    · subst q; exact hal
    · exact ⟨o, hk _ _ q h4⟩
  · obtain ⟨h1, o, h2⟩ := F.hz b hb
    exact ⟨h1, o, hk _ _ (fun q => by subst q; exact haz hb) h2⟩
  · exact F.gd₀.sub fun b o e => k1 b o (F.b0 b o e)
theorem mem_owned_loc : env.locals ∈ owned env mu := List.mem_cons_self
theorem mem_owned_cell {p : Str × Addr} (h : p ∈ env.cells) : p.2 ∈ owned env mu := List.mem_cons_of_mem _ (List.mem_append_left _ (List.mem_map.mpr ⟨p, h, rfl⟩))
theorem mem_owned_mu {a : Addr} {M : MP} (h : mu.lookup a = some M) : a ∈ owned env mu := List.mem_cons_of_mem _ (List.mem_append_right _ (List.mem_map.mpr ⟨_, lookup_mem h, rfl⟩))
theorem loc_ne_cell (h : (owned env mu).Nodup) {p : Str × Addr} (hp : p ∈ env.cells) : p.2 ≠ env.locals := fun e => by
  unfold owned at h
  rw [List.nodup_cons] at h
  exact h.1 (e ▸ List.mem_append_left _ (List.mem_map.mpr ⟨p, hp, rfl⟩))
theorem loc_ne_mu (h : (owned env mu).Nodup) {a : Addr} {M : MP} (ha : mu.lookup a = some M) : a ≠ env.locals := fun e => by
  unfold owned at h
  rw [List.nodup_cons] at h
  exact h.1 (e ▸ List.mem_append_right _ (List.mem_map.mpr ⟨_, lookup_mem ha, rfl⟩))
theorem cell_ne_mu (h : (owned env mu).Nodup) {p : Str × Addr} (hp : p ∈ env.cells) {a : Addr} {M : MP} (ha : mu.lookup a = some M) : a ≠ p.2 := fun e => by
  unfold owned at h
  rw [List.nodup_cons, List.nodup_append] at h
  exact h.2.2.2 _ (List.mem_map.mpr ⟨p, hp, rfl⟩) _ (List.mem_map.mpr ⟨_, lookup_mem ha, rfl⟩) e.symm
theorem cells_nodup (h : (owned env mu).Nodup) : (env.cells.map (·.2)).Nodup := by
  unfold owned at h
  rw [List.nodup_cons, List.nodup_append] at h
  exact h.2.1
theorem lookup_cons_cases {α β : Type} [BEq α] [LawfulBEq α] {x y : α} {p q : β} {l : List (α × β)} (h : ((x, p) :: l).lookup y = some q) : (y = x ∧ p = q) ∨ (y ≠ x ∧ l.lookup y = some q) := by
  rw [List.lookup_cons] at h
  cases e : y == x with
  | true => rw [e] at h; exact .inl ⟨eq_of_beq e, by simpa using h⟩
  | false => rw [e] at h; exact .inr ⟨fun q => by subst q; simp at e, h⟩
theorem Fm.storeLocal {x : Str} {v : Value} {Q : VP} {R : Unit → Shared → Prop} {E : Value → Shared → Prop} (F : Fm w B env Γ mu g s) (hk : env.kindOf x = some .local) (hq : Q.is v g)
    (k : ∀ h' tk, Fm w B env ((x, Q) :: Γ) mu g { s with heap := h', toks := tk } → (∀ b o, b ≠ env.locals → s.heap.get? b = some o → h'.get? b = some o) → R () { s with heap := h', toks := tk }) : wpAny (model prog w) A (storeName env x v) R E s := by
  obtain ⟨m, hm⟩ := F.ns
  refine wpAny_storeName_local hk hm (fun h' hn hs => ?_) (by rw [F.rd.fn]; rfl)
  have hkp : ∀ b o, b ≠ env.locals → s.heap.get? b = some o → h'.get? b = some o := fun b o hb e => hs.extBut b o hb e
  refine k h' _ (F.chg mem_owned_loc hkp rfl ?_ ⟨_, hn⟩ (fun p hp => let ⟨u, hu⟩ := F.cl p hp; ⟨u, hu.sameBut hs (loc_ne_cell F.nod hp)⟩) (fun y Q' hy => ?_) fun b M hb => ?_) hkp
  · obtain ⟨o, _, _, ho, _⟩ := hn; exact ⟨o, ho⟩
  · rcases lookup_cons_cases hy with ⟨rfl, rfl⟩ | ⟨hne, hy⟩
    · exact ⟨v, .inl ⟨hk, _, hn, by simp⟩, hq⟩
    · obtain ⟨u, hu, hQ⟩ := F.rd.vars y Q' hy
      refine ⟨u, ?_, hQ⟩
      rcases hu with ⟨ha, m', hm', hu⟩ | ⟨c, ha, hb, hc⟩
      · exact .inl ⟨ha, _, hn, by rw [if_neg hne, ns_uniq hm hm' y]; exact hu⟩
      · exact .inr ⟨c, ha, hb, hc.sameBut hs (loc_ne_cell F.nod (p := (y, c)) (lookup_mem hb))⟩
  · obtain ⟨o, ho, hM⟩ := F.rd.muts b M hb
    exact ⟨o, hkp b o (loc_ne_mu F.nod hb) ho, hM⟩
theorem Fm.storeCell {x : Str} {c : Addr} {v : Value} {Q : VP} {R : Unit → Shared → Prop} {E : Value → Shared → Prop} (F : Fm w B env Γ mu g s) (hk : env.kindOf x = some .cell) (hc : env.cells.lookup x = some c) (hq : Q.is v g)
    (k : ∀ h', Fm w B env ((x, Q) :: Γ) mu g { s with heap := h' } → (∀ b o, b ≠ c → s.heap.get? b = some o → h'.get? b = some o) → R () { s with heap := h' }) : wpAny (model prog w) A (storeName env x v) R E s := by
  have hcm := lookup_mem hc
  obtain ⟨v₀, hv₀⟩ := F.cl _ hcm
  obtain ⟨m, hm⟩ := F.ns
  refine wpAny_storeName_cell F.rd.fn hk hc hv₀ fun h' hn hs => ?_
  have hkp : ∀ b o, b ≠ c → s.heap.get? b = some o → h'.get? b = some o := fun b o hb e => hs.extBut b o hb e
  have hcl : ∀ p ∈ env.cells, p.1 ≠ x → p.2 ≠ c := fun p hp hne e => hne (snd_inj (cells_nodup F.nod) (c := c) (e ▸ hp : (p.1, c) ∈ env.cells) hcm)
  refine k h' (F.chg (mem_owned_cell hcm) hkp rfl ?_ ⟨m, hm.sameBut hs (loc_ne_cell F.nod hcm).symm⟩ (fun p hp => ?_) (fun y Q' hy => ?_) fun b M hb => ?_) hkp
  · obtain ⟨o, ho, _⟩ := hn; exact ⟨o, ho⟩
  · obtain ⟨u, hu⟩ := F.cl p hp
    by_cases e : p.2 = c
    · rw [e]; exact ⟨_, hn⟩
    · exact ⟨u, hu.sameBut hs e⟩
  · rcases lookup_cons_cases hy with ⟨rfl, rfl⟩ | ⟨hne, hy⟩
    · exact ⟨v, .inr ⟨c, .inl hk, hc, hn⟩, hq⟩
    · obtain ⟨u, hu, hQ⟩ := F.rd.vars y Q' hy
      refine ⟨u, ?_, hQ⟩
      rcases hu with ⟨ha, m', hm', hu⟩ | ⟨c', ha, hb, hc'⟩
      · exact .inl ⟨ha, _, hm'.sameBut hs (loc_ne_cell F.nod hcm).symm, hu⟩
      · exact .inr ⟨c', ha, hb, hc'.sameBut hs (hcl (y, c') (lookup_mem hb) hne)⟩
  · obtain ⟨o, ho, hM⟩ := F.rd.muts b M hb
    exact ⟨o, hkp b o (cell_ne_mu F.nod hcm hb) ho, hM⟩
theorem Fm.weaken (F : Fm w B env Γ mu g s) (h : ∀ x Q, Γ'.lookup x = some Q → ∃ Q', Γ.lookup x = some Q' ∧ ∀ v, Q'.is v g → Q.is v g) : Fm w B env Γ' mu g s :=
  { F with rd := ⟨F.rd.gd, fun x Q e => let ⟨Q', e', k⟩ := h x Q e; let ⟨v, a, b⟩ := F.rd.vars x Q' e'; ⟨v, a, k v b⟩, F.rd.muts, F.rd.fn, F.rd.gl, F.rd.bl⟩ }
/-- where a name of the frame is kept -/
def Kept (env : Env) (x : Str) : Prop := env.kindOf x = some .local ∨ (env.kindOf x = some .cell ∧ ∃ c, env.cells.lookup x = some c)
theorem Fm.store {x : Str} {v : Value} {Q : VP} {R : Unit → Shared → Prop} {E : Value → Shared → Prop} (F : Fm w B env Γ mu g s) (hk : Kept env x) (hq : Q.is v g)
    (k : ∀ h' tk a, Fm w B env ((x, Q) :: Γ) mu g { s with heap := h', toks := tk } → a ∈ owned env mu → (∀ b o, b ≠ a → s.heap.get? b = some o → h'.get? b = some o) → R () { s with heap := h', toks := tk }) : wpAny (model prog w) A (storeName env x v) R E s := by
  rcases hk with hk | ⟨hk, c, hc⟩
  · exact F.storeLocal hk hq fun h' tk F' kk => k h' tk _ F' mem_owned_loc kk
  · exact F.storeCell hk hc hq fun h' F' kk => k h' s.toks c F' (mem_owned_cell (lookup_mem hc)) kk
/-- statements -/
theorem Tr.nil {I : Shared → Prop} (h : ∀ s, I s → K s) : Tr prog w A B env P I [] K := .mk fun s hs => wpAny_execs_nil (h s hs)
theorem Tr.cons {I J : Shared → Prop} {st : Stmt} {rest : List Stmt} (h : TrS prog w A B env P I st J) (r : Tr prog w A B env P J rest K) : Tr prog w A B env P I (st :: rest) K := .mk fun s hs =>
  wpAny_execs_cons (wpAny_mono (h.run s hs) (fun f s' x => by
    cases f with
    | next => exact r.run s' x
    | ret v => exact x
    | brk => exact x
    | cont => exact x) fun _ _ f => f)
theorem Tr.one {I : Shared → Prop} {st : Stmt} (h : TrS prog w A B env P I st K) : Tr prog w A B env P I [st] K := .cons h (.nil fun _ x => x)
theorem Fl.mono {K' : Shared → Prop} {f : Flow} {s : Shared} (k : ∀ s, K s → K' s) (x : Fl B P K f s) : Fl B P K' f s := by
  cases f with
  | next => exact k _ x
  | ret v => exact x
  | brk => exact x
  | cont => exact x
theorem Tr.mono {I I' K' : Shared → Prop} {body : List Stmt} (h : Tr prog w A B env P I body K) (hi : ∀ s, I' s → I s) (hk : ∀ s, K s → K' s) : Tr prog w A B env P I' body K' := .mk fun s hs =>
  wpAny_mono (h.run s (hi s hs)) (fun f s' x => Fl.mono hk x) fun _ _ f => f
theorem At.weaken {Γ Γ' : Cx} {s : Shared} (x : At w B env Γ mu s) (h : ∀ x Q, Γ'.lookup x = some Q → Γ.lookup x = some Q) : At w B env Γ' mu s := let ⟨g, F⟩ := x; ⟨g, F.weaken fun y Q e => ⟨Q, h y Q e, fun _ z => z⟩⟩
theorem TrS.assign {x : Str} {e : Expr} {Q : VP} {px pos : Pos} (h : Ex prog w A env Γ mu e Q) (hk : Kept env x) (hs : swapsWith e (some (.Name x px)) pos.line env = pure false := by rfl) : TrS prog w A B env P (At w B env Γ mu) (.Assign [.Name x px] e pos) (At w B env ((x, Q) :: Γ) mu) := by
  refine .mk ?_
  rintro s ⟨g, F⟩
  exact wpAny_Assign_Name (F.ev h fun v g' s' F' _ hq _ => F'.store hk hq fun h' tk a F'' _ _ => ⟨g', F''⟩) hs
theorem TrS.ret {e : Expr} {pos : Pos} (h : Ex prog w A env Γ mu e P) : TrS prog w A B env P (At w B env Γ mu) (.Return (some e) pos) K := by
  refine .mk ?_
  rintro s ⟨g, F⟩
  exact wpAny_Return_some (wpAny_mono ((h s.heap g F.rd).run s (Sub.refl _) F.on) (fun v s' x => F.out x) fun _ _ f => f)
theorem Fm.finB {b c : Bool} (F : Fm w B env Γ mu g s) (x : Fin g s (fun v _ => v = c) b s') : b = c ∧ ∃ g', Fm w B env Γ mu g' s' := by
  obtain ⟨k, g', l, o, nw, hb⟩ := x
  obtain ⟨g'', F', _⟩ := F.fin (Q := Any) (v := .none) ⟨k, g', l, o, nw, trivial⟩
  exact ⟨hb, g'', F'⟩
theorem TrS.if {t : Expr} {body orelse : List Stmt} {pos : Pos} {c : Bool} (ht : Tst prog w A env Γ mu t c) (hb : c = true → Tr prog w A B env P (At w B env Γ mu) body K) (ho : c = false → Tr prog w A B env P (At w B env Γ mu) orelse K) :
    TrS prog w A B env P (At w B env Γ mu) (.If t body orelse pos) K := by
  refine .mk ?_
  rintro s ⟨g, F⟩
  refine wpAny_If (wpAny_mono ((ht s.heap g F.rd).run s (Sub.refl _) F.on) (fun b s' x => ?_) fun _ _ f => f)
  obtain ⟨rfl, g', F'⟩ := F.finB x
  cases b with
  | true => exact (hb rfl).run s' ⟨g', F'⟩
  | false => exact (ho rfl).run s' ⟨g', F'⟩
theorem TrS.aug {x : Str} {e : Expr} {op : Operator} {Q₁ Q₂ Q : VP} {px pos : Pos} (hx : Γ.lookup x = some Q₁) (h : Ex prog w A env Γ mu e Q₂) (ho : Op2 prog w A env Γ mu (inplaceOp op) Q₁ Q₂ Q) (hk : Kept env x) (hc : (x == ("__classdict__" : Str)) = false := by decide) :
    TrS prog w A B env P (At w B env Γ mu) (.AugAssign (.Name x px) op e pos) (At w B env ((x, Q) :: Γ) mu) := by
  refine .mk ?_
  rintro s ⟨g, F⟩
  obtain ⟨v, hr, hP⟩ := F.rd.vars x Q₁ hx
  have hl : ∀ R : Value → Shared → Prop, R v s → wpAny (model prog w) A (loadName env x) R (fun _ _ => False) s := fun R hR => by
    rcases hr with ⟨hk, m, hn, hm⟩ | ⟨c, hk, hl, hcell⟩
    · exact wpAny_loadName_local F.rd.fn hk hn hm hR
    · rcases hk with hk | hk
      · exact wpAny_loadName_cell F.rd.fn hk hl hcell hR
      · exact wpAny_loadName_free F.rd.fn hk hl hcell hR hc
  refine wpAny_AugAssign_Name (hl _ (F.ev h fun u g' s' F' l hq _ => ?_))
  refine wpAny_mono ((ho s'.heap g' v u F'.rd (Q₁.mono l hP) hq).run s' (Sub.refl _) F'.on) (fun r s'' x => ?_) fun _ _ f => f
  obtain ⟨g'', F'', _, hq', _⟩ := F'.fin x
  exact F''.store hk hq' fun h' tk a F₃ _ _ => ⟨g'', F₃⟩
end
end Mine
open PySem PySem.W PySem.Calls PyProof.Rows
namespace Mine
section
variable {prog : Program} {w : World} {A : Around} {B : Bs} {env : Env} {Γ Γ' : Cx} {mu : List (Addr × MP)} {n : Nat} {P : VP} {g : View} {s s' : Shared} {K : Shared → Prop}
/-- one of the text's defs, as it lies -/
structure FnOk (f : Addr) (fd : FuncData) (body : List Stmt) : Prop where
  obj : ∀ P, ∃ o, (Mine.hd.heap_39 P).lookup f = some o ∧ o.data = .func fd
  code : ∀ P, ∃ c o vs t, fd.code = .ref c ∧ (Mine.hd.heap_39 P).lookup c = some o ∧ o.data = .fields vs ∧ vs[1]? = some (.str fd.qualname t)
  body : fd.body = .stmts body
  co : fd.scope.isCoroutine = false
  gen : fd.scope.isGenerator = false
  kind : fd.scope.kind = .function
  clos : fd.closure = []
  glob : fd.globals = mainGlobals
  blt : fd.builtins = builtinsNs
theorem FnOk.isFn {f : Addr} {fd : FuncData} {body : List Stmt} (h : FnOk f fd body) : IsFn f := fun P => let ⟨o, a, b⟩ := h.obj P; ⟨o, fd, a, b⟩
def envF (fd : FuncData) (f : Addr) (Lo : Addr) : Env := newEnv fd.scope Lo fd.globals (cellsFrom (Lo + 1) fd.scope.names []) (fd.qualname ++ ".<locals>.") (some f) fd.code none fd.builtins
theorem cells_above : ∀ (names : List (Str × NameKind)) (k : Nat) (acc : List (Str × Addr)) (Lo : Nat), Lo < k → (∀ p ∈ acc, Lo < p.2 ∧ p.2 < k) → (acc.map (·.2)).Nodup → (∀ p ∈ cellsFrom k names acc, Lo < p.2) ∧ ((cellsFrom k names acc).map (·.2)).Nodup
  | [], k, acc, Lo, _, h, hn => ⟨fun p hp => (h p hp).1, hn⟩
  | (x, kd) :: r, k, acc, Lo, hk, h, hn => by
    unfold cellsFrom
    split
    · refine cells_above r (k + 1) ((x, k) :: acc) Lo (Nat.lt_succ_of_lt hk) (fun p hp => ?_) ?_
      · rcases List.mem_cons.mp hp with rfl | hp
        · exact ⟨hk, Nat.lt_succ_self _⟩
        · have := h p hp; exact ⟨this.1, Nat.lt_succ_of_lt this.2⟩
      · rw [List.map_cons, List.nodup_cons]
        refine ⟨fun hm => ?_, hn⟩
        obtain ⟨p, hp, e⟩ := List.mem_map.mp hm
        exact absurd e (Nat.ne_of_lt (h p hp).2)
    · exact cells_above r k acc Lo hk h hn
theorem callBody {f : Addr} {fd : FuncData} {body : List Stmt} {vs : List Value} {binds : List (Str × Value)} {Γ₀ : Cx} {Q : VP} {r : Heap} (G : Gd w r) (hR : Rm A (n + 1)) (h : FnOk f fd body) (hb : bindArgs fd ⟨vs, []⟩ = pure binds)
    (hl : ∀ x ∈ binds, fd.scope.names.lookup x.1 = some .local)
    (hc : ∀ Lo, ∀ p ∈ cellsFrom (Lo + 1) fd.scope.names [], (cellsFrom (Lo + 1) fd.scope.names []).lookup p.1 = some p.2)
    (hΓ : ∀ x P', Γ₀.lookup x = some P' → fd.scope.names.lookup x = some .local ∧ ∃ v, P'.is v g ∧ ∀ kd, (∀ y ∈ binds, kd y.1 = some .local) → bindL kd binds (fun _ => none) x = some v)
    (ht : ∀ (B' : Bs) (Lo : Addr), Rm (A.deeper (envF fd f Lo)) n → Tr prog w (A.deeper (envF fd f Lo)) B' (envF fd f Lo) Q (At w B' (envF fd f Lo) Γ₀ []) body (fun _ => False)) :
    Ev prog w A r g (call (.ref f) vs) Q.is := .mk fun s hs hg => by
  obtain ⟨o, ho, hd⟩ := h.obj w.params
  obtain ⟨c, oc, cs, t, hcd, hoc, hdc, hq⟩ := h.code w.params
  have Gs := G.sub hs
  refine wpAny_call ?_
  refine codeAny_call_function (by have := hR.dp; show A.depth < 1000; omega) (Gs.kin f o ho) hd h.co h.gen h.body ⟨c, oc, cs, t, hcd, Gs.kin c oc hoc, hdc, hq⟩ ?_
  rw [hb]
  refine wpAny_pure ?_
  rw [h.clos]
  refine wpAny_newFunctionEnv_cells h.kind (fun x hx => .inl (hl x hx)) fun env he s₁ x => ?_
  obtain ⟨h₁, tk, e₁, k₁⟩ := x.done
  have henv : env = envF fd f s.heap.objs.size := he
  subst henv
  have kp : Sub s.heap s₁.heap := x.toInCall.keep
  refine ⟨(Gs.sub kp).lim, codeAny_func ?_⟩
  have hR' : Rm (A.deeper (envF fd f s.heap.objs.size)) n := hR.deeper (env := envF fd f s.heap.objs.size) h.gen h.co h.blt h.glob
  let B' : Bs := ⟨s, g, fun a => s.heap.get? a, []⟩
  have ca := cells_above fd.scope.names (s.heap.objs.size + 1) [] s.heap.objs.size (Nat.lt_succ_self _) (fun p hp => nomatch hp) List.nodup_nil
  have fr : ∀ a, s.heap.objs.size ≤ a → s.heap.get? a = none := fun a ha => by
    cases e : s.heap.get? a with
    | none => rfl
    | some o' => exact absurd (Heap.lt_size e) (Nat.not_lt.mpr ha)
  have gn : ∀ a, s.heap.get? a = none → g a = none := fun a ha => by
    cases e : g a with
    | none => rfl
    | some o' => rw [hg _ _ e] at ha; cases ha
  have hkl : ∀ y ∈ binds, (envF fd f s.heap.objs.size).kindOf y.1 = some .local := fun y hy => hl y hy
  have F : Fm w B' (envF fd f s.heap.objs.size) Γ₀ [] g s₁ := by
    refine ⟨⟨h₁, tk, e₁⟩, kp, fun _ _ e => e, Gs, hg.sub kp, Le.refl g, fun _ _ e => .inl e, fun a ha => ?_, ?_, (fun a ha => nomatch ha), ⟨_, x.toInCall.ns⟩, fun p hp => ⟨_, x.cell p.1 p.2 (hc _ p hp)⟩, Gs.sub kp, fun y P' hy => ?_, (fun a M hm => by simp at hm), h.kind, h.glob, h.blt⟩
    · have hge : s.heap.objs.size ≤ a := by
        rcases List.mem_cons.mp ha with rfl | ha
        · exact Nat.le_refl _
        · rw [List.map_nil, List.append_nil] at ha
          obtain ⟨p, hp, rfl⟩ := List.mem_map.mp ha
          exact Nat.le_of_lt (ca.1 p hp)
      refine ⟨fr a hge, gn a (fr a hge), (fun h => nomatch h), ?_⟩
      rcases List.mem_cons.mp ha with rfl | ha
      · obtain ⟨o, _, _, ho, _⟩ := x.toInCall.ns; exact ⟨o, ho⟩
      · rw [List.map_nil, List.append_nil] at ha
        obtain ⟨p, hp, rfl⟩ := List.mem_map.mp ha
        obtain ⟨o, ho, _⟩ := x.cell p.1 p.2 (hc _ p hp)
        exact ⟨o, ho⟩
    · unfold owned
      rw [List.map_nil, List.append_nil, List.nodup_cons]
      refine ⟨fun hm => ?_, ca.2⟩
      obtain ⟨p, hp, e⟩ := List.mem_map.mp hm
      have h1 := ca.1 p hp
      exact absurd e (Nat.ne_of_gt h1)
    · obtain ⟨h1, v, hv, hbv⟩ := hΓ y P' hy
      exact ⟨v, .inl ⟨h1, _, x.toInCall.ns, hbv _ hkl⟩, hv⟩
  refine wpAny_mono ((ht B' _ hR').run s₁ ⟨g, F⟩) (fun f s' y => ?_) fun _ _ f => f.elim
  cases f with
  | next => exact y.elim
  | brk => exact y.elim
  | cont => exact y.elim
  | ret v =>
    obtain ⟨⟨h', t', rfl⟩, k', _, g', l, o', nw, hQ⟩ := y
    exact ⟨⟨h', t', rfl, k'⟩, g', l, o', nw, hQ⟩
theorem call1 {f : Addr} {fd : FuncData} {body : List Stmt} {x : Str} {P₁ Q : VP} (hR : Rm A (n + 1)) (h : FnOk f fd body) (hb : ∀ v, bindArgs fd ⟨[v], []⟩ = pure [(x, v)]) (hl : fd.scope.names.lookup x = some .local)
    (hc : ∀ Lo, ∀ p ∈ cellsFrom (Lo + 1) fd.scope.names [], (cellsFrom (Lo + 1) fd.scope.names []).lookup p.1 = some p.2)
    (ht : ∀ (B' : Bs) (Lo : Addr), Rm (A.deeper (envF fd f Lo)) n → Tr prog w (A.deeper (envF fd f Lo)) B' (envF fd f Lo) Q (At w B' (envF fd f Lo) [(x, P₁)] []) body (fun _ => False)) :
    OpV prog w A env Γ mu (fun vs => call (.ref f) vs) [P₁] Q := .one fun r g v R hv => by
  refine callBody R.gd hR h (hb v) (fun y hy => by rw [List.mem_singleton.mp hy]; exact hl) hc (fun y P' hy => ?_) ht
  rcases lookup_cons_cases hy with ⟨rfl, rfl⟩ | ⟨_, hy⟩
  · refine ⟨hl, v, hv, fun kd hk => ?_⟩
    have := hk (y, v) List.mem_cons_self
    simp only [bindL]
    rw [if_pos this]; simp
  · simp at hy
theorem call2 {f : Addr} {fd : FuncData} {body : List Stmt} {x y : Str} {P₁ P₂ Q : VP} (hR : Rm A (n + 1)) (h : FnOk f fd body) (hb : ∀ v u, bindArgs fd ⟨[v, u], []⟩ = pure [(x, v), (y, u)]) (hl : fd.scope.names.lookup x = some .local) (hl' : fd.scope.names.lookup y = some .local) (hne : x ≠ y)
    (hc : ∀ Lo, ∀ p ∈ cellsFrom (Lo + 1) fd.scope.names [], (cellsFrom (Lo + 1) fd.scope.names []).lookup p.1 = some p.2)
    (ht : ∀ (B' : Bs) (Lo : Addr), Rm (A.deeper (envF fd f Lo)) n → Tr prog w (A.deeper (envF fd f Lo)) B' (envF fd f Lo) Q (At w B' (envF fd f Lo) [(x, P₁), (y, P₂)] []) body (fun _ => False)) :
    OpV prog w A env Γ mu (fun vs => call (.ref f) vs) [P₁, P₂] Q := .two fun r g v u R hv hu => by
  refine callBody R.gd hR h (hb v u) (fun z hz => by
    rcases List.mem_cons.mp hz with rfl | hz
    · exact hl
    · rw [List.mem_singleton.mp hz]; exact hl') hc (fun z P' hz => ?_) ht
  have hk2 : ∀ kd : Str → Option NameKind, (∀ y_1 ∈ [(x, v), (y, u)], kd y_1.1 = some .local) → bindL kd [(x, v), (y, u)] (fun _ => none) = fun z => if z = y then some u else if z = x then some v else none := fun kd hk => by
    simp only [bindL]
    rw [if_pos (hk (x, v) (by simp)), if_pos (hk (y, u) (by simp))]
  rcases lookup_cons_cases hz with ⟨rfl, rfl⟩ | ⟨_, hz⟩
  · exact ⟨hl, v, hv, fun kd hk => by rw [hk2 kd hk]; simp [hne]⟩
  · rcases lookup_cons_cases hz with ⟨rfl, rfl⟩ | ⟨_, hz⟩
    · exact ⟨hl', u, hu, fun kd hk => by rw [hk2 kd hk]; simp⟩
    · simp at hz
/-- for x in xs: the invariant is said by the number of turns -/
theorem TrS.for {α : Type} {V : VP} {Pe : α → VP} {xs : List α} {x : Str} {px pos : Pos} {iter : Expr} {body : List Stmt} (Γi : Nat → Cx) (mi : Nat → List (Addr × MP)) (hh : A.handled = none)
    (hi : Ex prog w A env (Γi 0) (mi 0) iter V) (hI : Iter prog w A env (Γi 0) (mi 0) V xs Pe) (hk : Kept env x) (hm : ∀ i, (mi i).map (·.1) = (mi 0).map (·.1))
    (ht : ∀ (B' : Bs) (i : Nat) (a : α), xs[i]? = some a → Tr prog w A B' env P (At w B' env ((x, Pe a) :: Γi i) (mi i)) body (At w B' env (Γi (i + 1)) (mi (i + 1))))
    (hs : ∀ x, foldedSetIterable iter env x = pure x := by intro _; rfl) :
    TrS prog w A B env P (At w B env (Γi 0) (mi 0)) (.For (.Name x px) iter body [] pos) (At w B env (Γi xs.length) (mi xs.length)) := by
  refine .mk ?_
  rintro s ⟨g, F⟩
  refine wpAny_For (F.ev hi fun v g₁ s₁ F₁ l₁ hq ks₁ => ?_) hs
  refine hI s₁.heap g₁ v s₁ _ _ F₁.rd hq (Sub.refl _) F₁.on fun I fp wr St h₂ k₂ W st hfp hwr hfg hal => ?_
  have hown : ∀ j, owned env (mi j) = owned env (mi 0) := fun j => by unfold owned; rw [hm j]
  -- nothing of ours lies in wr
  have ow : ∀ a ∈ owned env (mi 0), a ∉ wr := fun a ha hb => by
    obtain ⟨_, _, _, o, ho⟩ := F₁.own a ha
    rw [(hwr a hb).1] at ho; cases ho
  have kw : ∀ a o, B.k a = some o → a ∉ wr := fun a o e hb => by
    have := F₁.bk a o e
    rw [(hwr a hb).1] at this; cases this
  have zw : ∀ a ∈ B.z, a ∉ wr := fun a ha hb => by
    obtain ⟨_, o, ho⟩ := F₁.hz a ha
    rw [(hwr a hb).1] at ho; cases ho
  let J : Nat → Shared → Prop := fun m s => ∃ i, i ≤ xs.length ∧ m = xs.length - i ∧ St i s.heap ∧ ∃ g', Fm w B env (Γi i) (mi i) g' s ∧ Le g₁ g' ∧ ∀ b ∈ wr, g' b = none ∧ ∃ o, s.heap.get? b = some o
  have g1w : ∀ b ∈ wr, g₁ b = none := fun b hb => by
    cases e : g₁ b with
    | none => rfl
    | some o => have := F₁.on b o e; rw [(hwr b hb).1] at this; cases this
  -- a step that touches wr alone
  have stepW : ∀ {j : Nat} {g' : View} {s : Shared} {h' : Heap} {tk : Nat}, Fm w B env (Γi j) (mi j) g' s → (∀ b ∈ wr, g' b = none) → (∀ b o, b ∉ wr → s.heap.get? b = some o → h'.get? b = some o) → Fm w B env (Γi j) (mi j) g' { s with heap := h', toks := tk } := by
    intro j g' s h' tk F hg hkk
    have oj : ∀ a ∈ owned env (mi j), a ∉ wr := fun a ha => ow a (hown j ▸ ha)
    have og : ∀ a o, g' a = some o → a ∉ wr := fun a o e hb => by rw [hg a hb] at e; cases e
    refine ⟨?_, fun b o e => hkk b o (kw b o e) (F.bk b o e), F.b0, F.gd₀, fun b o e => hkk b o (og b o e) (F.on b o e), F.le, F.new, fun a ha => ?_, F.nod, fun a ha => ?_, ?_, fun p hp => ?_, ?_⟩
    · obtain ⟨h, t, e⟩ := F.same; rw [e]; exact ⟨_, _, rfl⟩
    · obtain ⟨a1, a2, a3, o, a4⟩ := F.own a ha; exact ⟨a1, a2, a3, o, hkk a o (oj a ha) a4⟩
    · obtain ⟨a1, o, a2⟩ := F.hz a ha; exact ⟨a1, o, hkk a o (zw a ha) a2⟩
    · obtain ⟨m, hm⟩ := F.ns; exact ⟨m, hm.at' fun o e => hkk _ o (oj _ mem_owned_loc) e⟩
    · obtain ⟨v, o, ho, hd⟩ := F.cl p hp; exact ⟨v, o, hkk _ o (oj _ (mem_owned_cell hp)) ho, hd⟩
    · refine ⟨F.gd₀.sub fun b o e => hkk b o (kw b o (F.b0 b o e)) (F.bk b o (F.b0 b o e)), fun y Q hy => ?_, fun a M ha => ?_, F.rd.fn, F.rd.gl, F.rd.bl⟩
      · obtain ⟨v, hr, hQ⟩ := F.rd.vars y Q hy
        refine ⟨v, ?_, hQ⟩
        rcases hr with ⟨h1, m, h2, h3⟩ | ⟨c, h1, h2, o, h3, h4⟩
        · exact .inl ⟨h1, m, h2.at' fun o e => hkk _ o (oj _ mem_owned_loc) e, h3⟩
        · exact .inr ⟨c, h1, h2, o, hkk _ o (oj _ (mem_owned_cell (lookup_mem h2))) h3, h4⟩
      · obtain ⟨o, ho, hM⟩ := F.rd.muts a M ha
        exact ⟨o, hkk a o (oj a (mem_owned_mu ha)) ho, hM⟩
  refine codeAny_forLoop_any J ?_ xs.length ⟨0, Nat.zero_le _, rfl, st, g₁, ?_, Le.refl _, fun b hb => ⟨g1w b hb, (hwr b hb).2⟩⟩
  · rintro m s ⟨i, hile, rfl, hst, g', F', l', hgw⟩
    rcases Nat.lt_or_ge i xs.length with hlt | hge
    · refine W.item i s _ _ hlt hst fun u h' tk hP hst' hkk => ?_
      obtain ⟨a, ha, hPa⟩ := hP
      have F₂ := stepW (tk := tk) F' (fun b hb => (hgw b hb).1) hkk
      have wal : ∀ b ∈ wr, ∃ o, h'.get? b = some o := hal _ _ hst'
      show wpAny _ A (Pure.pure ()) _ _ _
      refine wpAny_pure (wpAny_assign_Name ?_)
      refine F₂.store hk ((Pe a).mono l' hPa) fun h₃ tk₃ ad F₃ had hk₃ => ?_
      have haw : ad ∉ wr := ow ad (hown i ▸ had)
      have hst₃ : St (i + 1) h₃ := W.frame _ _ _ hst' fun b hb o e => hk₃ b o (fun q => by
        subst q
        rcases hfg b hb with hbw | ⟨o', ho'⟩
        · exact haw hbw
        · have := (F₃.own b had).2.1
          rw [l' b o' ho'] at this; cases this) e
      classical
      let B' : Bs := ⟨B.s₀, g', fun b => if b ∈ wr then h₃.get? b else B.k b, wr ++ B.z⟩
      have F₄ : Fm w B' env ((x, Pe a) :: Γi i) (mi i) g' { s with heap := h₃, toks := tk₃ } := by
        refine ⟨F₃.same, fun b o e => ?_, fun b o e => ?_, F₃.gd₀, F₃.on, Le.refl _, fun _ _ e => .inl e, fun b hb => ?_, F₃.nod, fun b hb => ?_, F₃.ns, F₃.cl, F₃.rd⟩
        · by_cases hbw : b ∈ wr
          · have e' : h₃.get? b = some o := by simpa [B', hbw] using e
            exact e'
          · have e' : B.k b = some o := by simpa [B', hbw] using e
            exact F₃.bk b o e'
        · have := F₃.b0 b o e
          show (if b ∈ wr then h₃.get? b else B.k b) = some o
          rw [if_neg (kw b o this)]; exact this
        · obtain ⟨a1, a2, a3, a4⟩ := F₃.own b hb
          have hbw : b ∉ wr := ow b (hown i ▸ hb)
          refine ⟨?_, a2, fun hm => ?_, a4⟩
          · show (if b ∈ wr then h₃.get? b else B.k b) = none
            rw [if_neg hbw]; exact a1
          · rcases List.mem_append.mp hm with hm | hm
            · exact hbw hm
            · exact a3 hm
        · rcases List.mem_append.mp hb with hb | hb
          · obtain ⟨o, ho⟩ := wal b hb
            exact ⟨(hgw b hb).1, o, hk₃ b o (fun q => haw (q ▸ hb)) ho⟩
          · exact F₃.hz b hb
      refine wpAny_mono ((ht B' i a ha).run _ ⟨g', F₄⟩) (fun f s₅ y => ?_) fun _ _ f => f.elim
      cases f with
      | brk => exact y.elim
      | cont => exact y.elim
      | ret v =>
        obtain ⟨a1, a2, a3, g₅, a4, a5, a6, a7⟩ := y
        refine ⟨a1, fun b o e => a2 b o ?_, F₃.b0, g₅, F₃.le.trans a4, a5, fun b o e => ?_, a7⟩
        · show (if b ∈ wr then h₃.get? b else B.k b) = some o
          rw [if_neg (kw b o e)]; exact e
        · rcases a6 b o e with e | e
          · exact F₃.new b o e
          · exact .inr e
      | next =>
        obtain ⟨g₅, F₅⟩ := y
        have bk5 : ∀ b o, b ∈ wr → h₃.get? b = some o → s₅.heap.get? b = some o := fun b o hb e => F₅.bk b o (by
          show (if b ∈ wr then h₃.get? b else B.k b) = some o
          rw [if_pos hb]; exact e)
        refine ⟨xs.length - (i + 1), by omega, i + 1, hlt, rfl, W.frame _ _ _ hst₃ fun b hb o e => ?_, g₅, ?_, l'.trans F₅.le, fun b hb => F₅.hz b (List.mem_append_left _ hb)⟩
        · rcases hfg b hb with hbw | ⟨o', ho'⟩
          · exact bk5 b o hbw e
          · have h1 := F₃.on b o' (l' b o' ho')
            have h2 : h₃.get? b = some o' := h1
            rw [h2] at e
            obtain rfl := Option.some.inj e
            exact F₅.on b o' (F₅.le b o' (l' b o' ho'))
        · refine ⟨F₅.same, fun b o e => F₅.bk b o ?_, F₃.b0, F₃.gd₀, F₅.on, F₃.le.trans F₅.le, fun b o e => ?_, fun b hb => ?_, F₅.nod, fun b hb => F₅.hz b (List.mem_append_right _ hb), F₅.ns, F₅.cl, F₅.rd⟩
          · show (if b ∈ wr then h₃.get? b else B.k b) = some o
            rw [if_neg (kw b o e)]; exact e
          · rcases F₅.new b o e with e | e
            · exact F₃.new b o e
            · exact .inr e
          · obtain ⟨a1, a2, a3, a4⟩ := F₅.own b hb
            have hbw : b ∉ wr := ow b (hown (i + 1) ▸ hb)
            refine ⟨?_, a2, fun hm => a3 (List.mem_append_right _ hm), a4⟩
            have a1' : (if b ∈ wr then h₃.get? b else B.k b) = none := a1
            rw [if_neg hbw] at a1'; exact a1'
    · have hin : i = xs.length := by omega
      subst hin
      refine W.done s _ _ hst fun h' tk hkk => ?_
      exact wpAny_execs_nil ⟨g', stepW (tk := tk) F' (fun b hb => (hgw b hb).1) hkk⟩
  · have := stepW (tk := s₁.toks) (h' := h₂) (j := 0) F₁ g1w fun b o _ e => k₂ b o e
    exact this
end
end Mine
open PySem PySem.W PySem.Calls PyProof.Rows
namespace Mine
section
variable {prog : Program} {w : World} {A : Around} {B : Bs} {env : Env} {Γ Γ' : Cx} {mu mu' : List (Addr × MP)} {n : Nat} {P : VP} {g : View} {s s' : Shared} {K : Shared → Prop}
/-- names that stay -/
def AllIn (Γ : Cx) : Cx → Prop
  | [] => True
  | p :: r => Γ.lookup p.1 = some p.2 ∧ AllIn Γ r
theorem AllIn.get : ∀ {Γ' : Cx}, AllIn Γ Γ' → ∀ x Q, Γ'.lookup x = some Q → Γ.lookup x = some Q
  | [], _, x, Q, h => by simp at h
  | p :: r, hc, x, Q, h => by
    rcases lookup_cons_cases (x := p.1) (p := p.2) h with ⟨rfl, rfl⟩ | ⟨_, h⟩
    · exact hc.1
    · exact hc.2.get x Q h
theorem At.shrink {s : Shared} (x : At w B env Γ mu s) (h : AllIn Γ Γ') : At w B env Γ' mu s := x.weaken h.get
/-- tests -/
theorem Tst.or2 {x y : Expr} {pos : Pos} {b c : Bool} (h : Tst prog w A env Γ mu x b) (h' : b = false → Tst prog w A env Γ mu y c) : Tst prog w A env Γ mu (.BoolOp .Or [x, y] pos) (b || c) := fun r g R => .mk fun s hs hg => by
  refine wpAny_isTrue_BoolOp (wpAny_allTrue_Or_cons ((h r g R).seq (fun v _ => v = (b || c)) hs hg fun v s₁ g₁ k₁ l₁ o₁ p₁ t₁ => ?_))
  subst p₁
  cases v with
  | true => exact t₁ _ _ (Fin.same o₁ rfl)
  | false =>
    refine wpAny_allTrue_Or_cons ((h' rfl r g₁ (R.up (Sub.refl r) l₁)).seq (fun v _ => v = (false || c)) (hs.trans (keepsSub k₁)) o₁ fun v s₂ g₂ k₂ l₂ o₂ p₂ t₂ => ?_)
    subst p₂
    cases v with
    | true => exact t₁ _ _ (t₂ _ _ (Fin.same o₂ rfl))
    | false => exact wpAny_allTrue_Or_nil (t₁ _ _ (t₂ _ _ (Fin.same o₂ rfl)))
theorem Tst.and2 {x y : Expr} {pos : Pos} {b c : Bool} (h : Tst prog w A env Γ mu x b) (h' : b = true → Tst prog w A env Γ mu y c) : Tst prog w A env Γ mu (.BoolOp .And [x, y] pos) (b && c) := fun r g R => .mk fun s hs hg => by
  refine wpAny_isTrue_BoolOp (wpAny_allTrue_And_cons ((h r g R).seq (fun v _ => v = (b && c)) hs hg fun v s₁ g₁ k₁ l₁ o₁ p₁ t₁ => ?_))
  subst p₁
  cases v with
  | false => exact t₁ _ _ (Fin.same o₁ rfl)
  | true =>
    refine wpAny_allTrue_And_cons ((h' rfl r g₁ (R.up (Sub.refl r) l₁)).seq (fun v _ => v = (true && c)) (hs.trans (keepsSub k₁)) o₁ fun v s₂ g₂ k₂ l₂ o₂ p₂ t₂ => ?_)
    subst p₂
    cases v with
    | false => exact t₁ _ _ (t₂ _ _ (Fin.same o₂ rfl))
    | true => exact wpAny_allTrue_And_nil (t₁ _ _ (t₂ _ _ (Fin.same o₂ rfl)))
theorem Ex.or2 {x y : Expr} {pos : Pos} {b c : Bool} (h : Ex prog w A env Γ mu x (Mine.B b)) (h' : b = false → Ex prog w A env Γ mu y (Mine.B c)) : Ex prog w A env Γ mu (.BoolOp .Or [x, y] pos) (Mine.B (b || c)) := fun r g R => .mk fun s hs hg => by
  refine wpAny_Or2 ((h r g R).seq (Mine.B (b || c)).is hs hg fun v s₁ g₁ k₁ l₁ o₁ p₁ t₁ => ?_)
  obtain rfl : v = .bool b := p₁
  refine wpAny_truthy_bool ?_
  cases b with
  | true => exact t₁ _ _ (Fin.same o₁ rfl)
  | false => exact wpAny_mono ((h' rfl r g₁ (R.up (Sub.refl r) l₁)).run s₁ (hs.trans (keepsSub k₁)) o₁) (fun u s₂ x => t₁ u s₂ x) fun _ _ f => f
theorem Ex.neg {x : Expr} {pos : Pos} {a : Int} (h : Ex prog w A env Γ mu x (I a)) : Ex prog w A env Γ mu (.UnaryOp .USub x pos) (I (-a)) := fun r g R => .mk fun s hs hg => by
  refine wpAny_UnaryOp ((h r g R).seq (I (-a)).is hs hg fun v s₁ g₁ k₁ l₁ o₁ p₁ t₁ => ?_)
  obtain ⟨t, rfl⟩ := p₁
  exact neg_int (t₁ _ _ (Fin.tok o₁ ⟨_, rfl⟩))
/-- a new object that will change -/
theorem Fm.alloc {a : Addr} {o : Obj} {M : MP} (F : Fm w B env Γ mu g s) (k : Keeps s s') (ha : s.heap.get? a = none) (ho : s'.heap.get? a = some o) (hM : M.is o g) : Fm w B env Γ ((a, M) :: mu) g s' := by
  have ks := keepsSub k
  have dead : ∀ (b : Addr), (∃ o, s.heap.get? b = some o) → b ≠ a := fun b ⟨o, hb⟩ e => by subst e; rw [ha] at hb; cases hb
  have hg : g a = none := by
    cases e : g a with
    | none => rfl
    | some o' => exact absurd rfl (dead a ⟨o', F.on _ _ e⟩)
  have hk : B.k a = none := by
    cases e : B.k a with
    | none => rfl
    | some o' => exact absurd rfl (dead a ⟨o', F.bk _ _ e⟩)
  refine ⟨?_, F.bk.sub ks, F.b0, F.gd₀, F.on.sub ks, F.le, F.new, fun b hb => ?_, ?_, fun b hb => let ⟨h1, o, h2⟩ := F.hz b hb; ⟨h1, o, ks _ _ h2⟩, let ⟨m, hm⟩ := F.ns; ⟨m, hm.keeps ks⟩, fun p hp => let ⟨v, hv⟩ := F.cl p hp; ⟨v, hv.keeps ks⟩, ?_⟩
  · obtain ⟨h, tk, rfl⟩ := F.same
    obtain ⟨h', t', rfl, _⟩ := k
    exact ⟨h', t', rfl⟩
  · have hb' : b = a ∨ b ∈ owned env mu := by
      unfold owned at hb ⊢
      rw [List.map_cons] at hb
      rcases List.mem_cons.mp hb with h | h
      · exact .inr (by rw [h]; exact List.mem_cons_self)
      · rcases List.mem_append.mp h with h | h
        · exact .inr (List.mem_cons_of_mem _ (List.mem_append_left _ h))
        · rcases List.mem_cons.mp h with h | h
          · exact .inl h
          · exact .inr (List.mem_cons_of_mem _ (List.mem_append_right _ h))
    rcases hb' with rfl | hb'
    · refine ⟨hk, hg, fun hz => ?_, o, ho⟩
      obtain ⟨_, o', h'⟩ := F.hz _ hz
      exact absurd rfl (dead _ ⟨o', h'⟩)
    · obtain ⟨h1, h2, h3, o', h4⟩ := F.own b hb'
      exact ⟨h1, h2, h3, o', ks _ _ h4⟩
  · have hn := F.nod
    have ho : ∀ b ∈ owned env mu, b ≠ a := fun b hb => let ⟨_, _, _, h⟩ := F.own b hb; dead b h
    unfold owned at hn ho ⊢
    rw [List.map_cons]
    rw [List.nodup_cons] at hn ⊢
    refine ⟨fun hm => ?_, ?_⟩
    · rcases List.mem_append.mp hm with h | h
      · exact hn.1 (List.mem_append_left _ h)
      · rcases List.mem_cons.mp h with h | h
        · exact ho env.locals List.mem_cons_self h
        · exact hn.1 (List.mem_append_right _ h)
    · have hp : (env.cells.map (·.2) ++ a :: mu.map (·.1)).Perm (a :: (env.cells.map (·.2) ++ mu.map (·.1))) := List.perm_middle
      refine hp.nodup_iff.mpr (List.nodup_cons.mpr ⟨fun hm => ho a (List.mem_cons_of_mem _ hm) rfl, hn.2⟩)
  · refine ⟨F.rd.gd.sub ks, fun y Q e => (F.rd.vars y Q e).up ks (Le.refl g), fun b M' e => ?_, F.rd.fn, F.rd.gl, F.rd.bl⟩
    rcases lookup_cons_cases e with ⟨rfl, rfl⟩ | ⟨_, e⟩
    · exact ⟨o, ho, hM⟩
    · obtain ⟨o', h1, h2⟩ := F.rd.muts b M' e
      exact ⟨o', ks _ _ h1, h2⟩
/-- a changing object comes to rest -/
theorem Fm.freeze {a : Addr} {M : MP} (F : Fm w B env Γ ((a, M) :: mu) g s) : ∃ o g', Fm w B env Γ mu g' s ∧ Le g g' ∧ g' a = some o ∧ M.is o g := by
  have hin : a ∈ owned env ((a, M) :: mu) := mem_owned_mu (M := M) (by simp)
  obtain ⟨hk, hg, hz, _⟩ := F.own a hin
  obtain ⟨o, ho, hM⟩ := F.rd.muts a M (by simp)
  have hnd := F.nod
  have hsub : ∀ b ∈ owned env mu, b ∈ owned env ((a, M) :: mu) ∧ b ≠ a := by
    intro b hb
    have hp : (owned env ((a, M) :: mu)).Perm (a :: owned env mu) := by
      unfold owned
      rw [List.map_cons]
      exact ((List.perm_middle (l₁ := env.cells.map (·.2))).cons env.locals).trans (List.Perm.swap _ _ _)
    refine ⟨hp.mem_iff.mpr (List.mem_cons_of_mem _ hb), fun e => ?_⟩
    have := hp.nodup_iff.mp hnd
    rw [List.nodup_cons] at this
    exact this.1 (e ▸ hb)
  refine ⟨o, ext g a o, ⟨F.same, F.bk, F.b0, F.gd₀, fun b o' e => ?_, F.le.trans (le_ext hg), fun b o' e => ?_, fun b hb => ?_, ?_, fun b hb => ?_, F.ns, F.cl, ?_⟩, le_ext hg, ext_self _ _ _, hM⟩
  · by_cases e' : b = a
    · subst e'; rw [ext_self] at e; injection e with e; subst e; exact ho
    · simp [ext, e'] at e; exact F.on b o' e
  · by_cases e' : b = a
    · subst e'
      refine .inr ?_
      cases h : B.s₀.heap.get? b with
      | none => rfl
      | some o'' => rw [F.b0 _ _ h] at hk; cases hk
    · simp [ext, e'] at e; exact F.new b o' e
  · obtain ⟨h1, h2⟩ := hsub b hb
    obtain ⟨a1, a2, a3, a4⟩ := F.own b h1
    exact ⟨a1, by simp [ext, h2, a2], a3, a4⟩
  · have hp : (owned env ((a, M) :: mu)).Perm (a :: owned env mu) := by
      unfold owned
      rw [List.map_cons]
      exact ((List.perm_middle (l₁ := env.cells.map (·.2))).cons env.locals).trans (List.Perm.swap _ _ _)
    have := hp.nodup_iff.mp hnd
    rw [List.nodup_cons] at this
    exact this.2
  · obtain ⟨h1, h2⟩ := F.hz b hb
    refine ⟨?_, h2⟩
    have : b ≠ a := fun e => hz (e ▸ hb)
    simp [ext, this, h1]
  · refine ⟨F.rd.gd, fun y Q e => (F.rd.vars y Q e).up (Sub.refl _) (le_ext hg), fun b M' e => ?_, F.rd.fn, F.rd.gl, F.rd.bl⟩
    have hb : b ∈ owned env mu := mem_owned_mu e
    obtain ⟨o', h1, h2⟩ := F.rd.muts b M' (by
      rw [List.lookup_cons]
      have : (b == a) = false := beq_eq_false_iff_ne.mpr (hsub b hb).2
      rw [this]; exact e)
    exact ⟨o', h1, M'.mono (le_ext hg) h2⟩
/-- some place of a changing object -/
theorem Tr.some {α : Type} {I : α → Shared → Prop} {body : List Stmt} (h : ∀ a, Tr prog w A B env P (I a) body K) : Tr prog w A B env P (fun s => ∃ a, I a s) body K := .mk fun s ⟨a, hs⟩ => (h a).run s hs
/-- a table of tables -/
def Tb (prog : Program) (w : World) (tabs : Str → Option (List Str)) (m : Nat) : MP :=
  ⟨fun o g => ∃ kvs : List (Str × Value), o.IsDictOf (PySem.strKind prog w) kvs ∧ kvs.length ≤ m ∧ ∀ z xs, tabs z = some xs → ∃ v, valueAt kvs z = some v ∧ (Dv prog w xs).is v g,
   fun k ⟨kvs, a, b, c⟩ => ⟨kvs, a, b, fun z xs e => let ⟨v, p, q⟩ := c z xs e; ⟨v, p, (Dv prog w xs).mono k q⟩⟩⟩
theorem valueAt_stored' (kvs : List (Str × Value)) (k : Str) (v : Value) (x : Str) : valueAt (stored kvs k v) x = if x = k then some v else valueAt kvs x := by
  unfold stored
  split
  · rename_i hany
    induction kvs with
    | nil => simp at hany
    | cons p r ih =>
      simp only [valueAt, List.map_cons, List.find?_cons] at ih ⊢
      by_cases hp : p.1 = k
      · by_cases hx : x = k
        · subst hx; simp [hp]
        · have h1 : ¬ p.1 = x := fun e => hx (e ▸ hp)
          have h2 : ¬ k = x := fun e => hx e.symm
          simp only [hp, if_true, h2, decide_false, if_neg hx]
          have hmap : ∀ l : List (Str × Value), ((l.map fun kv => if kv.1 = k then (kv.1, v) else kv).find? fun kv => decide (kv.1 = x)).map (·.2) = (l.find? fun kv => decide (kv.1 = x)).map (·.2) := by
            intro l
            induction l with
            | nil => rfl
            | cons q l ihl =>
              rw [List.map_cons, List.find?_cons, List.find?_cons]
              by_cases hq : q.1 = k
              · have h3 : ¬ q.1 = x := fun e => hx (e ▸ hq)
                simp only [hq, if_true, h2, decide_false]
                exact ihl
              · simp only [if_neg hq]
                by_cases h4 : q.1 = x
                · simp [h4]
                · simp only [h4, decide_false]; exact ihl
          exact hmap r
      · simp only [if_neg hp]
        by_cases h1 : p.1 = x
        · have : ¬ x = k := fun e => hp (h1.trans e)
          simp [h1, this]
        · simp only [h1, decide_false]
          refine ih ?_
          simpa [hp] using hany
  · rename_i hany
    simp only [valueAt, List.find?_append]
    by_cases hx : x = k
    · subst hx
      have : (kvs.find? fun kv => decide (kv.1 = x)) = none := by
        rw [List.find?_eq_none]
        intro p hp
        have := hany
        simp only [List.any_eq_true, decide_eq_true_eq, not_exists, not_and] at this
        simpa using this p hp
      simp [this]
    · have h2 : ¬ k = x := fun e => hx e.symm
      simp [hx, h2]
theorem op_tab {o i : Expr} {T : Addr} {tabs : Str → Option (List Str)} {m : Nat} {z : Str} {xs : List Str} (hT : mu.lookup T = some (Tb prog w tabs m)) (hz : tabs z = some xs)
    (hs1 : ∀ a u, subscripted i false (.ref a) (.str z u) = operate [.ref a, .str z u] (getItem (.ref a) (.str z u)) := by intro _ _; with_unfolding_all rfl) :
    Op2 prog w A env Γ mu (subscriptTail o i) (C (.ref T)) (S z) (Dv prog w xs) := by
  rintro r g v u R rfl ⟨t', rfl⟩
  refine .mk fun s hs hg => ?_
  obtain ⟨ob, ho, kvs, hd, _, hv⟩ := R.muts T _ hT
  obtain ⟨v, hv, hP⟩ := hv z xs hz
  have hm : s.heap.DictOf (PySem.strKind prog w) T kvs := Heap.dictOf_iff.mpr ⟨ob, hs _ _ ho, hd⟩
  exact tail_any hm.typeIs slot_dict_getitem.lookup (wpAny_getItem_of (knd := PySem.strKind prog w) (strKind_is _ _ _ _) hm.mapOf hv (Fin.tok hg hP)) (hs1 _ _)
theorem TrS.setTab {o i value : Expr} {px pos : Pos} {T : Addr} {tabs tabs' : Str → Option (List Str)} {m : Nat} {z : Str} {xs : List Str} (hT : mu.lookup T = some (Tb prog w tabs m)) (hm : m ≤ 1000)
    (hv : Ex prog w A env Γ mu value (Dv prog w xs)) (ho : Ex prog w A env Γ mu o (C (.ref T))) (hi : Ex prog w A env Γ mu i (S z)) (htabs : ∀ y ys, tabs' y = some ys → (y = z ∧ ys = xs) ∨ (y ≠ z ∧ tabs y = some ys))
    (hmu : mu'.map (·.1) = mu.map (·.1)) (hmu' : ∀ b M, mu'.lookup b = some M → (b = T ∧ M = Tb prog w tabs' (m + 1)) ∨ (b ≠ T ∧ mu.lookup b = some M)) (hs : swapsWith value (some (.Subscript o i px)) pos.line env = pure false := by rfl) :
    TrS prog w A B env P (At w B env Γ mu) (.Assign [.Subscript o i px] value pos) (At w B env Γ mu') := by
  refine .mk ?_
  rintro s ⟨g, F⟩
  refine wpAny_Assign_Subscript (F.ev hv fun v g₁ s₁ F₁ l₁ q₁ _ => F₁.ev ho fun ov g₂ s₂ F₂ l₂ q₂ _ => F₂.ev hi fun iv g₃ s₃ F₃ l₃ q₃ _ => ?_) hs
  obtain rfl : ov = .ref T := q₂
  obtain ⟨t, rfl⟩ := q₃
  obtain ⟨ob, hob, kvs, hdo, hlen, hval⟩ := F₃.rd.muts T _ hT
  have hmm : s₃.heap.DictOf (PySem.strKind prog w) T kvs := Heap.dictOf_iff.mpr ⟨ob, hob, hdo⟩
  refine wpAny_setItem_pairs (knd := PySem.strKind prog w) (strKind_is _ _ _ _) hmm (fun h' hd' hs' => ?_) (by rw [sizeLine_eq]; omega)
  obtain ⟨ob', hob', hdo'⟩ := Heap.dictOf_iff.mp hd'
  have hkp : ∀ b o, b ≠ T → s₃.heap.get? b = some o → h'.get? b = some o := fun b o hb e => hs'.extBut b o hb e
  have hTo : T ∈ owned env mu := mem_owned_mu hT
  have hne : env.locals ≠ T := (loc_ne_mu F₃.nod hT).symm
  refine ⟨g₃, F₃.chg hTo hkp hmu ⟨ob', hob'⟩ (let ⟨mm, hn⟩ := F₃.ns; ⟨mm, hn.sameBut hs' hne⟩) (fun p hp => let ⟨u, hu⟩ := F₃.cl p hp; ⟨u, hu.sameBut hs' (cell_ne_mu F₃.nod hp hT).symm⟩) (fun y Q hy => ?_) fun b M hb => ?_⟩
  · obtain ⟨u, hu, hQ⟩ := F₃.rd.vars y Q hy
    refine ⟨u, ?_, hQ⟩
    rcases hu with ⟨ha, mm, hm', hu⟩ | ⟨c, ha, hb, hc⟩
    · exact .inl ⟨ha, mm, hm'.sameBut hs' hne, hu⟩
    · exact .inr ⟨c, ha, hb, hc.sameBut hs' (cell_ne_mu F₃.nod (p := (y, c)) (lookup_mem hb) hT).symm⟩
  · rcases hmu' b M hb with ⟨rfl, rfl⟩ | ⟨hbT, hb⟩
    · refine ⟨ob', hob', stored kvs z v, hdo', by have := stored_length_le kvs z v; omega, fun y ys hy => ?_⟩
      rw [valueAt_stored']
      rcases htabs y ys hy with ⟨rfl, rfl⟩ | ⟨hyz, hy⟩
      · rw [if_pos rfl]; exact ⟨v, rfl, (Dv prog w ys).mono (l₂.trans l₃) q₁⟩
      · rw [if_neg hyz]; exact hval y ys hy
    · obtain ⟨o', h1, h2⟩ := F₃.rd.muts b M hb
      exact ⟨o', hkp b o' hbT h1, h2⟩
/-- a list that grows -/
def Ls (ys : List Str) : MP := ⟨fun o g => ∃ vs k, o = listObj vs k ∧ Are S g ys vs, fun k ⟨vs, j, a, b⟩ => ⟨vs, j, a, b.mono k⟩⟩
theorem op_lenM {T : Addr} {ys : List Str} (hT : mu.lookup T = some (Ls ys)) (hfit : ys.length ≤ 1000) : Op1 prog w A env Γ mu (fun v => call (.builtin "len") [v]) (C (.ref T)) (I ys.length).is := by
  rintro r g v R rfl
  refine .mk fun s hs hg => ?_
  obtain ⟨ob, ho, vs, k, rfl, ha⟩ := R.muts T _ hT
  have hl : s.heap.IsList T vs.toArray := ⟨_, hs _ _ ho, rfl, k, rfl⟩
  have hsz : vs.toArray.size = ys.length := by simp [ha.length]
  refine Calls.call_len_list hl (by omega) ?_
  rw [hsz]
  exact Fin.tok hg ⟨_, rfl⟩
theorem TrS.append {o e : Expr} {apos cpos pos : Pos} {T : Addr} {ys : List Str} {y : Str} (hT : mu.lookup T = some (Ls ys)) (hlen : ys.length ≤ 1000) (ho : Ex prog w A env Γ mu o (C (.ref T))) (he : Ex prog w A env Γ mu e (S y))
    (hmu : mu'.map (·.1) = mu.map (·.1)) (hmu' : ∀ b M, mu'.lookup b = some M → (b = T ∧ M = Ls (ys ++ [y])) ∨ (b ≠ T ∧ mu.lookup b = some M))
    (hb : ∀ m, attributeBase o (Str.ofString "append") env m = m := by intro _; rfl) (hline : (apos.endLine == cpos.line) = true := by rfl) (hst : star? e = false := by rfl)
    (hi : interactive env = false := by rfl) (hsw : swapsWith (.Call (.Attribute o (Str.ofString "append") apos) [e] [] cpos) none pos.line env = pure false := by rfl) :
    TrS prog w A B env P (At w B env Γ mu) (.Expr (.Call (.Attribute o (Str.ofString "append") apos) [e] [] cpos) pos) (At w B env Γ mu') := by
  refine .mk ?_
  rintro s ⟨g, F⟩
  have htrees : backTo cpos (starEach [e] env) = [(false, eval e env)] := by rw [backTo_of hst]; rfl
  refine wpAny_Expr_any (wpAny_Call_append (hb _) (by rw [htrees]; rfl) hline htrees (F.ev ho fun ov g₁ s₁ F₁ l₁ q₁ _ => ?_)) hi hsw
  obtain rfl : ov = .ref T := q₁
  obtain ⟨ob, hob, vs, k, rfl, ha⟩ := F₁.rd.muts T _ hT
  refine ⟨T, vs.toArray, rfl, ⟨_, k, hob, rfl, rfl, rfl⟩, F₁.ev he fun u g₂ s₂ F₂ l₂ q₂ _ => ?_⟩
  obtain ⟨ob, hob, vs, k, rfl, ha⟩ := F₂.rd.muts T _ hT
  refine wpAny_list_append_plain (items := vs.toArray) ⟨k, hob⟩ (fun h' hp hs' => ?_) (by rw [sizeLine_eq]; simp [ha.length]; omega)
  obtain ⟨k', hp⟩ := hp
  have hkp : ∀ b o, b ≠ T → s₂.heap.get? b = some o → h'.get? b = some o := fun b o hb e => hs'.extBut b o hb e
  have hTo : T ∈ owned env mu := mem_owned_mu hT
  have hne : env.locals ≠ T := (loc_ne_mu F₂.nod hT).symm
  refine ⟨g₂, F₂.chg (tk := s₂.toks) hTo hkp hmu ⟨_, hp⟩ (let ⟨mm, hn⟩ := F₂.ns; ⟨mm, hn.sameBut hs' hne⟩) (fun p hp => let ⟨u, hu⟩ := F₂.cl p hp; ⟨u, hu.sameBut hs' (cell_ne_mu F₂.nod hp hT).symm⟩) (fun y' Q hy => ?_) fun b M hb => ?_⟩
  · obtain ⟨u', hu, hQ⟩ := F₂.rd.vars y' Q hy
    refine ⟨u', ?_, hQ⟩
    rcases hu with ⟨ha, mm, hm', hu⟩ | ⟨c, ha, hb, hc⟩
    · exact .inl ⟨ha, mm, hm'.sameBut hs' hne, hu⟩
    · exact .inr ⟨c, ha, hb, hc.sameBut hs' (cell_ne_mu F₂.nod (p := (y', c)) (lookup_mem hb) hT).symm⟩
  · rcases hmu' b M hb with ⟨rfl, rfl⟩ | ⟨hbT, hb⟩
    · refine ⟨_, hp, vs ++ [u], k', ?_, ha.append (.cons q₂ .nil)⟩
      simp [listObj]
    · obtain ⟨o', h1, h2⟩ := F₂.rd.muts b M hb
      exact ⟨o', hkp b o' hbT h1, h2⟩
/-- a change at an address that is none of ours -/
theorem Fm.elsewhere {a : Addr} {h' : Heap} {tk : Nat} (F : Fm w B env Γ mu g s) (ha : a ∉ owned env mu) (hg : g a = none) (hk : B.k a = none) (hz : a ∉ B.z) (hkk : ∀ b o, b ≠ a → s.heap.get? b = some o → h'.get? b = some o) : Fm w B env Γ mu g { s with heap := h', toks := tk } := by
  have kw : ∀ b o, B.k b = some o → b ≠ a := fun b o e q => by subst q; rw [hk] at e; cases e
  have og : ∀ b o, g b = some o → b ≠ a := fun b o e q => by subst q; rw [hg] at e; cases e
  have oj : ∀ b ∈ owned env mu, b ≠ a := fun b hb q => ha (q ▸ hb)
  refine ⟨?_, fun b o e => hkk b o (kw b o e) (F.bk b o e), F.b0, F.gd₀, fun b o e => hkk b o (og b o e) (F.on b o e), F.le, F.new, fun b hb => ?_, F.nod, fun b hb => ?_, ?_, fun p hp => ?_, ?_⟩
  · obtain ⟨h, t, e⟩ := F.same; rw [e]; exact ⟨_, _, rfl⟩
  · obtain ⟨a1, a2, a3, o, a4⟩ := F.own b hb; exact ⟨a1, a2, a3, o, hkk b o (oj b hb) a4⟩
  · obtain ⟨a1, o, a2⟩ := F.hz b hb; exact ⟨a1, o, hkk b o (fun q => hz (q ▸ hb)) a2⟩
  · obtain ⟨m, hm⟩ := F.ns; exact ⟨m, hm.at' fun o e => hkk _ o (oj _ mem_owned_loc) e⟩
  · obtain ⟨v, o, ho, hd⟩ := F.cl p hp; exact ⟨v, o, hkk _ o (oj _ (mem_owned_cell hp)) ho, hd⟩
  · refine ⟨F.gd₀.sub fun b o e => hkk b o (kw b o (F.b0 b o e)) (F.bk b o (F.b0 b o e)), fun y Q hy => ?_, fun b M hb => ?_, F.rd.fn, F.rd.gl, F.rd.bl⟩
    · obtain ⟨v, hr, hQ⟩ := F.rd.vars y Q hy
      refine ⟨v, ?_, hQ⟩
      rcases hr with ⟨h1, m, h2, h3⟩ | ⟨c, h1, h2, o, h3, h4⟩
      · exact .inl ⟨h1, m, h2.at' fun o e => hkk _ o (oj _ mem_owned_loc) e, h3⟩
      · exact .inr ⟨c, h1, h2, o, hkk _ o (oj _ (mem_owned_cell (lookup_mem h2))) h3, h4⟩
    · obtain ⟨o, ho, hM⟩ := F.rd.muts b M hb
      exact ⟨o, hkk b o (oj b (mem_owned_mu hb)) ho, hM⟩
/-- while -/
theorem TrS.while {test : Expr} {body : List Stmt} {pos : Pos} {N : Nat} (hh : A.handled = none) (J : Nat → Shared → Prop) (Γi : Nat → Cx) (mi : Nat → List (Addr × MP)) (hJ : ∀ i s, J i s → At w B env (Γi i) (mi i) s) (hJ' : ∀ i s, At w B env (Γi i) (mi i) s → J i s)
    (ht : ∀ i, i < N → Tst prog w A env (Γi i) (mi i) test true) (hN : Tst prog w A env (Γi N) (mi N) test false)
    (hb : ∀ i, i < N → Tr prog w A B env P (At w B env (Γi i) (mi i)) body (At w B env (Γi (i + 1)) (mi (i + 1)))) :
    TrS prog w A B env P (At w B env (Γi 0) (mi 0)) (.While test body [] pos) (At w B env (Γi N) (mi N)) := by
  refine .mk ?_
  rintro s hs
  refine wpAny_While (codeAny_whileLoop (fun m s => ∃ i, i ≤ N ∧ m = N - i ∧ At w B env (Γi i) (mi i) s) ?_ N ⟨0, Nat.zero_le _, rfl, hs⟩)
  rintro m s ⟨i, hi, rfl, g, F⟩
  rcases Nat.lt_or_ge i N with hlt | hge
  · refine wpAny_mono ((ht i hlt s.heap g F.rd).run s (Sub.refl _) F.on) (fun b s' x => ?_) fun _ _ f => f.elim
    obtain ⟨rfl, g', F'⟩ := F.finB x
    rw [if_pos rfl]
    refine wpAny_mono ((hb i hlt).run s' ⟨g', F'⟩) (fun f s'' y => ?_) fun _ _ f => f.elim
    cases f with
    | next => exact ⟨N - (i + 1), by omega, i + 1, hlt, rfl, y⟩
    | brk => exact y.elim
    | cont => exact y.elim
    | ret v => exact y
  · obtain rfl : i = N := Nat.le_antisymm hi hge
    refine wpAny_mono ((hN s.heap g F.rd).run s (Sub.refl _) F.on) (fun b s' x => ?_) fun _ _ f => f.elim
    obtain ⟨rfl, g', F'⟩ := F.finB x
    rw [if_neg (by decide)]
    exact wpAny_execs_nil ⟨g', F'⟩
/-- x = [y for y in .. if test] -/
theorem TrS.compSelf {α : Type} {V : VP} {Pe : α → VP} {xs : List α} (p : α → Bool) {x z : Str} {px px' pz pos spos : Pos} {iter test : Expr} {scope : Scope} {cl : List (Str × Addr)} {Γ' : Cx}
    (hi : Ex prog w A env Γ mu iter V) (hI : Iter prog w A env Γ mu V xs Pe) (hinj : Inj Pe) (hsz : xs.length ≤ 1000) (hclos : closureFor scope env = pure cl) (hcap : Caps scope cl env Γ Γ')
    (ht : ∀ C a, a ∈ xs → Tst prog w A (compEnvC scope cl C env) ((x, Pe a) :: Γ') mu test (p a))
    (hz : env.kindOf z = some .local)
    (hsw : swapsWith (.ListComp (.Name x px') [⟨.Name x px, iter, [test], 0⟩] scope pos) (some (.Name z pz)) spos.line env = pure true := by rfl)
    (hcell : ∀ y ∈ scope.names, y.2 ≠ .cell := by decide) (hkind : scope.kind = .function := by rfl)
    (hnames : ∀ y ∈ scope.names, y.2 = .local → scope.names.lookup y.1 = some .local := by decide) (hx : scope.names.lookup x = some .local := by rfl) (hd : (x == ("__debug__" : Str)) = false := by decide)
    (hfs : ∀ x, foldedSetIterable iter env x = pure x := by intro _; rfl) :
    TrS prog w A B env P (At w B env Γ mu) (.Assign [.Name z pz] (.ListComp (.Name x px') [⟨.Name x px, iter, [test], 0⟩] scope pos) spos) (At w B env ((z, L Pe (xs.filter p)) :: Γ) mu) := by
  refine .mk ?_
  rintro s ⟨g, F⟩
  rw [exec_Assign_Name_used _ _ _ _ hsw]
  refine wpAny_bind (wpAny_standAt (wpAny_bind ?_))
  show wpAny _ A (do let _ ← comprehension (.ListComp (.Name x px') [⟨.Name x px, iter, [test], 0⟩] scope pos) scope env _ (newList []) false (eval iter env) (some (PySem.assign (.Name z pz) env))) _ _ s
  refine wpAny_bind (wpAny_mono (wpAny_comprehension_free (use := some (PySem.assign (.Name z pz) env)) (Q := fun _ s' => At w B env ((z, L Pe (xs.filter p)) :: Γ) mu s') rfl hfs hclos hkind hnames
    (ev_source F.rd hi hI (Sub.refl _) F.on fun I fp wr St g₁ s₁ s₂ k₁ l₁ o₁ n₁ k₂ W st hfp hwr hfg => ?_)) (fun _ s' hq => wpAny_pure (wpAny_pure hq)) fun _ _ f => f)
  have hs₁ := keepsSub k₁
  obtain ⟨g₁', F₁, _⟩ := F.fin (Q := Any) (v := .none) ⟨k₁, g₁, l₁, o₁, n₁, trivial⟩
  refine comp_block_walkC (RR := fun acc C => compPost (model prog w) A (fun _ _ => False) (some (PySem.assign (.Name z pz) env)) (fun _ s' => At w B env ((z, L Pe (xs.filter p)) :: Γ) mu s') acc C) W (by rw [sizeLine_eq]; omega) (sel Pe g₁ xs p) (fun v y => y = v) hcell hkind hx st hfp
    (quiet_self (F.rd.up hs₁ l₁) hinj hkind hx hcap hd ht (fun b o e hb => by have := (hwr b hb).1; rw [e] at this; cases this) (fun b o e hb => by have := (hwr b hb).1; rw [o₁ b o e] at this; cases this) (keepsSub k₂) (o₁.sub (keepsSub k₂))) ?_
  intro D C h' tk m' ys vs hD hC hDC hnC _ hplD hlen hP hF hk
  have hA : Are Pe g₁ (xs.filter p) ys.toList := by
    rw [paired_eq hF]
    exact are_filter hinj (fun _ h => h) (are_of_get hlen hP)
  obtain ⟨mD, hplD⟩ := hplD
  have up : ∀ b o, s₁.heap.get? b = some o → h'.get? b = some o := fun b o e => hk b o (fun hb => by rw [(hwr b hb).1] at e; cases e) (keepsSub k₂ b o e)
  have hD₁ : s₁.heap.get? D = none := by
    cases e : s₁.heap.get? D with
    | none => rfl
    | some o => rw [keepsSub k₂ _ _ e] at hD; cases hD
  have hC₁ : s₁.heap.get? C = none := by
    cases e : s₁.heap.get? C with
    | none => rfl
    | some o => rw [keepsSub k₂ _ _ e] at hC; cases hC
  have gD : g₁ D = none := by
    cases e : g₁ D with
    | none => rfl
    | some o => rw [o₁ _ _ e] at hD₁; cases hD₁
  have gC : g₁ C = none := by
    cases e : g₁ C with
    | none => rfl
    | some o => rw [o₁ _ _ e] at hC₁; cases hC₁
  have k' : Keeps s { s₂ with heap := h', toks := tk } := by
    obtain ⟨h1, t1, rfl, q1⟩ := k₁
    obtain ⟨h2, t2, rfl, q2⟩ := k₂
    exact ⟨h', tk, rfl, fun b o e => up b o (q1 b o e)⟩
  have F₂ : Fm w B env Γ mu (ext g₁ D (listObj ys.toList mD)) { s₂ with heap := h', toks := tk } := by
    refine F.finE k' (l₁.trans (le_ext gD)) (fun b o e => ?_) fun b o e => ?_
    · by_cases q : b = D
      · subst q; rw [ext_self] at e; injection e with e; subst e; exact hplD
      · simp [ext, q] at e; exact up b o (o₁ b o e)
    · by_cases q : b = D
      · subst q
        refine .inr ?_
        cases e' : s.heap.get? b with
        | none => rfl
        | some o' => rw [hs₁ _ _ e'] at hD₁; cases hD₁
      · simp [ext, q] at e; exact n₁ b o e
  have hq : (L Pe (xs.filter p)).is (.ref D) (ext g₁ D (listObj ys.toList mD)) := ⟨D, ys.toList, mD, rfl, ext_self _ _ _, hA.mono (le_ext gD)⟩
  show wpAny _ A (PySem.assign (.Name z pz) env (.ref D)) _ _ _
  refine wpAny_assign_Name (F₂.storeLocal hz hq fun h₃ tk₃ F₃ hk₃ => ?_)
  have hCown : ∀ a ∈ owned env mu, a ≠ C := fun a ha e => by
    obtain ⟨_, _, _, o, ho⟩ := F.own a ha
    have := keepsSub k₂ _ _ (hs₁ _ _ ho)
    rw [e, hC] at this; cases this
  refine ⟨m', hnC.at' fun o e => hk₃ _ o (fun q => hCown _ mem_owned_loc q.symm) e, fun h₄ hs₄ => ?_⟩
  refine ⟨_, F₃.elsewhere (tk := tk₃) (a := C) (fun hm => hCown C hm rfl) ?_ ?_ (fun hm => ?_) fun b o hb e => hs₄.extBut b o hb e⟩
  · have : C ≠ D := fun e => hDC e.symm
    simp [ext, this, gC]
  · cases e : B.k C with
    | none => rfl
    | some o =>
      have := keepsSub k₂ _ _ (hs₁ _ _ (F.bk _ _ e))
      rw [hC] at this; cases this
  · obtain ⟨_, o, ho⟩ := F.hz C hm
    have := keepsSub k₂ _ _ (hs₁ _ _ ho)
    rw [hC] at this; cases this
end
end Mine
open PySem PySem.W PySem.Calls PyProof.Rows
namespace Mine
set_option maxRecDepth 100000
theorem pa_pat : PlainAttrs "re.Pattern" :=
  ⟨⟨"object.__getattribute__", by rw [typeLookup_type, builtinLookup_eq_fast]; kernel_rfl, by decide +kernel⟩, by rw [typeLookup_type, builtinLookup_eq_fast]; kernel_rfl⟩
theorem slot_search : Slot "re.Pattern" "search" "re.Pattern.search" :=
  .of (owner := "re.Pattern") (n := "search") (by rw [typeLookup_type, builtinLookup_eq_fast]; kernel_rfl) (by decide +kernel) (by decide +kernel) (by decide +kernel)
    (by first | exact .inl (by decide +kernel) | exact .inr (by decide +kernel)) (by rw [isSubtype_type]; kernel_rfl)
theorem type_search : typeOf (.builtin "re.Pattern.search") = pure (.type "method_descriptor") := by show builtinType _ = _; rw [builtinType_eq_fast]; kernel_rfl
theorem entry_search : entryFor table "re.Pattern.search" = some Builtin.«re.Pattern.search» := entryFor_of_tree (by kernel_rfl)
theorem owner_pat : Manifest.owners.lookup (String.ofList ['n', 'r', 'e', 't', 't', 'a', 'P', '.', 'e', 'r'].reverse) = some Manifest.sig_re_Pattern := by kernel_rfl
theorem args_search (a b : Value) : argsOk "re.Pattern.search" ⟨[a, b], []⟩ := by
  unfold argsOk; rw [signature?_of (id := "re.Pattern.search") (n := ['h', 'c', 'r', 'a', 'e', 's']) (o := ['n', 'r', 'e', 't', 't', 'a', 'P', '.', 'e', 'r']) (by kernel_rfl) owner_pat]; kernel_rfl
def codeA : Array Nat := #[14, 8, 1, 2, 4294967295, 1, 1, 46, 0, 16, 46, 24, 9, 1, 4294967295, 13, 4, 8, 0, 0, 1, 6, 5, 1]
/-- the machine, turn by turn -/
def turns : Nat → Sre.M → Option Sre.M
  | 0, _ => none
  | k + 1, m => let m' := m.runFor 4; if m'.outcome.isSome then some m' else turns k m'
def machine (x : Str) : Sre.M := Sre.forSearch codeA x.cps 0 0 x.cps.size false
/-- the pattern is nowhere in x: by running the machine -/
def nowhere (x : Str) : Bool := x.cps.size < 1000 && match turns 200 (machine x) with
  | some m => (match m.outcome with | some .failed => true | _ => false)
  | none => false
section
variable {prog : Program} {w : World} {A : Around} {E : Value → Shared → Prop} {s : Shared} {env : Env} {Γ : Cx} {mu : List (Addr × MP)} {n : Nat}
theorem drive {Q : Sre.M → Shared → Prop} : ∀ (k fuel : Nat) (m m' : Sre.M), k ≤ fuel → turns k m = some m' → Q m' s → wpAny (model prog w) A (Builtin.Re.reDrive fuel m) Q E s
  | 0, _, m, m', _, h, _ => by cases h
  | k + 1, 0, m, m', h, _, _ => absurd h (Nat.not_succ_le_zero k)
  | k + 1, fuel + 1, m, m', hk, h, hQ => by
    unfold turns at h
    unfold Builtin.Re.reDrive
    show wpAny _ A (if (m.runFor 4).outcome.isSome = true then pure (m.runFor 4) else do rule "sre.turn"; Builtin.Re.reDrive fuel (m.runFor 4)) Q E s
    dsimp only at h
    split at h
    · rename_i hc
      rw [if_pos hc]
      obtain rfl := Option.some.inj h
      exact wpAny_pure hQ
    · rename_i hc
      rw [if_neg hc]
      exact wpAny_bind (wpAny_rule (drive k fuel _ m' (Nat.le_of_succ_le_succ hk) h hQ))
theorem seenRules {m : Sre.M} {Q : PUnit → Shared → Prop} (h : Q ⟨⟩ s) : ∀ l : List Nat,
    wpAny (model prog w) A (forIn l PUnit.unit fun i (_ : PUnit) => (if m.seen.has i = true then do rule (Sre.names.getD i ""); pure (ForInStep.yield PUnit.unit) else pure (ForInStep.yield PUnit.unit) : Sem (ForInStep PUnit))) Q E s
  | [] => by rw [List.forIn_nil]; exact wpAny_pure h
  | i :: r => by
    rw [List.forIn_cons]
    refine wpAny_bind ?_
    by_cases c : m.seen.has i = true
    · rw [if_pos c]; exact wpAny_bind (wpAny_rule (wpAny_pure (seenRules h r)))
    · rw [if_neg c]; exact wpAny_pure (seenRules h r)
theorem callSearch {x : Str} {t : Tok} {Q : Value → Shared → Prop} (G : Gd w s.heap) (hx : nowhere x = true) (hQ : Q .none s) : wpAny (model prog w) A (call (.builtin "re.Pattern.search") [.ref 36, .str x t]) Q E s := by
  have h36 : ∃ o, (Mine.hd.heap_39 w.params).lookup 36 = some o ∧ o.cls = .type "re.Pattern" ∧ ∃ fs, o.data = .fields fs ∧ fs.getD 2 .none = .int 0 0 ∧ fs.getD 5 .none = .ref 35 ∧ fs.getD 6 .none = .int 0 0 := ⟨_, rfl, rfl, _, rfl, rfl, rfl, rfl⟩
  have h35 : ∃ o vs, (Mine.hd.heap_39 w.params).lookup 35 = some o ∧ (∃ k, o.data = .seq vs k) ∧ (vs.map Builtin.Re.reRawOf).map (·.toNat) = codeA := ⟨_, _, rfl, ⟨_, rfl⟩, by decide +kernel⟩
  obtain ⟨o, ho, hc, fs, hf, f2, f5, f6⟩ := h36
  obtain ⟨o5, vs, ho5, ⟨k5, hd5⟩, hcode⟩ := h35
  have hT : s.TypeIs (.ref 36) "re.Pattern" := ⟨o, G.kin 36 o ho, hc⟩
  refine wpAny_call_entry slot_search hT entry_search ?_ (args_search _ _)
  unfold Builtin.«re.Pattern.search»
  have hn : Builtin.Re.reNamed "re.Pattern.search" "search" ["string", "pos", "endpos"] 1 [.str x t] [] = pure [some (.str x t), none, none] := by kernel_rfl
  refine wpAny_bind ?_
  unfold Builtin.Re.reTarget
  dsimp only
  rw [hn]
  refine wpAny_bind (wpAny_pure ?_)
  dsimp only
  refine wpAny_bind (wpAny_pure (wpAny_bind (wpAny_pure ?_)))
  refine wpAny_bind (wpAny_fieldsOf (G.kin 36 o ho) hf ?_)
  rw [f2, f5, f6]
  show wpAny _ _ (Builtin.Re.reTextOf (.str x t) >>= _) _ _ s
  refine wpAny_bind (wpAny_pure ?_)
  dsimp only
  rw [if_neg (by decide), if_neg (by decide)]
  have hno : Builtin.Re.reNoCollectionInside (.str x t) 0 = pure () := rfl
  rw [hno]
  refine wpAny_bind (wpAny_pure ?_)
  have hraw : ∀ {R : Array Int → Shared → Prop}, R (vs.map Builtin.Re.reRawOf) s → wpAny (model prog w) A.in1 (Builtin.Re.reRawItems (.ref 35)) R E s := fun hR => by
    unfold Builtin.Re.reRawItems seqItems?
    refine wpAny_bind (wpAny_bind (wpAny_load (G.kin 35 o5 ho5) ?_))
    rw [hd5]
    exact wpAny_pure (wpAny_pure hR)
  refine wpAny_bind (hraw (wpAny_pure ?_))
  rw [hcode]
  have hsz : x.cps.size < 1000 := by
    unfold nowhere at hx
    rw [Bool.and_eq_true, decide_eq_true_eq] at hx
    exact hx.1
  have e1 : min (Int.toNat 0) x.cps.size = 0 := by simp
  have e2 : min (2 ^ 63 - 1 : Int).toNat x.cps.size = x.cps.size := Nat.min_eq_right (by
    have : (2 ^ 63 - 1 : Int).toNat = 9223372036854775807 := by decide
    omega)
  dsimp only
  rw [e1, e2]
  show wpAny _ _ (Builtin.Re.reAnswer _ (machine x)) _ _ s
  unfold nowhere at hx
  rw [Bool.and_eq_true] at hx
  obtain ⟨_, hx⟩ := hx
  cases hm : turns 200 (machine x) with
  | none => rw [hm] at hx; cases hx
  | some m =>
    rw [hm] at hx
    dsimp only at hx
    cases ho : m.outcome with
    | none => rw [ho] at hx; cases hx
    | some oc =>
      rw [ho] at hx
      cases oc with
      | matched => cases hx
      | stuck y => cases hx
      | failed =>
        unfold Builtin.Re.reAnswer Builtin.Re.reRunToEnd
        refine wpAny_bind (wpAny_bind (drive 200 _ _ m (by decide) hm ?_))
        refine wpAny_bind (seenRules ?_ _)
        rw [ho]
        exact wpAny_pure (wpAny_pure ⟨_, rfl, hQ⟩)
theorem op_search {x : Str} (hx : nowhere x = true) : Op2 prog w A env Γ mu (fun v u => call (.builtin "re.Pattern.search") [v, u]) (C (.ref 36)) (S x) (C .none) := by
  rintro r g v u R rfl ⟨t, rfl⟩
  refine .mk fun s hs hg => ?_
  exact callSearch (R.gd.sub hs) hx (Fin.same hg rfl)
theorem has_pat : Has w env Γ mu (C (.ref 36)) "re.Pattern" := by
  rintro r g v s R rfl hs hg
  have h36 : ∃ o, (Mine.hd.heap_39 w.params).lookup 36 = some o ∧ o.cls = .type "re.Pattern" ∧ o.dict = none := ⟨_, rfl, rfl, rfl⟩
  obtain ⟨o, ho, hc, hd⟩ := h36
  have h := (R.gd.sub hs).kin 36 o ho
  refine ⟨⟨o, h, hc⟩, fun b e => ?_⟩
  injection e with e
  subst e
  exact ⟨o, h, hd⟩
theorem Tru.none : Tru prog w A (C .none) false := by
  rintro r g v rfl
  refine .mk fun s hs hg => ?_
  show wpAny _ A (Pure.pure false) _ _ s
  exact wpAny_pure (Fin.same hg rfl)
end
end Mine
open PySem PySem.W PySem.Calls PyProof.Rows
namespace Mine
def P₀ : Params := { strHash := fun _ => 0, shareClass := fun _ => 0, mergeTok := id, idOf := fun _ => 0, idOfShared := fun _ _ => 0, followText := fun _ => false, idOfImm := fun _ => 0 }
noncomputable def fdOf (f : Addr) : FuncData := match (Mine.hd.heap_39 P₀).lookup f with
  | some o => match o.data with
    | .func fd => fd
    | _ => default
  | none => default
noncomputable def bdOf (f : Addr) : List Stmt := match (fdOf f).body with
  | .stmts b => b
  | _ => []
theorem g_36 : ∀ P, nsIn (Mine.hd.heap_39 P) mainGlobals "IPV4_RE" = some (some (.ref 36)) := fun _ => by kernel_rfl
theorem g_50 : ∀ P, nsIn (Mine.hd.heap_39 P) mainGlobals "liberal_is_HDN" = some (some (.ref 50)) := fun _ => by kernel_rfl
theorem g_43 : ∀ P, nsIn (Mine.hd.heap_39 P) mainGlobals "is_HDN" = some (some (.ref 43)) := fun _ => by kernel_rfl
theorem g_57 : ∀ P, nsIn (Mine.hd.heap_39 P) mainGlobals "user_domain_match" = some (some (.ref 57)) := fun _ => by kernel_rfl
theorem g_64 : ∀ P, nsIn (Mine.hd.heap_39 P) mainGlobals "reach" = some (some (.ref 64)) := fun _ => by kernel_rfl
theorem g_71 : ∀ P, nsIn (Mine.hd.heap_39 P) mainGlobals "add_callers" = some (some (.ref 71)) := fun _ => by kernel_rfl
theorem g_78 : ∀ P, nsIn (Mine.hd.heap_39 P) mainGlobals "count_calls" = some (some (.ref 78)) := fun _ => by kernel_rfl
theorem g_85 : ∀ P, nsIn (Mine.hd.heap_39 P) mainGlobals "_law_host" = some (some (.ref 85)) := fun _ => by kernel_rfl
theorem g_90 : ∀ P, nsIn (Mine.hd.heap_39 P) mainGlobals "_law_zones" = some (some (.ref 90)) := fun _ => by kernel_rfl
theorem g_abs : ∀ P, nsIn (Mine.hd.heap_39 P) mainGlobals "abs" = some none := fun _ => by kernel_rfl
theorem b_abs : bootBuiltins "abs" = some (.builtin "abs") := by kernel_rfl
theorem g_range : ∀ P, nsIn (Mine.hd.heap_39 P) mainGlobals "range" = some none := fun _ => by kernel_rfl
theorem b_range : bootBuiltins "range" = some (.type "range") := by kernel_rfl
theorem g_len : ∀ P, nsIn (Mine.hd.heap_39 P) mainGlobals "len" = some none := fun _ => by kernel_rfl
theorem b_len : bootBuiltins "len" = some (.builtin "len") := by kernel_rfl
theorem g_sorted : ∀ P, nsIn (Mine.hd.heap_39 P) mainGlobals "sorted" = some none := fun _ => by kernel_rfl
theorem b_sorted : bootBuiltins "sorted" = some (.builtin "sorted") := by kernel_rfl
theorem g_sum : ∀ P, nsIn (Mine.hd.heap_39 P) mainGlobals "sum" = some none := fun _ => by kernel_rfl
theorem b_sum : bootBuiltins "sum" = some (.builtin "sum") := by kernel_rfl
theorem g_min : ∀ P, nsIn (Mine.hd.heap_39 P) mainGlobals "min" = some none := fun _ => by kernel_rfl
theorem b_min : bootBuiltins "min" = some (.builtin "min") := by kernel_rfl
theorem fn43 : FnOk 43 (fdOf 43) (bdOf 43) := ⟨fun P => ⟨_, rfl, rfl⟩, fun P => ⟨42, _, _, _, rfl, rfl, rfl, rfl⟩, rfl, rfl, rfl, rfl, rfl, rfl, rfl⟩
theorem fn50 : FnOk 50 (fdOf 50) (bdOf 50) := ⟨fun P => ⟨_, rfl, rfl⟩, fun P => ⟨49, _, _, _, rfl, rfl, rfl, rfl⟩, rfl, rfl, rfl, rfl, rfl, rfl, rfl⟩
theorem fn57 : FnOk 57 (fdOf 57) (bdOf 57) := ⟨fun P => ⟨_, rfl, rfl⟩, fun P => ⟨56, _, _, _, rfl, rfl, rfl, rfl⟩, rfl, rfl, rfl, rfl, rfl, rfl, rfl⟩
theorem fn64 : FnOk 64 (fdOf 64) (bdOf 64) := ⟨fun P => ⟨_, rfl, rfl⟩, fun P => ⟨63, _, _, _, rfl, rfl, rfl, rfl⟩, rfl, rfl, rfl, rfl, rfl, rfl, rfl⟩
theorem fn71 : FnOk 71 (fdOf 71) (bdOf 71) := ⟨fun P => ⟨_, rfl, rfl⟩, fun P => ⟨70, _, _, _, rfl, rfl, rfl, rfl⟩, rfl, rfl, rfl, rfl, rfl, rfl, rfl⟩
theorem fn78 : FnOk 78 (fdOf 78) (bdOf 78) := ⟨fun P => ⟨_, rfl, rfl⟩, fun P => ⟨77, _, _, _, rfl, rfl, rfl, rfl⟩, rfl, rfl, rfl, rfl, rfl, rfl, rfl⟩
theorem fn85 : FnOk 85 (fdOf 85) (bdOf 85) := ⟨fun P => ⟨_, rfl, rfl⟩, fun P => ⟨84, _, _, _, rfl, rfl, rfl, rfl⟩, rfl, rfl, rfl, rfl, rfl, rfl, rfl⟩
theorem fn90 : FnOk 90 (fdOf 90) (bdOf 90) := ⟨fun P => ⟨_, rfl, rfl⟩, fun P => ⟨89, _, _, _, rfl, rfl, rfl, rfl⟩, rfl, rfl, rfl, rfl, rfl, rfl, rfl⟩
section
variable {prog : Program} {w : World} {A : Around} {env : Env} {Γ : Cx} {mu : List (Addr × MP)} {n : Nat}
theorem has_D {xs : List Str} : Has w env Γ mu (Dv prog w xs) "dict" := by
  rintro r g v s R ⟨a, o, rfl, ha, _, kvs, es, ep, rfl, _⟩ hs hg
  refine ⟨⟨_, hg _ _ ha, rfl⟩, fun b e => ?_⟩
  injection e with e
  subst e
  exact ⟨_, hg _ _ ha, rfl⟩
theorem call_count {xs : List Str} (hR : Rm A (n + 1)) : OpV prog w A env Γ mu (fun vs => call (.ref 78) vs) [Dv prog w xs] (I xs.length) := by
  refine call1 hR fn78 (x := "callers") (fun v => rfl) rfl (fun Lo p hp => nomatch hp) fun B' Lo hR' => ?_
  refine Tr.cons (TrS.assign Ex.int (.inl rfl)) ?_
  refine Tr.cons (TrS.for (xs := xs) (Pe := fun _ => I 1) (V := Vv prog w xs) (fun i => [("nc", I i), ("callers", Dv prog w xs)]) (fun _ => []) hR'.hd (Ex.meth0 PySem.F.plainAttrs_dict PySem.F.slot_dict_values PySem.F.type_dict_values (Ex.name rfl) has_D op_values) (iter_values hR'.hd) (.inl rfl) (fun _ => rfl) ?_) ?_
  · intro B'' i a ha
    exact Tr.mono (Tr.one (TrS.aug (Q₁ := I i) (Q₂ := I 1) rfl (Ex.name rfl) op_iadd (.inl rfl))) (fun _ h => h) fun s h => h.shrink ⟨rfl, rfl, trivial⟩
  · exact Tr.one (TrS.ret (Ex.name rfl))
theorem call_liberal {x : Str} (hR : Rm A (n + 1)) (hx : nowhere x = true) : OpV prog w A env Γ mu (fun vs => call (.ref 50) vs) [S x] (B true) := by
  refine call1 hR fn50 (x := "text") (fun v => rfl) rfl (fun Lo p hp => nomatch hp) fun B' Lo hR' => ?_
  refine Tr.cons (TrS.if (c := false) (Tst.val (Ex.meth1 pa_pat slot_search type_search (Ex.glob g_36 rfl) has_pat (Ex.name rfl) (op_search hx)) Tru.none) (fun h => nomatch h) fun _ => Tr.nil fun _ h => h) ?_
  exact Tr.one (TrS.ret Ex.bool)
theorem call_isHDN {x : Str} (hR : Rm A (n + 1)) (hx : nowhere x = true) (h0 : 0 < x.length) (h1 : (x == "") = false) (h2 : (Txt.item x 0 == ".") = false) (h3 : (Txt.item x (-1) == ".") = false) : OpV prog w A env Γ mu (fun vs => call (.ref 43) vs) [S x] (B true) := by
  refine call1 hR fn43 (x := "text") (fun v => rfl) rfl (fun Lo p hp => nomatch hp) fun B' Lo hR' => ?_
  refine Tr.cons (TrS.if (c := false) (Tst.val (Ex.meth1 pa_pat slot_search type_search (Ex.glob g_36 rfl) has_pat (Ex.name rfl) (op_search hx)) Tru.none) (fun h => nomatch h) fun _ => Tr.nil fun _ h => h) ?_
  refine Tr.cons (TrS.if (c := false) (h1 ▸ Tst.cmp (Ex.name (P := S x) rfl) Ex.str op_eqS) (fun h => nomatch h) fun _ => Tr.nil fun _ h => h) ?_
  refine Tr.cons (TrS.if (c := false) (Tst.or2 (b := false) (c := false) (h2 ▸ Tst.cmp (Ex.sub (Ex.name (P := S x) rfl) Ex.int (op_itemS (k := 0) (by decide) (by omega) (by omega))) Ex.str op_eqS)
    fun _ => h3 ▸ Tst.cmp (Ex.sub (Ex.name (P := S x) rfl) (Ex.neg Ex.int) (op_itemS (k := -1) (by decide) (by omega) (by omega))) Ex.str op_eqS) (fun h => nomatch h) fun _ => Tr.nil fun _ h => h) ?_
  exact Tr.one (TrS.ret Ex.bool)
end
end Mine
open PySem PySem.W PySem.Calls PyProof.Rows
namespace Mine
section
variable {prog : Program} {w : World} {A : Around} {B : Bs} {env : Env} {Γ Γ' : Cx} {mu mu' : List (Addr × MP)} {n : Nat} {P : VP} {g : View} {s s' : Shared} {K : Shared → Prop}
/-- tuples of expressions -/
def Tu (Ps : List VP) : VP := ⟨fun v g => ∃ a vs, v = .ref a ∧ g a = some (tupObj vs) ∧ Are _root_.id g Ps vs, fun k ⟨a, vs, e, h, r⟩ => ⟨a, vs, e, k _ _ h, r.mono k⟩⟩
theorem Ex.tuple {es : List Expr} {Ps : List VP} {k : Nat} {pos : Pos} (h : Exs prog w A env Γ mu _root_.id es Ps) (hsz : Ps.length ≤ sizeLine) : Ex prog w A env Γ mu (.Tuple es k pos) (Tu Ps) := fun r g R => .mk fun s hs hg => by
  refine wpAny_Tuple_spliced ((h.ev r g R).seq (Tu Ps).is hs hg fun vs s₁ g₁ k₁ l₁ o₁ p₁ t₁ => ⟨by rw [p₁.length]; exact hsz, t₁ _ _ ?_⟩)
  exact Fin.push (t := s₁.toks) o₁ ⟨_, vs, rfl, ext_self _ _ _, p₁.mono (le_ext (fresh_view o₁))⟩
theorem Ex.word {e : Expr} {x : Str} {k k1 k2 : Nat} {pos p1 p2 : Pos} (h : Ex prog w A env Γ mu e (S x))
    (hst : star? e = false := by rfl) :
    Ex prog w A env Γ mu (.Tuple [.Constant (.str "of") k1 p1, e, .Constant (.str "zone") k2 p2] k pos) (Wd x) := by
  refine Ex.mono (Ex.tuple (Ps := [S "of", S x, S "zone"]) (.cons Ex.str (.cons h (.cons Ex.str .nil) hst)) (by rw [sizeLine_eq]; simp)) ?_
  rintro v g ⟨a, vs, rfl, ha, hv⟩
  cases hv with
  | cons h1 hv =>
    cases hv with
    | cons h2 hv =>
      cases hv with
      | cons h3 hv =>
        cases hv
        obtain ⟨t1, rfl⟩ := h1
        obtain ⟨t2, rfl⟩ := h2
        obtain ⟨t3, rfl⟩ := h3
        exact ⟨a, t1, t2, t3, rfl, ha⟩
theorem exact_dict {o : Obj} {es : Array DictEntry} {ep : Nat} (h : o.ExactDict) (hd : o.data = .dict es ep) : o = dictO es ep := by
  obtain ⟨c, d, dt, sl⟩ := o
  obtain ⟨h1, h2, h3⟩ := h
  simp only at h1 h2 h3 hd
  subst h1 h2 h3 hd
  rfl
theorem dobj_store {h' : Heap} {d a : Addr} {xs : List Str} {y : Str} {kvs : List (List Str × Addr × Value)} {t₁ t t₂ u : Tok} (hm : h'.DictOfH (tupleKind (PySem.strKind prog w)) d (storedH kvs (wkey y) a (.int 1 u))) (hk : KVs g xs kvs) (hn : xs.Nodup)
    (hy : xs.any (· == y) = false) (ha : g a = some (wordO y t₁ t t₂)) : ∃ o', h'.get? d = some o' ∧ DObj prog w (xs ++ [y]) o' g := by
  have hnone : atKey kvs (wkey y) = none := by
    have := atKey_of (y := y) hk
    rw [hy] at this
    simpa using this
  rw [storedH_new hnone] at hm
  obtain ⟨o, es, ep, ho, hc, hd, he, _, _⟩ := hm
  refine ⟨o, ho, _, es, ep, exact_dict hc hd, he, hk.snoc ha, ?_⟩
  rw [List.nodup_append]
  refine ⟨hn, by simp, fun p hp q hq e => ?_⟩
  rw [List.mem_singleton] at hq
  subst hq; subst e
  have := List.any_eq_false.mp hy p hp
  simp at this
theorem Ex.dict1 {ek ev : Expr} {pos : Pos} {x : Str} (hR : Rm A n) (hk : Ex prog w A env Γ mu ek (Wd x)) (hv : Ex prog w A env Γ mu ev (I 1)) : Ex prog w A env Γ mu (.Dict [some ek] [ev] pos) (Dv prog w [x]) := fun r g R => .mk fun s hs hg => by
  refine wpAny_Dict_any rfl rfl (by simp) (by simp) ?_
  have hfr := fresh_view hg
  have hg' : On g (s.heap.push { cls := .type "dict", data := .dict #[] }) := fun a o e => Heap.get?_push_of_some _ (hg a o e)
  show wpAny _ A (do let kv ← eval ek env; let vv ← holding [kv] (do let x ← eval ev env; standAt pos; pure x); return (kv, vv) :: (← holding [kv, vv] (evalPairs []))) _ _ _
  refine wpAny_bind ((hk r g R).use (hs.trans fun _ _ e => Heap.get?_push_of_some _ e) hg' fun kv s₁ g₁ k₁ l₁ o₁ n₁ p₁ => ?_)
  have k₁' := keepsSub k₁
  refine wpAny_bind (wpAny_holding (wpAny_bind ((hv r g₁ (R.up (Sub.refl r) l₁)).use ((hs.trans fun _ _ e => Heap.get?_push_of_some _ e).trans k₁') o₁ fun vv s₂ g₂ k₂ l₂ o₂ n₂ p₂ => ?_)))
  have k₂' := keepsSub k₂
  refine wpAny_bind (wpAny_standAt (wpAny_pure ?_))
  refine wpAny_bind (wpAny_holding ?_)
  show wpAny _ A (Pure.pure []) _ _ _
  refine wpAny_pure (wpAny_pure ?_)
  obtain ⟨a, t₁, t, t₂, rfl, ha⟩ := (Wd x).mono l₂ p₁
  obtain ⟨u, rfl⟩ := p₂
  have hds : s₂.heap.get? s.heap.objs.size = some (dictO #[] 0) := k₂' _ _ (k₁' _ _ (Heap.get?_push_size _ rfl))
  have gd : g₂ s.heap.objs.size = none := by
    have d1 : ∃ o, (s.heap.push { cls := .type "dict", data := .dict #[] }).get? s.heap.objs.size = some o := ⟨_, Heap.get?_push_size _ rfl⟩
    cases e : g₂ s.heap.objs.size with
    | none => rfl
    | some o =>
      rcases n₂ _ _ e with e | e
      · rcases n₁ _ _ e with e | e
        · rw [hfr] at e; cases e
        · obtain ⟨o', d1⟩ := d1; rw [d1] at e; cases e
      · obtain ⟨o', d1⟩ := d1
        rw [k₁' _ _ d1] at e; cases e
  have hmH : s₂.heap.DictOfH (tupleKind (PySem.strKind prog w)) s.heap.objs.size [] := dictOfH_of o₂ hds rfl .nil List.nodup_nil
  show wpAny _ A (storeAll s.heap.objs.size [(.ref a, .int 1 u)]) _ _ _
  unfold storeAll
  rw [List.forIn_cons]
  refine wpAny_bind (wpAny_bind (wpAny_dictSet_heap (knd := tupleKind (PySem.strKind prog w)) (show A.units < cLine by have := hR.un; omega) (tupleKey_of o₂ ha) hmH (fun h' hm hs' => wpAny_pure ?_) (by simp)))
  dsimp only
  rw [List.forIn_nil]
  refine wpAny_pure ?_
  obtain ⟨o', ho', hD⟩ := dobj_store (g := g₂) (xs := []) hm .nil List.nodup_nil rfl ha
  obtain ⟨h1, tk1, rfl, _⟩ := k₁
  obtain ⟨h2, tk2, rfl, _⟩ := k₂
  have up : ∀ b o, s.heap.get? b = some o → h'.get? b = some o := fun b o e => hs'.extBut b o (Nat.ne_of_lt (Heap.lt_size e)) (k₂' _ _ (k₁' _ _ (Heap.get?_push_of_some _ e)))
  refine ⟨⟨h', _, rfl, up⟩, ext g₂ s.heap.objs.size o', (l₁.trans l₂).trans (le_ext gd), fun b o e => ?_, fun b o e => ?_, s.heap.objs.size, o', rfl, ext_self _ _ _, ne_sys (R.gd.sub hs), hD.mono (le_ext gd)⟩
  · by_cases q : b = s.heap.objs.size
    · subst q; rw [ext_self] at e; injection e with e; subst e; exact ho'
    · simp [ext, q] at e
      exact hs'.extBut b o q (o₂ b o e)
  · by_cases q : b = s.heap.objs.size
    · subst q; exact .inr (fresh_size _)
    · simp [ext, q] at e
      rcases n₂ b o e with e | e
      · rcases n₁ b o e with e | e
        · exact .inl e
        · refine .inr ?_
          cases e' : s.heap.get? b with
          | none => rfl
          | some o'' => rw [Heap.get?_push_of_some _ e'] at e; cases e
      · refine .inr ?_
        cases e' : s.heap.get? b with
        | none => rfl
        | some o'' => rw [k₁' _ _ (Heap.get?_push_of_some _ e')] at e; cases e
/-- slices of lists -/
theorem pick_from {α : Type} {Q : α → VP} {xs : List α} (k : Int) (h0 : 0 ≤ k) : ∀ (vs : List Value) (g : View), Are Q g xs vs → Are Q g (xs.drop k.toNat) (slicePick vs.toArray (some k) none none).toList := by
  intro vs g h
  obtain ⟨m, rfl⟩ : ∃ m : Nat, k = (m : Int) := ⟨k.toNat, by omega⟩
  rw [slicePick_from']
  simpa using h.drop m
theorem pick_upto {α : Type} {Q : α → VP} {xs : List α} (k : Nat) : ∀ (vs : List Value) (g : View), Are Q g xs vs → Are Q g (xs.take k) (slicePick vs.toArray none (some (k : Int)) none).toList := by
  intro vs g h
  rw [slicePick_upto']
  simpa using h.take k
theorem pick_butLast {α : Type} {Q : α → VP} {xs : List α} : ∀ (vs : List Value) (g : View), Are Q g xs vs → Are Q g (xs.take (xs.length - 1)) (slicePick vs.toArray none (some (-1)) none).toList := by
  intro vs g h
  have e : (-1 : Int) = -((1 : Nat) : Int) := rfl
  rw [e, slicePick_butLast _ 1 (Nat.le_refl _)]
  have := h.length
  simpa [this] using h.take (xs.length - 1)
/-- x, y = e, f -/
theorem TrS.assignT2 {x y : Str} {e : Expr} {P₁ P₂ : VP} {k : Nat} {px py tpos pos : Pos} (hh : A.handled = none) (h : Ex prog w A env Γ mu e (Tu [P₁, P₂])) (hx : Kept env x) (hy : Kept env y)
    (hs : swapsWithSole [.Tuple [.Name x px, .Name y py] k tpos] e pos.line env = pure false := by rfl) (hw : swappedStores [.Tuple [.Name x px, .Name y py] k tpos] e env = pure none := by rfl) :
    TrS prog w A B env P (At w B env Γ mu) (.Assign [.Tuple [.Name x px, .Name y py] k tpos] e pos) (At w B env ((y, P₂) :: (x, P₁) :: Γ) mu) := by
  refine .mk ?_
  rintro s ⟨g, F⟩
  refine Assign_Tuple (F.ev h fun v g₁ s₁ F₁ l₁ q₁ _ => ?_) hs hw
  obtain ⟨a, vs, rfl, ha, hv⟩ := q₁
  cases hv with
  | @cons _ v1 _ _ h1 hv =>
    cases hv with
    | @cons _ v2 _ _ h2 hv =>
      cases hv
      refine wpAny_assign_Tuple hh (items := #[v1, v2]) ⟨_, F₁.on _ _ ha, rfl, 0, rfl⟩ rfl rfl fun h' he => ?_
      have F₂ : Fm w B env Γ mu g₁ { s₁ with heap := h' } := by
        have hkk : ∀ b o, s₁.heap.get? b = some o → h'.get? b = some o := fun b o e => he b o (Nat.ne_of_lt (Heap.lt_size e)) e
        exact F₁.finE ⟨h', s₁.toks, rfl, hkk⟩ (Le.refl _) (F₁.on.sub hkk) fun _ _ e => .inl e
      show wpAny _ A (assignInOrder [PySem.assign (.Name x px) env, PySem.assign (.Name y py) env] [v1, v2]) _ _ _
      refine wpAny_assignInOrder_more (wpAny_assign_Name (F₂.store hx h1 fun h₃ tk₃ _ F₃ _ _ => ?_))
      refine wpAny_assignInOrder_more (wpAny_assign_Name (F₃.store hy h2 fun h₄ tk₄ _ F₄ _ _ => ?_))
      exact wpAny_assignInOrder_none ⟨g₁, F₄⟩
end
end Mine
open PySem PySem.W PySem.Calls PyProof.Rows
namespace Mine
set_option maxRecDepth 10000
/-- what reach gives -/
def reachT (x : Str) : Str :=
  let b := Txt.slice x (some (Txt.find x "." + 1)) none
  if 0 ≤ Txt.find b "." then "." ++ b else x
/-- the zones of a host, the widest last -/
def zonesOf (x : Str) : List Str := (upto 1 (Txt.split x ".").length).map fun k => "." ++ Txt.join "." ((Txt.split x ".").drop k.toNat)
def okZ (x : Str) : Bool := decide (x.length ≤ 1000) && decide ((Txt.split x ".").length ≤ 1000) && (List.range ((Txt.split x ".").length + 1)).all fun k =>
  decide ((((Txt.split x ".").drop k).map (·.length)).sum + ((Txt.split x ".").drop k).length ≤ 1000) && decide ((Txt.join "." ((Txt.split x ".").drop k)).length ≤ 1000)
/-- the host of a number, by turns -/
def pick (j : Int) : Str := [("a" : Str), "b", "cc"].getD j.toNat ""
def lhR (r : Int) : Nat → Int
  | 0 => r
  | i + 1 => if (0 + (i : Int) == 0) = true then (lhR r i).fdiv 4 else (lhR r i).fdiv 3
def lhL (r : Int) : Nat → List Str
  | 0 => ["cc"]
  | i + 1 => pick ((lhR r (i + 1)).fmod 3) :: lhL r i
def hostOf (v : Int) : Str := Txt.join "." (lhL (if v < 0 then -v else v) (1 + (if v < 0 then -v else v).fmod 4).toNat)
section
variable {prog : Program} {w : World} {A : Around} {B : Bs} {env : Env} {Γ Γ' : Cx} {mu mu' : List (Addr × MP)} {n : Nat} {P : VP} {g : View} {s s' : Shared} {K : Shared → Prop}
theorem op_lower' {x y : Str} (h : x.length ≤ 5592405) (e : Txt.lower x = y) : Op1 prog w A env Γ mu (fun v => call (.builtin "str.lower") [v]) (S x) (S y).is := e ▸ op_lower h
theorem call_match {x z : Str} (hR : Rm A (n + 2)) (hx : nowhere x = true) (hz : nowhere z = true) (lx : Txt.lower x = x) (lz : Txt.lower z = z) (sx : x.length ≤ 1000) (sz : z.length ≤ 1000) (hd : Txt.startswith z "." = true) :
    OpV prog w A env Γ mu (fun vs => call (.ref 57) vs) [S x, S z] (Mine.B (Txt.endswith x z)) := by
  refine call2 hR fn57 (x := "A") (y := "B") (fun v u => rfl) rfl rfl (by decide) (fun Lo p hp => nomatch hp) fun B' Lo hR' => ?_
  refine Tr.cons (TrS.assign (Ex.meth0 PySem.F.plainAttrs_str PySem.F.slot_str_lower PySem.F.type_str_lower (Ex.name rfl) has_str (op_lower' (by omega) lx)) (.inl rfl)) ?_
  refine Tr.cons (TrS.assign (Ex.meth0 PySem.F.plainAttrs_str PySem.F.slot_str_lower PySem.F.type_str_lower (Ex.name rfl) has_str (op_lower' (by omega) lz)) (.inl rfl)) ?_
  refine Tr.cons (TrS.if (c := false) (Tst.not (b := true) (Tst.and2 (b := true) (c := true) (Tst.val (Ex.callF fn50.isFn (Ex.glob g_50 rfl) (Exs.one (Ex.name rfl)) (call_liberal hR' hx)) Tru.bool)
    fun _ => Tst.val (Ex.callF fn50.isFn (Ex.glob g_50 rfl) (Exs.one (Ex.name rfl)) (call_liberal hR' hz)) Tru.bool)) (fun h => nomatch h) fun _ => Tr.nil fun _ h => h) ?_
  refine Tr.cons (TrS.assign (Ex.meth1 PySem.F.plainAttrs_str PySem.F.slot_str_startswith PySem.F.type_str_startswith (Ex.name rfl) has_str Ex.str op_startswith) (.inl rfl)) ?_
  rw [hd]
  cases he : Txt.endswith x z with
  | true =>
    refine Tr.cons (TrS.if (c := true) (Tst.and2 (b := true) (c := true) (Tst.val (Ex.name rfl) Tru.bool) fun _ => Tst.val (he ▸ Ex.meth1 PySem.F.plainAttrs_str PySem.F.slot_str_endswith PySem.F.type_str_endswith (Ex.name rfl) has_str (Ex.name rfl) op_endswith) Tru.bool)
      (fun _ => Tr.one (TrS.ret Ex.bool)) fun h => nomatch h) (K := fun _ => False) (J := fun _ => False) ?_
    exact .mk fun s h => h.elim
  | false =>
    refine Tr.cons (TrS.if (c := false) (Tst.and2 (b := true) (c := false) (Tst.val (Ex.name rfl) Tru.bool) fun _ => Tst.val (he ▸ Ex.meth1 PySem.F.plainAttrs_str PySem.F.slot_str_endswith PySem.F.type_str_endswith (Ex.name rfl) has_str (Ex.name rfl) op_endswith) Tru.bool)
      (fun h => nomatch h) fun _ => Tr.nil fun _ h => h) ?_
    refine Tr.cons (TrS.if (c := false) (Tst.and2 (b := false) (c := false) (Tst.not (b := true) (Tst.val (Ex.name rfl) Tru.bool)) fun h => nomatch h) (fun h => nomatch h) fun _ => Tr.nil fun _ h => h) ?_
    exact Tr.one (TrS.ret Ex.bool)
theorem Tst.cmpE {l r : Expr} {op : CmpOp} {pos : Pos} {P P' : VP} {b b' : Bool} (h₁ : Ex prog w A env Γ mu l P) (h₂ : Ex prog w A env Γ mu r P') (ho : Op2 prog w A env Γ mu (compareOp op) P P' (Mine.B b')) (e : b' = b)
    (hm : behindInMarks op r = false := by with_unfolding_all rfl) : Tst prog w A env Γ mu (.Compare l [op] [r] pos) b := e ▸ Tst.cmp h₁ h₂ ho hm
theorem Tst.eq {e : Expr} {b b' : Bool} (h : Tst prog w A env Γ mu e b') (q : b' = b) : Tst prog w A env Γ mu e b := q ▸ h
theorem Ex.eq {e : Expr} {Q Q' : VP} (h : Ex prog w A env Γ mu e Q) (q : Q = Q') : Ex prog w A env Γ mu e Q' := q ▸ h
theorem call_reach {x : Str} (hR : Rm A (n + 2)) (hx : nowhere x = true) (sx : x.length ≤ 1000) (h0 : 0 < x.length) (h1 : (x == "") = false) (h2 : (Txt.item x 0 == ".") = false) (h3 : (Txt.item x (-1) == ".") = false) (hi : 0 ≤ Txt.find x ".") (hl : (Txt.slice x (some (Txt.find x "." + 1)) none == "local") = false) :
    OpV prog w A env Γ mu (fun vs => call (.ref 64) vs) [S x] (S (reachT x)) := by
  refine call1 hR fn64 (x := "h") (fun v => rfl) rfl (fun Lo p hp => nomatch hp) fun B' Lo hR' => ?_
  have hsl : (Txt.slice x (some (Txt.find x "." + 1)) none).length ≤ x.length := Txt.slice_le x _ _
  have hdot : (Str.ofString ".").length = 1 := by decide
  refine Tr.cons (TrS.assign (Ex.meth1 PySem.F.plainAttrs_str PySem.F.slot_str_find PySem.F.type_str_find (Ex.name rfl) has_str Ex.str op_find) (.inl rfl)) ?_
  cases hb : decide (0 ≤ Txt.find (Txt.slice x (some (Txt.find x "." + 1)) none) ".") with
  | true =>
    have hr : reachT x = "." ++ Txt.slice x (some (Txt.find x "." + 1)) none := by unfold reachT; exact if_pos (of_decide_eq_true hb)
    rw [hr]
    refine Tr.cons (J := fun _ => False) (TrS.if (c := true) (Tst.cmpE (Ex.name rfl) Ex.int op_geI (decide_eq_true hi)) (fun _ => ?_) fun h => nomatch h) (.mk fun s h => h.elim)
    refine Tr.cons (TrS.assign (Ex.sliceS (Ex.name rfl) (Ex.binop (Ex.name rfl) Ex.int op_add) (by rw [sizeLine_eq]; omega)) (.inl rfl)) ?_
    refine Tr.cons (TrS.assign (Ex.meth1 PySem.F.plainAttrs_str PySem.F.slot_str_find PySem.F.type_str_find (Ex.name rfl) has_str Ex.str op_find) (.inl rfl)) ?_
    refine Tr.one (TrS.if (c := true) (Tst.and2 (b := true) (c := true) (Tst.val (Ex.callF fn43.isFn (Ex.glob g_43 rfl) (Exs.one (Ex.name rfl)) (call_isHDN hR' hx h0 h1 h2 h3)) Tru.bool)
      (fun _ => Tst.or2 (b := true) (c := true) (Tst.cmpE (Ex.name rfl) Ex.int op_geI hb) fun h => nomatch h)) (fun _ => ?_) fun h => nomatch h)
    exact Tr.one (TrS.ret (Ex.binop Ex.str (Ex.name rfl) (op_addS (by rw [sizeLine_eq]; omega))))
  | false =>
    have hr : reachT x = x := by unfold reachT; exact if_neg (of_decide_eq_false hb)
    rw [hr]
    refine Tr.cons (J := At w B' (envF (fdOf 64) 64 Lo) [("h", S x)] []) (TrS.if (c := true) (Tst.cmpE (Ex.name rfl) Ex.int op_geI (decide_eq_true hi)) (fun _ => ?_) fun h => nomatch h) (Tr.one (TrS.ret (Ex.name rfl)))
    refine Tr.cons (TrS.assign (Ex.sliceS (Ex.name rfl) (Ex.binop (Ex.name rfl) Ex.int op_add) (by rw [sizeLine_eq]; omega)) (.inl rfl)) ?_
    refine Tr.cons (TrS.assign (Ex.meth1 PySem.F.plainAttrs_str PySem.F.slot_str_find PySem.F.type_str_find (Ex.name rfl) has_str Ex.str op_find) (.inl rfl)) ?_
    exact Tr.one (TrS.if (c := false) (Tst.and2 (b := true) (c := false) (Tst.val (Ex.callF fn43.isFn (Ex.glob g_43 rfl) (Exs.one (Ex.name rfl)) (call_isHDN hR' hx h0 h1 h2 h3)) Tru.bool)
      (fun _ => Tst.or2 (b := false) (c := false) (Tst.cmpE (Ex.name rfl) Ex.int op_geI hb) fun _ => Tst.cmpE (Ex.name rfl) Ex.str op_eqS hl)) (fun h => nomatch h) fun _ => Tr.nil fun s h => h.shrink ⟨rfl, trivial⟩)
theorem flat_S : ∀ (b : Str) (v : Value) (g g' : View), (S b).is v g → (S b).is v g' := fun _ _ _ _ h => h
theorem flat_I : ∀ (b : Int) (v : Value) (g g' : View), (I b).is v g → (I b).is v g' := fun _ _ _ _ h => h
theorem mem_upto {a b k : Int} (h : k ∈ upto a b) : a ≤ k ∧ k < b := by
  unfold upto at h
  obtain ⟨i, hi, rfl⟩ := List.mem_map.mp h
  have := List.mem_range.mp hi
  omega
theorem call_zones {x : Str} (hR : Rm A (n + 1)) (hx : okZ x = true) : OpV prog w A env Γ mu (fun vs => call (.ref 90) vs) [S x] (L S (zonesOf x)) := by
  unfold okZ at hx
  rw [Bool.and_eq_true, Bool.and_eq_true, decide_eq_true_eq, decide_eq_true_eq, List.all_eq_true] at hx
  obtain ⟨⟨sx, sl⟩, hx⟩ := hx
  have hdot : (Str.ofString ".").length = 1 := by decide
  refine call1 hR fn90 (x := "host") (fun v => rfl) rfl (fun Lo p hp => by obtain rfl := List.mem_singleton.mp hp; rfl) fun B' Lo hR' => ?_
  refine Tr.cons (TrS.assign (Ex.meth1 PySem.F.plainAttrs_str PySem.F.slot_str_split PySem.F.type_str_split (Ex.name rfl) has_str Ex.str (op_split (by decide) (by rw [sizeLine_eq]; omega))) (.inr ⟨rfl, _, rfl⟩)) ?_
  refine Tr.one (TrS.ret (Ex.compMap (K := S) (P := I) (xs := upto 1 (Txt.split x ".").length) (fun k => "." ++ Txt.join "." ((Txt.split x ".").drop k.toNat)) (V := Rg 1 (Txt.split x ".").length) (Γ' := [("labels", L S (Txt.split x "."))]) (cl := [("labels", Lo + 1)])
    (Ex.callT (Ex.blt g_range b_range rfl) (Exs.two Ex.int (Ex.callB (Ex.blt g_len b_len rfl) (Exs.one (Ex.name rfl)) (.one (op_lenL (P := S) sl)))) (.two op_range2)) (iter_range hR'.hd (by omega) (by omega)) inj_I flat_S (by simp [upto]; omega) rfl ⟨⟨rfl, rfl, rfl, rfl⟩, trivial⟩ (fun C k hk => ?_)))
  have hk' := mem_upto hk
  have hkk := hx k.toNat (List.mem_range.mpr (by omega))
  rw [Bool.and_eq_true, decide_eq_true_eq, decide_eq_true_eq] at hkk
  refine Ex.binop Ex.str (Ex.meth1 PySem.F.plainAttrs_str PySem.F.slot_str_join PySem.F.type_str_join Ex.str has_str (Ex.sliceL (Ex.name rfl) (.some (Ex.name rfl)) .none (by rw [sizeLine_eq]; omega) (pick_from k (by omega))) (op_join (by decide) (by omega))) (op_addS (by rw [sizeLine_eq]; omega))
end
end Mine
open PySem PySem.W PySem.Calls PyProof.Rows
namespace Mine
set_option maxRecDepth 10000
theorem pick_len (j : Int) : (pick j).length ≤ 2 := by
  unfold pick
  match j.toNat with
  | 0 => decide
  | 1 => decide
  | 2 => decide
  | k + 3 => simp [Str.length]; decide
theorem lhL_len (r : Int) : ∀ i, (lhL r i).length = i + 1 ∧ ((lhL r i).map (·.length)).sum ≤ 2 * (i + 1)
  | 0 => by refine ⟨rfl, ?_⟩; show (Str.ofString "cc").length + 0 ≤ 2; decide
  | i + 1 => by
    obtain ⟨h1, h2⟩ := lhL_len r i
    have := pick_len ((lhR r (i + 1)).fmod 3)
    simp only [lhL, List.length_cons, List.map_cons, List.sum_cons, h1]
    exact ⟨trivial, by omega⟩
theorem fmod_range (a : Int) (b : Int) (hb : 0 < b) : 0 ≤ a.fmod b ∧ a.fmod b < b := ⟨Int.fmod_nonneg_of_pos a hb, Int.fmod_lt_of_pos a hb⟩
section
variable {prog : Program} {w : World} {A : Around} {B : Bs} {env : Env} {Γ Γ' : Cx} {mu mu' : List (Addr × MP)} {n : Nat} {P : VP} {g : View} {s s' : Shared} {K : Shared → Prop}
theorem TrS.pre {I I' : Shared → Prop} {st : Stmt} (h : TrS prog w A B env P I' st K) (hi : ∀ s, I s → I' s) : TrS prog w A B env P I st K := .mk fun s hs => h.run s (hi s hs)
/-- x, y = e, f where both are plain names of the frame -/
theorem TrS.assignT2s {x y : Str} {e : Expr} {P₁ P₂ : VP} {k : Nat} {px py tpos pos : Pos} (hh : A.handled = none) (h : Ex prog w A env Γ mu e (Tu [P₁, P₂])) (hx : Kept env x) (hy : Kept env y)
    (hs : swapsWithSole [.Tuple [.Name x px, .Name y py] k tpos] e pos.line env = pure false := by rfl) (hw : swappedStores [.Tuple [.Name x px, .Name y py] k tpos] e env = pure (some [x, y]) := by rfl) :
    TrS prog w A B env P (At w B env Γ mu) (.Assign [.Tuple [.Name x px, .Name y py] k tpos] e pos) (At w B env ((x, P₁) :: (y, P₂) :: Γ) mu) := by
  refine .mk ?_
  rintro s ⟨g, F⟩
  refine Assign_Tuple_swapped (F.ev h fun v g₁ s₁ F₁ l₁ q₁ _ => ?_) hs hw
  obtain ⟨a, vs, rfl, ha, hv⟩ := q₁
  cases hv with
  | @cons _ v1 _ _ h1 hv =>
    cases hv with
    | @cons _ v2 _ _ h2 hv =>
      cases hv
      refine unpackItems_tuple (items := #[v1, v2]) hh ⟨_, F₁.on _ _ ha, rfl, 0, rfl⟩ fun h' he => ?_
      have F₂ : Fm w B env Γ mu g₁ { s₁ with heap := h' } := by
        have hkk : ∀ b o, s₁.heap.get? b = some o → h'.get? b = some o := fun b o e => he b o (Nat.ne_of_lt (Heap.lt_size e)) e
        exact F₁.finE ⟨h', s₁.toks, rfl, hkk⟩ (Le.refl _) (F₁.on.sub hkk) fun _ _ e => .inl e
      show wpAny _ A (assignInOrder [bindName env y, bindName env x] [v2, v1]) _ _ _
      refine wpAny_assignInOrder_more (wpAny_bindName (F₂.store hy h2 fun h₃ tk₃ _ F₃ _ _ => ?_))
      refine wpAny_assignInOrder_more (wpAny_bindName (F₃.store hx h1 fun h₄ tk₄ _ F₄ _ _ => ?_))
      exact wpAny_assignInOrder_none ⟨g₁, F₄⟩
theorem getElem?_upto {a b k : Int} {i : Nat} (h : (upto a b)[i]? = some k) : k = a + (i : Int) ∧ (i : Int) < b - a := by
  unfold upto at h
  rw [List.getElem?_map] at h
  obtain ⟨j, hj, rfl⟩ := Option.map_eq_some_iff.mp h
  have hlt := (List.getElem?_eq_some_iff.mp hj).1
  rw [List.length_range] at hlt
  rw [List.getElem?_range hlt] at hj
  injection hj with hj
  subst hj
  exact ⟨rfl, by omega⟩
theorem getElem?_pick (j : Int) (h0 : 0 ≤ j) (h3 : j < 3) : [("a" : Str), "b", "cc"][j.toNat]? = some (pick j) := by
  unfold pick
  have : j.toNat < 3 := by omega
  match h : j.toNat, this with
  | 0, _ => rfl
  | 1, _ => rfl
  | 2, _ => rfl
theorem lhR_s (r : Int) (i : Nat) : lhR r (i + 1) = if (0 + (i : Int) == 0) = true then (lhR r i).fdiv 4 else (lhR r i).fdiv 3 := rfl
theorem lhL_s (r : Int) (i : Nat) : lhL r (i + 1) = [pick ((lhR r (i + 1)).fmod 3)] ++ lhL r i := rfl
set_option maxHeartbeats 2000000 in
theorem call_host {v : Int} (hR : Rm A (n + 1)) (ht : prog.given.tree = none) : OpV prog w A env Γ mu (fun vs => call (.ref 85) vs) [I v] (S (hostOf v)) := by
  refine call1 hR fn85 (x := "number") (fun v => rfl) rfl (fun Lo p hp => nomatch hp) fun B' Lo hR' => ?_
  refine Tr.cons (TrS.assignT2s hR'.hd (Ex.tuple (Exs.two (Ex.list (.cons Ex.str .nil) (by rw [sizeLine_eq]; simp)) (Ex.callB (Ex.blt g_abs b_abs rfl) (Exs.one (Ex.name rfl)) (.one op_abs))) (by rw [sizeLine_eq]; simp)) (.inl rfl) (.inl rfl)) ?_
  generalize hr : (if v < 0 then -v else v) = r
  have hm := fmod_range r 4 (by decide)
  have hN : (upto 0 (1 + r.fmod 4)).length = (1 + r.fmod 4).toNat := by simp [upto]
  refine Tr.cons (TrS.for (xs := upto 0 (1 + r.fmod 4)) (Pe := I) (V := Rg 0 (1 + r.fmod 4)) (fun i => [("labels", L S (lhL r i)), ("rest", I (lhR r i))]) (fun _ => []) hR'.hd (Ex.callT (Ex.blt g_range b_range rfl) (Exs.one (Ex.binop Ex.int (Ex.binop (Ex.name rfl) Ex.int (op_mod (by decide))) op_add)) (.one op_range1))
    (iter_range hR'.hd (by omega) (by omega)) (.inl rfl) (fun _ => rfl) ?_ |>.pre fun s hs => hs.shrink ⟨rfl, rfl, trivial⟩) ?_
  · intro B'' i a ha
    have ha' := getElem?_upto ha
    obtain ⟨rfl, hi4⟩ := ha'
    have hl := lhL_len r i
    have hf := fmod_range (lhR r (i + 1)) 3 (by decide)
    have e1 : (0 + (i : Int) == 0) = true → I ((lhR r i).fdiv 4) = I (lhR r (i + 1)) := fun hc => by rw [lhR_s, if_pos hc]
    have e2 : (0 + (i : Int) == 0) = false → I ((lhR r i).fdiv 3) = I (lhR r (i + 1)) := fun hc => by rw [lhR_s, if_neg (by rw [hc]; decide)]
    have e3 := lhL_s r i
    generalize lhL r (i + 1) = l' at e3
    subst e3
    generalize lhR r (i + 1) = q at *
    generalize lhR r i = q0 at *
    generalize lhL r i = l0 at *
    refine Tr.cons (TrS.assign (Q := I q) (Ex.ifexp (c := (0 + (i : Int) == 0)) (Tst.cmp (Ex.name rfl) Ex.int op_eqI)
      (fun hc => (Ex.binop (Ex.name rfl) Ex.int (op_div hR' ht (by decide))).eq (e1 hc))
      (fun hc => (Ex.binop (Ex.name rfl) Ex.int (op_div hR' ht (by decide))).eq (e2 hc))) (.inl rfl)) ?_
    have hpk := getElem?_pick _ hf.1 hf.2
    generalize pick (q.fmod 3) = pk at *
    refine Tr.cons (TrS.assign (Q := L S ([pk] ++ l0)) ?_ (.inl rfl)) (Tr.nil fun s h => h.shrink ⟨rfl, rfl, trivial⟩)
    refine Ex.binop (P := L S [pk]) (P' := L S l0) ?_ (Ex.name rfl) (op_addL (by rw [sizeLine_eq]; simp only [List.length_singleton]; omega))
    refine Ex.list (P := S) (xs := [pk]) (.cons ?_ .nil) (by rw [sizeLine_eq]; simp)
    refine Ex.sub (P := L S [("a" : Str), "b", "cc"]) (P' := I (q.fmod 3)) ?_ (Ex.binop (P := I q) (P' := I 3) (Ex.name rfl) Ex.int (op_mod (by decide))) ?_
    · exact Ex.list (P := S) (xs := [("a" : Str), "b", "cc"]) (.cons Ex.str (.cons Ex.str (.cons Ex.str .nil))) (by rw [sizeLine_eq]; simp)
    · exact op_itemL hf.1 (by omega) hpk
  · rw [hN]
    have hl := lhL_len r (1 + r.fmod 4).toNat
    exact Tr.one (TrS.ret (Ex.meth1 PySem.F.plainAttrs_str PySem.F.slot_str_join PySem.F.type_str_join Ex.str has_str (Ex.name rfl) (op_join (by decide) (by omega)) |> fun h => h.eq (by unfold hostOf; rw [hr])))
end
end Mine
open PySem PySem.W PySem.Calls PyProof.Rows
namespace Mine
section
variable {prog : Program} {w : World} {A : Around} {B : Bs} {env : Env} {Γ Γ' : Cx} {mu mu' : List (Addr × MP)} {n : Nat} {P : VP} {g : View} {s s' : Shared} {K : Shared → Prop}
/-- a table's items -/
def Iv (prog : Program) (w : World) (xs : List Str) : VP := ⟨fun v g => ∃ a d o, v = .ref a ∧ g a = some (viewO "dict_items" d) ∧ g d = some o ∧ DObj prog w xs o g, fun k ⟨a, d, o, e, h, h', q⟩ => ⟨a, d, o, e, k _ _ h, k _ _ h', q.mono k⟩⟩
theorem op_items {xs : List Str} : Op1 prog w A env Γ mu (fun v => call (.builtin "dict.items") [v]) (Dv prog w xs) (Iv prog w xs).is := by
  rintro r g v R ⟨d, o, rfl, hd, hn, D⟩
  refine .mk fun s hs hg => ?_
  obtain ⟨kvs, es, ep, rfl, he, hk, hnd⟩ := D
  refine callItems (hg _ _ hd) hn (Fin.push (t := s.toks) hg ⟨_, d, _, rfl, ext_self _ _ _, le_ext (fresh_view hg) _ _ hd, kvs, es, ep, rfl, he, hk.mono (le_ext (fresh_view hg)), hnd⟩)
theorem TrS.forItems {xs : List Str} {fx cx : Str} {px pc tpos pos : Pos} {kk : Nat} {iter : Expr} {body : List Stmt} (Γi : Nat → Cx) (mi : Nat → List (Addr × MP)) (hh : A.handled = none)
    (hi : Ex prog w A env (Γi 0) (mi 0) iter (Iv prog w xs)) (hkx : Kept env fx) (hkc : Kept env cx) (hm : ∀ i, (mi i).map (·.1) = (mi 0).map (·.1))
    (ht : ∀ (B' : Bs) (i : Nat) (a : Str), xs[i]? = some a → Tr prog w A B' env P (At w B' env ((cx, I 1) :: (fx, Wd a) :: Γi i) (mi i)) body (At w B' env (Γi (i + 1)) (mi (i + 1))))
    (hs : ∀ x, foldedSetIterable iter env x = pure x := by intro _; rfl) :
    TrS prog w A B env P (At w B env (Γi 0) (mi 0)) (.For (.Tuple [.Name fx px, .Name cx pc] kk tpos) iter body [] pos) (At w B env (Γi xs.length) (mi xs.length)) := by
  refine .mk ?_
  rintro s ⟨g, F⟩
  refine wpAny_For (F.ev hi fun v g₁ s₁ F₁ l₁ hq ks₁ => ?_) hs
  obtain ⟨va, d, o, rfl, hva, hd, kvs, es, ep, rfl, he, hkv, hnd⟩ := hq
  have hsz : es.size = xs.length := by rw [← Array.length_toList, he, List.length_map, hkv.length]
  refine iterItems (F₁.on _ _ hva) (F₁.on _ _ hd) ?_
  generalize hIt : s₁.heap.objs.size = It
  have hown : ∀ j, owned env (mi j) = owned env (mi 0) := fun j => by unfold owned; rw [hm j]
  have dead : s₁.heap.get? It = none := hIt ▸ fresh_size _
  have ow : ∀ j, It ∉ owned env (mi j) := fun j hb => by
    rw [hown j] at hb
    obtain ⟨_, _, _, o, ho⟩ := F₁.own It hb
    rw [dead] at ho; cases ho
  have kw : B.k It = none := by
    cases e : B.k It with
    | none => rfl
    | some o => have := F₁.bk _ _ e; rw [dead] at this; cases this
  have zw : It ∉ B.z := fun hb => by
    obtain ⟨_, o, ho⟩ := F₁.hz It hb
    rw [dead] at ho; cases ho
  have gw : g₁ It = none := by
    cases e : g₁ It with
    | none => rfl
    | some o => have := F₁.on _ _ e; rw [dead] at this; cases this
  let J : Nat → Shared → Prop := fun m s => ∃ i, i ≤ xs.length ∧ m = xs.length - i ∧ (∃ x y, s.heap.get? It = some (itemIt d i es.size ep x y)) ∧ ∃ g', Fm w B env (Γi i) (mi i) g' s ∧ Le g₁ g' ∧ g' It = none
  refine codeAny_forLoop_any J ?_ xs.length ⟨0, Nat.zero_le _, rfl, ⟨.none, .none, ?_⟩, g₁, ?_, Le.refl _, gw⟩
  · rintro m s ⟨i, hile, rfl, ⟨x₀, y₀, hit⟩, g', F', l', hgw⟩
    have hds : s.heap.get? d = some (dictO es ep) := F'.on _ _ (l' _ _ hd)
    rcases Nat.lt_or_ge i xs.length with hlt | hge
    · have hlt' : i < es.size := by rw [hsz]; exact hlt
      refine itemNext (e := es[i]) hit hds (by simp [hlt']) fun h' hout htup hkk => ?_
      have F₂ := F'.elsewhere (tk := s.toks) (ow i) hgw kw zw hkk
      refine wpAny_letOwnedTupleGo_items hout fun h₂ hit₂ hs₂ => ?_
      have F₃ := F₂.elsewhere (tk := s.toks) (ow i) hgw kw zw fun b o hb e => hs₂.extBut b o hb e
      have hne : s.heap.objs.size ≠ It := fun e => by
        have := Heap.lt_size hit
        exact absurd this (by rw [e]; exact Nat.lt_irrefl _)
      have htup₂ : h₂.get? s.heap.objs.size = some (tupObj [es[i].key, es[i].val]) := hs₂.extBut _ _ hne htup
      refine wpAny_assign_Tuple hh (items := #[es[i].key, es[i].val]) ⟨_, htup₂, rfl, 0, rfl⟩ rfl rfl fun h₃ hx₃ => ?_
      have hkk₃ : ∀ b o, h₂.get? b = some o → h₃.get? b = some o := fun b o e => hx₃ b o (Nat.ne_of_lt (Heap.lt_size e)) e
      have F₄ : Fm w B env (Γi i) (mi i) g' { s with heap := h₃ } := F₃.finE ⟨h₃, s.toks, rfl, hkk₃⟩ (Le.refl _) (F₃.on.sub hkk₃) fun _ _ e => .inl e
      have hit₃ : h₃.get? It = some (itemIt d (i + 1) es.size ep es[i].key es[i].val) := hkk₃ _ _ hit₂
      -- what the pair holds
      have h2 : es.toList[i]? = some es[i] := by simp [hlt']
      rw [he, List.getElem?_map] at h2
      obtain ⟨k, h3, h4⟩ := Option.map_eq_some_iff.mp h2
      obtain ⟨a, t₁, t, t₂, u, ha, hke, hw⟩ := hkv.get h3
      have hkey : es[i].key = .ref k.2.1 := by rw [← h4]; rfl
      have hval : es[i].val = .int 1 u := by rw [← h4, hke]; rfl
      show wpAny _ A (assignInOrder [PySem.assign (.Name fx px) env, PySem.assign (.Name cx pc) env] [es[i].key, es[i].val]) _ _ _
      rw [hkey, hval] at hit₃ ⊢
      have hWd : (Wd a).is (.ref k.2.1) g' := ⟨k.2.1, t₁, t, t₂, rfl, l' _ _ hw⟩
      refine wpAny_assignInOrder_more (wpAny_assign_Name (F₄.store hkx hWd fun h₄ tk₄ a₄ F₅ had₄ hk₄ => ?_))
      refine wpAny_assignInOrder_more (wpAny_assign_Name (F₅.store hkc (Q := I 1) ⟨u, rfl⟩ fun h₅ tk₅ a₅ F₆ had₅ hk₅ => ?_))
      refine wpAny_assignInOrder_none ?_
      have na₄ : It ≠ a₄ := fun e => ow i (e ▸ had₄)
      have na₅ : It ≠ a₅ := fun e => ow i (e ▸ had₅)
      have hit₅ : h₅.get? It = some (itemIt d (i + 1) es.size ep (.ref k.2.1) (.int 1 u)) := hk₅ _ _ na₅ (hk₄ _ _ na₄ hit₃)
      classical
      let B' : Bs := ⟨B.s₀, g', fun b => if b = It then h₅.get? b else B.k b, It :: B.z⟩
      have F₇ : Fm w B' env ((cx, I 1) :: (fx, Wd a) :: Γi i) (mi i) g' { s with heap := h₅, toks := tk₅ } := by
        refine ⟨F₆.same, fun b o e => ?_, fun b o e => ?_, F₆.gd₀, F₆.on, Le.refl _, fun _ _ e => .inl e, fun b hb => ?_, F₆.nod, fun b hb => ?_, F₆.ns, F₆.cl, F₆.rd⟩
        · by_cases hbw : b = It
          · have e' : h₅.get? b = some o := by simpa [B', hbw] using e
            exact e'
          · have e' : B.k b = some o := by simpa [B', hbw] using e
            exact F₆.bk b o e'
        · have := F₆.b0 b o e
          have hb : b ≠ It := fun q => by subst q; rw [kw] at this; cases this
          show (if b = It then h₅.get? b else B.k b) = some o
          rw [if_neg hb]; exact this
        · obtain ⟨a1, a2, a3, a4⟩ := F₆.own b hb
          have hbw : b ≠ It := fun q => ow i (q ▸ hb)
          refine ⟨?_, a2, fun hm => ?_, a4⟩
          · show (if b = It then h₅.get? b else B.k b) = none
            rw [if_neg hbw]; exact a1
          · rcases List.mem_cons.mp hm with hm | hm
            · exact hbw hm
            · exact a3 hm
        · rcases List.mem_cons.mp hb with rfl | hb
          · exact ⟨hgw, _, hit₅⟩
          · exact F₆.hz b hb
      refine wpAny_mono ((ht B' i a ha).run _ ⟨g', F₇⟩) (fun f s₅ y => ?_) fun _ _ f => f.elim
      have kIt : ∀ b o, B.k b = some o → b ≠ It := fun b o e q => by subst q; rw [kw] at e; cases e
      cases f with
      | brk => exact y.elim
      | cont => exact y.elim
      | ret v =>
        obtain ⟨a1, a2, a3, g₅, a4, a5, a6, a7⟩ := y
        refine ⟨a1, fun b o e => a2 b o ?_, F₆.b0, g₅, F₆.le.trans a4, a5, fun b o e => ?_, a7⟩
        · show (if b = It then h₅.get? b else B.k b) = some o
          rw [if_neg (kIt b o e)]; exact e
        · rcases a6 b o e with e | e
          · exact F₆.new b o e
          · exact .inr e
      | next =>
        obtain ⟨g₅, F₈⟩ := y
        have hitE : s₅.heap.get? It = some (itemIt d (i + 1) es.size ep (.ref k.2.1) (.int 1 u)) := F₈.bk It _ (by
          show (if It = It then h₅.get? It else B.k It) = _
          rw [if_pos rfl]; exact hit₅)
        refine ⟨xs.length - (i + 1), by omega, i + 1, hlt, rfl, ⟨_, _, hitE⟩, g₅, ?_, l'.trans F₈.le, (F₈.hz It List.mem_cons_self).1⟩
        refine ⟨F₈.same, fun b o e => F₈.bk b o ?_, F₆.b0, F₆.gd₀, F₈.on, F₆.le.trans F₈.le, fun b o e => ?_, fun b hb => ?_, F₈.nod, fun b hb => F₈.hz b (List.mem_cons_of_mem _ hb), F₈.ns, F₈.cl, F₈.rd⟩
        · show (if b = It then h₅.get? b else B.k b) = some o
          rw [if_neg (kIt b o e)]; exact e
        · rcases F₈.new b o e with e | e
          · exact F₆.new b o e
          · exact .inr e
        · obtain ⟨a1, a2, a3, a4⟩ := F₈.own b hb
          have hbw : b ≠ It := fun q => ow (i + 1) (q ▸ hb)
          refine ⟨?_, a2, fun hm => a3 (List.mem_cons_of_mem _ hm), a4⟩
          have a1' : (if b = It then h₅.get? b else B.k b) = none := a1
          rw [if_neg hbw] at a1'; exact a1'
    · have hin : i = xs.length := by omega
      subst hin
      refine itemEnd hh hit hds (by rw [hsz]; exact Nat.le_refl _) fun h' hkk => ?_
      exact wpAny_execs_nil ⟨g', F'.elsewhere (tk := s.toks) (ow _) hgw kw zw fun b o hb e => hkk b o hb e⟩
  · rw [← hIt]; exact Heap.get?_push_size _ rfl
  · have kk : ∀ b o, s₁.heap.get? b = some o → (s₁.heap.push (itemIt d 0 es.size ep .none .none)).get? b = some o := fun b o e => Heap.get?_push_of_some _ e
    exact F₁.finE ⟨_, s₁.toks, rfl, kk⟩ (Le.refl _) (F₁.on.sub kk) fun _ _ e => .inl e
/-- a table that is being made -/
def Dm (prog : Program) (w : World) (xs : List Str) : MP := ⟨fun o g => DObj prog w xs o g, fun k h => DObj.mono k h⟩
theorem TrS.newDict {x : Str} {px dpos pos : Pos} (hx : Kept env x) (hs : swapsWith (.Dict [] [] dpos) (some (.Name x px)) pos.line env = pure false := by rfl) :
    TrS prog w A B env P (At w B env Γ mu) (.Assign [.Name x px] (.Dict [] [] dpos) pos) (fun s => ∃ d : Addr, (d == sysModules) = false ∧ At w B env ((x, C (.ref d)) :: Γ) ((d, Dm prog w []) :: mu) s) := by
  refine .mk ?_
  rintro s ⟨g, F⟩
  refine wpAny_Assign_Name (wpAny_Dict_empty ?_) hs
  have F₂ : Fm w B env Γ ((s.heap.objs.size, Dm prog w []) :: mu) g { s with heap := s.heap.push (dictO #[] 0) } := F.alloc (keepsPush s _) (fresh_size _) (Heap.get?_push_size _ rfl) ⟨[], #[], 0, rfl, rfl, .nil, List.nodup_nil⟩
  have hk' : Kept env x := hx
  exact F₂.store (Q := C (.ref s.heap.objs.size)) hx rfl fun h' tk a F₃ _ _ => ⟨s.heap.objs.size, ne_sys F.rd.gd, g, F₃⟩
/-- d[word] = 1 -/
theorem TrS.setDm {o i value : Expr} {px pos : Pos} {T : Addr} {xs : List Str} {y : Str} (hR : Rm A n) (hT : mu.lookup T = some (Dm prog w xs)) (hlen : xs.length ≤ 1000) (hy : xs.any (· == y) = false)
    (hv : Ex prog w A env Γ mu value (I 1)) (ho : Ex prog w A env Γ mu o (C (.ref T))) (hi : Ex prog w A env Γ mu i (Wd y))
    (hmu : mu'.map (·.1) = mu.map (·.1)) (hmu' : ∀ b M, mu'.lookup b = some M → (b = T ∧ M = Dm prog w (xs ++ [y])) ∨ (b ≠ T ∧ mu.lookup b = some M)) (hs : swapsWith value (some (.Subscript o i px)) pos.line env = pure false := by rfl) :
    TrS prog w A B env P (At w B env Γ mu) (.Assign [.Subscript o i px] value pos) (At w B env Γ mu') := by
  refine .mk ?_
  rintro s ⟨g, F⟩
  refine wpAny_Assign_Subscript (F.ev hv fun v g₁ s₁ F₁ l₁ q₁ _ => F₁.ev ho fun ov g₂ s₂ F₂ l₂ q₂ _ => F₂.ev hi fun iv g₃ s₃ F₃ l₃ q₃ _ => ?_) hs
  obtain rfl : ov = .ref T := q₂
  obtain ⟨u, rfl⟩ := q₁
  obtain ⟨a, t₁, t, t₂, rfl, ha⟩ := q₃
  obtain ⟨ob, hob, kvs, es, ep, rfl, he, hk, hnd⟩ := F₃.rd.muts T _ hT
  have hmm : s₃.heap.DictOfH (tupleKind (PySem.strKind prog w)) T kvs := dictOfH_of F₃.on hob he hk hnd
  refine wpAny_setItem_heap (knd := tupleKind (PySem.strKind prog w)) (tupleKind_room_in1 (by have := hR.un; omega)) (tupleKey_of F₃.on ha) hmm (fun h' hd' hs' => ?_) (by rw [sizeLine_eq, hk.length]; omega)
  obtain ⟨ob', hob', hD⟩ := dobj_store hd' hk hnd hy ha
  have hkp : ∀ b o, b ≠ T → s₃.heap.get? b = some o → h'.get? b = some o := fun b o hb e => hs'.extBut b o hb e
  have hTo : T ∈ owned env mu := mem_owned_mu hT
  have hne : env.locals ≠ T := (loc_ne_mu F₃.nod hT).symm
  refine ⟨g₃, F₃.chg hTo hkp hmu ⟨ob', hob'⟩ (let ⟨mm, hn⟩ := F₃.ns; ⟨mm, hn.sameBut hs' hne⟩) (fun p hp => let ⟨u, hu⟩ := F₃.cl p hp; ⟨u, hu.sameBut hs' (cell_ne_mu F₃.nod hp hT).symm⟩) (fun y Q hy => ?_) fun b M hb => ?_⟩
  · obtain ⟨u, hu, hQ⟩ := F₃.rd.vars y Q hy
    refine ⟨u, ?_, hQ⟩
    rcases hu with ⟨ha, mm, hm', hu⟩ | ⟨c, ha, hb, hc⟩
    · exact .inl ⟨ha, mm, hm'.sameBut hs' hne, hu⟩
    · exact .inr ⟨c, ha, hb, hc.sameBut hs' (cell_ne_mu F₃.nod (p := (y, c)) (lookup_mem hb) hT).symm⟩
  · rcases hmu' b M hb with ⟨rfl, rfl⟩ | ⟨hbT, hb⟩
    · exact ⟨ob', hob', hD⟩
    · obtain ⟨o', h1, h2⟩ := F₃.rd.muts b M hb
      exact ⟨o', hkp b o' hbT h1, h2⟩
theorem op_inDm {x : Str} {ys : List Str} {T : Addr} (hR : Rm A n) (hT : mu.lookup T = some (Dm prog w ys)) (hs : (T == sysModules) = false) : Op2 prog w A env Γ mu (compareOp .In) (Wd x) (C (.ref T)) (Mine.B (ys.any (· == x))) := by
  rintro r g v u R ⟨a, t₁, t, t₂, rfl, ha⟩ rfl
  refine .mk fun s hsu hg => ?_
  obtain ⟨o, ho, kvs, es, ep, rfl, he, hk, hnd⟩ := R.muts T _ hT
  refine wpAny_in_heap (knd := tupleKind (PySem.strKind prog w)) (tupleKind_room_in1 (by have := hR.un; omega)) (tupleKey_of hg ha) hs (dictOfH_of hg (hsu _ _ ho) he hk hnd) ?_
  rw [atKey_of hk]
  exact Fin.tok hg rfl
theorem take_succ_get {xs : List Str} {i : Nat} {a : Str} (h : xs[i]? = some a) : xs.take (i + 1) = xs.take i ++ [a] := by
  rw [List.take_add_one, h]; rfl
theorem not_before {xs : List Str} (hn : xs.Nodup) {i : Nat} {a : Str} (h : xs[i]? = some a) : (xs.take i).any (· == a) = false := by
  rw [List.any_eq_false]
  intro b hb e
  have e' : b = a := by simpa using e
  subst e'
  obtain ⟨j, hj, hjb⟩ := List.mem_take_iff_getElem.mp hb
  have hjl : j < xs.length := by omega
  have hj' : xs[j]? = some b := by rw [List.getElem?_eq_getElem hjl]; exact congrArg some hjb
  have : j = i := (List.getElem?_inj hjl hn).mp (hj'.trans h.symm)
  omega
/-- add_callers, the one table below the other -/
theorem call_add {xs : List Str} {y : Str} (hR : Rm A (n + 1)) (hn : xs.Nodup) (hy : xs.any (· == y) = false) (hlen : xs.length ≤ 500) : OpV prog w A env Γ mu (fun vs => call (.ref 71) vs) [Dv prog w xs, Dv prog w [y]] (Dv prog w (xs ++ [y])) := by
  refine call2 hR fn71 (x := "target") (y := "source") (fun v u => rfl) rfl rfl (by decide) (fun Lo p hp => nomatch hp) fun B' Lo hR' => ?_
  refine Tr.cons (TrS.newDict (.inl rfl)) (Tr.some fun d => ?_)
  refine .mk fun s hs => (Tr.run (I := At w B' (envF (fdOf 71) 71 Lo) [("new_callers", C (.ref d)), ("target", Dv prog w xs), ("source", Dv prog w [y])] [(d, Dm prog w [])]) ?_ s hs.2)
  obtain ⟨hds, _⟩ := hs
  refine Tr.cons (TrS.forItems (xs := xs) (fun i => [("new_callers", C (.ref d)), ("source", Dv prog w [y]), ("target", Dv prog w xs)]) (fun i => [(d, Dm prog w (xs.take i))]) hR'.hd
    (Ex.meth0 PySem.F.plainAttrs_dict PySem.F.slot_dict_items PySem.F.type_dict_items (Ex.name rfl) has_D op_items) (.inl rfl) (.inl rfl) (fun _ => rfl) (fun B'' i a ha => ?_) |>.pre fun s h => h.shrink ⟨rfl, rfl, rfl, trivial⟩) ?_
  · refine Tr.cons (TrS.setDm (mu' := [(d, Dm prog w (xs.take i ++ [a]))]) hR' (xs := xs.take i) (y := a) (T := d) (by simp) (by rw [List.length_take]; omega) (not_before hn ha) (Ex.name rfl) (Ex.name rfl) (Ex.name rfl) rfl (fun b M h => ?_)) (Tr.nil fun s h => ?_)
    · rcases lookup_cons_cases h with ⟨rfl, rfl⟩ | ⟨_, h⟩
      · exact .inl ⟨rfl, rfl⟩
      · simp at h
    · have h' := h.shrink (Γ' := [("new_callers", C (.ref d)), ("source", Dv prog w [y]), ("target", Dv prog w xs)]) ⟨rfl, rfl, rfl, trivial⟩
      rw [← take_succ_get ha] at h'
      exact h'
  rw [List.take_length]
  refine Tr.cons (TrS.forItems (xs := [y]) (fun i => [("new_callers", C (.ref d)), ("source", Dv prog w [y])]) (fun i => [(d, Dm prog w (xs ++ [y].take i))]) hR'.hd
    (Ex.meth0 PySem.F.plainAttrs_dict PySem.F.slot_dict_items PySem.F.type_dict_items (Ex.name rfl) has_D op_items) (.inl rfl) (.inl rfl) (fun _ => rfl) (fun B'' i a ha => ?_) |>.pre fun s h => by
      have h' := h.shrink (Γ' := [("new_callers", C (.ref d)), ("source", Dv prog w [y])]) ⟨rfl, rfl, trivial⟩
      simpa using h') ?_
  · have hi0 : i = 0 ∧ a = y := by
      match i, ha with
      | 0, ha => exact ⟨rfl, by simpa using ha.symm⟩
      | i + 1, ha => simp at ha
    obtain ⟨rfl, rfl⟩ := hi0
    have hmu : (d, Dm prog w (xs ++ [a].take 0)) = (d, Dm prog w xs) := by simp
    rw [hmu]
    refine Tr.cons (TrS.if (c := false) (Tst.cmpE (Ex.name rfl) (Ex.name rfl) (op_inDm (T := d) (ys := xs) hR' (by simp) hds) hy) (fun h => nomatch h) fun _ => ?_) (Tr.nil fun s h => h)
    refine Tr.cons (TrS.setDm (mu' := [(d, Dm prog w (xs ++ [a]))]) hR' (xs := xs) (y := a) (T := d) (by simp) (by omega) hy (Ex.name rfl) (Ex.name rfl) (Ex.name rfl) rfl (fun b M h => ?_)) (Tr.nil fun s h => ?_)
    · rcases lookup_cons_cases h with ⟨rfl, rfl⟩ | ⟨_, h⟩
      · exact .inl ⟨rfl, rfl⟩
      · simp at h
    · exact h.shrink ⟨rfl, rfl, trivial⟩
  -- the table comes to rest
  refine .mk fun s ⟨g, F⟩ => ?_
  obtain ⟨o, g', F', l, ho, hD⟩ := F.freeze
  obtain ⟨v, hv, hvd⟩ := F'.rd.vars "new_callers" (C (.ref d)) rfl
  have F₂ : Fm w B' (envF (fdOf 71) 71 Lo) [("new_callers", Dv prog w (xs ++ [y]))] [] g' s := { F' with rd := ⟨F'.rd.gd, fun x Q e => by
      rcases lookup_cons_cases e with ⟨rfl, rfl⟩ | ⟨_, e⟩
      · exact ⟨v, hv, d, o, hvd, ho, hds, by have hD' : DObj prog w (xs ++ [y].take [y].length) o g := hD; simpa using hD'.mono l⟩
      · simp at e, F'.rd.muts, F'.rd.fn, F'.rd.gl, F'.rd.bl⟩ }
  exact (Tr.one (TrS.ret (Ex.name rfl))).run s ⟨g', F₂⟩
end
end Mine
open PySem PySem.W PySem.Calls PyProof.Rows
namespace Mine
set_option maxRecDepth 10000
/-- sorted texts are one list -/
theorem sortedS_pairwise : ∀ (l : List Str), sortedS l = true → l.Pairwise (fun a b => ¬ b.cps.toList < a.cps.toList)
  | [], _ => List.Pairwise.nil
  | [x], _ => by simp
  | x :: y :: r, h => by
    have h' : (!Spec.ltCps y.cps.toList x.cps.toList && risingS y r) = true := h
    rw [Bool.and_eq_true] at h'
    have hxy : ¬ y.cps.toList < x.cps.toList := by
      have := h'.1
      rw [ltCps_eq] at this
      simpa using this
    have ih := sortedS_pairwise (y :: r) h'.2
    rw [List.pairwise_cons]
    refine ⟨fun z hz => ?_, ih⟩
    rcases List.mem_cons.mp hz with rfl | hz
    · exact hxy
    · have hyz := (List.pairwise_cons.mp ih).1 z hz
      have h1 : x.cps.toList ≤ y.cps.toList := List.not_lt.mp hxy
      have h2 : y.cps.toList ≤ z.cps.toList := List.not_lt.mp hyz
      exact List.not_lt.mpr (List.le_trans h1 h2)
theorem sorted_one {xs a b : List Str} (ha : a.Perm xs) (hb : b.Perm xs) (h1 : sortedS a = true) (h2 : sortedS b = true) : a = b := by
  refine List.Perm.eq_of_pairwise (le := fun a b => ¬ b.cps.toList < a.cps.toList) (fun p q _ _ hpq hqp => ?_) (sortedS_pairwise a h1) (sortedS_pairwise b h2) (ha.trans hb.symm)
  have h1 : p.cps.toList ≤ q.cps.toList := List.not_lt.mp hpq
  have h2 : q.cps.toList ≤ p.cps.toList := List.not_lt.mp hqp
  have e := List.le_antisymm h1 h2
  obtain ⟨⟨p⟩⟩ := p
  obtain ⟨⟨q⟩⟩ := q
  simp only at e
  subst e
  rfl
noncomputable def envLaw (Lo a : Addr) (cd : Value) : Env := envOfC "law" (fdOf 95).scope Lo a cd
noncomputable def st (i : Nat) : Stmt := (bdOf 95).getD i default
section
variable {prog : Program} {w : World} {A : Around} {B : Bs} {env : Env} {Γ Γ' : Cx} {mu mu' : List (Addr × MP)} {n : Nat} {P : VP} {g : View} {s s' : Shared} {K : Shared → Prop}
/-- the script -/
def Sc (ns : List Int) : VP := ⟨fun v g => ∃ (a : Addr) (vs : List Value) (o : Obj) (k : Nat), v = .ref a ∧ g a = some o ∧ o.cls = .type "list" ∧ o.data = .seq vs.toArray k ∧ Are I g ns vs, fun k ⟨a, vs, o, j, e, h, c, d, r⟩ => ⟨a, vs, o, j, e, k _ _ h, c, d, r.mono k⟩⟩
theorem Ex.sliceSc {o : Expr} {hi : Expr} {p pos : Pos} {ns : List Int} {k : Nat} (ho : Ex prog w A env Γ mu o (Sc ns)) (h₂ : Ex prog w A env Γ mu hi (I k)) (hsz : ns.length ≤ 1000) (ht : ∀ v r, letTemporaryGo o v r = pure () := by intro _ _; rfl) :
    Ex prog w A env Γ mu (.Subscript o (.Slice none (some hi) none p) pos) (L I (ns.take k)) := fun r g R => .mk fun s hs hg => by
  refine wpAny_Subscript_list_slice (ev3 (Q := L I (ns.take k)) R ho .none (.some h₂) (fun v a b g' s' kk l o p₁ p₂ p₃ t => ?_) hs hg) ht
  obtain ⟨ad, vs, ob, m, rfl, ha, hc, hd, hv⟩ := p₁
  refine ⟨ad, vs.toArray, none, some (k : Int), rfl, ⟨ob, o _ _ ha, hc, m, hd⟩, by rw [sizeLine_eq]; simp [hv.length]; omega, isPart_of p₂, isPart_of p₃, t _ _ ?_⟩
  have hsz1 : s'.heap.get? (s'.heap.objs.size + 1) = none := by
    cases e : s'.heap.get? (s'.heap.objs.size + 1) with
    | none => rfl
    | some o' => exact absurd (Heap.lt_size e) (Nat.not_lt.mpr (Nat.le_succ _))
  refine Fin.new (a := s'.heap.objs.size + 1) ⟨_, _, rfl, fun _ _ e => Heap.get?_push_of_some _ (Heap.get?_push_of_some _ e)⟩ o hsz1 (o := { cls := .type "list", data := .seq (slicePick vs.toArray none (some (k : Int)) none) }) ?_ ?_
  · rw [← Heap.size_push s'.heap]; exact Heap.get?_push_size _ rfl
  · refine ⟨_, (slicePick vs.toArray none (some (k : Int)) none).toList, 0, rfl, by rw [ext_self]; rfl, (pick_upto k vs g' hv).mono (le_ext ?_)⟩
    cases e : g' (s'.heap.objs.size + 1) with
    | none => rfl
    | some o' => rw [o _ _ e] at hsz1; cases hsz1
/-- x, y = e, [] : y grows -/
theorem TrS.assignGrow {x y : Str} {e : Expr} {P₁ : VP} {k k' : Nat} {lpos vpos px py tpos pos : Pos} (hh : A.handled = none) (h : Ex prog w A env Γ mu e P₁) (hx : Kept env x) (hy : Kept env y) (hst : star? e = false := by rfl)
    (hs : swapsWithSole [.Tuple [.Name x px, .Name y py] k tpos] (.Tuple [e, .List [] lpos] k' vpos) pos.line env = pure false := by rfl) (hw : swappedStores [.Tuple [.Name x px, .Name y py] k tpos] (.Tuple [e, .List [] lpos] k' vpos) env = pure none := by rfl) :
    TrS prog w A B env P (At w B env Γ mu) (.Assign [.Tuple [.Name x px, .Name y py] k tpos] (.Tuple [e, .List [] lpos] k' vpos) pos) (fun s => ∃ l : Addr, At w B env ((y, C (.ref l)) :: (x, P₁) :: Γ) ((l, Ls []) :: mu) s) := by
  refine .mk ?_
  rintro s ⟨g, F⟩
  refine Assign_Tuple (wpAny_Tuple_spliced ?_) hs hw
  rw [backTo_of hst]
  refine Calls.spliced_cons (F.ev h fun v g₁ s₁ F₁ l₁ q₁ _ => ?_)
  rw [backTo_of rfl]
  refine Calls.spliced_cons (wpAny_List_spliced ?_)
  show wpAny _ A (Pure.pure []) _ _ _
  refine wpAny_pure ⟨by simp, ?_⟩
  show wpAny _ A (Pure.pure []) _ _ _
  refine wpAny_pure ⟨by rw [sizeLine_eq]; simp, ?_⟩
  dsimp only
  have F₂ : Fm w B env Γ ((s₁.heap.objs.size, Ls []) :: mu) g₁ { s₁ with heap := s₁.heap.push (listObj [] 0) } := F₁.alloc (keepsPush s₁ _) (fresh_size _) (Heap.get?_push_size _ rfl) ⟨[], 0, rfl, .nil⟩
  generalize hL : s₁.heap.objs.size = l at F₂ ⊢
  generalize hH : s₁.heap.push (listObj [] 0) = H at F₂
  have hH' : s₁.heap.push { cls := .type "list", data := .seq ([] : List Value).toArray } = H := hH
  rw [hH']
  have F₃ := F₂.finE (s' := { s₁ with heap := H.push (tupObj [v, .ref l]) }) ⟨_, s₁.toks, rfl, fun _ _ e => Heap.get?_push_of_some _ e⟩ (Le.refl _) (F₂.on.sub fun _ _ e => Heap.get?_push_of_some _ e) fun _ _ e => .inl e
  refine wpAny_assign_Tuple hh (items := #[v, .ref l]) ⟨tupObj [v, .ref l], Heap.get?_push_size _ rfl, rfl, 0, rfl⟩ rfl rfl fun h' he => ?_
  have hkk : ∀ b o, (H.push (tupObj [v, .ref l])).get? b = some o → h'.get? b = some o := fun b o e => he b o (Nat.ne_of_lt (Heap.lt_size e)) e
  have F₄ := F₃.finE (s' := { s₁ with heap := h' }) ⟨h', s₁.toks, rfl, hkk⟩ (Le.refl _) (F₃.on.sub hkk) fun _ _ e => .inl e
  show wpAny _ A (assignInOrder [PySem.assign (.Name x px) env, PySem.assign (.Name y py) env] [v, .ref l]) _ _ _
  refine wpAny_assignInOrder_more (wpAny_assign_Name (F₄.store hx q₁ fun h₅ tk₅ _ F₅ _ _ => ?_))
  refine wpAny_assignInOrder_more (wpAny_assign_Name (F₅.store hy (Q := C (.ref l)) rfl fun h₆ tk₆ _ F₆ _ _ => ?_))
  exact wpAny_assignInOrder_none ⟨l, g₁, F₆⟩
/-- x, y, z = [], [], {} : z is a table of tables -/
theorem TrS.assignStart {x y z : Str} {k k' : Nat} {l₁ l₂ l₃ vpos px py pz tpos pos : Pos} (hh : A.handled = none) (hx : Kept env x) (hy : Kept env y) (hz : Kept env z)
    (hs : swapsWithSole [.Tuple [.Name x px, .Name y py, .Name z pz] k tpos] (.Tuple [.List [] l₁, .List [] l₂, .Dict [] [] l₃] k' vpos) pos.line env = pure false := by rfl) (hw : swappedStores [.Tuple [.Name x px, .Name y py, .Name z pz] k tpos] (.Tuple [.List [] l₁, .List [] l₂, .Dict [] [] l₃] k' vpos) env = pure none := by rfl) :
    TrS prog w A B env P (At w B env Γ mu) (.Assign [.Tuple [.Name x px, .Name y py, .Name z pz] k tpos] (.Tuple [.List [] l₁, .List [] l₂, .Dict [] [] l₃] k' vpos) pos)
      (fun s => ∃ T : Addr, At w B env ((z, C (.ref T)) :: (y, L S []) :: (x, L S []) :: Γ) ((T, Tb prog w (fun _ => none) 0) :: mu) s) := by
  refine .mk ?_
  rintro s ⟨g, F⟩
  refine Assign_Tuple (wpAny_Tuple_spliced ?_) hs hw
  have e0 : ∀ p, Ex prog w A env Γ mu (.List [] p) (L S []) := fun p => Ex.list (P := S) .nil (by simp)
  rw [backTo_of rfl]
  refine Calls.spliced_cons (F.ev (e0 _) fun v g₁ s₁ F₁ l₁ q₁ _ => ?_)
  rw [backTo_of rfl]
  refine Calls.spliced_cons (F₁.ev (e0 _) fun u g₂ s₂ F₂ l₂ q₂ _ => ?_)
  rw [backTo_of rfl]
  refine Calls.spliced_cons (wpAny_Dict_empty ?_)
  show wpAny _ A (Pure.pure []) _ _ _
  refine wpAny_pure ⟨by rw [sizeLine_eq]; simp, ?_⟩
  dsimp only
  have F₃ : Fm w B env Γ ((s₂.heap.objs.size, Tb prog w (fun _ => none) 0) :: mu) g₂ { s₂ with heap := s₂.heap.push (dictO #[] 0) } := F₂.alloc (keepsPush s₂ _) (fresh_size _) (Heap.get?_push_size _ rfl)
    ⟨[], ⟨#[], 0, ⟨rfl, rfl, rfl⟩, rfl, fun _ he => by simp at he, .nil, List.nodup_nil⟩, Nat.le_refl _, fun z xs e => by cases e⟩
  generalize hL : s₂.heap.objs.size = T at F₃ ⊢
  generalize hH : s₂.heap.push (dictO #[] 0) = H at F₃
  have hH' : s₂.heap.push { cls := .type "dict", data := .dict #[] } = H := hH
  rw [hH']
  have F₄ := F₃.finE (s' := { s₂ with heap := H.push (tupObj [v, u, .ref T]) }) ⟨_, s₂.toks, rfl, fun _ _ e => Heap.get?_push_of_some _ e⟩ (Le.refl _) (F₃.on.sub fun _ _ e => Heap.get?_push_of_some _ e) fun _ _ e => .inl e
  refine wpAny_assign_Tuple hh (items := #[v, u, .ref T]) ⟨tupObj [v, u, .ref T], Heap.get?_push_size _ rfl, rfl, 0, rfl⟩ rfl rfl fun h' he => ?_
  have hkk : ∀ b o, (H.push (tupObj [v, u, .ref T])).get? b = some o → h'.get? b = some o := fun b o e => he b o (Nat.ne_of_lt (Heap.lt_size e)) e
  have F₅ := F₄.finE (s' := { s₂ with heap := h' }) ⟨h', s₂.toks, rfl, hkk⟩ (Le.refl _) (F₄.on.sub hkk) fun _ _ e => .inl e
  show wpAny _ A (assignInOrder [PySem.assign (.Name x px) env, PySem.assign (.Name y py) env, PySem.assign (.Name z pz) env] [v, u, .ref T]) _ _ _
  refine wpAny_assignInOrder_more (wpAny_assign_Name (F₅.store hx ((L S []).mono l₂ q₁) fun h₅ tk₅ _ F₆ _ _ => ?_))
  refine wpAny_assignInOrder_more (wpAny_assign_Name (F₆.store hy q₂ fun h₆ tk₆ _ F₇ _ _ => ?_))
  refine wpAny_assignInOrder_more (wpAny_assign_Name (F₇.store hz (Q := C (.ref T)) rfl fun h₇ tk₇ _ F₈ _ _ => ?_))
  exact wpAny_assignInOrder_none ⟨T, g₂, F₈⟩
/-- what is said of a changing object is made weaker -/
theorem At.muWeak {s : Shared} (x : At w B env Γ mu s) (hmu : mu'.map (·.1) = mu.map (·.1)) (h : ∀ b M, mu'.lookup b = some M → ∃ M', mu.lookup b = some M' ∧ ∀ o g, M'.is o g → M.is o g) : At w B env Γ mu' s := by
  obtain ⟨g, F⟩ := x
  have e0 : owned env mu' = owned env mu := by unfold owned; rw [hmu]
  refine ⟨g, { F with own := by rw [e0]; exact F.own, nod := by rw [e0]; exact F.nod, rd := ⟨F.rd.gd, F.rd.vars, fun b M e => ?_, F.rd.fn, F.rd.gl, F.rd.bl⟩ }⟩
  obtain ⟨M', h1, h2⟩ := h b M e
  obtain ⟨o, h3, h4⟩ := F.rd.muts b M' h1
  exact ⟨o, h3, h2 o g h4⟩
end
end Mine
open PySem PySem.W PySem.Calls PyProof.Rows
namespace Mine
set_option maxRecDepth 10000
def stepHZ (p : List Str × List Str) (v : Int) : List Str × List Str :=
  (p.1 ++ (if (!p.1.any (· == hostOf v)) = true then [hostOf v] else []), p.2 ++ (zonesOf (hostOf v)).filter fun z => !p.2.any (· == z))
def HZ (ns : List Int) : List Str × List Str := ns.foldl stepHZ ([], [])
theorem HZ_len (hok : ∀ v, okZ (hostOf v) = true) (ns : List Int) : (HZ ns).1.length ≤ ns.length ∧ (HZ ns).2.length ≤ 1000 * ns.length := by
  have gen : ∀ (ns : List Int) (p : List Str × List Str), (ns.foldl stepHZ p).1.length ≤ p.1.length + ns.length ∧ (ns.foldl stepHZ p).2.length ≤ p.2.length + 1000 * ns.length := by
    intro ns
    induction ns with
    | nil => intro p; simp
    | cons v r ih =>
      intro p
      have h1 := ih (stepHZ p v)
      have h2 : (stepHZ p v).1.length ≤ p.1.length + 1 := by
        unfold stepHZ; simp only [List.length_append]; split <;> simp
      have h3 : (stepHZ p v).2.length ≤ p.2.length + 1000 := by
        unfold stepHZ
        simp only [List.length_append]
        have h4 := List.length_filter_le (fun z => !p.2.any (· == z)) (zonesOf (hostOf v))
        have h5 : (zonesOf (hostOf v)).length ≤ 1000 := by
          have := hok v
          unfold okZ at this
          rw [Bool.and_eq_true, Bool.and_eq_true, decide_eq_true_eq, decide_eq_true_eq] at this
          have := this.1.2
          simp [zonesOf, upto]; omega
        omega
      simp only [List.foldl_cons, List.length_cons]
      omega
  have := gen ns ([], [])
  unfold HZ
  simpa using this
section
variable {prog : Program} {w : World} {A : Around} {B : Bs} {Lo a : Addr} {cd : Value} {mu : List (Addr × MP)} {n : Nat} {P : VP}
theorem seg_hosts {ns : List Int} {T : Addr} (hR : Rm A (n + 2)) (ht : prog.given.tree = none) (hok : ∀ v, okZ (hostOf v) = true) (hlen : ns.length ≤ 100) :
    TrS prog w A B (envLaw Lo a cd) P (At w B (envLaw Lo a cd) [("tables", C (.ref T)), ("zones", L S []), ("hosts", L S []), ("script", Sc ns)] mu) (st 1)
      (At w B (envLaw Lo a cd) [("hosts", L S (HZ (ns.take 9)).1), ("zones", L S (HZ (ns.take 9)).2), ("tables", C (.ref T)), ("script", Sc ns)] mu) := by
  have hend : HZ ((ns.take 9).take (ns.take 9).length) = HZ (ns.take 9) := by rw [List.take_length]
  rw [← hend]
  refine TrS.pre (TrS.for (xs := ns.take 9) (Pe := I) (V := L I (ns.take 9)) (fun i => [("hosts", L S (HZ ((ns.take 9).take i)).1), ("zones", L S (HZ ((ns.take 9).take i)).2), ("tables", C (.ref T)), ("script", Sc ns)]) (fun _ => mu) hR.hd
    (Ex.sliceSc (k := 9) (Ex.name rfl) Ex.int (by omega)) (iter_list hR.hd) (.inl rfl) (fun _ => rfl) ?_) (fun s h => h.shrink ⟨rfl, rfl, rfl, rfl, trivial⟩)
  intro B' i v hv
  have hi := (List.getElem?_eq_some_iff.mp hv).1
  have hst : HZ ((ns.take 9).take (i + 1)) = stepHZ (HZ ((ns.take 9).take i)) v := by
    unfold HZ
    rw [List.take_add_one, hv, List.foldl_append]; rfl
  have hl := HZ_len hok ((ns.take 9).take i)
  have hl2 : ((ns.take 9).take i).length ≤ 9 := by rw [List.length_take, List.length_take]; omega
  rw [hst]
  generalize HZ ((ns.take 9).take i) = p at *
  have hz5 : (zonesOf (hostOf v)).length ≤ 1000 := by
    have := hok v
    unfold okZ at this
    rw [Bool.and_eq_true, Bool.and_eq_true, decide_eq_true_eq, decide_eq_true_eq] at this
    have := this.1.2
    simp [zonesOf, upto]; omega
  have hokv := hok v
  unfold stepHZ
  generalize hh : hostOf v = h at *
  refine Tr.cons (TrS.assign ((Ex.callF fn85.isFn (Ex.glob g_85 rfl) (Exs.one (Ex.name rfl)) (call_host hR ht)).eq (by rw [hh] : S (hostOf v) = S h)) (.inl rfl)) ?_
  refine Tr.cons (TrS.assign (Q := L S (p.1 ++ if (!p.1.any (· == h)) = true then [h] else [])) (Ex.binop (Ex.name rfl) (Ex.ifexp (c := !p.1.any (· == h)) (P := L S (if (!p.1.any (· == h)) = true then [h] else [])) (Tst.cmp (Ex.name rfl) (Ex.name rfl) op_notInS)
    (fun hc => (Ex.list (P := S) (xs := [h]) (.cons (Ex.name rfl) .nil) (by rw [sizeLine_eq]; simp)).eq (by rw [hc]; rfl))
    (fun hc => (Ex.list (P := S) (xs := []) .nil (by rw [sizeLine_eq]; simp)).eq (by rw [hc]; rfl))) (op_addL (by rw [sizeLine_eq]; split <;> simp <;> omega))) (.inl rfl)) ?_
  refine Tr.cons (TrS.assign (Q := L S (p.2 ++ (zonesOf h).filter fun z => !p.2.any (· == z))) (Ex.binop (Ex.name rfl) (Ex.compSelf (xs := zonesOf h) (V := L S (zonesOf h)) (P := S) (fun z => !p.2.any (· == z)) (Γ' := [("zones", L S p.2)]) (cl := [("zones", Lo + 1)])
    (Ex.callF fn90.isFn (Ex.glob g_90 rfl) (Exs.one (Ex.name rfl)) (call_zones hR hokv)) (iter_list hR.hd) inj_S hz5 rfl ⟨⟨rfl, rfl, rfl, rfl⟩, trivial⟩
    (fun C z hz => Tst.cmp (Ex.name rfl) (Ex.name rfl) op_notInS)) (op_addL (by rw [sizeLine_eq]; have := List.length_filter_le (fun z => !p.2.any (· == z)) (zonesOf h); omega))) (.inr ⟨rfl, _, rfl⟩)) (Tr.nil fun s h => h.shrink ⟨rfl, rfl, rfl, rfl, trivial⟩)
end
end Mine
open PySem PySem.W PySem.Calls PyProof.Rows
namespace Mine
set_option maxRecDepth 10000
def ZL (z : Str) : List Str := (Txt.split z ".").drop 1
def hostOk (h : Str) : Bool := nowhere h && (Txt.lower h == h) && okZ h && decide (h.length ≤ 100) && decide (0 < h.length) && !(h == "") && !(Txt.item h 0 == ".") && !(Txt.item h (-1) == ".") && decide (0 ≤ Txt.find h ".") &&
  !(Txt.slice h (some (Txt.find h "." + 1)) none == "local") && PyData.strOk h
def zoneOk (z : Str) : Bool := nowhere z && (Txt.lower z == z) && decide (z.length ≤ 100) && Txt.startswith z "." && PyData.strOk z
structure HostOk (h : Str) : Prop where
  nw : nowhere h = true
  lo : Txt.lower h = h
  oz : okZ h = true
  le : h.length ≤ 100
  po : 0 < h.length
  ne : (h == "") = false
  i0 : (Txt.item h 0 == ".") = false
  i1 : (Txt.item h (-1) == ".") = false
  fd : 0 ≤ Txt.find h "."
  lc : (Txt.slice h (some (Txt.find h "." + 1)) none == "local") = false
  ok : PyData.strOk h = true
theorem hostOk_of {h : Str} (x : hostOk h = true) : HostOk h := by
  unfold hostOk at x
  simp only [Bool.and_eq_true, decide_eq_true_eq, Bool.not_eq_true', beq_iff_eq] at x
  obtain ⟨⟨⟨⟨⟨⟨⟨⟨⟨⟨a, b⟩, c⟩, d⟩, e⟩, f⟩, g⟩, i⟩, j⟩, k⟩, l⟩ := x
  exact ⟨a, b, c, d, e, f, g, i, j, k, l⟩
structure ZoneOk (z : Str) : Prop where
  nw : nowhere z = true
  lo : Txt.lower z = z
  le : z.length ≤ 100
  sw : Txt.startswith z "." = true
  ok : PyData.strOk z = true
theorem zoneOk_of {z : Str} (x : zoneOk z = true) : ZoneOk z := by
  unfold zoneOk at x
  simp only [Bool.and_eq_true, decide_eq_true_eq, beq_iff_eq] at x
  obtain ⟨⟨⟨⟨a, b⟩, c⟩, d⟩, e⟩ := x
  exact ⟨a, b, c, d, e⟩
/-- the hosts of a zone -/
def tab (hs : List Str) (z : Str) : List Str := hs.filter fun h => Txt.endswith h z
def tabsOf (hs l : List Str) (z : Str) : Option (List Str) := if (l.any (· == z)) = true then some (tab hs z) else none
section
variable {prog : Program} {w : World} {A : Around} {B : Bs} {env : Env} {Lo a : Addr} {cd : Value} {Γ Γ' : Cx} {mu mu' : List (Addr × MP)} {n : Nat} {P : VP} {s : Shared}
theorem Tb.weak {tabs tabs' : Str → Option (List Str)} {m m' : Nat} (h : ∀ y ys, tabs' y = some ys → tabs y = some ys) (hm : m ≤ m') : ∀ o g, (Tb prog w tabs m).is o g → (Tb prog w tabs' m').is o g :=
  fun o g ⟨kvs, a, b, c⟩ => ⟨kvs, a, Nat.le_trans b hm, fun z xs e => c z xs (h z xs e)⟩
theorem At.tabWeak {T : Addr} {tabs tabs' : Str → Option (List Str)} {m m' : Nat} (x : At w B env Γ [(T, Tb prog w tabs m)] s) (h : ∀ y ys, tabs' y = some ys → tabs y = some ys) (hm : m ≤ m') : At w B env Γ [(T, Tb prog w tabs' m')] s :=
  x.muWeak rfl fun b M e => by
    rcases lookup_cons_cases e with ⟨rfl, rfl⟩ | ⟨_, e⟩
    · exact ⟨_, by simp, Tb.weak h hm⟩
    · simp at e
theorem mu_one {T : Addr} {M₁ M₂ : MP} : ∀ b M, [(T, M₂)].lookup b = some M → (b = T ∧ M = M₂) ∨ (b ≠ T ∧ [(T, M₁)].lookup b = some M) := fun b M e => by
  rcases lookup_cons_cases e with ⟨rfl, rfl⟩ | ⟨_, e⟩
  · exact .inl ⟨rfl, rfl⟩
  · simp at e
theorem TrS.post {env : Env} {I K K' : Shared → Prop} {st : Stmt} (h : TrS prog w A B env P I st K) (k : ∀ s, K s → K' s) : TrS prog w A B env P I st K' := .mk fun s hs => wpAny_mono (h.run s hs) (fun f s' x => Fl.mono k x) fun _ _ f => f
theorem seg_tables {hs zs : List Str} {T : Addr} (hR : Rm A (n + 4)) (hok : ∀ h ∈ hs, HostOk h) (zok : ∀ z ∈ zs, ZoneOk z) (hn : hs.Nodup) (hl : hs.length ≤ 9) (zl : zs.length ≤ 40)
    (s3 : ∀ z ∈ zs, hs.filter (fun h => (zonesOf h).any (· == z)) = tab hs z) :
    TrS prog w A B (envLaw Lo a cd) P (At w B (envLaw Lo a cd) [("hosts", L S hs), ("zones", L S zs), ("tables", C (.ref T))] [(T, Tb prog w (fun _ => none) 0)]) (st 2)
      (At w B (envLaw Lo a cd) [("hosts", L S hs), ("zones", L S zs), ("tables", C (.ref T))] [(T, Tb prog w (tabsOf hs zs) (zs.length * 20))]) := by
  have hend : tabsOf hs (zs.take zs.length) = tabsOf hs zs := by rw [List.take_length]
  rw [← hend]
  have hR2 : Rm A (n + 2) := hR.down (by omega)
  refine TrS.pre (TrS.for (xs := zs) (Pe := S) (V := L S zs) (fun _ => [("hosts", L S hs), ("zones", L S zs), ("tables", C (.ref T))]) (fun i => [(T, Tb prog w (tabsOf hs (zs.take i)) (i * 20))]) hR.hd
    (Ex.name rfl) (iter_list hR.hd) (.inr ⟨rfl, _, rfl⟩) (fun _ => rfl) ?_) (fun s h => h.tabWeak (fun y ys e => by simp [tabsOf] at e) (Nat.zero_le _))
  intro B' i z hz
  have hi := (List.getElem?_eq_some_iff.mp hz).1
  have hzm := List.mem_of_getElem? hz
  have Z := zok z hzm
  generalize hq : tabsOf hs (zs.take i) = q
  refine Tr.cons (TrS.setTab (mu' := [(T, Tb prog w (fun y => if (y == z) = true then some [] else q y) (i * 20 + 1))]) (T := T) (tabs := q) (tabs' := fun y => if (y == z) = true then some [] else q y) (m := i * 20) (xs := []) (z := z) (by simp) (by omega) Ex.dict0 (Ex.name rfl) (Ex.name rfl)
    (fun y ys e => ?_) rfl mu_one) ?_
  · by_cases hy : y = z
    · subst hy; simp at e; exact .inl ⟨rfl, e.symm ▸ rfl⟩
    · have : (y == z) = false := beq_eq_false_iff_ne.mpr hy
      rw [this] at e; exact .inr ⟨hy, by simpa using e⟩
  refine Tr.cons (J := At w B' (envLaw Lo a cd) [("hosts", L S hs), ("zones", L S zs), ("tables", C (.ref T)), ("zone", S z)] [(T, Tb prog w (fun y => if (y == z) = true then some (tab hs z) else q y) (i * 20 + 1 + hs.length))]) (TrS.pre (K := _) (TrS.post (TrS.for (xs := hs) (Pe := S) (V := L S hs) (fun _ => [("hosts", L S hs), ("zones", L S zs), ("tables", C (.ref T)), ("zone", S z)])
    (fun j => [(T, Tb prog w (fun y => if (y == z) = true then some (tab (hs.take j) z) else q y) (i * 20 + 1 + j))]) hR.hd (Ex.name rfl) (iter_list hR.hd) (.inl rfl) (fun _ => rfl) ?_) (fun s h => by rw [List.take_length] at h; exact h)) (fun s h => ?_)) ?_
  · intro B'' j h hh
    have hj := (List.getElem?_eq_some_iff.mp hh).1
    have hhm := List.mem_of_getElem? hh
    have H := hok h hhm
    have hnb := not_before hn hh
    have htk := take_succ_get hh
    have htab : tab (hs.take (j + 1)) z = tab (hs.take j) z ++ (if Txt.endswith h z = true then [h] else []) := by
      unfold tab
      rw [htk, List.filter_append]
      congr 1
      by_cases he : Txt.endswith h z = true <;> simp [he]
    have hxl : (tab (hs.take j) z).length ≤ 9 := by
      have := List.length_filter_le (fun h => Txt.endswith h z) (hs.take j)
      rw [List.length_take] at this
      unfold tab; omega
    have hxn : (tab (hs.take j) z).Nodup := (hn.sublist (List.take_sublist _ _)).sublist List.filter_sublist
    have hxy : (tab (hs.take j) z).any (· == h) = false := by
      rw [List.any_eq_false] at hnb ⊢
      exact fun b hb => hnb b (List.mem_filter.mp hb).1
    rw [htab]
    generalize tab (hs.take j) z = xs at *
    refine Tr.one ?_
    cases he : Txt.endswith h z with
    | true =>
      refine TrS.if (c := true) (Tst.val ((Ex.callF fn57.isFn (Ex.glob g_57 rfl) (Exs.two (Ex.name rfl) (Ex.name rfl)) (call_match (n := n + 2) hR H.nw Z.nw H.lo Z.lo (by have := H.le; omega) (by have := Z.le; omega) Z.sw)).eq (by rw [he])) Tru.bool) (fun _ => ?_) fun h => nomatch h
      refine Tr.cons (TrS.setTab (mu' := [(T, Tb prog w (fun y => if (y == z) = true then some (xs ++ [h]) else q y) (i * 20 + 1 + j + 1))]) (T := T) (tabs := fun y => if (y == z) = true then some xs else q y) (tabs' := fun y => if (y == z) = true then some (xs ++ [h]) else q y) (m := i * 20 + 1 + j) (xs := xs ++ [h]) (z := z) (by simp) (by omega)
        (Ex.callF fn71.isFn (Ex.glob g_71 rfl) (Exs.two (Ex.sub (Ex.name rfl) (Ex.name rfl) (op_tab (T := T) (z := z) (xs := xs) (m := i * 20 + 1 + j) (tabs := fun y => if (y == z) = true then some xs else q y) (by simp) (by simp))) (Ex.dict1 hR (Ex.word (Ex.name rfl)) Ex.int)) (call_add (n := n + 3) hR hxn hxy (by omega)))
        (Ex.name rfl) (Ex.name rfl) (fun y ys e => ?_) rfl mu_one) (Tr.nil fun s h => h.shrink ⟨rfl, rfl, rfl, rfl, trivial⟩)
      by_cases hy : y = z
      · subst hy; simp at e; exact .inl ⟨rfl, e.symm⟩
      · have : (y == z) = false := beq_eq_false_iff_ne.mpr hy
        rw [this] at e; exact .inr ⟨hy, by simpa [this] using e⟩
    | false =>
      refine TrS.if (c := false) (Tst.val ((Ex.callF fn57.isFn (Ex.glob g_57 rfl) (Exs.two (Ex.name rfl) (Ex.name rfl)) (call_match (n := n + 2) hR H.nw Z.nw H.lo Z.lo (by have := H.le; omega) (by have := Z.le; omega) Z.sw)).eq (by rw [he])) Tru.bool) (fun h => nomatch h) fun _ => Tr.nil fun s h => ?_
      exact (h.shrink (Γ' := [("hosts", L S hs), ("zones", L S zs), ("tables", C (.ref T)), ("zone", S z)]) ⟨rfl, rfl, rfl, rfl, trivial⟩).tabWeak (fun y ys e => by simpa using e) (by omega)
  · exact (h.shrink (Γ' := [("hosts", L S hs), ("zones", L S zs), ("tables", C (.ref T)), ("zone", S z)]) ⟨rfl, rfl, rfl, rfl, trivial⟩).tabWeak (fun y ys e => by simpa [tab] using e) (by omega)
  refine Tr.cons (TrS.compSelf (xs := hs) (Pe := S) (V := L S hs) (fun h => (zonesOf h).any (· == z)) (Γ' := [("zone", S z)]) (cl := [("zone", Lo + 3)]) (Ex.name rfl) (iter_list hR.hd) inj_S (by omega) rfl ⟨⟨rfl, rfl, rfl, rfl⟩, trivial⟩
    (fun C h hm => Tst.cmp (Ex.name rfl) (Ex.callF fn90.isFn (Ex.glob g_90 rfl) (Exs.one (Ex.name rfl)) (call_zones (n := n + 3) hR (hok h hm).oz)) op_inS) rfl) ?_
  rw [s3 z hzm]
  have htl : (tab hs z).length ≤ 9 := Nat.le_trans (List.length_filter_le _ _) hl
  have hts : ∀ h ∈ tab hs z, PyData.strOk h = true := fun h hm => (hok h (List.mem_filter.mp hm).1).ok
  have hts' : tab hs z = (tab hs z).map id := by simp
  refine Tr.cons (TrS.if (c := false) (Tst.or2 (b := false) (c := false) (Tst.cmp
      (Ex.callB (Ex.blt g_sorted b_sorted rfl) (Exs.one (Ex.compMap (f := id) (xs := tab hs z) (P := Wd) (K := S) (V := Dv prog w (tab hs z)) (Γ' := []) (cl := []) (Ex.sub (Ex.name rfl) (Ex.name rfl) (op_tab (T := T) (z := z) (xs := tab hs z) (m := i * 20 + 1 + hs.length) (tabs := fun y => if (y == z) = true then some (tab hs z) else q y) (by simp) (by simp))) (iter_keys hR.hd) inj_W flat_S (by omega) rfl trivial
        (fun C h hm => Ex.sub (Ex.name rfl) Ex.int op_itemW))) (.one (op_sorted (by rw [List.map_id]; omega))))
      (Ex.callB (Ex.blt g_sorted b_sorted rfl) (Exs.one (Ex.name rfl)) (.one (op_sorted (by omega)))) (by rw [List.map_id]; exact op_neSrt hR hts (.refl _) fun a b h1 h2 h3 h4 => sorted_one h1 h2 h3 h4))
    fun _ => ?_) (fun h => nomatch h) fun _ => Tr.nil fun s h => ?_) (Tr.nil fun s h => h)
  · exact Tst.cmpE (Ex.callF fn78.isFn (Ex.glob g_78 rfl) (Exs.one (Ex.sub (Ex.name rfl) (Ex.name rfl) (op_tab (T := T) (z := z) (xs := tab hs z) (m := i * 20 + 1 + hs.length) (tabs := fun y => if (y == z) = true then some (tab hs z) else q y) (by simp) (by simp)))) (call_count (n := n + 3) hR))
      (Ex.callB (Ex.blt g_len b_len rfl) (Exs.one (Ex.name rfl)) (.one (op_lenL (P := S) (by omega)))) op_neI (by simp)
  · refine (h.shrink (Γ' := [("hosts", L S hs), ("zones", L S zs), ("tables", C (.ref T))]) ⟨rfl, rfl, rfl, trivial⟩).tabWeak (fun y ys e => ?_) (by rw [Nat.add_mul]; omega)
    rw [← hq]
    by_cases hy : y = z
    · subst hy
      have : (y == y) = true := beq_self_eq_true y
      rw [this, if_pos rfl]
      unfold tabsOf at e
      split at e
      · exact e
      · cases e
    · have hyz : (y == z) = false := beq_eq_false_iff_ne.mpr hy
      have hzy : (z == y) = false := beq_eq_false_iff_ne.mpr fun e => hy e.symm
      rw [hyz]
      unfold tabsOf at e ⊢
      rw [take_succ_get hz, List.any_append] at e
      simpa [hzy] using e
end
end Mine
open PySem PySem.W PySem.Calls PyProof.Rows
namespace Mine
set_option maxRecDepth 10000
section
variable {prog : Program} {w : World} {A : Around} {B : Bs} {env : Env} {Lo a : Addr} {cd : Value} {Γ Γ' : Cx} {mu mu' : List (Addr × MP)} {n : Nat} {P : VP} {s : Shared}
theorem tabs_in {hs zs : List Str} {z : Str} (h : z ∈ zs) : tabsOf hs zs z = some (tab hs z) := by
  unfold tabsOf
  rw [if_pos]
  rw [List.any_eq_true]
  exact ⟨z, h, beq_self_eq_true z⟩
theorem one_at {T : Addr} {M : MP} : [(T, M)].lookup T = some M := by simp
theorem tab_le {hs : List Str} {z : Str} : (tab hs z).length ≤ hs.length := List.length_filter_le _ _
/-- tables[..] -/
theorem Ex.tab {o i : Expr} {pos : Pos} {T : Addr} {m : Nat} {hs zs : List Str} {z : Str} (hT : mu.lookup T = some (Tb prog w (tabsOf hs zs) m)) (hz : z ∈ zs) (ho : Ex prog w A env Γ mu o (C (.ref T))) (hi : Ex prog w A env Γ mu i (S z))
    (hs1 : ∀ a u, subscripted i false (.ref a) (.str z u) = operate [.ref a, .str z u] (getItem (.ref a) (.str z u)) := by intro _ _; with_unfolding_all rfl) : Ex prog w A env Γ mu (.Subscript o i pos) (Dv prog w (Mine.tab hs z)) :=
  Ex.sub ho hi (op_tab hT (tabs_in hz) hs1)
/-- count_calls(tables[..]) -/
theorem Ex.cnt {o i : Expr} {np pos pos' : Pos} {T : Addr} {m : Nat} {hs zs : List Str} {z : Str} (hR : Rm A (n + 1)) (hg : env.kindOf "count_calls" = some .globalImplicit) (hT : mu.lookup T = some (Tb prog w (tabsOf hs zs) m)) (hz : z ∈ zs) (ho : Ex prog w A env Γ mu o (C (.ref T))) (hi : Ex prog w A env Γ mu i (S z))
    (hs1 : ∀ a u, subscripted i false (.ref a) (.str z u) = operate [.ref a, .str z u] (getItem (.ref a) (.str z u)) := by intro _ _; with_unfolding_all rfl) : Ex prog w A env Γ mu (.Call (.Name "count_calls" np) [.Subscript o i pos] [] pos') (I (Mine.tab hs z).length) :=
  Ex.callF fn78.isFn (Ex.glob g_78 hg) (Exs.one (Ex.tab hT hz ho hi hs1)) (call_count hR)
theorem Ex.ct {e : Expr} {apos pos pos' : Pos} {x : Str} (h : Ex prog w A env Γ mu e (S x)) (hb : ∀ m, attributeBase e (Str.ofString "count") env m = m := by intro _; rfl) (hline : (apos.endLine == pos.line) = true := by rfl) :
    Ex prog w A env Γ mu (.Call (.Attribute e (Str.ofString "count") apos) [.Constant (.str ".") 0 pos'] [] pos) (I (Txt.count x ".")) :=
  Ex.meth1 PySem.F.plainAttrs_str PySem.F.slot_str_count PySem.F.type_str_count h has_str Ex.str op_count hb hline
def G₃ (hs zs : List Str) (T : Addr) : Cx := [("hosts", L S hs), ("zones", L S zs), ("tables", C (.ref T))]
theorem seg_pairs {hs zs : List Str} {T : Addr} {m : Nat} (hR : Rm A (n + 4)) (hok : ∀ h ∈ hs, HostOk h) (hl : hs.length ≤ 9) (zl : zs.length ≤ 40)
    (s4 : ∀ z ∈ zs, ∀ y ∈ zs, (tab hs z).filter (fun h => (tab hs y).any (· == h)) = [] ∨ ((tab hs z).filter (fun h => (tab hs y).any (· == h))).length = min (tab hs z).length (tab hs y).length) :
    TrS prog w A B (envLaw Lo a cd) P (At w B (envLaw Lo a cd) [("hosts", L S hs), ("zones", L S zs), ("tables", C (.ref T))] [(T, Tb prog w (tabsOf hs zs) m)]) (st 3)
      (At w B (envLaw Lo a cd) [("hosts", L S hs), ("zones", L S zs), ("tables", C (.ref T))] [(T, Tb prog w (tabsOf hs zs) m)]) := by
  refine TrS.for (xs := zs) (Pe := S) (V := L S zs) (fun _ => [("hosts", L S hs), ("zones", L S zs), ("tables", C (.ref T))]) (fun _ => [(T, Tb prog w (tabsOf hs zs) m)]) hR.hd
    (Ex.name rfl) (iter_list hR.hd) (.inl rfl) (fun _ => rfl) ?_
  intro B' i z hz
  have hzm := List.mem_of_getElem? hz
  refine Tr.one (TrS.post (TrS.for (xs := zs) (Pe := S) (V := L S zs) (fun _ => [("one", S z), ("hosts", L S hs), ("zones", L S zs), ("tables", C (.ref T))]) (fun _ => [(T, Tb prog w (tabsOf hs zs) m)]) hR.hd
    (Ex.name rfl) (iter_list hR.hd) (.inr ⟨rfl, _, rfl⟩) (fun _ => rfl) ?_) fun s h => h.shrink ⟨rfl, rfl, rfl, trivial⟩)
  intro B'' j y hy
  have hym := List.mem_of_getElem? hy
  have l1 := tab_le (hs := hs) (z := z)
  have l2 := tab_le (hs := hs) (z := y)
  have q := s4 z hzm y hym
  have l3 : ((tab hs z).filter fun h => (tab hs y).any (· == h)).length ≤ (tab hs z).length := List.length_filter_le _ _
  have hts : ∀ h ∈ (tab hs z).filter (fun h => (tab hs y).any (· == h)), PyData.strOk h = true := fun h hm => (hok h (List.mem_filter.mp (List.mem_filter.mp hm).1).1).ok
  refine Tr.cons (TrS.compSelf (xs := tab hs z) (Pe := Wd) (V := Dv prog w (tab hs z)) (fun h => (tab hs y).any (· == h)) (Γ' := [("tables", C (.ref T)), ("other", S y)]) (cl := [("tables", Lo + 2), ("other", Lo + 4)])
    (Ex.tab one_at hzm (Ex.name rfl) (Ex.name rfl)) (iter_keys hR.hd) inj_W (by omega) rfl ⟨⟨rfl, rfl, rfl, rfl⟩, ⟨rfl, rfl, rfl, rfl⟩, trivial⟩
    (fun C h hm => Tst.cmp (Ex.name rfl) (Ex.tab one_at hym (Ex.name rfl) (Ex.name rfl)) (op_inD hR)) rfl) ?_
  generalize (tab hs z).filter (fun h => (tab hs y).any (· == h)) = b at *
  refine Tr.one (TrS.if (c := false) (Tst.eq (Tst.and2 (Tst.cmp (Ex.name rfl) (Ex.list (P := Wd) (xs := []) .nil (by rw [sizeLine_eq]; simp)) (op_neLW0 hR hts))
    fun hb => Tst.cmp (Ex.callB (Ex.blt g_len b_len rfl) (Exs.one (Ex.name rfl)) (.one (op_lenL (P := Wd) (by omega))))
      (Ex.callB (Ex.blt g_min b_min rfl) (Exs.two (Ex.callB (Ex.blt g_len b_len rfl) (Exs.one (Ex.tab one_at hzm (Ex.name rfl) (Ex.name rfl))) (.one (op_lenD (by omega)))) (Ex.callB (Ex.blt g_len b_len rfl) (Exs.one (Ex.tab one_at hym (Ex.name rfl) (Ex.name rfl))) (.one (op_lenD (by omega))))) (.two (op_min hR))) op_neI) ?_)
    (fun h => nomatch h) fun _ => Tr.nil fun s h => h.shrink ⟨rfl, rfl, rfl, rfl, trivial⟩)
  rcases q with rfl | q
  · simp
  · rw [q]
    have : (((min (tab hs z).length (tab hs y).length : Nat) : Int) != if ((tab hs y).length : Int) < (tab hs z).length then ((tab hs y).length : Int) else (tab hs z).length) = false := by
      rw [bne_eq_false_iff_eq]; split <;> omega
    rw [this, Bool.and_false]
/-- what lies one below -/
def underOf (zs : List Str) (z : Str) : List Str := zs.filter fun y => Txt.endswith y z && (Txt.count y "." == Txt.count z "." + 1)
def ownOf (hs : List Str) (z : Str) : List Str := hs.filter fun h => Txt.endswith h z && (Txt.count h "." == Txt.count z ".")
theorem seg_sums {hs zs : List Str} {T : Addr} {m : Nat} (hR : Rm A (n + 4)) (hl : hs.length ≤ 9) (zl : zs.length ≤ 40)
    (s5 : ∀ z ∈ zs, ((tab hs z).length : Int) = ((underOf zs z).map fun y => ((tab hs y).length : Int)).sum + (ownOf hs z).length) :
    TrS prog w A B (envLaw Lo a cd) P (At w B (envLaw Lo a cd) [("hosts", L S hs), ("zones", L S zs), ("tables", C (.ref T))] [(T, Tb prog w (tabsOf hs zs) m)]) (st 4)
      (At w B (envLaw Lo a cd) [("hosts", L S hs), ("zones", L S zs), ("tables", C (.ref T))] [(T, Tb prog w (tabsOf hs zs) m)]) := by
  refine TrS.for (xs := zs) (Pe := S) (V := L S zs) (fun _ => [("hosts", L S hs), ("zones", L S zs), ("tables", C (.ref T))]) (fun _ => [(T, Tb prog w (tabsOf hs zs) m)]) hR.hd
    (Ex.name rfl) (iter_list hR.hd) (.inr ⟨rfl, _, rfl⟩) (fun _ => rfl) ?_
  intro B' i z hz
  have hzm := List.mem_of_getElem? hz
  have q := s5 z hzm
  have l1 : (underOf zs z).length ≤ zs.length := List.length_filter_le _ _
  have l2 : (ownOf hs z).length ≤ hs.length := List.length_filter_le _ _
  refine Tr.cons (TrS.compSelf (xs := zs) (Pe := S) (V := L S zs) (fun y => Txt.endswith y z && (Txt.count y "." == Txt.count z "." + 1)) (Γ' := [("zone", S z)]) (cl := [("zone", Lo + 3)])
    (Ex.name rfl) (iter_list hR.hd) inj_S (by omega) rfl ⟨⟨rfl, rfl, rfl, rfl⟩, trivial⟩
    (fun C h hm => Tst.and2 (Tst.val (Ex.meth1 PySem.F.plainAttrs_str PySem.F.slot_str_endswith PySem.F.type_str_endswith (Ex.name rfl) has_str (Ex.name rfl) op_endswith) Tru.bool)
      fun _ => Tst.cmp (Ex.ct (Ex.name rfl)) (Ex.binop (Ex.ct (Ex.name rfl)) Ex.int op_add) op_eqI) rfl) ?_
  refine Tr.cons (TrS.compSelf (xs := hs) (Pe := S) (V := L S hs) (fun h => Txt.endswith h z && (Txt.count h "." == Txt.count z ".")) (Γ' := [("zone", S z)]) (cl := [("zone", Lo + 3)])
    (Ex.name rfl) (iter_list hR.hd) inj_S (by omega) rfl ⟨⟨rfl, rfl, rfl, rfl⟩, trivial⟩
    (fun C h hm => Tst.and2 (Tst.val (Ex.meth1 PySem.F.plainAttrs_str PySem.F.slot_str_endswith PySem.F.type_str_endswith (Ex.name rfl) has_str (Ex.name rfl) op_endswith) Tru.bool)
      fun _ => Tst.cmp (Ex.ct (Ex.name rfl)) (Ex.ct (Ex.name rfl)) op_eqI) rfl) ?_
  show Tr _ _ _ _ _ _ (At _ _ _ [("own", L S (ownOf hs z)), ("under", L S (underOf zs z)), ("zone", S z), ("hosts", L S hs), ("zones", L S zs), ("tables", C (.ref T))] _) _ _
  have hu : ∀ y ∈ underOf zs z, y ∈ zs := fun y h => (List.mem_filter.mp h).1
  generalize underOf zs z = u at *
  generalize ownOf hs z = o at *
  refine Tr.one (TrS.if (c := false) (Tst.cmpE (Ex.cnt (n := n + 3) hR rfl one_at hzm (Ex.name rfl) (Ex.name rfl))
    (Ex.binop (Ex.callB (Ex.blt g_sum b_sum rfl) (Exs.one (Ex.compMap (f := fun y => ((tab hs y).length : Int)) (xs := u) (P := S) (K := I) (V := L S u) (Γ' := [("tables", C (.ref T))]) (cl := [("tables", Lo + 2)])
        (Ex.name rfl) (iter_list hR.hd) inj_S flat_I (by omega) rfl ⟨⟨rfl, rfl, rfl, rfl⟩, trivial⟩
        (fun C y hm => Ex.cnt (n := n + 3) hR rfl one_at (hu y hm) (Ex.name rfl) (Ex.name rfl))))
      (.one (op_sum hR (fun x hx => by
        obtain ⟨y, _, rfl⟩ := List.mem_map.mp hx
        have := tab_le (hs := hs) (z := y)
        omega) (by simp; omega))))
    (Ex.callB (Ex.blt g_len b_len rfl) (Exs.one (Ex.name rfl)) (.one (op_lenL (P := S) (by omega)))) op_add) op_neI (by rw [bne_eq_false_iff_eq]; exact q))
    (fun h => nomatch h) fun _ => Tr.nil fun s h => h.shrink ⟨rfl, rfl, rfl, trivial⟩)
theorem seg_total {hs zs : List Str} {T : Addr} {m : Nat} (hR : Rm A (n + 4)) (hl : hs.length ≤ 9) (zl : zs.length ≤ 40) (hc : ∀ h ∈ hs, 0 ≤ Txt.count h "." ∧ Txt.count h "." ≤ 1000)
    (s6 : (zs.map fun y => ((tab hs y).length : Int)).sum = (hs.map fun h => Txt.count h ".").sum) :
    TrS prog w A B (envLaw Lo a cd) P (At w B (envLaw Lo a cd) [("hosts", L S hs), ("zones", L S zs), ("tables", C (.ref T))] [(T, Tb prog w (tabsOf hs zs) m)]) (st 5)
      (At w B (envLaw Lo a cd) [("hosts", L S hs), ("zones", L S zs), ("tables", C (.ref T))] [(T, Tb prog w (tabsOf hs zs) m)]) := by
  refine TrS.if (c := false) (Tst.cmpE (Ex.callB (Ex.blt g_sum b_sum rfl) (Exs.one (Ex.compMap (f := fun y => ((tab hs y).length : Int)) (xs := zs) (P := S) (K := I) (V := L S zs) (Γ' := [("tables", C (.ref T))]) (cl := [("tables", Lo + 2)])
        (Ex.name rfl) (iter_list hR.hd) inj_S flat_I (by omega) rfl ⟨⟨rfl, rfl, rfl, rfl⟩, trivial⟩
        (fun C y hm => Ex.cnt (n := n + 3) hR rfl one_at hm (Ex.name rfl) (Ex.name rfl))))
      (.one (op_sum hR (fun x hx => by
        obtain ⟨y, _, rfl⟩ := List.mem_map.mp hx
        have := tab_le (hs := hs) (z := y)
        omega) (by simp; omega))))
    (Ex.callB (Ex.blt g_sum b_sum rfl) (Exs.one (Ex.compMap (f := fun h => Txt.count h ".") (xs := hs) (P := S) (K := I) (V := L S hs) (Γ' := []) (cl := [])
        (Ex.name rfl) (iter_list hR.hd) inj_S flat_I (by omega) rfl trivial
        (fun C y hm => Ex.ct (Ex.name rfl))))
      (.one (op_sum hR (fun x hx => by
        obtain ⟨y, hy, rfl⟩ := List.mem_map.mp hx
        have := hc y hy
        omega) (by simp; omega)))) op_neI (by rw [bne_eq_false_iff_eq]; exact s6))
    (fun h => nomatch h) fun _ => Tr.nil fun s h => h
theorem seg_last {hs zs : List Str} {T : Addr} {m : Nat} {K : Shared → Prop} (hR : Rm A (n + 4)) (hok : ∀ h ∈ hs, HostOk h) (hl : hs.length ≤ 9) (s9 : hs ≠ [] → (".cc" : Str) ∈ zs ∧ (tab hs ".cc").length = hs.length) :
    TrS prog w A B (envLaw Lo a cd) (Mine.B true) (At w B (envLaw Lo a cd) [("hosts", L S hs), ("zones", L S zs), ("tables", C (.ref T))] [(T, Tb prog w (tabsOf hs zs) m)]) (st 7) K := by
  by_cases h0 : hs = []
  · subst h0
    refine TrS.ret (Ex.eq (Ex.or2 (b := true) (c := false) ((Ex.cmp (Ex.name rfl) (Ex.list (P := S) (xs := []) .nil (by rw [sizeLine_eq]; simp)) (op_eqLS hR (fun _ h => absurd h List.not_mem_nil) fun _ h => absurd h List.not_mem_nil)).eq rfl) fun h => nomatch h) rfl)
  · obtain ⟨hz, he⟩ := s9 h0
    refine TrS.ret (Ex.eq (Ex.or2 (Ex.cmp (Ex.name rfl) (Ex.list (P := S) (xs := []) .nil (by rw [sizeLine_eq]; simp)) (op_eqLS hR (fun h hm => (hok h hm).ok) fun _ h => absurd h List.not_mem_nil))
      fun h => Ex.cmp (Ex.cnt (z := ".cc") (n := n + 3) hR rfl one_at hz (Ex.name rfl) Ex.str) (Ex.callB (Ex.blt g_len b_len rfl) (Exs.one (Ex.name rfl)) (.one (op_lenL (P := S) (by omega)))) op_eqI) (by rw [he]; simp))
end
end Mine
open PySem PySem.W PySem.Calls PyProof.Rows
namespace Mine
set_option maxRecDepth 10000
def hereAt (h : Str) : Nat → Str
  | 0 => h
  | k + 1 => Txt.slice (reachT (hereAt h k)) (some 1) none
def chain (h : Str) (n : Nat) : List Str := (List.range n).map fun k => reachT (hereAt h k)
structure Chain (h : Str) (n : Nat) : Prop where
  le : n ≤ 5
  ok : ∀ k, k ≤ n → HostOk (hereAt h k)
  rl : ∀ k, k ≤ n → (reachT (hereAt h k)).length ≤ 1000
  ne : ∀ k, k < n → reachT (hereAt h k) ≠ hereAt h k
  eq : reachT (hereAt h n) = hereAt h n
section
variable {prog : Program} {w : World} {A : Around} {B : Bs} {env : Env} {Lo a : Addr} {cd : Value} {Γ Γ' : Cx} {mu mu' : List (Addr × MP)} {n : Nat} {P : VP} {s : Shared}
theorem chain_succ {h : Str} {k : Nat} : chain h (k + 1) = chain h k ++ [reachT (hereAt h k)] := by simp [chain, List.range_succ]
theorem chain_len {h : Str} {k : Nat} : (chain h k).length = k := by simp [chain]
theorem Tr.pull {I : Shared → Prop} {K : Shared → Prop} {p : Prop} {body : List Stmt} (h : p → Tr prog w A B env P I body K) : Tr prog w A B env P (fun s => p ∧ I s) body K := .mk fun s ⟨a, hs⟩ => (h a).run s hs
theorem At.two {l T : Addr} {M M' : MP} (x : At w B env Γ [(l, M), (T, M')] s) : l ≠ T := by
  obtain ⟨g, F⟩ := x
  have := F.nod
  unfold owned at this
  rw [List.nodup_cons] at this
  have h2 := (List.nodup_append.mp this.2).2.1
  intro e
  subst e
  simp at h2
/-- a list that grows no more -/
theorem At.still {x : Str} {l : Addr} {ys : List Str} (h : At w B env ((x, C (.ref l)) :: Γ) ((l, Ls ys) :: mu) s) : At w B env ((x, L S ys) :: Γ) mu s := by
  obtain ⟨g, F⟩ := h
  obtain ⟨o, g', F', l', ho, vs, k, rfl, ha⟩ := F.freeze
  refine ⟨g', F'.weaken fun y Q e => ?_⟩
  rw [List.lookup_cons] at e
  cases ey : y == x with
  | true =>
    rw [ey] at e
    have e' : L S ys = Q := by simpa using e
    subst e'
    refine ⟨C (.ref l), by rw [List.lookup_cons, ey], fun v hv => ?_⟩
    obtain rfl : v = .ref l := hv
    exact ⟨l, vs, k, rfl, ho, ha.mono l'⟩
  | false =>
    rw [ey] at e
    exact ⟨Q, by rw [List.lookup_cons, ey]; exact e, fun _ z => z⟩
theorem HostOk.reach {x : Str} (H : HostOk x) (hR : Rm A (n + 2)) : OpV prog w A env Γ mu (fun vs => call (.ref 64) vs) [S x] (S (reachT x)) :=
  call_reach hR H.nw (by have := H.le; omega) H.po H.ne H.i0 H.i1 H.fd H.lc
/-- a slice of a thing that no name holds -/
theorem sliceTemp {value : Expr} {lower upper : Option Expr} {p pos : Pos} {T id : String} {Q : Value → Shared → Prop} {E : Value → Shared → Prop}
    (hl : typeLookup (.type T) "__getitem__" = pure (some (.builtin id)))
    (h : wpAny (model prog w) A (eval value env) (fun o s₁ => wpAny (model prog w) A (eval (.Slice lower upper none p) env) (fun i s₂ => s₂.TypeIs o T ∧ wpAny (model prog w) A (getItem o i) Q E s₂) E s₁) E s) :
    wpAny (model prog w) A (eval (.Subscript value (.Slice lower upper none p) pos) env) Q E s := by
  exact Subscript_ (wpAny_mono h (fun o s₁ h₁ => wpAny_mono h₁ (fun i s₂ h₂ => tail_any h₂.1 hl h₂.2 (ops := [i, o]) rfl) fun _ _ x => x) fun _ _ x => x)
theorem Ex.sliceS' {o e : Expr} {p pos : Pos} {x : Str} {i : Int} (ho : Ex prog w A env Γ mu o (S x)) (hi : Ex prog w A env Γ mu e (I i)) (hsz : x.length ≤ sizeLine) :
    Ex prog w A env Γ mu (.Subscript o (.Slice (some e) none none p) pos) (S (Txt.slice x (some i) none)) := fun r g R => .mk fun s hs hg => by
  refine sliceTemp (T := "str") F.slot_str_getitem.lookup (wpAny_mono (ev3 (Q := S (Txt.slice x (some i) none)) (K := fun o vl vu s₃ => ∃ y t l u, o = .str y t ∧ vl = partValue l ∧ vu = partValue u ∧
        (sliceMade y t l u none).post (Fin g s (S (Txt.slice x (some i) none)).is) { s₃ with heap := s₃.heap.push { cls := .type "slice", data := .fields #[vl, vu, .none] } }) R ho (.some hi) .none (fun v a b g' s' kk l o p₁ p₂ p₃ t => ?_) hs hg)
    (fun o s₁ h₁ => wpAny_Slice (wpAny_mono h₁ (fun vl s₂ h₂ => wpAny_mono h₂ (fun vu s₃ h₃ => ?_) fun _ _ e => e) fun _ _ e => e)) fun _ _ e => e)
  · obtain ⟨tx, rfl⟩ := p₁
    obtain ⟨ti, rfl⟩ := p₂
    obtain rfl : b = .none := p₃
    refine ⟨x, tx, some (i, ti), none, rfl, rfl, rfl, post_val_or_str ⟨Nat.le_trans (Txt.slice_le x _ _) hsz, fun t' k => t _ _ ?_⟩⟩
    exact Fin.keeps ⟨_, _, rfl, fun _ _ e => Heap.get?_push_of_some _ e⟩ o ⟨_, rfl⟩
  · obtain ⟨y, t, l, u, rfl, rfl, rfl, hQ⟩ := h₃
    rw [evalPart_none]
    exact wpAny_pure ⟨typeIs_str _ y t, wpAny_getItem_str_slice (l := l) (u := u) (st := none) ⟨_, Heap.get?_push_size _ rfl, rfl, rfl⟩ rfl hQ⟩
theorem Ex.sliceL' {o : Expr} {lo hi : Option Expr} {p pos : Pos} {α : Type} {P : α → VP} {xs : List α} {i j : Option Int} {ys : List α} (ho : Ex prog w A env Γ mu o (L P xs)) (h₁ : ExP prog w A env Γ mu lo i) (h₂ : ExP prog w A env Γ mu hi j) (hsz : xs.length ≤ sizeLine)
    (hpick : ∀ (vs : List Value) (g : View), Are P g xs vs → Are P g ys (slicePick vs.toArray i j none).toList) :
    Ex prog w A env Γ mu (.Subscript o (.Slice lo hi none p) pos) (L P ys) := fun r g R => .mk fun s hs hg => by
  refine sliceTemp (T := "list") list_getitem_lookup (wpAny_mono (ev3 (Q := L P ys) (K := fun o vl vu s₃ => ∃ l items lo hi, o = .ref l ∧ s₃.heap.IsList l items ∧ items.size ≤ sizeLine ∧ IsPart vl lo ∧ IsPart vu hi ∧
        Fin g s (L P ys).is (.ref (s₃.heap.objs.size + 1)) { s₃ with heap := (s₃.heap.push { cls := .type "slice", data := .fields #[vl, vu, .none] }).push { cls := .type "list", data := .seq (slicePick items lo hi none) } }) R ho h₁ h₂ (fun v a b g' s' kk l o p₁ p₂ p₃ t => ?_) hs hg)
    (fun o s₁ h₁ => wpAny_Slice (wpAny_mono h₁ (fun vl s₂ h₂ => wpAny_mono h₂ (fun vu s₃ h₃ => ?_) fun _ _ e => e) fun _ _ e => e)) fun _ _ e => e)
  · obtain ⟨ad, vs, n, rfl, ha, hv⟩ := p₁
    refine ⟨ad, vs.toArray, i, j, rfl, isList_of (P := P) o ha, by simpa [hv.length] using hsz, isPart_of p₂, isPart_of p₃, t _ _ ?_⟩
    have hsz1 : s'.heap.get? (s'.heap.objs.size + 1) = none := by
      cases e : s'.heap.get? (s'.heap.objs.size + 1) with
      | none => rfl
      | some o' => exact absurd (Heap.lt_size e) (Nat.not_lt.mpr (Nat.le_succ _))
    refine Fin.new (a := s'.heap.objs.size + 1) ⟨_, _, rfl, fun _ _ e => Heap.get?_push_of_some _ (Heap.get?_push_of_some _ e)⟩ o hsz1 (o := { cls := .type "list", data := .seq (slicePick vs.toArray i j none) }) ?_ ?_
    · rw [← Heap.size_push s'.heap]; exact Heap.get?_push_size _ rfl
    · refine ⟨_, (slicePick vs.toArray i j none).toList, 0, rfl, by rw [ext_self]; rfl, (hpick vs g' hv).mono (le_ext ?_)⟩
      cases e : g' (s'.heap.objs.size + 1) with
      | none => rfl
      | some o' => rw [o _ _ e] at hsz1; cases hsz1
  · obtain ⟨l, items, lo, hi, rfl, hl, hsz, pl, pu, hQ⟩ := h₃
    rw [evalPart_none]
    refine wpAny_pure ⟨(hl.push _).typeIs, wpAny_getItem_list_slice (hl.push _) (Heap.IsSliceOf.new ..) pl pu .none (by simp) ?_ hsz⟩
    rw [Heap.size_push]
    exact hQ
theorem seg_reach {hs zs : List Str} {T : Addr} {m : Nat} (N : Str → Nat) (hR : Rm A (n + 4)) (hok : ∀ h ∈ hs, HostOk h) (zok : ∀ z ∈ zs, ZoneOk z) (hl : hs.length ≤ 9) (hch : ∀ h ∈ hs, Chain h (N h))
    (s7 : ∀ h ∈ hs, (zonesOf h).take ((zonesOf h).length - 1) = chain h (N h)) (s7' : ∀ h ∈ hs, ∀ y ∈ chain h (N h), y ∈ zs)
    (s8 : ∀ h ∈ hs, ∀ k, k + 1 < N h → (tab hs (reachT (hereAt h k))).length ≤ (tab hs (reachT (hereAt h (k + 1)))).length) :
    TrS prog w A B (envLaw Lo a cd) P (At w B (envLaw Lo a cd) [("hosts", L S hs), ("zones", L S zs), ("tables", C (.ref T))] [(T, Tb prog w (tabsOf hs zs) m)]) (st 6)
      (At w B (envLaw Lo a cd) [("hosts", L S hs), ("zones", L S zs), ("tables", C (.ref T))] [(T, Tb prog w (tabsOf hs zs) m)]) := by
  refine TrS.for (xs := hs) (Pe := S) (V := L S hs) (fun _ => [("hosts", L S hs), ("zones", L S zs), ("tables", C (.ref T))]) (fun _ => [(T, Tb prog w (tabsOf hs zs) m)]) hR.hd
    (Ex.name rfl) (iter_list hR.hd) (.inl rfl) (fun _ => rfl) ?_
  intro B' i h hh
  have hm := List.mem_of_getElem? hh
  have H := hok h hm
  have Ch := hch h hm
  have q7 := s7 h hm
  have q7' := s7' h hm
  have q8 := s8 h hm
  generalize N h = m' at *
  refine Tr.cons (TrS.post (TrS.assignGrow hR.hd (Ex.name (P := S h) rfl) (.inl rfl) (.inr ⟨rfl, _, rfl⟩)) fun s ⟨l, x⟩ => (⟨l, x.two, x⟩ : ∃ l : Addr, l ≠ T ∧ At w B' (envLaw Lo a cd) [("seen", C (.ref l)), ("here", S h), ("host", S h), ("hosts", L S hs), ("zones", L S zs), ("tables", C (.ref T))] [(l, Ls []), (T, Tb prog w (tabsOf hs zs) m)] s)) ?_
  refine Tr.some fun l => Tr.pull fun hlT => ?_
  have at1 : ∀ k, ([(l, Ls (chain h k)), (T, Tb prog w (tabsOf hs zs) m)] : List (Addr × MP)).lookup l = some (Ls (chain h k)) := fun k => by simp
  refine Tr.cons (J := At w B' (envLaw Lo a cd) [("seen", L S (chain h m')), ("host", S h), ("hosts", L S hs), ("zones", L S zs), ("tables", C (.ref T))] [(T, Tb prog w (tabsOf hs zs) m)])
    (TrS.post (TrS.while (N := m') hR.hd (fun k => At w B' (envLaw Lo a cd) [("seen", C (.ref l)), ("here", S (hereAt h k)), ("host", S h), ("hosts", L S hs), ("zones", L S zs), ("tables", C (.ref T))] [(l, Ls (chain h k)), (T, Tb prog w (tabsOf hs zs) m)])
      (fun k => [("seen", C (.ref l)), ("here", S (hereAt h k)), ("host", S h), ("hosts", L S hs), ("zones", L S zs), ("tables", C (.ref T))]) (fun k => [(l, Ls (chain h k)), (T, Tb prog w (tabsOf hs zs) m)]) (fun _ _ x => x) (fun _ _ x => x) (fun k hk => ?_) ?_ fun k hk => ?_) fun s x => ?_) ?_
  · have K := Ch.ok k (by omega)
    have hne := Ch.ne k hk
    refine Tst.eq (Tst.and2 (Tst.cmp (Ex.callF fn64.isFn (Ex.glob g_64 rfl) (Exs.one (Ex.name rfl)) (K.reach (n := n + 2) hR)) (Ex.name rfl) op_neS)
      fun _ => Tst.cmp (Ex.callB (Ex.blt g_len b_len rfl) (Exs.one (Ex.name rfl)) (.one (op_lenM (at1 k) (by rw [chain_len]; have := Ch.le; omega)))) Ex.int op_ltI) ?_
    rw [chain_len, Bool.and_eq_true]
    exact ⟨bne_iff_ne.mpr hne, decide_eq_true (by have := Ch.le; omega)⟩
  · have K := Ch.ok m' (Nat.le_refl _)
    refine Tst.eq (Tst.and2 (b := false) (c := false) (Tst.cmpE (Ex.callF fn64.isFn (Ex.glob g_64 rfl) (Exs.one (Ex.name rfl)) (K.reach (n := n + 2) hR)) (Ex.name rfl) op_neS (by rw [Ch.eq]; simp)) fun h => nomatch h) rfl
  · have K := Ch.ok k (by omega)
    have hrl := Ch.rl k (by omega)
    refine Tr.cons (TrS.append (mu' := [(l, Ls (chain h (k + 1))), (T, Tb prog w (tabsOf hs zs) m)]) (at1 k) (by rw [chain_len]; have := Ch.le; omega) (Ex.name rfl) (Ex.callF fn64.isFn (Ex.glob g_64 rfl) (Exs.one (Ex.name rfl)) (K.reach (n := n + 2) hR)) rfl (fun b M e => ?_)) ?_
    · rcases lookup_cons_cases e with ⟨rfl, rfl⟩ | ⟨hb, e⟩
      · exact .inl ⟨rfl, by rw [chain_succ]⟩
      · exact .inr ⟨hb, by rw [List.lookup_cons, beq_eq_false_iff_ne.mpr hb]; exact e⟩
    · refine Tr.cons (TrS.assign (Ex.sliceS' (Ex.callF fn64.isFn (Ex.glob g_64 rfl) (Exs.one (Ex.name rfl)) (K.reach (n := n + 2) hR)) Ex.int (by rw [sizeLine_eq]; omega)) (.inl rfl)) (Tr.nil fun s x => x.shrink ⟨rfl, rfl, rfl, rfl, rfl, rfl, trivial⟩)
  · exact (At.still (Γ := [("here", S (hereAt h m')), ("host", S h), ("hosts", L S hs), ("zones", L S zs), ("tables", C (.ref T))]) x).shrink ⟨rfl, rfl, rfl, rfl, rfl, trivial⟩
  have hzl : (zonesOf h).length ≤ 1000 := by
    have := H.oz
    unfold okZ at this
    rw [Bool.and_eq_true, Bool.and_eq_true, decide_eq_true_eq, decide_eq_true_eq] at this
    have := this.1.2
    simp [zonesOf, upto]; omega
  have hget : ∀ k, k < m' → (chain h m')[k]? = some (reachT (hereAt h k)) := fun k hk => by simp [chain, hk]
  have hmem : ∀ k, k < m' → reachT (hereAt h k) ∈ zs := fun k hk => q7' _ (List.mem_of_getElem? (hget k hk))
  have hml := Ch.le
  have hso : ∀ y ∈ chain h m', PyData.strOk y = true := fun y hy => (zok y (q7' y hy)).ok
  refine Tr.one (TrS.if (c := false) (Tst.or2 (b := false) (c := false) (Tst.cmpE (Ex.name rfl)
      (Ex.sliceL' (ys := chain h m') (Ex.callF fn90.isFn (Ex.glob g_90 rfl) (Exs.one (Ex.name rfl)) (call_zones (n := n + 3) hR H.oz)) .none (.some (Ex.neg Ex.int)) (by rw [sizeLine_eq]; omega) (by rw [← q7]; exact pick_butLast)) (op_neLS hR hso hso) (by simp))
    fun _ => Tst.cmpE (Ex.compSelf (xs := upto 1 m') (P := I) (V := Rg 1 m') (fun k => decide (((tab hs (reachT (hereAt h k.toNat))).length : Int) < (tab hs (reachT (hereAt h (k.toNat - 1)))).length)) (Γ' := [("seen", L S (chain h m')), ("tables", C (.ref T))]) (cl := [("tables", Lo + 2), ("seen", Lo + 5)])
        (Ex.callT (Ex.blt g_range b_range rfl) (Exs.two Ex.int (Ex.callB (Ex.blt g_len b_len rfl) (Exs.one (Ex.name rfl)) (.one (op_lenL (P := S) (by rw [chain_len]; omega))))) (.two (by rw [chain_len]; exact op_range2))) (iter_range hR.hd (by omega) (by omega)) inj_I (by simp [upto]; omega) rfl ⟨⟨rfl, rfl, rfl, rfl⟩, ⟨rfl, rfl, rfl, rfl⟩, trivial⟩
        (fun C k hk => by
          have hk' := mem_upto hk
          exact Tst.cmp (Ex.cnt (n := n + 3) hR rfl one_at (hmem (k.toNat - 1) (by omega)) (Ex.name rfl) (Ex.sub (Ex.name rfl) (Ex.binop (Ex.name rfl) Ex.int op_sub) (op_itemL (by omega) (by omega) (by rw [show (k - 1).toNat = k.toNat - 1 by omega]; exact hget _ (by omega)))))
            (Ex.cnt (n := n + 3) hR rfl one_at (hmem k.toNat (by omega)) (Ex.name rfl) (Ex.sub (Ex.name rfl) (Ex.name rfl) (op_itemL (by omega) (by omega) (hget _ (by omega))))) op_gtI))
      (Ex.list (P := I) (xs := []) .nil (by rw [sizeLine_eq]; simp)) (op_neLI0 hR) (by
        have : (upto 1 m').filter (fun k => decide (((tab hs (reachT (hereAt h k.toNat))).length : Int) < (tab hs (reachT (hereAt h (k.toNat - 1)))).length)) = [] := by
          rw [List.filter_eq_nil_iff]
          intro k hk
          have hk' := mem_upto hk
          have := q8 (k.toNat - 1) (by omega)
          rw [show k.toNat - 1 + 1 = k.toNat by omega] at this
          simp only [decide_eq_true_eq]
          omega
        rw [this]; simp)) (fun h => nomatch h) fun _ => Tr.nil fun s x => x.shrink ⟨rfl, rfl, rfl, trivial⟩)
end
end Mine
open PySem PySem.W PySem.Calls PyProof.Rows
namespace Mine
set_option maxRecDepth 10000
/-- what the texts say -/
structure Facts (hs zs : List Str) (N : Str → Nat) : Prop where
  hok : ∀ h ∈ hs, HostOk h
  zok : ∀ z ∈ zs, ZoneOk z
  hn : hs.Nodup
  hl : hs.length ≤ 9
  zl : zs.length ≤ 40
  s3 : ∀ z ∈ zs, hs.filter (fun h => (zonesOf h).any (· == z)) = tab hs z
  s4 : ∀ z ∈ zs, ∀ y ∈ zs, (tab hs z).filter (fun h => (tab hs y).any (· == h)) = [] ∨ ((tab hs z).filter (fun h => (tab hs y).any (· == h))).length = min (tab hs z).length (tab hs y).length
  s5 : ∀ z ∈ zs, ((tab hs z).length : Int) = ((underOf zs z).map fun y => ((tab hs y).length : Int)).sum + (ownOf hs z).length
  hc : ∀ h ∈ hs, 0 ≤ Txt.count h "." ∧ Txt.count h "." ≤ 1000
  s6 : (zs.map fun y => ((tab hs y).length : Int)).sum = (hs.map fun h => Txt.count h ".").sum
  hch : ∀ h ∈ hs, Chain h (N h)
  s7 : ∀ h ∈ hs, (zonesOf h).take ((zonesOf h).length - 1) = chain h (N h)
  s7' : ∀ h ∈ hs, ∀ y ∈ chain h (N h), y ∈ zs
  s8 : ∀ h ∈ hs, ∀ k, k + 1 < N h → (tab hs (reachT (hereAt h k))).length ≤ (tab hs (reachT (hereAt h (k + 1)))).length
  s9 : hs ≠ [] → (".cc" : Str) ∈ zs ∧ (tab hs ".cc").length = hs.length
section
variable {prog : Program} {w : World} {A : Around} {B : Bs} {Lo a : Addr} {cd : Value} {n : Nat}
theorem law_body {ns : List Int} {N : Str → Nat} (hR : Rm A (n + 4)) (ht : prog.given.tree = none) (hok : ∀ v, okZ (hostOf v) = true) (hlen : ns.length ≤ 100) (F : Facts (HZ (ns.take 9)).1 (HZ (ns.take 9)).2 N) :
    Tr prog w A B (envLaw Lo a cd) (Mine.B true) (At w B (envLaw Lo a cd) [("script", Sc ns)] []) (bdOf 95) (fun _ => False) := by
  have e : bdOf 95 = [st 0, st 1, st 2, st 3, st 4, st 5, st 6, st 7] := rfl
  rw [e]
  refine Tr.cons (TrS.assignStart (A := A) hR.hd (.inl rfl) (.inr ⟨rfl, _, rfl⟩) (.inr ⟨rfl, _, rfl⟩)) ?_
  refine Tr.some fun T => ?_
  refine Tr.cons (seg_hosts (n := n + 2) hR ht hok hlen) ?_
  generalize HZ (ns.take 9) = p at *
  refine Tr.cons (TrS.pre (seg_tables (n := n) hR F.hok F.zok F.hn F.hl F.zl F.s3) fun s x => x.shrink ⟨rfl, rfl, rfl, trivial⟩) ?_
  refine Tr.cons (seg_pairs (n := n) hR F.hok F.hl F.zl F.s4) ?_
  refine Tr.cons (seg_sums (n := n) hR F.hl F.zl F.s5) ?_
  refine Tr.cons (seg_total (n := n) hR F.hl F.zl F.hc F.s6) ?_
  refine Tr.cons (seg_reach N (n := n) hR F.hok F.zok F.hl F.hch F.s7 F.s7' F.s8) ?_
  exact Tr.one (seg_last (n := n) hR F.hok F.hl F.s9)
end
end Mine
open PySem PySem.W PySem.Calls PyProof.Rows
namespace Mine
set_option maxRecDepth 10000
def la : Str := ⟨#[97]⟩
def lb : Str := ⟨#[98]⟩
def lc : Str := ⟨#[99, 99]⟩
def labs : List Str := [la, lb, lc]
def words : Nat → List (List Str)
  | 0 => [[lc]]
  | k + 1 => (words k).flatMap fun l => labs.map fun x => x :: l
def hostW : List (List Str) := words 1 ++ words 2 ++ words 3 ++ words 4
def zoneW : List (List Str) := words 0 ++ words 1 ++ words 2 ++ words 3
def hostT (l : List Str) : Str := Txt.join "." l
def zoneT (l : List Str) : Str := "." ++ Txt.join "." l
def below (z h : List Str) : Bool := z.isSuffixOf h && decide (z.length < h.length)
theorem la_is : ("a" : Str) = la := by decide +kernel
theorem lb_is : ("b" : Str) = lb := by decide +kernel
theorem lc_is : ("cc" : Str) = lc := by decide +kernel
theorem dot_is : ("." : Str) = ⟨#[46]⟩ := by decide +kernel
def hostP0 : List (List Str × Str) := [
  ([la, lc], ⟨#[97, 46, 99, 99]⟩),
  ([lb, lc], ⟨#[98, 46, 99, 99]⟩),
  ([lc, lc], ⟨#[99, 99, 46, 99, 99]⟩),
  ([la, la, lc], ⟨#[97, 46, 97, 46, 99, 99]⟩),
  ([lb, la, lc], ⟨#[98, 46, 97, 46, 99, 99]⟩),
  ([lc, la, lc], ⟨#[99, 99, 46, 97, 46, 99, 99]⟩),
  ([la, lb, lc], ⟨#[97, 46, 98, 46, 99, 99]⟩),
  ([lb, lb, lc], ⟨#[98, 46, 98, 46, 99, 99]⟩),
  ([lc, lb, lc], ⟨#[99, 99, 46, 98, 46, 99, 99]⟩),
  ([la, lc, lc], ⟨#[97, 46, 99, 99, 46, 99, 99]⟩),
  ([lb, lc, lc], ⟨#[98, 46, 99, 99, 46, 99, 99]⟩),
  ([lc, lc, lc], ⟨#[99, 99, 46, 99, 99, 46, 99, 99]⟩),
  ([la, la, la, lc], ⟨#[97, 46, 97, 46, 97, 46, 99, 99]⟩),
  ([lb, la, la, lc], ⟨#[98, 46, 97, 46, 97, 46, 99, 99]⟩),
  ([lc, la, la, lc], ⟨#[99, 99, 46, 97, 46, 97, 46, 99, 99]⟩),
  ([la, lb, la, lc], ⟨#[97, 46, 98, 46, 97, 46, 99, 99]⟩),
  ([lb, lb, la, lc], ⟨#[98, 46, 98, 46, 97, 46, 99, 99]⟩),
  ([lc, lb, la, lc], ⟨#[99, 99, 46, 98, 46, 97, 46, 99, 99]⟩),
  ([la, lc, la, lc], ⟨#[97, 46, 99, 99, 46, 97, 46, 99, 99]⟩),
  ([lb, lc, la, lc], ⟨#[98, 46, 99, 99, 46, 97, 46, 99, 99]⟩)]
def hostP1 : List (List Str × Str) := [
  ([lc, lc, la, lc], ⟨#[99, 99, 46, 99, 99, 46, 97, 46, 99, 99]⟩),
  ([la, la, lb, lc], ⟨#[97, 46, 97, 46, 98, 46, 99, 99]⟩),
  ([lb, la, lb, lc], ⟨#[98, 46, 97, 46, 98, 46, 99, 99]⟩),
  ([lc, la, lb, lc], ⟨#[99, 99, 46, 97, 46, 98, 46, 99, 99]⟩),
  ([la, lb, lb, lc], ⟨#[97, 46, 98, 46, 98, 46, 99, 99]⟩),
  ([lb, lb, lb, lc], ⟨#[98, 46, 98, 46, 98, 46, 99, 99]⟩),
  ([lc, lb, lb, lc], ⟨#[99, 99, 46, 98, 46, 98, 46, 99, 99]⟩),
  ([la, lc, lb, lc], ⟨#[97, 46, 99, 99, 46, 98, 46, 99, 99]⟩),
  ([lb, lc, lb, lc], ⟨#[98, 46, 99, 99, 46, 98, 46, 99, 99]⟩),
  ([lc, lc, lb, lc], ⟨#[99, 99, 46, 99, 99, 46, 98, 46, 99, 99]⟩),
  ([la, la, lc, lc], ⟨#[97, 46, 97, 46, 99, 99, 46, 99, 99]⟩),
  ([lb, la, lc, lc], ⟨#[98, 46, 97, 46, 99, 99, 46, 99, 99]⟩),
  ([lc, la, lc, lc], ⟨#[99, 99, 46, 97, 46, 99, 99, 46, 99, 99]⟩),
  ([la, lb, lc, lc], ⟨#[97, 46, 98, 46, 99, 99, 46, 99, 99]⟩),
  ([lb, lb, lc, lc], ⟨#[98, 46, 98, 46, 99, 99, 46, 99, 99]⟩),
  ([lc, lb, lc, lc], ⟨#[99, 99, 46, 98, 46, 99, 99, 46, 99, 99]⟩),
  ([la, lc, lc, lc], ⟨#[97, 46, 99, 99, 46, 99, 99, 46, 99, 99]⟩),
  ([lb, lc, lc, lc], ⟨#[98, 46, 99, 99, 46, 99, 99, 46, 99, 99]⟩),
  ([lc, lc, lc, lc], ⟨#[99, 99, 46, 99, 99, 46, 99, 99, 46, 99, 99]⟩),
  ([la, la, la, la, lc], ⟨#[97, 46, 97, 46, 97, 46, 97, 46, 99, 99]⟩)]
def hostP2 : List (List Str × Str) := [
  ([lb, la, la, la, lc], ⟨#[98, 46, 97, 46, 97, 46, 97, 46, 99, 99]⟩),
  ([lc, la, la, la, lc], ⟨#[99, 99, 46, 97, 46, 97, 46, 97, 46, 99, 99]⟩),
  ([la, lb, la, la, lc], ⟨#[97, 46, 98, 46, 97, 46, 97, 46, 99, 99]⟩),
  ([lb, lb, la, la, lc], ⟨#[98, 46, 98, 46, 97, 46, 97, 46, 99, 99]⟩),
  ([lc, lb, la, la, lc], ⟨#[99, 99, 46, 98, 46, 97, 46, 97, 46, 99, 99]⟩),
  ([la, lc, la, la, lc], ⟨#[97, 46, 99, 99, 46, 97, 46, 97, 46, 99, 99]⟩),
  ([lb, lc, la, la, lc], ⟨#[98, 46, 99, 99, 46, 97, 46, 97, 46, 99, 99]⟩),
  ([lc, lc, la, la, lc], ⟨#[99, 99, 46, 99, 99, 46, 97, 46, 97, 46, 99, 99]⟩),
  ([la, la, lb, la, lc], ⟨#[97, 46, 97, 46, 98, 46, 97, 46, 99, 99]⟩),
  ([lb, la, lb, la, lc], ⟨#[98, 46, 97, 46, 98, 46, 97, 46, 99, 99]⟩),
  ([lc, la, lb, la, lc], ⟨#[99, 99, 46, 97, 46, 98, 46, 97, 46, 99, 99]⟩),
  ([la, lb, lb, la, lc], ⟨#[97, 46, 98, 46, 98, 46, 97, 46, 99, 99]⟩),
  ([lb, lb, lb, la, lc], ⟨#[98, 46, 98, 46, 98, 46, 97, 46, 99, 99]⟩),
  ([lc, lb, lb, la, lc], ⟨#[99, 99, 46, 98, 46, 98, 46, 97, 46, 99, 99]⟩),
  ([la, lc, lb, la, lc], ⟨#[97, 46, 99, 99, 46, 98, 46, 97, 46, 99, 99]⟩),
  ([lb, lc, lb, la, lc], ⟨#[98, 46, 99, 99, 46, 98, 46, 97, 46, 99, 99]⟩),
  ([lc, lc, lb, la, lc], ⟨#[99, 99, 46, 99, 99, 46, 98, 46, 97, 46, 99, 99]⟩),
  ([la, la, lc, la, lc], ⟨#[97, 46, 97, 46, 99, 99, 46, 97, 46, 99, 99]⟩),
  ([lb, la, lc, la, lc], ⟨#[98, 46, 97, 46, 99, 99, 46, 97, 46, 99, 99]⟩),
  ([lc, la, lc, la, lc], ⟨#[99, 99, 46, 97, 46, 99, 99, 46, 97, 46, 99, 99]⟩)]
def hostP3 : List (List Str × Str) := [
  ([la, lb, lc, la, lc], ⟨#[97, 46, 98, 46, 99, 99, 46, 97, 46, 99, 99]⟩),
  ([lb, lb, lc, la, lc], ⟨#[98, 46, 98, 46, 99, 99, 46, 97, 46, 99, 99]⟩),
  ([lc, lb, lc, la, lc], ⟨#[99, 99, 46, 98, 46, 99, 99, 46, 97, 46, 99, 99]⟩),
  ([la, lc, lc, la, lc], ⟨#[97, 46, 99, 99, 46, 99, 99, 46, 97, 46, 99, 99]⟩),
  ([lb, lc, lc, la, lc], ⟨#[98, 46, 99, 99, 46, 99, 99, 46, 97, 46, 99, 99]⟩),
  ([lc, lc, lc, la, lc], ⟨#[99, 99, 46, 99, 99, 46, 99, 99, 46, 97, 46, 99, 99]⟩),
  ([la, la, la, lb, lc], ⟨#[97, 46, 97, 46, 97, 46, 98, 46, 99, 99]⟩),
  ([lb, la, la, lb, lc], ⟨#[98, 46, 97, 46, 97, 46, 98, 46, 99, 99]⟩),
  ([lc, la, la, lb, lc], ⟨#[99, 99, 46, 97, 46, 97, 46, 98, 46, 99, 99]⟩),
  ([la, lb, la, lb, lc], ⟨#[97, 46, 98, 46, 97, 46, 98, 46, 99, 99]⟩),
  ([lb, lb, la, lb, lc], ⟨#[98, 46, 98, 46, 97, 46, 98, 46, 99, 99]⟩),
  ([lc, lb, la, lb, lc], ⟨#[99, 99, 46, 98, 46, 97, 46, 98, 46, 99, 99]⟩),
  ([la, lc, la, lb, lc], ⟨#[97, 46, 99, 99, 46, 97, 46, 98, 46, 99, 99]⟩),
  ([lb, lc, la, lb, lc], ⟨#[98, 46, 99, 99, 46, 97, 46, 98, 46, 99, 99]⟩),
  ([lc, lc, la, lb, lc], ⟨#[99, 99, 46, 99, 99, 46, 97, 46, 98, 46, 99, 99]⟩),
  ([la, la, lb, lb, lc], ⟨#[97, 46, 97, 46, 98, 46, 98, 46, 99, 99]⟩),
  ([lb, la, lb, lb, lc], ⟨#[98, 46, 97, 46, 98, 46, 98, 46, 99, 99]⟩),
  ([lc, la, lb, lb, lc], ⟨#[99, 99, 46, 97, 46, 98, 46, 98, 46, 99, 99]⟩),
  ([la, lb, lb, lb, lc], ⟨#[97, 46, 98, 46, 98, 46, 98, 46, 99, 99]⟩),
  ([lb, lb, lb, lb, lc], ⟨#[98, 46, 98, 46, 98, 46, 98, 46, 99, 99]⟩)]
def hostP4 : List (List Str × Str) := [
  ([lc, lb, lb, lb, lc], ⟨#[99, 99, 46, 98, 46, 98, 46, 98, 46, 99, 99]⟩),
  ([la, lc, lb, lb, lc], ⟨#[97, 46, 99, 99, 46, 98, 46, 98, 46, 99, 99]⟩),
  ([lb, lc, lb, lb, lc], ⟨#[98, 46, 99, 99, 46, 98, 46, 98, 46, 99, 99]⟩),
  ([lc, lc, lb, lb, lc], ⟨#[99, 99, 46, 99, 99, 46, 98, 46, 98, 46, 99, 99]⟩),
  ([la, la, lc, lb, lc], ⟨#[97, 46, 97, 46, 99, 99, 46, 98, 46, 99, 99]⟩),
  ([lb, la, lc, lb, lc], ⟨#[98, 46, 97, 46, 99, 99, 46, 98, 46, 99, 99]⟩),
  ([lc, la, lc, lb, lc], ⟨#[99, 99, 46, 97, 46, 99, 99, 46, 98, 46, 99, 99]⟩),
  ([la, lb, lc, lb, lc], ⟨#[97, 46, 98, 46, 99, 99, 46, 98, 46, 99, 99]⟩),
  ([lb, lb, lc, lb, lc], ⟨#[98, 46, 98, 46, 99, 99, 46, 98, 46, 99, 99]⟩),
  ([lc, lb, lc, lb, lc], ⟨#[99, 99, 46, 98, 46, 99, 99, 46, 98, 46, 99, 99]⟩),
  ([la, lc, lc, lb, lc], ⟨#[97, 46, 99, 99, 46, 99, 99, 46, 98, 46, 99, 99]⟩),
  ([lb, lc, lc, lb, lc], ⟨#[98, 46, 99, 99, 46, 99, 99, 46, 98, 46, 99, 99]⟩),
  ([lc, lc, lc, lb, lc], ⟨#[99, 99, 46, 99, 99, 46, 99, 99, 46, 98, 46, 99, 99]⟩),
  ([la, la, la, lc, lc], ⟨#[97, 46, 97, 46, 97, 46, 99, 99, 46, 99, 99]⟩),
  ([lb, la, la, lc, lc], ⟨#[98, 46, 97, 46, 97, 46, 99, 99, 46, 99, 99]⟩),
  ([lc, la, la, lc, lc], ⟨#[99, 99, 46, 97, 46, 97, 46, 99, 99, 46, 99, 99]⟩),
  ([la, lb, la, lc, lc], ⟨#[97, 46, 98, 46, 97, 46, 99, 99, 46, 99, 99]⟩),
  ([lb, lb, la, lc, lc], ⟨#[98, 46, 98, 46, 97, 46, 99, 99, 46, 99, 99]⟩),
  ([lc, lb, la, lc, lc], ⟨#[99, 99, 46, 98, 46, 97, 46, 99, 99, 46, 99, 99]⟩),
  ([la, lc, la, lc, lc], ⟨#[97, 46, 99, 99, 46, 97, 46, 99, 99, 46, 99, 99]⟩)]
def hostP5 : List (List Str × Str) := [
  ([lb, lc, la, lc, lc], ⟨#[98, 46, 99, 99, 46, 97, 46, 99, 99, 46, 99, 99]⟩),
  ([lc, lc, la, lc, lc], ⟨#[99, 99, 46, 99, 99, 46, 97, 46, 99, 99, 46, 99, 99]⟩),
  ([la, la, lb, lc, lc], ⟨#[97, 46, 97, 46, 98, 46, 99, 99, 46, 99, 99]⟩),
  ([lb, la, lb, lc, lc], ⟨#[98, 46, 97, 46, 98, 46, 99, 99, 46, 99, 99]⟩),
  ([lc, la, lb, lc, lc], ⟨#[99, 99, 46, 97, 46, 98, 46, 99, 99, 46, 99, 99]⟩),
  ([la, lb, lb, lc, lc], ⟨#[97, 46, 98, 46, 98, 46, 99, 99, 46, 99, 99]⟩),
  ([lb, lb, lb, lc, lc], ⟨#[98, 46, 98, 46, 98, 46, 99, 99, 46, 99, 99]⟩),
  ([lc, lb, lb, lc, lc], ⟨#[99, 99, 46, 98, 46, 98, 46, 99, 99, 46, 99, 99]⟩),
  ([la, lc, lb, lc, lc], ⟨#[97, 46, 99, 99, 46, 98, 46, 99, 99, 46, 99, 99]⟩),
  ([lb, lc, lb, lc, lc], ⟨#[98, 46, 99, 99, 46, 98, 46, 99, 99, 46, 99, 99]⟩),
  ([lc, lc, lb, lc, lc], ⟨#[99, 99, 46, 99, 99, 46, 98, 46, 99, 99, 46, 99, 99]⟩),
  ([la, la, lc, lc, lc], ⟨#[97, 46, 97, 46, 99, 99, 46, 99, 99, 46, 99, 99]⟩),
  ([lb, la, lc, lc, lc], ⟨#[98, 46, 97, 46, 99, 99, 46, 99, 99, 46, 99, 99]⟩),
  ([lc, la, lc, lc, lc], ⟨#[99, 99, 46, 97, 46, 99, 99, 46, 99, 99, 46, 99, 99]⟩),
  ([la, lb, lc, lc, lc], ⟨#[97, 46, 98, 46, 99, 99, 46, 99, 99, 46, 99, 99]⟩),
  ([lb, lb, lc, lc, lc], ⟨#[98, 46, 98, 46, 99, 99, 46, 99, 99, 46, 99, 99]⟩),
  ([lc, lb, lc, lc, lc], ⟨#[99, 99, 46, 98, 46, 99, 99, 46, 99, 99, 46, 99, 99]⟩),
  ([la, lc, lc, lc, lc], ⟨#[97, 46, 99, 99, 46, 99, 99, 46, 99, 99, 46, 99, 99]⟩),
  ([lb, lc, lc, lc, lc], ⟨#[98, 46, 99, 99, 46, 99, 99, 46, 99, 99, 46, 99, 99]⟩),
  ([lc, lc, lc, lc, lc], ⟨#[99, 99, 46, 99, 99, 46, 99, 99, 46, 99, 99, 46, 99, 99]⟩)]
def zoneP0 : List (List Str × Str) := [
  ([lc], ⟨#[46, 99, 99]⟩),
  ([la, lc], ⟨#[46, 97, 46, 99, 99]⟩),
  ([lb, lc], ⟨#[46, 98, 46, 99, 99]⟩),
  ([lc, lc], ⟨#[46, 99, 99, 46, 99, 99]⟩),
  ([la, la, lc], ⟨#[46, 97, 46, 97, 46, 99, 99]⟩),
  ([lb, la, lc], ⟨#[46, 98, 46, 97, 46, 99, 99]⟩),
  ([lc, la, lc], ⟨#[46, 99, 99, 46, 97, 46, 99, 99]⟩),
  ([la, lb, lc], ⟨#[46, 97, 46, 98, 46, 99, 99]⟩),
  ([lb, lb, lc], ⟨#[46, 98, 46, 98, 46, 99, 99]⟩),
  ([lc, lb, lc], ⟨#[46, 99, 99, 46, 98, 46, 99, 99]⟩),
  ([la, lc, lc], ⟨#[46, 97, 46, 99, 99, 46, 99, 99]⟩),
  ([lb, lc, lc], ⟨#[46, 98, 46, 99, 99, 46, 99, 99]⟩),
  ([lc, lc, lc], ⟨#[46, 99, 99, 46, 99, 99, 46, 99, 99]⟩),
  ([la, la, la, lc], ⟨#[46, 97, 46, 97, 46, 97, 46, 99, 99]⟩),
  ([lb, la, la, lc], ⟨#[46, 98, 46, 97, 46, 97, 46, 99, 99]⟩),
  ([lc, la, la, lc], ⟨#[46, 99, 99, 46, 97, 46, 97, 46, 99, 99]⟩),
  ([la, lb, la, lc], ⟨#[46, 97, 46, 98, 46, 97, 46, 99, 99]⟩),
  ([lb, lb, la, lc], ⟨#[46, 98, 46, 98, 46, 97, 46, 99, 99]⟩),
  ([lc, lb, la, lc], ⟨#[46, 99, 99, 46, 98, 46, 97, 46, 99, 99]⟩),
  ([la, lc, la, lc], ⟨#[46, 97, 46, 99, 99, 46, 97, 46, 99, 99]⟩)]
def zoneP1 : List (List Str × Str) := [
  ([lb, lc, la, lc], ⟨#[46, 98, 46, 99, 99, 46, 97, 46, 99, 99]⟩),
  ([lc, lc, la, lc], ⟨#[46, 99, 99, 46, 99, 99, 46, 97, 46, 99, 99]⟩),
  ([la, la, lb, lc], ⟨#[46, 97, 46, 97, 46, 98, 46, 99, 99]⟩),
  ([lb, la, lb, lc], ⟨#[46, 98, 46, 97, 46, 98, 46, 99, 99]⟩),
  ([lc, la, lb, lc], ⟨#[46, 99, 99, 46, 97, 46, 98, 46, 99, 99]⟩),
  ([la, lb, lb, lc], ⟨#[46, 97, 46, 98, 46, 98, 46, 99, 99]⟩),
  ([lb, lb, lb, lc], ⟨#[46, 98, 46, 98, 46, 98, 46, 99, 99]⟩),
  ([lc, lb, lb, lc], ⟨#[46, 99, 99, 46, 98, 46, 98, 46, 99, 99]⟩),
  ([la, lc, lb, lc], ⟨#[46, 97, 46, 99, 99, 46, 98, 46, 99, 99]⟩),
  ([lb, lc, lb, lc], ⟨#[46, 98, 46, 99, 99, 46, 98, 46, 99, 99]⟩),
  ([lc, lc, lb, lc], ⟨#[46, 99, 99, 46, 99, 99, 46, 98, 46, 99, 99]⟩),
  ([la, la, lc, lc], ⟨#[46, 97, 46, 97, 46, 99, 99, 46, 99, 99]⟩),
  ([lb, la, lc, lc], ⟨#[46, 98, 46, 97, 46, 99, 99, 46, 99, 99]⟩),
  ([lc, la, lc, lc], ⟨#[46, 99, 99, 46, 97, 46, 99, 99, 46, 99, 99]⟩),
  ([la, lb, lc, lc], ⟨#[46, 97, 46, 98, 46, 99, 99, 46, 99, 99]⟩),
  ([lb, lb, lc, lc], ⟨#[46, 98, 46, 98, 46, 99, 99, 46, 99, 99]⟩),
  ([lc, lb, lc, lc], ⟨#[46, 99, 99, 46, 98, 46, 99, 99, 46, 99, 99]⟩),
  ([la, lc, lc, lc], ⟨#[46, 97, 46, 99, 99, 46, 99, 99, 46, 99, 99]⟩),
  ([lb, lc, lc, lc], ⟨#[46, 98, 46, 99, 99, 46, 99, 99, 46, 99, 99]⟩),
  ([lc, lc, lc, lc], ⟨#[46, 99, 99, 46, 99, 99, 46, 99, 99, 46, 99, 99]⟩)]
def hostP : List (List Str × Str) := hostP0 ++ hostP1 ++ hostP2 ++ hostP3 ++ hostP4 ++ hostP5
def zoneP : List (List Str × Str) := zoneP0 ++ zoneP1
theorem hostW_is : hostW = hostP.map (·.1) := by decide +kernel
theorem zoneW_is : zoneW = zoneP.map (·.1) := by decide +kernel
theorem hostT_is : hostP.all (fun p => hostT p.1 == p.2) = true := by
  unfold hostT
  rw [dot_is]
  decide +kernel
theorem zoneT_is : zoneP.all (fun p => zoneT p.1 == p.2) = true := by
  unfold zoneT
  rw [dot_is]
  decide +kernel
theorem viaH {f : List Str → Str → Bool} (h : hostP.all (fun p => f p.1 p.2) = true) (l : List Str) (hl : l ∈ hostW) : f l (hostT l) = true := by
  rw [hostW_is] at hl
  obtain ⟨p, hp, rfl⟩ := List.mem_map.mp hl
  rw [eq_of_beq (List.all_eq_true.mp hostT_is p hp)]
  exact List.all_eq_true.mp h p hp
theorem viaZ {f : List Str → Str → Bool} (h : zoneP.all (fun p => f p.1 p.2) = true) (l : List Str) (hl : l ∈ zoneW) : f l (zoneT l) = true := by
  rw [zoneW_is] at hl
  obtain ⟨p, hp, rfl⟩ := List.mem_map.mp hl
  rw [eq_of_beq (List.all_eq_true.mp zoneT_is p hp)]
  exact List.all_eq_true.mp h p hp
theorem all_app {α : Type} {q : α → Bool} {a b : List α} (h : a.all q = true) (h' : b.all q = true) : (a ++ b).all q = true := by rw [List.all_append, h, h']; rfl
/-- a text's end, told by its code points -/
def tail (x y : Str) : Bool := y.cps.toList.isSuffixOf x.cps.toList
theorem tail_is (x y : Str) : Txt.endswith x y = tail x y := by
  unfold Txt.endswith tail
  rw [StrLaws.subAt_eq, Bool.eq_iff_iff, Bool.and_eq_true, decide_eq_true_eq, List.isSuffixOf_iff_suffix, beq_iff_eq]
  have hx : x.length = x.cps.toList.length := by simp [Str.length]
  have hy : y.length = y.cps.toList.length := by simp [Str.length]
  rw [hx, hy]
  generalize x.cps.toList = a
  generalize y.cps.toList = b
  constructor
  · rintro ⟨h1, h2⟩
    rw [List.take_of_length_le (by rw [List.length_drop]; omega)] at h2
    rw [← h2]
    exact List.drop_suffix _ _
  · intro h
    have h1 := h.length_le
    refine ⟨by omega, ?_⟩
    rw [List.take_of_length_le (by rw [List.length_drop]; omega)]
    exact (List.suffix_iff_eq_drop.mp h).symm
def hostOk1 (h : Str) : Bool := (Txt.lower h == h) && okZ h && decide (h.length ≤ 100) && decide (0 < h.length) && !(h == "") && !(Txt.item h 0 == ".") && !(Txt.item h (-1) == ".") && decide (0 ≤ Txt.find h ".") &&
  !(Txt.slice h (some (Txt.find h "." + 1)) none == "local") && PyData.strOk h
def zoneOk1 (z : Str) : Bool := (Txt.lower z == z) && decide (z.length ≤ 100) && Txt.startswith z "." && PyData.strOk z
theorem nwH0 : hostP0.all (fun p => nowhere p.2) = true := by decide +kernel
theorem nwH1 : hostP1.all (fun p => nowhere p.2) = true := by decide +kernel
theorem nwH2 : hostP2.all (fun p => nowhere p.2) = true := by decide +kernel
theorem nwH3 : hostP3.all (fun p => nowhere p.2) = true := by decide +kernel
theorem nwH4 : hostP4.all (fun p => nowhere p.2) = true := by decide +kernel
theorem nwH5 : hostP5.all (fun p => nowhere p.2) = true := by decide +kernel
theorem nwH : hostP.all (fun p => nowhere p.2) = true := (all_app (all_app (all_app (all_app (all_app nwH0 nwH1) nwH2) nwH3) nwH4) nwH5)
theorem nwZ0 : zoneP0.all (fun p => nowhere p.2) = true := by decide +kernel
theorem nwZ1 : zoneP1.all (fun p => nowhere p.2) = true := by decide +kernel
theorem nwZ : zoneP.all (fun p => nowhere p.2) = true := (all_app nwZ0 nwZ1)
theorem okH0 : hostP0.all (fun p => hostOk1 p.2) = true := by decide +kernel
theorem okH1 : hostP1.all (fun p => hostOk1 p.2) = true := by decide +kernel
theorem okH2 : hostP2.all (fun p => hostOk1 p.2) = true := by decide +kernel
theorem okH3 : hostP3.all (fun p => hostOk1 p.2) = true := by decide +kernel
theorem okH4 : hostP4.all (fun p => hostOk1 p.2) = true := by decide +kernel
theorem okH5 : hostP5.all (fun p => hostOk1 p.2) = true := by decide +kernel
theorem okH : hostP.all (fun p => hostOk1 p.2) = true := (all_app (all_app (all_app (all_app (all_app okH0 okH1) okH2) okH3) okH4) okH5)
theorem okY0 : zoneP0.all (fun p => zoneOk1 p.2) = true := by decide +kernel
theorem okY1 : zoneP1.all (fun p => zoneOk1 p.2) = true := by decide +kernel
theorem okY : zoneP.all (fun p => zoneOk1 p.2) = true := (all_app okY0 okY1)
theorem spH0 : hostP0.all (fun p => (Txt.split p.2 "." == p.1) && decide (2 ≤ p.1.length) && decide (p.1.length ≤ 5) && (Txt.count p.2 "." == (p.1.length : Int) - 1)) = true := by decide +kernel
theorem spH1 : hostP1.all (fun p => (Txt.split p.2 "." == p.1) && decide (2 ≤ p.1.length) && decide (p.1.length ≤ 5) && (Txt.count p.2 "." == (p.1.length : Int) - 1)) = true := by decide +kernel
theorem spH2 : hostP2.all (fun p => (Txt.split p.2 "." == p.1) && decide (2 ≤ p.1.length) && decide (p.1.length ≤ 5) && (Txt.count p.2 "." == (p.1.length : Int) - 1)) = true := by decide +kernel
theorem spH3 : hostP3.all (fun p => (Txt.split p.2 "." == p.1) && decide (2 ≤ p.1.length) && decide (p.1.length ≤ 5) && (Txt.count p.2 "." == (p.1.length : Int) - 1)) = true := by decide +kernel
theorem spH4 : hostP4.all (fun p => (Txt.split p.2 "." == p.1) && decide (2 ≤ p.1.length) && decide (p.1.length ≤ 5) && (Txt.count p.2 "." == (p.1.length : Int) - 1)) = true := by decide +kernel
theorem spH5 : hostP5.all (fun p => (Txt.split p.2 "." == p.1) && decide (2 ≤ p.1.length) && decide (p.1.length ≤ 5) && (Txt.count p.2 "." == (p.1.length : Int) - 1)) = true := by decide +kernel
theorem spH : hostP.all (fun p => (Txt.split p.2 "." == p.1) && decide (2 ≤ p.1.length) && decide (p.1.length ≤ 5) && (Txt.count p.2 "." == (p.1.length : Int) - 1)) = true := (all_app (all_app (all_app (all_app (all_app spH0 spH1) spH2) spH3) spH4) spH5)
theorem spZ0 : zoneP0.all (fun p => ((Txt.split p.2 ".").drop 1 == p.1) && (Txt.count p.2 "." == (p.1.length : Int)) && decide (0 < p.1.length)) = true := by decide +kernel
theorem spZ1 : zoneP1.all (fun p => ((Txt.split p.2 ".").drop 1 == p.1) && (Txt.count p.2 "." == (p.1.length : Int)) && decide (0 < p.1.length)) = true := by decide +kernel
theorem spZ : zoneP.all (fun p => ((Txt.split p.2 ".").drop 1 == p.1) && (Txt.count p.2 "." == (p.1.length : Int)) && decide (0 < p.1.length)) = true := (all_app spZ0 spZ1)
theorem enH0 : hostP0.all (fun p => zoneP.all fun q => tail p.2 q.2 == below q.1 p.1) = true := by decide +kernel
theorem enH1 : hostP1.all (fun p => zoneP.all fun q => tail p.2 q.2 == below q.1 p.1) = true := by decide +kernel
theorem enH2 : hostP2.all (fun p => zoneP.all fun q => tail p.2 q.2 == below q.1 p.1) = true := by decide +kernel
theorem enH3 : hostP3.all (fun p => zoneP.all fun q => tail p.2 q.2 == below q.1 p.1) = true := by decide +kernel
theorem enH4 : hostP4.all (fun p => zoneP.all fun q => tail p.2 q.2 == below q.1 p.1) = true := by decide +kernel
theorem enH5 : hostP5.all (fun p => zoneP.all fun q => tail p.2 q.2 == below q.1 p.1) = true := by decide +kernel
theorem enH : hostP.all (fun p => zoneP.all fun q => tail p.2 q.2 == below q.1 p.1) = true := (all_app (all_app (all_app (all_app (all_app enH0 enH1) enH2) enH3) enH4) enH5)
theorem enZ0 : zoneP0.all (fun p => zoneP.all fun q => tail p.2 q.2 == q.1.isSuffixOf p.1) = true := by decide +kernel
theorem enZ1 : zoneP1.all (fun p => zoneP.all fun q => tail p.2 q.2 == q.1.isSuffixOf p.1) = true := by decide +kernel
theorem enZ : zoneP.all (fun p => zoneP.all fun q => tail p.2 q.2 == q.1.isSuffixOf p.1) = true := (all_app enZ0 enZ1)
theorem reH0 : hostP0.all (fun p => if p.1.length = 2 then reachT p.2 == p.2 else (reachT p.2 == zoneT (p.1.drop 1)) && (Txt.slice (zoneT (p.1.drop 1)) (some 1) none == hostT (p.1.drop 1)) && hostW.contains (p.1.drop 1) && !(zoneT (p.1.drop 1) == p.2)) = true := by decide +kernel
theorem reH1 : hostP1.all (fun p => if p.1.length = 2 then reachT p.2 == p.2 else (reachT p.2 == zoneT (p.1.drop 1)) && (Txt.slice (zoneT (p.1.drop 1)) (some 1) none == hostT (p.1.drop 1)) && hostW.contains (p.1.drop 1) && !(zoneT (p.1.drop 1) == p.2)) = true := by decide +kernel
theorem reH2 : hostP2.all (fun p => if p.1.length = 2 then reachT p.2 == p.2 else (reachT p.2 == zoneT (p.1.drop 1)) && (Txt.slice (zoneT (p.1.drop 1)) (some 1) none == hostT (p.1.drop 1)) && hostW.contains (p.1.drop 1) && !(zoneT (p.1.drop 1) == p.2)) = true := by decide +kernel
theorem reH3 : hostP3.all (fun p => if p.1.length = 2 then reachT p.2 == p.2 else (reachT p.2 == zoneT (p.1.drop 1)) && (Txt.slice (zoneT (p.1.drop 1)) (some 1) none == hostT (p.1.drop 1)) && hostW.contains (p.1.drop 1) && !(zoneT (p.1.drop 1) == p.2)) = true := by decide +kernel
theorem reH4 : hostP4.all (fun p => if p.1.length = 2 then reachT p.2 == p.2 else (reachT p.2 == zoneT (p.1.drop 1)) && (Txt.slice (zoneT (p.1.drop 1)) (some 1) none == hostT (p.1.drop 1)) && hostW.contains (p.1.drop 1) && !(zoneT (p.1.drop 1) == p.2)) = true := by decide +kernel
theorem reH5 : hostP5.all (fun p => if p.1.length = 2 then reachT p.2 == p.2 else (reachT p.2 == zoneT (p.1.drop 1)) && (Txt.slice (zoneT (p.1.drop 1)) (some 1) none == hostT (p.1.drop 1)) && hostW.contains (p.1.drop 1) && !(zoneT (p.1.drop 1) == p.2)) = true := by decide +kernel
theorem reH : hostP.all (fun p => if p.1.length = 2 then reachT p.2 == p.2 else (reachT p.2 == zoneT (p.1.drop 1)) && (Txt.slice (zoneT (p.1.drop 1)) (some 1) none == hostT (p.1.drop 1)) && hostW.contains (p.1.drop 1) && !(zoneT (p.1.drop 1) == p.2)) = true := (all_app (all_app (all_app (all_app (all_app reH0 reH1) reH2) reH3) reH4) reH5)
theorem d_hosts : hostW.all (fun l => hostOk (hostT l)) = true := List.all_eq_true.mpr fun l hl => by
  have h1 := viaH (f := fun _ x => nowhere x) nwH l hl
  have h2 := viaH (f := fun _ x => hostOk1 x) okH l hl
  unfold hostOk1 at h2
  unfold hostOk
  simp only [Bool.and_eq_true] at h1 h2 ⊢
  obtain ⟨⟨⟨⟨⟨⟨⟨⟨⟨b, c⟩, d⟩, e⟩, f⟩, g⟩, i⟩, j⟩, k⟩, m⟩ := h2
  exact ⟨⟨⟨⟨⟨⟨⟨⟨⟨⟨h1, b⟩, c⟩, d⟩, e⟩, f⟩, g⟩, i⟩, j⟩, k⟩, m⟩
theorem d_zones : zoneW.all (fun l => zoneOk (zoneT l)) = true := List.all_eq_true.mpr fun l hl => by
  have h1 := viaZ (f := fun _ x => nowhere x) nwZ l hl
  have h2 := viaZ (f := fun _ x => zoneOk1 x) okY l hl
  unfold zoneOk1 at h2
  unfold zoneOk
  simp only [Bool.and_eq_true] at h1 h2 ⊢
  obtain ⟨⟨⟨b, c⟩, d⟩, e⟩ := h2
  exact ⟨⟨⟨⟨h1, b⟩, c⟩, d⟩, e⟩
theorem d_hsp : hostW.all (fun l => (Txt.split (hostT l) "." == l) && decide (2 ≤ l.length) && decide (l.length ≤ 5) && (Txt.count (hostT l) "." == (l.length : Int) - 1)) = true := List.all_eq_true.mpr fun l hl =>
  viaH (f := fun l x => (Txt.split x "." == l) && decide (2 ≤ l.length) && decide (l.length ≤ 5) && (Txt.count x "." == (l.length : Int) - 1)) spH l hl
theorem d_zsp : zoneW.all (fun l => ((Txt.split (zoneT l) ".").drop 1 == l) && (Txt.count (zoneT l) "." == (l.length : Int)) && decide (0 < l.length)) = true := List.all_eq_true.mpr fun l hl =>
  viaZ (f := fun l x => ((Txt.split x ".").drop 1 == l) && (Txt.count x "." == (l.length : Int)) && decide (0 < l.length)) spZ l hl
def endOk (l : List Str) : Bool := zoneW.all fun z => Txt.endswith (hostT l) (zoneT z) == below z l
theorem d_end : ∀ l ∈ hostW, endOk l = true := fun l hl => List.all_eq_true.mpr fun z hz => by
  have h := viaH (f := fun l x => zoneP.all fun q => tail x q.2 == below q.1 l) enH l hl
  rw [tail_is]
  exact viaZ (f := fun z y => tail (hostT l) y == below z l) h z hz
theorem d_endz : zoneW.all (fun y => zoneW.all fun z => Txt.endswith (zoneT y) (zoneT z) == z.isSuffixOf y) = true := List.all_eq_true.mpr fun y hy => List.all_eq_true.mpr fun z hz => by
  have h := viaZ (f := fun l x => zoneP.all fun q => tail x q.2 == q.1.isSuffixOf l) enZ y hy
  rw [tail_is]
  exact viaZ (f := fun z x => tail (zoneT y) x == z.isSuffixOf y) h z hz
theorem d_reach : hostW.all (fun l => if l.length = 2 then reachT (hostT l) == hostT l else (reachT (hostT l) == zoneT (l.drop 1)) && (Txt.slice (zoneT (l.drop 1)) (some 1) none == hostT (l.drop 1)) && hostW.contains (l.drop 1) && !(zoneT (l.drop 1) == hostT l)) = true := List.all_eq_true.mpr fun l hl =>
  viaH (f := fun l x => if l.length = 2 then reachT x == x else (reachT x == zoneT (l.drop 1)) && (Txt.slice (zoneT (l.drop 1)) (some 1) none == hostT (l.drop 1)) && hostW.contains (l.drop 1) && !(zoneT (l.drop 1) == x)) reH l hl
theorem d_drop : hostW.all (fun l => (List.range l.length).all fun k => decide (k = 0) || zoneW.contains (l.drop k)) = true := by
  rw [hostW_is, zoneW_is]
  decide +kernel
theorem d_cc : hostW.all (fun l => below [("cc" : Str)] l && (l.drop (l.length - 1) == [("cc" : Str)])) = true := by
  rw [hostW_is, lc_is]
  decide +kernel
theorem d_ccz : zoneT [("cc" : Str)] = ".cc" := by decide +kernel
end Mine
open PySem PySem.W PySem.Calls PyProof.Rows
namespace Mine
set_option maxRecDepth 10000
structure HW (l : List Str) : Prop where
  ok : HostOk (hostT l)
  sp : Txt.split (hostT l) "." = l
  l2 : 2 ≤ l.length
  l5 : l.length ≤ 5
  ct : Txt.count (hostT l) "." = (l.length : Int) - 1
structure ZW (c : List Str) : Prop where
  ok : ZoneOk (zoneT c)
  sp : (Txt.split (zoneT c) ".").drop 1 = c
  ct : Txt.count (zoneT c) "." = (c.length : Int)
  l1 : 0 < c.length
theorem hw {l : List Str} (h : l ∈ hostW) : HW l := by
  have h1 := List.all_eq_true.mp d_hosts l h
  have h2 := List.all_eq_true.mp d_hsp l h
  simp only [Bool.and_eq_true, beq_iff_eq, decide_eq_true_eq] at h2
  exact ⟨hostOk_of h1, h2.1.1.1, h2.1.1.2, h2.1.2, h2.2⟩
theorem zw {c : List Str} (h : c ∈ zoneW) : ZW c := by
  have h1 := List.all_eq_true.mp d_zones c h
  have h2 := List.all_eq_true.mp d_zsp c h
  simp only [Bool.and_eq_true, beq_iff_eq, decide_eq_true_eq] at h2
  exact ⟨zoneOk_of h1, h2.1.1, h2.1.2, h2.2⟩
theorem end_hz {l c : List Str} (hl : l ∈ hostW) (hc : c ∈ zoneW) : Txt.endswith (hostT l) (zoneT c) = below c l := by
  have h := d_end l hl
  unfold endOk at h
  exact eq_of_beq (List.all_eq_true.mp h c hc)
theorem end_zz {y c : List Str} (hy : y ∈ zoneW) (hc : c ∈ zoneW) : Txt.endswith (zoneT y) (zoneT c) = c.isSuffixOf y :=
  eq_of_beq (List.all_eq_true.mp (List.all_eq_true.mp d_endz y hy) c hc)
theorem drop_zoneW {l : List Str} {k : Nat} (hl : l ∈ hostW) (h1 : 1 ≤ k) (h2 : k < l.length) : l.drop k ∈ zoneW := by
  have h := List.all_eq_true.mp (List.all_eq_true.mp d_drop l hl) k (List.mem_range.mpr h2)
  simp only [Bool.or_eq_true, decide_eq_true_eq, List.contains_iff_mem] at h
  rcases h with h | h
  · omega
  · exact h
theorem below_iff {c l : List Str} : below c l = true ↔ c <:+ l ∧ c.length < l.length := by
  unfold below
  rw [Bool.and_eq_true, decide_eq_true_eq, List.isSuffixOf_iff_suffix]
theorem zoneT_inj {c d : List Str} (hc : c ∈ zoneW) (hd : d ∈ zoneW) (e : zoneT c = zoneT d) : c = d := by
  have h1 := (zw hc).sp
  rw [e, (zw hd).sp] at h1
  exact h1.symm
theorem zones_host {l : List Str} (hl : l ∈ hostW) : zonesOf (hostT l) = (List.range (l.length - 1)).map fun k => zoneT (l.drop (k + 1)) := by
  unfold zonesOf
  rw [(hw hl).sp]
  unfold upto
  rw [List.map_map]
  have e : ((l.length : Int) - 1).toNat = l.length - 1 := by omega
  rw [e]
  refine List.map_congr_left fun k _ => ?_
  show "." ++ Txt.join "." (l.drop (1 + (k : Int)).toNat) = _
  rw [show (1 + (k : Int)).toNat = k + 1 by omega]
  rfl
theorem zone_iff {l c : List Str} (hl : l ∈ hostW) (hc : c ∈ zoneW) : zoneT c ∈ zonesOf (hostT l) ↔ below c l = true := by
  rw [zones_host hl, below_iff, List.mem_map]
  constructor
  · rintro ⟨k, hk, e⟩
    have hk' := List.mem_range.mp hk
    have e' := zoneT_inj (drop_zoneW hl (by omega) (by omega)) hc e
    rw [← e']
    exact ⟨List.drop_suffix _ _, by rw [List.length_drop]; omega⟩
  · rintro ⟨h1, h2⟩
    have h3 := (zw hc).l1
    refine ⟨l.length - c.length - 1, List.mem_range.mpr (by omega), ?_⟩
    rw [show l.length - c.length - 1 + 1 = l.length - c.length by omega, ← List.suffix_iff_eq_drop.mp h1]
theorem zones_zone {l : List Str} {z : Str} (hl : l ∈ hostW) (hz : z ∈ zonesOf (hostT l)) : ∃ c ∈ zoneW, z = zoneT c := by
  rw [zones_host hl] at hz
  obtain ⟨k, hk, rfl⟩ := List.mem_map.mp hz
  have hk' := List.mem_range.mp hk
  exact ⟨_, drop_zoneW hl (by omega) (by omega), rfl⟩
theorem zones_nodup {l : List Str} (hl : l ∈ hostW) : (zonesOf (hostT l)).Nodup := by
  rw [zones_host hl]
  unfold List.Nodup
  rw [List.pairwise_map]
  refine List.Pairwise.imp_of_mem (fun {i j} hi hj hne e => ?_) (List.nodup_range (n := l.length - 1))
  have hi' := List.mem_range.mp hi
  have hj' := List.mem_range.mp hj
  have e' := zoneT_inj (drop_zoneW hl (by omega) (by omega)) (drop_zoneW hl (by omega) (by omega)) e
  have e2 := congrArg List.length e'
  rw [List.length_drop, List.length_drop] at e2
  exact hne (by omega)
theorem zones_len {l : List Str} (hl : l ∈ hostW) : (zonesOf (hostT l)).length = l.length - 1 := by
  rw [zones_host hl]; simp
/-- every host that a number gives -/
theorem pick_labs {j : Int} (h0 : 0 ≤ j) (h3 : j < 3) : pick j ∈ labs := by
  unfold pick labs
  rw [la_is, lb_is, lc_is]
  have : j.toNat < 3 := by omega
  match h : j.toNat, this with
  | 0, _ => simp
  | 1, _ => simp
  | 2, _ => simp
theorem lhL_words (r : Int) : ∀ i, lhL r i ∈ words i
  | 0 => by simp [lhL, words, lc_is]
  | i + 1 => by
    have h := lhL_words r i
    have hf := fmod_range (lhR r (i + 1)) 3 (by decide)
    show _ ∈ (words i).flatMap fun l => labs.map fun x => x :: l
    rw [List.mem_flatMap]
    exact ⟨_, h, List.mem_map.mpr ⟨_, pick_labs hf.1 hf.2, rfl⟩⟩
theorem host_mem (v : Int) : ∃ l ∈ hostW, hostOf v = hostT l := by
  refine ⟨_, ?_, rfl⟩
  generalize (if v < 0 then -v else v) = r
  have hm := fmod_range r 4 (by decide)
  have h := lhL_words r (1 + r.fmod 4).toNat
  have h4 : (1 + r.fmod 4).toNat = 1 ∨ (1 + r.fmod 4).toNat = 2 ∨ (1 + r.fmod 4).toNat = 3 ∨ (1 + r.fmod 4).toNat = 4 := by omega
  unfold hostW
  simp only [List.mem_append]
  rcases h4 with e | e | e | e <;> rw [e] at h ⊢
  · exact .inl (.inl (.inl h))
  · exact .inl (.inl (.inr h))
  · exact .inl (.inr h)
  · exact .inr h
theorem host_okZ (v : Int) : okZ (hostOf v) = true := by
  obtain ⟨l, hl, e⟩ := host_mem v
  rw [e]; exact (hw hl).ok.oz
structure Inv (p : List Str × List Str) : Prop where
  hw : ∀ h ∈ p.1, ∃ l ∈ hostW, h = hostT l
  hn : p.1.Nodup
  zn : p.2.Nodup
  zs : ∀ z ∈ p.2, ∃ h ∈ p.1, z ∈ zonesOf h
  zf : ∀ h ∈ p.1, ∀ z ∈ zonesOf h, z ∈ p.2
theorem any_iff {xs : List Str} {z : Str} : xs.any (· == z) = true ↔ z ∈ xs := by
  rw [List.any_eq_true]
  constructor
  · rintro ⟨y, hy, e⟩; rw [← eq_of_beq e]; exact hy
  · intro h; exact ⟨z, h, beq_self_eq_true z⟩
theorem inv_step {p : List Str × List Str} (h : Inv p) (v : Int) : Inv (stepHZ p v) := by
  obtain ⟨l, hl, e⟩ := host_mem v
  unfold stepHZ
  rw [e]
  have zmem : ∀ z, z ∈ p.2 ++ (zonesOf (hostT l)).filter (fun z => !p.2.any (· == z)) ↔ z ∈ p.2 ∨ z ∈ zonesOf (hostT l) := by
    intro z
    rw [List.mem_append, List.mem_filter]
    constructor
    · rintro (h | h)
      · exact .inl h
      · exact .inr h.1
    · rintro (h | h)
      · exact .inl h
      · by_cases hz : z ∈ p.2
        · exact .inl hz
        · refine .inr ⟨h, ?_⟩
          cases e : p.2.any (· == z) with
          | false => rfl
          | true => exact absurd (any_iff.mp e) hz
  have hmem : ∀ x, x ∈ p.1 ++ (if (!p.1.any (· == hostT l)) = true then [hostT l] else []) ↔ x ∈ p.1 ∨ x = hostT l := by
    intro x
    rw [List.mem_append]
    cases e : p.1.any (· == hostT l) with
    | false => simp
    | true =>
      have := any_iff.mp e
      simp
      rintro rfl; exact this
  refine ⟨fun x hx => ?_, ?_, ?_, fun z hz => ?_, fun x hx z hz => ?_⟩
  · rcases (hmem x).mp hx with hx | rfl
    · exact h.hw x hx
    · exact ⟨l, hl, rfl⟩
  · cases e : p.1.any (· == hostT l) with
    | true => simpa using h.hn
    | false =>
      have hnm : hostT l ∉ p.1 := fun hm => by rw [any_iff.mpr hm] at e; cases e
      show (p.1 ++ [hostT l]).Nodup
      rw [List.nodup_append]
      refine ⟨h.hn, by simp, fun a ha b hb => ?_⟩
      rw [List.mem_singleton.mp hb]
      rintro rfl; exact hnm ha
  · show (p.2 ++ (zonesOf (hostT l)).filter (fun z => !p.2.any (· == z))).Nodup
    rw [List.nodup_append]
    refine ⟨h.zn, (zones_nodup hl).sublist List.filter_sublist, fun a ha b hb => ?_⟩
    rintro rfl
    have := (List.mem_filter.mp hb).2
    rw [any_iff.mpr ha] at this
    cases this
  · rcases (zmem z).mp hz with hz | hz
    · obtain ⟨x, hx, hz⟩ := h.zs z hz
      exact ⟨x, (hmem x).mpr (.inl hx), hz⟩
    · exact ⟨hostT l, (hmem _).mpr (.inr rfl), hz⟩
  · refine (zmem z).mpr ?_
    rcases (hmem x).mp hx with hx | rfl
    · exact .inl (h.zf x hx z hz)
    · exact .inr hz
theorem inv_HZ (ns : List Int) : Inv (HZ ns) := by
  have gen : ∀ (ns : List Int) (p : List Str × List Str), Inv p → Inv (ns.foldl stepHZ p) := by
    intro ns
    induction ns with
    | nil => intro p h; exact h
    | cons v r ih => intro p h; exact ih _ (inv_step h v)
  exact gen ns _ ⟨fun _ h => absurd h List.not_mem_nil, List.nodup_nil, List.nodup_nil, fun _ h => absurd h List.not_mem_nil, fun _ h => absurd h List.not_mem_nil⟩
theorem HZ_len4 (ns : List Int) : (HZ ns).1.length ≤ ns.length ∧ (HZ ns).2.length ≤ 4 * ns.length := by
  have gen : ∀ (ns : List Int) (p : List Str × List Str), (ns.foldl stepHZ p).1.length ≤ p.1.length + ns.length ∧ (ns.foldl stepHZ p).2.length ≤ p.2.length + 4 * ns.length := by
    intro ns
    induction ns with
    | nil => intro p; simp
    | cons v r ih =>
      intro p
      have h1 := ih (stepHZ p v)
      have h2 : (stepHZ p v).1.length ≤ p.1.length + 1 := by
        unfold stepHZ; simp only [List.length_append]; split <;> simp
      have h3 : (stepHZ p v).2.length ≤ p.2.length + 4 := by
        unfold stepHZ
        simp only [List.length_append]
        have h4 := List.length_filter_le (fun z => !p.2.any (· == z)) (zonesOf (hostOf v))
        have h5 : (zonesOf (hostOf v)).length ≤ 4 := by
          obtain ⟨l, hl, e⟩ := host_mem v
          rw [e, zones_len hl]
          have := (hw hl).l5
          omega
        omega
      simp only [List.foldl_cons, List.length_cons]
      omega
  have := gen ns ([], [])
  unfold HZ
  simpa using this
end Mine
open PySem PySem.W PySem.Calls PyProof.Rows
namespace Mine
set_option maxRecDepth 10000
theorem sum_hit {α : Type} (p : α → Bool) (f : α → Nat) : ∀ hs : List α, (hs.map fun h => (if p h = true then 1 else 0) + f h).sum = (hs.filter p).length + (hs.map f).sum
  | [] => rfl
  | h :: r => by
    have ih := sum_hit p f r
    simp only [List.map_cons, List.sum_cons, ih]
    by_cases hp : p h = true
    · rw [if_pos hp, List.filter_cons_of_pos hp, List.length_cons]; omega
    · rw [if_neg hp, List.filter_cons_of_neg hp]; omega
theorem sum_swap {α β : Type} (P : α → β → Bool) (hs : List α) : ∀ u : List β, (u.map fun y => (hs.filter fun h => P h y).length).sum = (hs.map fun h => (u.filter (P h)).length).sum
  | [] => by induction hs with
    | nil => rfl
    | cons h r ih => simpa using ih
  | y :: r => by
    have ih := sum_swap P hs r
    rw [List.map_cons, List.sum_cons, ih, ← sum_hit (fun h => P h y)]
    congr 1
    refine List.map_congr_left fun h _ => ?_
    by_cases hp : P h y = true
    · rw [if_pos hp, List.filter_cons_of_pos hp, List.length_cons]; omega
    · rw [if_neg hp, List.filter_cons_of_neg hp]; omega
theorem sum_each {α : Type} (p q : α → Bool) (f : α → Nat) : ∀ hs : List α, (∀ h ∈ hs, (if p h = true then 1 else 0) = f h + (if q h = true then 1 else 0)) → (hs.filter p).length = (hs.map f).sum + (hs.filter q).length
  | [], _ => rfl
  | h :: r, H => by
    have ih := sum_each p q f r fun x hx => H x (List.mem_cons_of_mem _ hx)
    have h1 := H h List.mem_cons_self
    simp only [List.map_cons, List.sum_cons]
    by_cases hp : p h = true <;> by_cases hq : q h = true
    · rw [List.filter_cons_of_pos hp, List.filter_cons_of_pos hq, List.length_cons, List.length_cons, ih]; simp only [hp, hq, if_true] at h1; omega
    · rw [List.filter_cons_of_pos hp, List.filter_cons_of_neg hq, List.length_cons, ih]; simp only [hp, hq, if_true] at h1; simp at h1; omega
    · rw [List.filter_cons_of_neg hp, List.filter_cons_of_pos hq, List.length_cons, ih]; simp only [hp, hq, if_true] at h1; simp at h1
    · rw [List.filter_cons_of_neg hp, List.filter_cons_of_neg hq, ih]; simp only [hp, hq] at h1; simp at h1; omega
theorem sum_cast {α : Type} (f : α → Nat) : ∀ l : List α, (l.map fun x => (f x : Int)).sum = ((l.map f).sum : Nat)
  | [] => rfl
  | x :: r => by simp only [List.map_cons, List.sum_cons, sum_cast f r]; omega
theorem filter_len_mono {α : Type} {p q : α → Bool} {l : List α} (h : ∀ x ∈ l, p x = true → q x = true) : (l.filter p).length ≤ (l.filter q).length := by
  rw [← List.countP_eq_length_filter, ← List.countP_eq_length_filter]
  exact List.countP_mono_left h
theorem filter_one {q : Str → Bool} {l : List Str} {e : Str} (hn : l.Nodup) (he : e ∈ l) (h : ∀ x ∈ l, q x = true ↔ x = e) : (l.filter q).length = 1 := by
  rw [← List.countP_eq_length_filter, List.countP_congr (q := fun x => x == e) fun x hx => (h x hx).trans beq_iff_eq.symm, ← List.count_eq_countP, hn.count, if_pos he]
section
variable {p : List Str × List Str}
theorem Inv.zone (V : Inv p) {z : Str} (hz : z ∈ p.2) : ∃ c ∈ zoneW, z = zoneT c := by
  obtain ⟨h, hh, hz'⟩ := V.zs z hz
  obtain ⟨l, hl, rfl⟩ := V.hw h hh
  exact zones_zone hl hz'
theorem Inv.in_iff (V : Inv p) {h z : Str} (hh : h ∈ p.1) (hz : z ∈ p.2) : Txt.endswith h z = true ↔ z ∈ zonesOf h := by
  obtain ⟨l, hl, rfl⟩ := V.hw h hh
  obtain ⟨c, hc, rfl⟩ := V.zone hz
  rw [end_hz hl hc, zone_iff hl hc]
theorem nest {c d : List Str} (hc : c ∈ zoneW) (hd : d ∈ zoneW) (hs : d <:+ c) {l : List Str} (hl : l ∈ hostW) (h : Txt.endswith (hostT l) (zoneT c) = true) : Txt.endswith (hostT l) (zoneT d) = true := by
  rw [end_hz hl hc, below_iff] at h
  rw [end_hz hl hd, below_iff]
  exact ⟨hs.trans h.1, Nat.lt_of_le_of_lt hs.length_le h.2⟩
theorem Inv.s3 (V : Inv p) : ∀ z ∈ p.2, p.1.filter (fun h => (zonesOf h).any (· == z)) = tab p.1 z := by
  intro z hz
  refine List.filter_congr fun h hh => ?_
  rw [Bool.eq_iff_iff, any_iff, V.in_iff hh hz]
theorem Inv.s4 (V : Inv p) : ∀ z ∈ p.2, ∀ y ∈ p.2, (tab p.1 z).filter (fun h => (tab p.1 y).any (· == h)) = [] ∨ ((tab p.1 z).filter (fun h => (tab p.1 y).any (· == h))).length = min (tab p.1 z).length (tab p.1 y).length := by
  intro z hz y hy
  obtain ⟨c, hc, rfl⟩ := V.zone hz
  obtain ⟨d, hd, rfl⟩ := V.zone hy
  have fil : (tab p.1 (zoneT c)).filter (fun h => (tab p.1 (zoneT d)).any (· == h)) = p.1.filter fun h => Txt.endswith h (zoneT c) && Txt.endswith h (zoneT d) := by
    show (p.1.filter fun h => Txt.endswith h (zoneT c)).filter _ = _
    rw [List.filter_filter]
    refine List.filter_congr fun h hh => ?_
    rw [Bool.and_comm]
    congr 1
    rw [Bool.eq_iff_iff, any_iff]
    show h ∈ p.1.filter _ ↔ _
    rw [List.mem_filter]
    exact ⟨fun x => x.2, fun x => ⟨hh, x⟩⟩
  rw [fil]
  by_cases h1 : d <:+ c
  · refine .inr ?_
    have e : (p.1.filter fun h => Txt.endswith h (zoneT c) && Txt.endswith h (zoneT d)) = tab p.1 (zoneT c) := List.filter_congr fun h hh => by
      obtain ⟨l, hl, rfl⟩ := V.hw h hh
      rw [Bool.eq_iff_iff, Bool.and_eq_true]
      exact ⟨fun x => x.1, fun x => ⟨x, nest hc hd h1 hl x⟩⟩
    rw [e]
    have : (tab p.1 (zoneT c)).length ≤ (tab p.1 (zoneT d)).length := filter_len_mono fun h hh x => by
      obtain ⟨l, hl, rfl⟩ := V.hw h hh
      exact nest hc hd h1 hl x
    omega
  · by_cases h2 : c <:+ d
    · refine .inr ?_
      have e : (p.1.filter fun h => Txt.endswith h (zoneT c) && Txt.endswith h (zoneT d)) = tab p.1 (zoneT d) := List.filter_congr fun h hh => by
        obtain ⟨l, hl, rfl⟩ := V.hw h hh
        rw [Bool.eq_iff_iff, Bool.and_eq_true]
        exact ⟨fun x => x.2, fun x => ⟨nest hd hc h2 hl x, x⟩⟩
      rw [e]
      have : (tab p.1 (zoneT d)).length ≤ (tab p.1 (zoneT c)).length := filter_len_mono fun h hh x => by
        obtain ⟨l, hl, rfl⟩ := V.hw h hh
        exact nest hd hc h2 hl x
      omega
    · refine .inl ?_
      rw [List.filter_eq_nil_iff]
      intro h hh x
      obtain ⟨l, hl, rfl⟩ := V.hw h hh
      rw [Bool.and_eq_true, end_hz hl hc, end_hz hl hd, below_iff, below_iff] at x
      rcases List.suffix_or_suffix_of_suffix x.1.1 x.2.1 with e | e
      · exact h2 e
      · exact h1 e
theorem Inv.s5 (V : Inv p) : ∀ z ∈ p.2, ((tab p.1 z).length : Int) = ((underOf p.2 z).map fun y => ((tab p.1 y).length : Int)).sum + (ownOf p.1 z).length := by
  intro z hz
  rw [sum_cast (fun y => (tab p.1 y).length)]
  have h1 := sum_swap (fun h y => Txt.endswith h y) p.1 (underOf p.2 z)
  have h2 := sum_each (fun h => Txt.endswith h z) (fun h => Txt.endswith h z && (Txt.count h "." == Txt.count z ".")) (fun h => ((underOf p.2 z).filter fun y => Txt.endswith h y).length) p.1 fun h hh => ?_
  · have h3 : (tab p.1 z).length = ((underOf p.2 z).map fun y => (tab p.1 y).length).sum + (ownOf p.1 z).length := by
      show (p.1.filter fun h => Txt.endswith h z).length = _
      rw [h2, ← h1]; rfl
    rw [h3]; simp
  · obtain ⟨c, hc, rfl⟩ := V.zone hz
    obtain ⟨l, hl, rfl⟩ := V.hw h hh
    have W := Mine.hw hl
    have Z := zw hc
    have hun : ∀ y ∈ underOf p.2 (zoneT c), ∃ d ∈ zoneW, y = zoneT d ∧ c <:+ d ∧ d.length = c.length + 1 := by
      intro y hy
      obtain ⟨hy, hq⟩ := List.mem_filter.mp hy
      obtain ⟨d, hd, rfl⟩ := V.zone hy
      rw [Bool.and_eq_true, end_zz hd hc, beq_iff_eq, (zw hd).ct, Z.ct, List.isSuffixOf_iff_suffix] at hq
      exact ⟨d, hd, rfl, hq.1, by omega⟩
    have hunn : (underOf p.2 (zoneT c)).Nodup := V.zn.sublist List.filter_sublist
    rw [end_hz hl hc, W.ct, Z.ct]
    by_cases hb : below c l = true
    · have hb' := below_iff.mp hb
      by_cases he : (l.length : Int) - 1 = c.length
      · have h0 : (underOf p.2 (zoneT c)).filter (fun y => Txt.endswith (hostT l) y) = [] := by
          rw [List.filter_eq_nil_iff]
          intro y hy x
          obtain ⟨d, hd, rfl, _, hdl⟩ := hun y hy
          rw [end_hz hl hd, below_iff] at x
          omega
        rw [h0, hb, he]; simp
      · have hlt : c.length + 1 < l.length := by omega
        have hdz : l.drop (l.length - c.length - 1) ∈ zoneW := drop_zoneW hl (by omega) (by omega)
        have hdl : (l.drop (l.length - c.length - 1)).length = c.length + 1 := by rw [List.length_drop]; omega
        have hzf : zoneT (l.drop (l.length - c.length - 1)) ∈ p.2 := V.zf _ hh _ ((zone_iff hl hdz).mpr (below_iff.mpr ⟨List.drop_suffix _ _, by omega⟩))
        have hin : zoneT (l.drop (l.length - c.length - 1)) ∈ underOf p.2 (zoneT c) := by
          refine List.mem_filter.mpr ⟨hzf, ?_⟩
          rw [Bool.and_eq_true, end_zz hdz hc, beq_iff_eq, (zw hdz).ct, Z.ct, List.isSuffixOf_iff_suffix, hdl]
          exact ⟨List.suffix_of_suffix_length_le hb'.1 (List.drop_suffix _ _) (by omega), by omega⟩
        have hone := filter_one (q := fun y => Txt.endswith (hostT l) y) hunn hin fun y hy => by
          obtain ⟨d, hd, rfl, hcd, hdl'⟩ := hun y hy
          rw [end_hz hl hd, below_iff]
          constructor
          · rintro ⟨x1, x2⟩
            have := List.suffix_iff_eq_drop.mp x1
            rw [this, hdl', show l.length - (c.length + 1) = l.length - c.length - 1 by omega]
          · intro e
            have e' := zoneT_inj hd hdz e
            subst e'
            exact ⟨List.drop_suffix _ _, by omega⟩
        rw [hone, hb]
        simp [he]
    · have h0 : (underOf p.2 (zoneT c)).filter (fun y => Txt.endswith (hostT l) y) = [] := by
        rw [List.filter_eq_nil_iff]
        intro y hy x
        obtain ⟨d, hd, rfl, hcd, hdl⟩ := hun y hy
        rw [end_hz hl hd, below_iff] at x
        exact hb (below_iff.mpr ⟨hcd.trans x.1, by omega⟩)
      rw [h0]
      simp [hb]
theorem Inv.s6 (V : Inv p) : (p.2.map fun y => ((tab p.1 y).length : Int)).sum = (p.1.map fun h => Txt.count h ".").sum := by
  rw [sum_cast (fun y => (tab p.1 y).length)]
  have h1 := sum_swap (fun h y => Txt.endswith h y) p.1 p.2
  have h2 : (p.2.map fun y => (tab p.1 y).length).sum = (p.1.map fun h => (p.2.filter fun y => Txt.endswith h y).length).sum := h1
  rw [h2, ← sum_cast]
  congr 1
  refine List.map_congr_left fun h hh => ?_
  obtain ⟨l, hl, rfl⟩ := V.hw h hh
  have hp : (p.2.filter fun y => Txt.endswith (hostT l) y).Perm (zonesOf (hostT l)) := by
    refine (List.perm_ext_iff_of_nodup (V.zn.sublist List.filter_sublist) (zones_nodup hl)).mpr fun y => ?_
    rw [List.mem_filter]
    constructor
    · rintro ⟨a, b⟩; exact (V.in_iff hh a).mp b
    · intro a
      have b := V.zf _ hh y a
      exact ⟨b, (V.in_iff hh b).mpr a⟩
  have W := Mine.hw hl
  have := W.l2
  rw [hp.length_eq, zones_len hl, W.ct]
  omega
theorem here {l : List Str} (hl : l ∈ hostW) : ∀ k, k + 2 ≤ l.length → hereAt (hostT l) k = hostT (l.drop k) ∧ l.drop k ∈ hostW
  | 0, _ => ⟨rfl, hl⟩
  | k + 1, h => by
    obtain ⟨h1, h2⟩ := here hl k (by omega)
    have hd := List.all_eq_true.mp d_reach _ h2
    have hlen : (l.drop k).length ≠ 2 := by rw [List.length_drop]; omega
    rw [if_neg hlen] at hd
    simp only [Bool.and_eq_true, beq_iff_eq, List.contains_iff_mem, List.drop_drop] at hd
    refine ⟨?_, hd.1.2⟩
    show Txt.slice (reachT (hereAt (hostT l) k)) (some 1) none = _
    rw [h1, hd.1.1.1, hd.1.1.2]
theorem reach_at {l : List Str} (hl : l ∈ hostW) {k : Nat} (h : k + 2 < l.length) : reachT (hereAt (hostT l) k) = zoneT (l.drop (k + 1)) ∧ reachT (hereAt (hostT l) k) ≠ hereAt (hostT l) k := by
  obtain ⟨h1, h2⟩ := here hl k (by omega)
  have hd := List.all_eq_true.mp d_reach _ h2
  have hlen : (l.drop k).length ≠ 2 := by rw [List.length_drop]; omega
  rw [if_neg hlen] at hd
  simp only [Bool.and_eq_true, beq_iff_eq, List.drop_drop, Bool.not_eq_true', beq_eq_false_iff_ne] at hd
  rw [h1]
  exact ⟨hd.1.1.1, by rw [hd.1.1.1]; exact hd.2⟩
theorem reach_end {l : List Str} (hl : l ∈ hostW) : reachT (hereAt (hostT l) (l.length - 2)) = hereAt (hostT l) (l.length - 2) := by
  have W := Mine.hw hl
  have := W.l2
  obtain ⟨h1, h2⟩ := here hl (l.length - 2) (by omega)
  have hd := List.all_eq_true.mp d_reach _ h2
  have hlen : (l.drop (l.length - 2)).length = 2 := by rw [List.length_drop]; omega
  rw [if_pos hlen] at hd
  rw [h1]
  exact eq_of_beq hd
theorem chain_host {l : List Str} (hl : l ∈ hostW) : Chain (hostT l) (l.length - 2) := by
  have W := Mine.hw hl
  have := W.l2
  have := W.l5
  have ok : ∀ k, k ≤ l.length - 2 → HostOk (hereAt (hostT l) k) := fun k hk => by
    obtain ⟨h1, h2⟩ := here hl k (by omega)
    rw [h1]; exact (hw h2).ok
  refine ⟨by omega, ok, fun k hk => ?_, fun k hk => (reach_at hl (by omega)).2, reach_end hl⟩
  rcases Nat.lt_or_ge k (l.length - 2) with h | h
  · rw [(reach_at hl (by omega)).1]
    have := (zw (drop_zoneW hl (k := k + 1) (by omega) (by omega))).ok.le
    omega
  · obtain rfl : k = l.length - 2 := by omega
    rw [reach_end hl]
    have := (ok _ hk).le
    omega
theorem chain_zones {l : List Str} (hl : l ∈ hostW) : (zonesOf (hostT l)).take ((zonesOf (hostT l)).length - 1) = chain (hostT l) (l.length - 2) := by
  rw [zones_len hl, zones_host hl, ← List.map_take, List.take_range]
  unfold chain
  rw [show min (l.length - 1 - 1) (l.length - 1) = l.length - 2 by omega]
  refine List.map_congr_left fun k hk => ?_
  have := List.mem_range.mp hk
  rw [(reach_at hl (by omega)).1]
theorem facts (V : Inv p) (h1 : p.1.length ≤ 9) (h2 : p.2.length ≤ 40) : Facts p.1 p.2 (fun h => (Txt.split h ".").length - 2) := by
  refine ⟨fun h hh => ?_, fun z hz => ?_, V.hn, h1, h2, V.s3, V.s4, V.s5, fun h hh => ?_, V.s6, fun h hh => ?_, fun h hh => ?_, fun h hh y hy => ?_, fun h hh k hk => ?_, fun hne => ?_⟩
  · obtain ⟨l, hl, rfl⟩ := V.hw h hh; exact (hw hl).ok
  · obtain ⟨c, hc, rfl⟩ := V.zone hz; exact (zw hc).ok
  · obtain ⟨l, hl, rfl⟩ := V.hw h hh
    have W := Mine.hw hl
    have := W.l2
    have := W.l5
    rw [W.ct]; omega
  · obtain ⟨l, hl, rfl⟩ := V.hw h hh
    rw [(hw hl).sp]; exact chain_host hl
  · obtain ⟨l, hl, rfl⟩ := V.hw h hh
    rw [(hw hl).sp]; exact chain_zones hl
  · obtain ⟨l, hl, rfl⟩ := V.hw h hh
    rw [(hw hl).sp, ← chain_zones hl] at hy
    exact V.zf _ hh y (List.mem_of_mem_take hy)
  · obtain ⟨l, hl, rfl⟩ := V.hw h hh
    rw [(hw hl).sp] at hk
    rw [(reach_at hl (k := k) (by omega)).1, (reach_at hl (k := k + 1) (by omega)).1]
    refine filter_len_mono fun x hx hxe => ?_
    obtain ⟨m, hm, rfl⟩ := V.hw x hx
    refine nest (drop_zoneW hl (by omega) (by omega)) (drop_zoneW hl (by omega) (by omega)) ?_ hm hxe
    rw [show k + 1 + 1 = (k + 1) + 1 by omega, ← List.drop_drop]
    exact List.drop_suffix _ _
  · have hcc : [("cc" : Str)] ∈ zoneW := by simp [zoneW, words, lc_is]
    have all : ∀ h ∈ p.1, Txt.endswith h ".cc" = true := fun h hh => by
      obtain ⟨l, hl, rfl⟩ := V.hw h hh
      have hd := List.all_eq_true.mp d_cc l hl
      rw [Bool.and_eq_true] at hd
      rw [← d_ccz, end_hz hl hcc]; exact hd.1
    obtain ⟨h, hh⟩ := List.exists_mem_of_ne_nil _ hne
    refine ⟨?_, ?_⟩
    · obtain ⟨l, hl, e⟩ := V.hw h hh
      subst e
      have hd := List.all_eq_true.mp d_cc l hl
      rw [Bool.and_eq_true] at hd
      rw [← d_ccz]
      exact V.zf _ hh _ ((zone_iff hl hcc).mpr hd.1)
    · show (p.1.filter _).length = _
      rw [List.filter_eq_self.mpr all]
end
theorem law_facts (ns : List Int) : Facts (HZ (ns.take 9)).1 (HZ (ns.take 9)).2 (fun h => (Txt.split h ".").length - 2) := by
  have h := HZ_len4 (ns.take 9)
  have h9 : (ns.take 9).length ≤ 9 := by rw [List.length_take]; omega
  exact facts (inv_HZ _) (by omega) (by omega)
end Mine
open PySem PySem.W PySem.Calls PyProof.Rows
namespace Mine
set_option maxRecDepth 10000
theorem rm_law {Lo fa : Addr} {cd : Value} : Rm (callerA.deeper (envLaw Lo fa cd)) 10 :=
  ⟨rfl, by simp only [Around.deeper]; decide +kernel, by simp only [Around.deeper]; decide +kernel, envLaw Lo fa cd, [], rfl, rfl, rfl, rfl, rfl⟩
theorem owned_law {Lo fa : Addr} {cd : Value} : owned (envLaw Lo fa cd) [] = [Lo, Lo + 5, Lo + 4, Lo + 3, Lo + 2, Lo + 1] := rfl
theorem cells_law {Lo fa : Addr} {cd : Value} : (envLaw Lo fa cd).cells.map (·.2) = [Lo + 5, Lo + 4, Lo + 3, Lo + 2, Lo + 1] := rfl
theorem law_run {prog : Program} {w : World} {s₁ : Shared} {h₁ : Heap} {tk : Nat} {fa : Addr} {cd : Value} {l : Addr} {vs : List Value} {ns : List Int} {m : Str → Option Value} {N : Str → Nat} {E : Value → Shared → Prop} {Q : Flow → Shared → Prop} {o₁ o₂ o₃ o₄ o₅ : Obj} {v₁ v₂ v₃ v₄ v₅ : Option Value}
    (ht : prog.given.tree = none) (G : Gd w s₁.heap) (hL : s₁.heap.IsList l vs.toArray) (hI : IntsAre vs ns) (hlen : ns.length ≤ 63) (Fx : Fr s₁.heap s₁.heap.objs.size h₁ m) (hm : m "script" = some (.ref l))
    (Nw : News s₁.heap s₁.heap.objs.size h₁ [(s₁.heap.objs.size + 1 + 1 + 1 + 1 + 1, o₅), (s₁.heap.objs.size + 1 + 1 + 1 + 1, o₄), (s₁.heap.objs.size + 1 + 1 + 1, o₃), (s₁.heap.objs.size + 1 + 1, o₂), (s₁.heap.objs.size + 1, o₁)])
    (c₅ : o₅.data = .cell v₅) (c₄ : o₄.data = .cell v₄) (c₃ : o₃.data = .cell v₃) (c₂ : o₂.data = .cell v₂) (c₁ : o₁.data = .cell v₁)
    (hok : ∀ v, okZ (hostOf v) = true) (F : Facts (HZ (ns.take 9)).1 (HZ (ns.take 9)).2 N)
    (hQ : ∀ h' tk', (∀ b o, s₁.heap.get? b = some o → h'.get? b = some o) → Q (.ret (.bool true)) { s₁ with heap := h', toks := tk' }) :
    wpAny (model prog w) (callerA.deeper (envLaw s₁.heap.objs.size fa cd)) (execs (bdOf 95) (envLaw s₁.heap.objs.size fa cd)) Q E { s₁ with heap := h₁, toks := tk } := by
  have hcell : ∀ a ∈ [s₁.heap.objs.size + 5, s₁.heap.objs.size + 4, s₁.heap.objs.size + 3, s₁.heap.objs.size + 2, s₁.heap.objs.size + 1], s₁.heap.get? a = none ∧ ∃ o v, h₁.get? a = some o ∧ o.data = .cell v := by
    intro a ha
    simp only [List.mem_cons, List.not_mem_nil, or_false] at ha
    rcases ha with rfl | rfl | rfl | rfl | rfl
    · exact ⟨Nw.fresh (o := o₅) (by simp), _, _, Nw.get (o := o₅) (by simp), c₅⟩
    · exact ⟨Nw.fresh (o := o₄) (by simp), _, _, Nw.get (o := o₄) (by simp), c₄⟩
    · exact ⟨Nw.fresh (o := o₃) (by simp), _, _, Nw.get (o := o₃) (by simp), c₃⟩
    · exact ⟨Nw.fresh (o := o₂) (by simp), _, _, Nw.get (o := o₂) (by simp), c₂⟩
    · exact ⟨Nw.fresh (o := o₁) (by simp), _, _, Nw.get (o := o₁) (by simp), c₁⟩
  have Fm₀ : Fm w ⟨s₁, fun a => s₁.heap.get? a, fun a => s₁.heap.get? a, []⟩ (envLaw s₁.heap.objs.size fa cd) [("script", Sc ns)] [] (fun a => s₁.heap.get? a) { s₁ with heap := h₁, toks := tk } := by
    refine ⟨⟨h₁, tk, rfl⟩, Fx.keep, fun _ _ e => e, G, Fx.keep, Le.refl _, fun _ _ e => .inl e, fun a ha => ?_, ?_, (fun a ha => nomatch ha), ⟨_, Fx.ns⟩, fun p hp => ?_, G.sub Fx.keep, fun y P' hy => ?_, (fun a M hm => by simp at hm), rfl, rfl, rfl⟩
    · rw [owned_law] at ha
      rcases List.mem_cons.mp ha with rfl | ha
      · obtain ⟨o, _, _, ho, _⟩ := Fx.ns
        exact ⟨fresh_size _, fresh_size _, (fun h => nomatch h), o, ho⟩
      · obtain ⟨h1, o, _, h2, _⟩ := hcell a ha
        exact ⟨h1, h1, (fun h => nomatch h), o, h2⟩
    · rw [owned_law]
      simp
    · have hp2 : p.2 ∈ (envLaw s₁.heap.objs.size fa cd).cells.map (·.2) := List.mem_map.mpr ⟨p, hp, rfl⟩
      rw [cells_law] at hp2
      obtain ⟨_, o, v, h1, h2⟩ := hcell _ hp2
      exact ⟨v, o, h1, h2⟩
    · rcases lookup_cons_cases hy with ⟨rfl, rfl⟩ | ⟨_, hy⟩
      · obtain ⟨o, ho, hc, k, hd⟩ := hL
        exact ⟨.ref l, .inl ⟨rfl, m, Fx.ns, hm⟩, l, vs, o, k, rfl, ho, hc, hd, .of_ints hI⟩
      · simp at hy
  refine wpAny_mono ((law_body (n := 6) rm_law ht hok (by omega) F).run _ ⟨_, Fm₀⟩) (fun f s' x => ?_) fun _ _ f => f.elim
  cases f with
  | next => exact x.elim
  | brk => exact x.elim
  | cont => exact x.elim
  | ret v =>
    obtain ⟨⟨h', tk', rfl⟩, k', _, g, _, _, _, rfl⟩ := x
    exact hQ h' tk' k'
end Mine
set_option maxHeartbeats 8000000 in
set_option maxRecDepth 100000 in
theorem PySem.Challenge.cw_gk0004_01_holds : PySem.Challenge.rw_gk0004_01.Holds := by
  refine Mine.hd ?_
  k_go0
  rename_i KX _ _ GL _ _ _ _ _ _ _ _ _ _ _ _ _ _ _ _ _ _ _ _ _ hL _ _ _ hI _ hlen _ _ _ _ _ Fx _ _ _ _ _ c5 c4 c3 c2 c1 Nw X0
  refine Mine.law_run (N := fun h => (Txt.split h ".").length - 2) rfl ⟨KX, GL.nolimit, ⟨_, GL.g⟩, ⟨_, GL.b, GL.builtins⟩, GL.digits, GL.seer⟩ hL hI (by omega) Fx ?_ Nw c5 c4 c3 c2 c1 ?_ ?_ fun h' tk' hk => ?_
  · rfl
  · exact Mine.host_okZ
  · exact Mine.law_facts _
  · refine ⟨.inl ⟨_, _, [], rfl, fun _ => rfl, .bool true, ?_, ?_⟩, hk, rfl, by assumption⟩
    · wrow_post
    · simp [PySem.Challenge.rw_gk0004_01]
      done
