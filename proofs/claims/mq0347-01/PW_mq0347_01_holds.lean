import PyProof.Rows.All
import Wide.All
import OpenK.AllK
import Wide.FinOn
import PySem.Challenge.RW_mq0347_01
open PySem PySem.W PyProof.Rows
set_option Elab.async false
set_option linter.unusedVariables false
set_option linter.unusedSimpArgs false
set_option maxRecDepth 100000
set_option maxHeartbeats 8000000
set_option compiler.extract_closed false
namespace Mine
/-- abstract values -/
inductive V where
  | none
  | bool (b : Bool)
  | int (i : Int)
  | str (x : Str)
  | ref (l : Nat)
  | val (v : Value)

def VRel (φ : List Addr) : V → Value → Prop
  | .none, v => v = .none
  | .bool b, v => v = .bool b
  | .int i, v => ∃ t, v = .int i t
  | .str x, v => ∃ t, v = .str x t
  | .ref l, v => ∃ a, φ[l]? = some a ∧ v = .ref a
  | .val u, v => v = u

inductive Cell where
  | list (xs : List V)
  | tuple (xs : List V)
  | dict (kvs : List (Str × V)) (ep : Nat)
  | set (xs : List Str)
  | inst (C : Addr) (d : Nat) (xs : List (Option V))
  | attrs (kvs : List (Str × V))
  | liter (l : Nat) (i : Nat)
  | nextOf (it : Nat)
  | pred (P : List Addr → Obj → Prop)
  | dead

/-- pointwise relation of lists -/
def All2 {α β : Type} (R : α → β → Prop) : List α → List β → Prop
  | [], [] => True
  | a :: as, b :: bs => R a b ∧ All2 R as bs
  | _, _ => False

def OptRel (φ : List Addr) : Option V → Option Value → Prop
  | none, none => True
  | some r, some v => VRel φ r v
  | _, _ => False

/-- the constants of a claim -/
structure Cx where
  prog : Program
  w : World
  K : Frag
  frs : List Env

/-- the addresses of the frames -/
def Cx.fr (X : Cx) : List Addr := X.frs.filterMap (·.frame)
def Cx.push (X : Cx) (env : Env) : Cx := ⟨X.prog, X.w, X.K, env :: X.frs⟩

/-- an address that is not one of the text's own -/
def Free (K : Frag) (a : Addr) : Prop := K.lookup a = none ∧ a ≠ mainGlobals ∧ a ≠ builtinsNs ∧ a ≠ cStatics ∧ a ≠ sysModules

abbrev tupOf (vs : Array Value) (n : Nat) : Obj := { cls := .type "tuple", data := .seq vs n }
abbrev lstOf (vs : Array Value) (n : Nat) : Obj := { cls := .type "list", data := .seq vs n }

def KVRel (φ : List Addr) (p : Str × V) (q : Str × Value) : Prop := p.1 = q.1 ∧ VRel φ p.2 q.2

def Cell.Is (X : Cx) (φ : List Addr) : Cell → Obj → Prop
  | .list xs, o => ∃ vs n, o = lstOf vs n ∧ All2 (VRel φ) xs vs.toList
  | .tuple xs, o => ∃ vs n, o = tupOf vs n ∧ All2 (VRel φ) xs vs.toList
  | .dict kvs ep, o => o.ExactDict ∧ ∃ es kvs', o.data = .dict es ep ∧ KeysOf (strKind X.prog X.w) es ∧ Pairs (strKind X.prog X.w) es.toList kvs' ∧ (kvs'.map (·.1)).Nodup ∧ All2 (KVRel φ) kvs kvs'
  | .set xs, o => o.SetObjOf (strKind X.prog X.w) (fun x => xs.contains x) xs.length
  | .inst C d xs, o => ∃ dx vs, φ[d]? = some dx ∧ o = { cls := .ref C, dict := some dx, data := .plain, slots := vs } ∧ All2 (OptRel φ) xs vs.toList
  | .attrs kvs, o => ∃ es n, o = dictOf es n ∧ KeysLit X.w.params es ∧ es.length = kvs.length ∧ ∀ x, OptRel φ (kvs.lookup x) ((es.find? (·.key.isStr x)).map (·.val))
  | .liter l i, o => ∃ a, φ[l]? = some a ∧ o = { cls := .type "list_iterator", data := .fields #[.ref a, .int i 0] }
  | .nextOf it, o => ∃ a, φ[it]? = some a ∧ o = { cls := .type "method-wrapper", data := .fields #[.builtin "list_iterator.__next__", .ref a] }
  | .pred P, o => ∃ φ₀, φ₀ <+: φ ∧ P φ₀ o
  | .dead, _ => True


structure St where
  cells : List Cell
  vars : List (Str × V)

structure Base (K : Frag) (h : Heap) : Prop where
  X : K.In h
  g : ∃ mg, h.Ns mainGlobals mg
  b : ∃ mb, h.Ns builtinsNs mb ∧ ∀ x : Str, x ≠ "__name__" → mb x = bootBuiltins x
  nl : h.NoLimit

/-- the frames on the stack are there, and apart -/
def FrsOk (X : Cx) (φ : List Addr) (h : Heap) : Prop :=
  ∀ env ∈ X.frs, env.scope.kind ≠ .module ∧ ∃ L o, env.frame = some L ∧ L ∉ φ ∧ Free X.K L ∧ h.get? L = some o ∧ ∀ vs, o.data ≠ .fields vs

theorem FrsOk.keeps {X : Cx} {φ φ' : List Addr} {h h' : Heap} (f : FrsOk X φ h) (k : ∀ b o, b ∉ φ → Free X.K b → h.get? b = some o → (∀ vs, o.data ≠ .fields vs) → b ∉ φ' ∧ ∃ o', h'.get? b = some o' ∧ ∀ vs, o'.data ≠ .fields vs) : FrsOk X φ' h' :=
  fun env he => let ⟨h1, L, o, h2, h3, h4, h5, h6⟩ := f env he; let ⟨h7, o', h8, h9⟩ := k L o h3 h4 h5 h6; ⟨h1, L, o', h2, h7, h4, h8, h9⟩

structure RelC (X : Cx) (φ : List Addr) (cells : List Cell) (h : Heap) : Prop where
  base : Base X.K h
  len : φ.length = cells.length
  nd : φ.Nodup
  low : ∀ a ∈ φ, Free X.K a
  cell : ∀ (l : Nat) (c : Cell), cells[l]? = some c → ∃ a o, φ[l]? = some a ∧ h.get? a = some o ∧ c.Is X φ o
  frs : FrsOk X φ h

def fAddrs (env : Env) : List Addr := env.locals :: env.cells.map (·.2)

structure FrOk (X : Cx) (φ : List Addr) (env : Env) (vars : List (Str × V)) (h : Heap) : Prop where
  kind : env.scope.kind = .function
  glob : env.globals = mainGlobals
  blt : env.builtins = builtinsNs
  fa : ∀ a ∈ fAddrs env, a ∉ φ ∧ Free X.K a
  nd : (fAddrs env).Nodup
  ex : ∀ a ∈ fAddrs env, ∃ o, h.get? a = some o
  ns : ∃ m, h.Ns env.locals m ∧ ∀ x, env.kindOf x = some .local → OptRel φ (vars.lookup x) (m x)
  cel : ∀ x, env.kindOf x = some .cell → ∃ ca v, env.cells.lookup x = some ca ∧ h.IsCell ca v ∧ OptRel φ (vars.lookup x) v
  top : env.scope.names.lookup (".0" : Str) = none → (∃ outer, X.frs = env :: outer) ∧ env.frame = some env.locals

structure Rel (X : Cx) (φ : List Addr) (env : Env) (st : St) (h : Heap) : Prop where
  c : RelC X φ st.cells h
  f : FrOk X φ env st.vars h

structure Step (fr φ fa : List Addr) (s : Shared) (φ' : List Addr) (s' : Shared) : Prop where
  sh : s'.gens = s.gens ∧ s'.drawn = s.drawn ∧ s'.os = s.os
  pre : φ <+: φ'
  keep : ∀ b o, s.heap.get? b = some o → b ∉ φ → b ∉ fa → b ∉ fr → s'.heap.get? b = some o
  slots : ∀ b o, s.heap.get? b = some o → b ∉ φ → b ∉ fa → ∃ sl, s'.heap.get? b = some { o with slots := sl }
  fresh : ∀ a ∈ φ', a ∉ φ → s.heap.get? a = none

theorem Step.mk' {fr φ fa : List Addr} {s : Shared} {φ' : List Addr} {s' : Shared} (sh : s'.gens = s.gens ∧ s'.drawn = s.drawn ∧ s'.os = s.os) (pre : φ <+: φ') (keep : ∀ b o, s.heap.get? b = some o → b ∉ φ → b ∉ fa → s'.heap.get? b = some o) (fresh : ∀ a ∈ φ', a ∉ φ → s.heap.get? a = none) : Step fr φ fa s φ' s' :=
  ⟨sh, pre, fun b o e h1 h2 _ => keep b o e h1 h2, fun b o e h1 h2 => ⟨o.slots, keep b o e h1 h2⟩, fresh⟩

/-- room around: depth, units; calm: nothing is being handled -/
structure Room (X : Cx) (d : Nat) (calm : Bool) (A : Around) : Prop where
  frames : A.frames = some X.frs
  depth : A.depth + d + d < 600
  units : A.units + 20 * d < 9000
  calm : calm = true → A.handled = none

abbrev md (X : Cx) : Model := model X.prog X.w

inductive TriP {α β : Type} (X : Cx) (env : Env) (φ : List Addr) (s : Shared) (rel : List Addr → β → α → Prop) (Q : β → St → Prop) (v : α) (s' : Shared) : Prop
  | mk (φ' : List Addr) (r : β) (st' : St) (S : Step X.fr φ (fAddrs env) s φ' s') (R : Rel X φ' env st' s'.heap) (hr : rel φ' r v) (q : Q r st') : TriP X env φ s rel Q v s'
def Tri {α β : Type} (X : Cx) (A : Around) (env : Env) (φ : List Addr) (s : Shared) (t : Sem α) (rel : List Addr → β → α → Prop) (Q : β → St → Prop) : Prop :=
  wpAny (md X) A t (TriP X env φ s rel Q) (fun _ _ => False) s

section basics
variable {X : Cx} {φ φ' φ'' : List Addr}

theorem get_of_prefix {α : Type} {l l' : List α} (h : l <+: l') {i : Nat} {a : α} (e : l[i]? = some a) : l'[i]? = some a := by
  obtain ⟨t, rfl⟩ := h
  rw [List.getElem?_append_left (List.getElem?_eq_some_iff.mp e).1]; exact e

theorem VRel.int (φ : List Addr) (i : Int) (t : Tok) : VRel φ (.int i) (.int i t) := ⟨t, rfl⟩
theorem VRel.str (φ : List Addr) (x : Str) (t : Tok) : VRel φ (.str x) (.str x t) := ⟨t, rfl⟩
theorem VRel.none (φ : List Addr) : VRel φ .none .none := rfl
theorem VRel.bool (φ : List Addr) (b : Bool) : VRel φ (.bool b) (.bool b) := rfl
theorem VRel.val (φ : List Addr) (v : Value) : VRel φ (.val v) v := rfl
theorem VRel.ref {φ : List Addr} {l : Nat} {a : Addr} (e : φ[l]? = some a) : VRel φ (.ref l) (.ref a) := ⟨a, e, rfl⟩
theorem VRel.mono {r : V} {v : Value} (h : VRel φ r v) (p : φ <+: φ') : VRel φ' r v := by
  cases r with
  | ref l => obtain ⟨a, e, rfl⟩ := h; exact ⟨a, get_of_prefix p e, rfl⟩
  | _ => exact h

theorem OptRel.mono {r : Option V} {v : Option Value} (h : OptRel φ r v) (p : φ <+: φ') : OptRel φ' r v := by
  cases r <;> cases v <;> first | exact h | exact VRel.mono h p

theorem All2.mono {α β : Type} {R R' : α → β → Prop} (hR : ∀ a b, R a b → R' a b) : ∀ {l : List α} {m : List β}, All2 R l m → All2 R' l m
  | [], [], _ => trivial
  | _ :: _, _ :: _, ⟨h1, h2⟩ => ⟨hR _ _ h1, h2.mono hR⟩
  | [], _ :: _, h => h.elim
  | _ :: _, [], h => h.elim

theorem All2.length {α β : Type} {R : α → β → Prop} : ∀ {l : List α} {m : List β}, All2 R l m → l.length = m.length
  | [], [], _ => rfl
  | _ :: _, _ :: _, ⟨_, h2⟩ => by simp [h2.length]
  | [], _ :: _, h => h.elim
  | _ :: _, [], h => h.elim

theorem All2.get {α β : Type} {R : α → β → Prop} : ∀ {l : List α} {m : List β}, All2 R l m → ∀ {i : Nat} {a : α}, l[i]? = some a → ∃ b, m[i]? = some b ∧ R a b
  | _ :: _, b :: _, ⟨h1, _⟩, 0, _, e => by cases e; exact ⟨b, rfl, h1⟩
  | _ :: _, _ :: _, ⟨_, h2⟩, i + 1, a, e => by
    obtain ⟨b, q, r⟩ := h2.get (i := i) (a := a) (by simpa using e)
    exact ⟨b, by simpa using q, r⟩
  | [], [], _, _, _, e => by cases e
  | [], _ :: _, h, _, _, _ => h.elim
  | _ :: _, [], h, _, _, _ => h.elim

theorem All2.get' {α β : Type} {R : α → β → Prop} : ∀ {l : List α} {m : List β}, All2 R l m → ∀ {i : Nat} {b : β}, m[i]? = some b → ∃ a, l[i]? = some a ∧ R a b
  | a :: _, _ :: _, ⟨h1, _⟩, 0, _, e => by cases e; exact ⟨a, rfl, h1⟩
  | _ :: _, _ :: _, ⟨_, h2⟩, i + 1, a, e => by
    obtain ⟨b, q, r⟩ := h2.get' (i := i) (b := a) (by simpa using e)
    exact ⟨b, by simpa using q, r⟩
  | [], [], _, _, _, e => by cases e
  | [], _ :: _, h, _, _, _ => h.elim
  | _ :: _, [], h, _, _, _ => h.elim

theorem All2.append {α β : Type} {R : α → β → Prop} : ∀ {l : List α} {m : List β}, All2 R l m → ∀ {l' : List α} {m' : List β}, All2 R l' m' → All2 R (l ++ l') (m ++ m')
  | [], [], _, _, _, h => h
  | _ :: _, _ :: _, ⟨h1, h2⟩, _, _, h => ⟨h1, h2.append h⟩
  | [], _ :: _, h, _, _, _ => h.elim
  | _ :: _, [], h, _, _, _ => h.elim

theorem Cell.Is.mono {c : Cell} {o : Obj} (h : c.Is X φ o) (p : φ <+: φ') : c.Is X φ' o := by
  cases c with
  | list xs => obtain ⟨vs, n, d, r⟩ := h; exact ⟨vs, n, d, r.mono fun _ _ x => VRel.mono x p⟩
  | tuple xs => obtain ⟨vs, n, d, r⟩ := h; exact ⟨vs, n, d, r.mono fun _ _ x => VRel.mono x p⟩
  | dict kvs ep => obtain ⟨a, es, kvs', d, k1, k2, k3, r⟩ := h; exact ⟨a, es, kvs', d, k1, k2, k3, r.mono fun _ _ x => ⟨x.1, VRel.mono x.2 p⟩⟩
  | set xs => exact h
  | inst C d xs => obtain ⟨dx, vs, e, r, z⟩ := h; exact ⟨dx, vs, get_of_prefix p e, r, z.mono fun _ _ x => OptRel.mono x p⟩
  | attrs kvs => obtain ⟨es, n, e, k, l, r⟩ := h; exact ⟨es, n, e, k, l, fun x => OptRel.mono (r x) p⟩
  | liter l i => obtain ⟨a, e, r⟩ := h; exact ⟨a, get_of_prefix p e, r⟩
  | nextOf it => obtain ⟨a, e, r⟩ := h; exact ⟨a, get_of_prefix p e, r⟩
  | pred P => obtain ⟨φ₀, h1, h2⟩ := h; exact ⟨φ₀, h1.trans p, h2⟩
  | dead => trivial

theorem Step.refl {fr fa : List Addr} {s : Shared} : Step fr φ fa s φ s := .mk' (⟨rfl, rfl, rfl⟩) (List.prefix_refl _) (fun _ _ e _ _ => e) (fun _ h h' => absurd h h')

theorem Step.trans {fr fa : List Addr} {s s' s'' : Shared} (a : Step fr φ fa s φ' s') (b : Step fr φ' fa s' φ'' s'') (hd : ∀ x ∈ fa, x ∉ φ'') : Step fr φ fa s φ'' s'' := by
  have hn : ∀ x, x ∉ φ → (∃ o, s.heap.get? x = some o) → x ∉ φ' := fun x hx ⟨o, e⟩ hm => by
    have := a.fresh x hm hx; rw [e] at this; cases this
  refine ⟨⟨b.sh.1.trans a.sh.1, b.sh.2.1.trans a.sh.2.1, b.sh.2.2.trans a.sh.2.2⟩, a.pre.trans b.pre, fun x o e h1 h2 h3 => b.keep x o (a.keep x o e h1 h2 h3) (hn x h1 ⟨o, e⟩) h2 h3, fun x o e h1 h2 => ?_, fun x hx hx' => ?_⟩
  · obtain ⟨sl, q⟩ := a.slots x o e h1 h2
    obtain ⟨sl', q'⟩ := b.slots x _ q (hn x h1 ⟨o, e⟩) h2
    exact ⟨sl', q'⟩
  by_cases h : x ∈ φ'
  · exact a.fresh x h hx'
  · cases e : s.heap.get? x with
    | none => rfl
    | some o =>
      have h2 : x ∉ fa := fun hf => hd x hf hx
      obtain ⟨sl, this⟩ := a.slots x o e hx' h2
      rw [b.fresh x hx h] at this; cases this

theorem FrOk.dis {env : Env} {vars : List (Str × V)} {h : Heap} (f : FrOk X φ env vars h) : ∀ x ∈ fAddrs env, x ∉ φ := fun x hx => (f.fa x hx).1

theorem Base.keeps {K : Frag} {h h' : Heap} (b : Base K h) (k : ∀ a o, ¬ Free K a → h.get? a = some o → h'.get? a = some o) : Base K h' := by
  obtain ⟨x, ⟨mg, og, eg, pg, hg, rg⟩, ⟨mb, ⟨ob, eb, pb, hb, rb⟩, hm⟩, ⟨mc, ⟨oc, ec, pc, hc, rc⟩, hl⟩⟩ := b
  exact ⟨fun a o e => k a o (fun f => by rw [f.1] at e; cases e) (x a o e), ⟨mg, og, eg, pg, k _ _ (fun f => f.2.1 rfl) hg, rg⟩, ⟨mb, ⟨ob, eb, pb, k _ _ (fun f => f.2.2.1 rfl) hb, rb⟩, hm⟩, ⟨mc, ⟨oc, ec, pc, k _ _ (fun f => f.2.2.2.1 rfl) hc, rc⟩, hl⟩⟩

theorem Base.free {K : Frag} {h : Heap} (b : Base K h) {a : Addr} (e : h.get? a = none) (hs : a ≠ sysModules) : Free K a := by
  obtain ⟨x, ⟨mg, og, eg, pg, hg, rg⟩, ⟨mb, ⟨ob, eb, pb, hb, rb⟩, hm⟩, ⟨mc, ⟨oc, ec, pc, hc, rc⟩, hl⟩⟩ := b
  refine ⟨?_, fun z => ?_, fun z => ?_, fun z => ?_, hs⟩
  · cases q : K.lookup a with
    | none => rfl
    | some o => rw [x a o q] at e; cases e
  · rw [z, hg] at e; cases e
  · rw [z, hb] at e; cases e
  · rw [z, hc] at e; cases e

theorem get_none_of_size {h : Heap} {a : Addr} (ha : h.objs.size ≤ a) : h.get? a = none := by
  cases q : h.get? a with
  | none => rfl
  | some o => exact absurd (Heap.lt_size q) (Nat.not_lt.mpr ha)
theorem Base.above {K : Frag} {h : Heap} (b : Base K h) {a : Addr} (ha : h.objs.size ≤ a) : a ≠ sysModules := by
  obtain ⟨mc, ⟨oc, ec, pc, hc, rc⟩, hl⟩ := b.nl
  have h2 : (2 : Nat) < h.objs.size := Heap.lt_size hc
  intro e
  subst e
  have h3 : h.objs.size ≤ 1 := ha
  omega


/-- go on from a triple inside a wp with any ends -/
theorem Tri.seq {α β : Type} {A : Around} {env : Env} {s : Shared} {t : Sem α} {rel : List Addr → β → α → Prop} {Q : β → St → Prop} {P : α → Shared → Prop} {E : Value → Shared → Prop}
    (h : Tri X A env φ s t rel Q) (k : ∀ v s₁ φ₁ r st₁, Step X.fr φ (fAddrs env) s φ₁ s₁ → Rel X φ₁ env st₁ s₁.heap → rel φ₁ r v → Q r st₁ → P v s₁) : wpAny (md X) A t P E s :=
  wpAny_mono h (fun v s₁ ⟨φ₁, r, st₁, S, R, hr, q⟩ => k v s₁ φ₁ r st₁ S R hr q) fun _ _ x => x.elim

/-- the end of a goal is put behind a letter, so that steps do not copy it -/
theorem wpAny_hide {M : Model} {α : Type} {A : Around} {t : Sem α} {P : α → Shared → Prop} {E : Value → Shared → Prop} {s : Shared} (h : ∀ P' : α → Shared → Prop, (∀ v s', P v s' → P' v s') → wpAny M A t P' E s) : wpAny M A t P E s := h P fun _ _ x => x
theorem codeAny_hide {M : Model} {A : Around} {c : Code} {R : Result → Shared → Prop} {s : Shared} (h : ∀ R' : Result → Shared → Prop, (∀ v s', R v s' → R' v s') → codeAny M A c R' s) : codeAny M A c R s := h R fun _ _ x => x
/-- a triple's end -/
theorem Tri.here {α β : Type} {env : Env} {s s' : Shared} {φ' : List Addr} {v : α} {r : β} {st : St} {rel : List Addr → β → α → Prop} {Q : β → St → Prop}
    (S : Step X.fr φ (fAddrs env) s φ' s') (R : Rel X φ' env st s'.heap) (hr : rel φ' r v) (q : Q r st) : TriP X env φ s rel Q v s' := ⟨φ', r, st, S, R, hr, q⟩

/-- what was done before is put ahead -/
theorem Tri.after {α β : Type} {A : Around} {env : Env} {s s₁ : Shared} {φ₁ : List Addr} {t : Sem α} {rel : List Addr → β → α → Prop} {Q : β → St → Prop} {E : Value → Shared → Prop}
    (S : Step X.fr φ (fAddrs env) s φ₁ s₁) (h : Tri X A env φ₁ s₁ t rel Q) : wpAny (md X) A t (TriP X env φ s rel Q) E s₁ :=
  wpAny_mono h (fun _ _ ⟨φ₂, r', st₂, S', R', hr', q'⟩ => ⟨φ₂, r', st₂, S.trans S' R'.f.dis, R', hr', q'⟩) fun _ _ x => x.elim

def setv (x : Str) (v : V) : List (Str × V) → List (Str × V)
  | [] => [(x, v)]
  | (y, u) :: r => if y = x then (y, v) :: r else (y, u) :: setv x v r

theorem lookup_setv (x : Str) (v : V) (y : Str) : ∀ l : List (Str × V), (setv x v l).lookup y = if y = x then some v else l.lookup y
  | [] => by
    by_cases h : y = x
    · subst h; simp [setv]
    · simp [setv, h, List.lookup, beq_eq_false_iff_ne.mpr h]
  | (z, u) :: r => by
    unfold setv
    by_cases hz : z = x
    · subst hz
      by_cases h : y = z
      · subst h; simp
      · simp [h, List.lookup, beq_eq_false_iff_ne.mpr h]
    · rw [if_neg hz]
      by_cases h : y = z
      · subst h; simp [hz]
      · have := lookup_setv x v y r
        simp only [List.lookup, beq_eq_false_iff_ne.mpr h, this]

theorem RelC.ex {cs : List Cell} {h : Heap} (R : RelC X φ cs h) : ∀ a ∈ φ, ∃ o, h.get? a = some o := fun a ha => by
  obtain ⟨i, hi, rfl⟩ := List.mem_iff_getElem.mp ha
  obtain ⟨a', o, e1, e2, _⟩ := R.cell i (cs[i]'(R.len ▸ hi)) (List.getElem?_eq_getElem (R.len ▸ hi))
  rw [List.getElem?_eq_getElem hi] at e1
  cases e1
  exact ⟨o, e2⟩

theorem RelC.ext {cs : List Cell} {h h' : Heap} (R : RelC X φ cs h) (k : ∀ b o, h.get? b = some o → h'.get? b = some o) : RelC X φ cs h' :=
  ⟨R.base.keeps fun a o _ e => k a o e, R.len, R.nd, R.low, fun l c hc => let ⟨a, o, e1, e2, e3⟩ := R.cell l c hc; ⟨a, o, e1, k a o e2, e3⟩, R.frs.keeps fun b o hb _ e hf => ⟨hb, o, k b o e, hf⟩⟩

theorem RelC.set {cs : List Cell} {h h' : Heap} {l : Nat} {a : Addr} {c' : Cell} {o' : Obj} (R : RelC X φ cs h) (ha : φ[l]? = some a) (k : ∀ b o, b ≠ a → h.get? b = some o → h'.get? b = some o) (ho : h'.get? a = some o') (hc : c'.Is X φ o') : RelC X φ (cs.set l c') h' := by
  have hma : a ∈ φ := List.mem_of_getElem? ha
  refine ⟨R.base.keeps fun b o hb e => k b o (fun z => hb (z ▸ R.low a hma)) e, by rw [List.length_set]; exact R.len, R.nd, R.low, fun j c hj => ?_, R.frs.keeps fun b o hb _ e hf => ⟨hb, o, k b o (fun z => hb (z ▸ hma)) e, hf⟩⟩
  rw [List.getElem?_set] at hj
  split at hj
  · rename_i e
    subst e
    split at hj
    · cases hj; exact ⟨a, o', ha, ho, hc⟩
    · cases hj
  · rename_i e
    obtain ⟨b, o, e1, e2, e3⟩ := R.cell j c hj
    refine ⟨b, o, e1, k b o (fun z => e ?_) e2, e3⟩
    subst z
    obtain ⟨h1, q1⟩ := List.getElem?_eq_some_iff.mp ha
    obtain ⟨h2, q2⟩ := List.getElem?_eq_some_iff.mp e1
    exact (List.getElem_inj R.nd).mp (q1.trans q2.symm)

theorem get_snoc {α : Type} (l : List α) (a : α) : (l ++ [a])[l.length]? = some a := by simp

theorem RelC.push {cs : List Cell} {h h' : Heap} {a : Addr} {c : Cell} {o : Obj} (R : RelC X φ cs h) (k : ∀ b o, h.get? b = some o → h'.get? b = some o) (hn : h.get? a = none) (hs : a ≠ sysModules) (ho : h'.get? a = some o) (hc : c.Is X (φ ++ [a]) o) : RelC X (φ ++ [a]) (cs ++ [c]) h' := by
  have p : φ <+: φ ++ [a] := List.prefix_append _ _
  have hna : a ∉ φ := fun hm => by obtain ⟨o', e⟩ := R.ex a hm; rw [hn] at e; cases e
  refine ⟨R.base.keeps fun a o _ e => k a o e, by simp [R.len], List.nodup_append.mpr ⟨R.nd, by simp, by simpa using fun x hx (z : x = a) => hna (z ▸ hx)⟩, fun b hb' => ?_, fun j c' hj => ?_, R.frs.keeps fun b o hb _ e hf => ⟨fun hm => ?_, o, k b o e, hf⟩⟩
  · rcases List.mem_append.mp hb' with h1 | h1
    · exact R.low b h1
    · rw [List.mem_singleton.mp h1]; exact R.base.free hn hs
  · rcases Nat.lt_trichotomy j cs.length with hlt | heq | hgt
    · rw [List.getElem?_append_left hlt] at hj
      obtain ⟨b, o', e1, e2, e3⟩ := R.cell j c' hj
      exact ⟨b, o', get_of_prefix p e1, k b o' e2, e3.mono p⟩
    · subst heq
      rw [get_snoc] at hj
      cases hj
      exact ⟨a, o, by rw [← R.len]; exact get_snoc _ _, ho, hc⟩
    · rw [List.getElem?_eq_none (by simp; omega)] at hj; cases hj
  · rcases List.mem_append.mp hm with h1 | h1
    · exact hb h1
    · rw [List.mem_singleton.mp h1, hn] at e; cases e

theorem Step.ext {fr fa : List Addr} {s s' : Shared} (h : s'.gens = s.gens ∧ s'.drawn = s.drawn ∧ s'.os = s.os) (k : ∀ b o, s.heap.get? b = some o → s'.heap.get? b = some o) : Step fr φ fa s φ s' :=
  .mk' h (List.prefix_refl _) (fun b o e _ _ => k b o e) (fun _ h h' => absurd h h')
theorem Step.set {fr fa : List Addr} {s s' : Shared} {a : Addr} (h : s'.gens = s.gens ∧ s'.drawn = s.drawn ∧ s'.os = s.os) (ha : a ∈ φ) (k : ∀ b o, b ≠ a → s.heap.get? b = some o → s'.heap.get? b = some o) : Step fr φ fa s φ s' :=
  .mk' h (List.prefix_refl _) (fun b o e hb _ => k b o (fun z => hb (z ▸ ha)) e) (fun _ h h' => absurd h h')
theorem Step.push {fr fa : List Addr} {s s' : Shared} {a : Addr} (h : s'.gens = s.gens ∧ s'.drawn = s.drawn ∧ s'.os = s.os) (k : ∀ b o, s.heap.get? b = some o → s'.heap.get? b = some o) (hn : s.heap.get? a = none) : Step fr φ fa s (φ ++ [a]) s' :=
  .mk' h (List.prefix_append _ _) (fun b o e _ _ => k b o e) fun x hx hx' => by
    rcases List.mem_append.mp hx with h1 | h1
    · exact absurd h1 hx'
    · rw [List.mem_singleton.mp h1]; exact hn
end basics

inductive TriCP {α β : Type} (X : Cx) (φ : List Addr) (s : Shared) (rel : List Addr → β → α → Prop) (Q : β → List Cell → Prop) (v : α) (s' : Shared) : Prop
  | mk (φ' : List Addr) (r : β) (cs' : List Cell) (S : Step X.fr φ [] s φ' s') (R : RelC X φ' cs' s'.heap) (hr : rel φ' r v) (q : Q r cs') : TriCP X φ s rel Q v s'
def TriC {α β : Type} (X : Cx) (A : Around) (φ : List Addr) (s : Shared) (t : Sem α) (rel : List Addr → β → α → Prop) (Q : β → List Cell → Prop) : Prop :=
  wpAny (md X) A t (TriCP X φ s rel Q) (fun _ _ => False) s

section
variable {X : Cx} {φ φ' : List Addr} {A : Around} {s s' : Shared}

theorem FrOk.step {env : Env} {vars : List (Str × V)} (f : FrOk X φ env vars s.heap) (S : Step X.fr φ [] s φ' s') : FrOk X φ' env vars s'.heap := by
  have keep : ∀ a ∈ fAddrs env, ∀ o, s.heap.get? a = some o → ∃ sl, s'.heap.get? a = some { o with slots := sl } := fun a ha o e => S.slots a o e (f.fa a ha).1 (fun h => nomatch h)
  have dis : ∀ a ∈ fAddrs env, a ∉ φ' := fun a ha hm => by
    obtain ⟨o, e⟩ := f.ex a ha
    have := S.fresh a hm (f.fa a ha).1; rw [e] at this; cases this
  obtain ⟨m, ⟨o, es, ep, ho, r⟩, hm⟩ := f.ns
  refine ⟨f.kind, f.glob, f.blt, fun a ha => ⟨dis a ha, (f.fa a ha).2⟩, f.nd, fun a ha => let ⟨o, e⟩ := f.ex a ha; let ⟨sl, e'⟩ := keep a ha o e; ⟨_, e'⟩, ?_, fun x hx => ?_, f.top⟩
  · obtain ⟨sl, e'⟩ := keep _ (.head _) o ho
    exact ⟨m, ⟨_, es, ep, e', r⟩, fun x hx => (hm x hx).mono S.pre⟩
  · obtain ⟨ca, v, hc, ⟨o', ho', hd'⟩, hr⟩ := f.cel x hx
    obtain ⟨sl, e'⟩ := keep ca (.tail _ (List.mem_map.mpr ⟨_, mem_of_lookup hc, rfl⟩)) o' ho'
    exact ⟨ca, v, hc, ⟨_, e', hd'⟩, hr.mono S.pre⟩

theorem Step.widen {fr fa : List Addr} (S : Step fr φ [] s φ' s') : Step fr φ fa s φ' s' := ⟨S.sh, S.pre, fun b o e h _ => S.keep b o e h (fun h => (nomatch h)), fun b o e h _ => S.slots b o e h (fun h => (nomatch h)), S.fresh⟩

theorem TriC.lift {α β : Type} {env : Env} {t : Sem α} {rel : List Addr → β → α → Prop} {Q : β → List Cell → Prop} {Q' : β → St → Prop} {st : St} (R : Rel X φ env st s.heap) (h : TriC X A φ s t rel Q) (q : ∀ r cs, Q r cs → Q' r ⟨cs, st.vars⟩) : Tri X A env φ s t rel Q' :=
  wpAny_mono h (fun _ _ ⟨φ', r, cs', S, R', hr, hq⟩ => ⟨φ', r, ⟨cs', st.vars⟩, S.widen, ⟨R', R.f.step S⟩, hr, q _ _ hq⟩) fun _ _ x => x


theorem TriC.mono {α β : Type} {t : Sem α} {rel : List Addr → β → α → Prop} {Q Q' : β → List Cell → Prop} (h : TriC X A φ s t rel Q) (q : ∀ r cs, Q r cs → Q' r cs) : TriC X A φ s t rel Q' :=
  wpAny_mono h (fun _ _ ⟨φ', r, cs', S, R', hr, hq⟩ => ⟨φ', r, cs', S, R', hr, q _ _ hq⟩) fun _ _ x => x

/-- tokens alone were drawn -/
theorem Step.toks {fr fa : List Addr} {tk : Nat} : Step fr φ fa s φ { s with toks := tk } := .mk' ⟨rfl, rfl, rfl⟩ (List.prefix_refl _) (fun _ _ e _ _ => e) (fun _ h h' => absurd h h')
end

def BRel (_ : List Addr) (b v : Bool) : Prop := v = b
theorem BRel.rfl (φ : List Addr) (b : Bool) : BRel φ b b := Eq.refl b
section
variable (X : Cx) (sc : Scope) (d : Nat) (cm : Bool)

def WE (e : Expr) (st : St) (Q : V → St → Prop) : Prop :=
  ∀ A env φ s, env.scope = sc → Room X d cm A → Rel X φ env st s.heap → Tri X A env φ s (eval e env) VRel Q

def WEs (es : List Expr) (pos : Pos) (st : St) (Q : List V → St → Prop) : Prop :=
  ∀ A env φ s, env.scope = sc → Room X d cm A → Rel X φ env st s.heap → Tri X A env φ s (spliced (backTo pos (starEach es env))) (fun φ => All2 (VRel φ)) Q

def WT (e : Expr) (st : St) (Q : Bool → St → Prop) : Prop :=
  ∀ A env φ s, env.scope = sc → Room X d cm A → Rel X φ env st s.heap → Tri X A env φ s (isTrue e env (eval e env)) BRel Q

/-- an operation on two values -/
def W2 (f : Value → Value → Sem Value) (a b : V) (cs : List Cell) (Q : V → List Cell → Prop) : Prop :=
  ∀ A φ s va vb, Room X d cm A → RelC X φ cs s.heap → VRel φ a va → VRel φ b vb → TriC X A φ s (f va vb) VRel Q
def W1 (f : Value → Sem Value) (a : V) (cs : List Cell) (Q : V → List Cell → Prop) : Prop :=
  ∀ A φ s va, Room X d cm A → RelC X φ cs s.heap → VRel φ a va → TriC X A φ s (f va) VRel Q
def WB1 (f : Value → Sem Bool) (a : V) (cs : List Cell) (Q : Bool → List Cell → Prop) : Prop :=
  ∀ A φ s va, Room X d cm A → RelC X φ cs s.heap → VRel φ a va → TriC X A φ s (f va) BRel Q
def WCV (f : V) (vs : List V) (cs : List Cell) (Q : V → List Cell → Prop) : Prop :=
  ∀ A φ s fv vals, Room X d cm A → RelC X φ cs s.heap → VRel φ f fv → All2 (VRel φ) vs vals → TriC X A φ s (call fv vals) VRel Q
/-- the same of the call's code -/
abbrev RetP (X : Cx) (φ : List Addr) (s : Shared) (Q : V → List Cell → Prop) : Result → Shared → Prop := fun r s' => match r with
    | .ok (.ret v) => TriCP X φ s VRel Q v s'
    | .ok _ => False
    | .error e => False
def WCC (f : V) (vs : List V) (cs : List Cell) (Q : V → List Cell → Prop) : Prop :=
  ∀ A φ s fv vals, Room X d cm A → RelC X φ cs s.heap → VRel φ f fv → All2 (VRel φ) vs vals → codeAny (md X) A (.call fv ⟨vals, []⟩) (RetP X φ s Q) s
end

section
variable {X : Cx} {sc : Scope} {d : Nat} {cm : Bool} {st : St} {Q : V → St → Prop}

theorem WE.name {x : Str} {pos : Pos} {r : V} (hk : sc.names.lookup x = some .local ∨ sc.names.lookup x = some .cell) (hv : st.vars.lookup x = some r) (q : Q r st) (hd : (x == ("__debug__" : Str)) = false := by decide) : WE X sc d cm (.Name x pos) st Q := by
  intro A env φ s he hA R
  subst he
  rcases hk with hk | hk
  · obtain ⟨m, hn, hm⟩ := R.f.ns
    have := hm x hk
    rw [hv] at this
    cases hmx : m x with
    | none => rw [hmx] at this; exact this.elim
    | some v =>
      rw [hmx] at this
      exact wpAny_Name (wpAny_loadName_local R.f.kind hk hn hmx (Tri.here .refl R this q)) hd
  · obtain ⟨ca, v, hc, hi, hr⟩ := R.f.cel x hk
    rw [hv] at hr
    cases v with
    | none => exact hr.elim
    | some v => exact wpAny_Name (wpAny_loadName_cell R.f.kind hk hc hi (Tri.here .refl R hr q)) hd

theorem WE.global {x : Str} {pos : Pos} {v : Value} (hk : sc.names.lookup x = some .globalImplicit) (hv : nsIn X.K mainGlobals x = some (some v)) {r : V} (hr : ∀ φ, VRel φ r v) (q : Q r st) (hd : (x == ("__debug__" : Str)) = false := by decide) : WE X sc d cm (.Name x pos) st Q := by
  intro A env φ s he hA R
  subst he
  obtain ⟨mg, hg⟩ := R.c.base.g
  refine wpAny_Name ?_ hd
  rw [loadName_read R.f.kind hk]
  exact Calls.loadGlobal_global (by rw [R.f.glob]; exact hg) (mg_of R.c.base.X hg hv) (Tri.here .refl R (hr _) q)

theorem WE.builtin {x : Str} {pos : Pos} {v : Value} (hk : sc.names.lookup x = some .globalImplicit) (hv : nsIn X.K mainGlobals x = some none) (hb : bootBuiltins x = some v) (hn : x ≠ "__name__") {r : V} (hr : ∀ φ, VRel φ r v) (q : Q r st) (hd : (x == ("__debug__" : Str)) = false := by decide) : WE X sc d cm (.Name x pos) st Q := by
  intro A env φ s he hA R
  subst he
  obtain ⟨mg, hg⟩ := R.c.base.g
  obtain ⟨mb, hbn, hbm⟩ := R.c.base.b
  refine wpAny_Name ?_ hd
  rw [loadName_read R.f.kind hk]
  exact Calls.loadGlobal_builtin (by rw [R.f.glob]; exact hg) (mg_none_of R.c.base.X hg hv) (by rw [R.f.blt]; exact hbn) ((hbm x hn).trans hb) (Tri.here .refl R (hr _) q)

theorem WCC.wcv {f : V} {vs : List V} {cs : List Cell} {Q : V → List Cell → Prop} (h : WCC X d cm f vs cs Q) : WCV X d cm f vs cs Q :=
  fun A φ s fv vals hA R hf hv => wpAny_call (h A φ s fv vals hA R hf hv)

theorem WE.mono {e : Expr} {Q' : V → St → Prop} (h : WE X sc d cm e st Q) (k : ∀ r st', Q r st' → Q' r st') : WE X sc d cm e st Q' :=
  fun A env φ s he hA R => wpAny_mono (h A env φ s he hA R) (fun _ _ ⟨φ', r, st', S, R', hr, q⟩ => ⟨φ', r, st', S, R', hr, k _ _ q⟩) fun _ _ x => x

theorem WE.binop {l r : Expr} {op : Operator} {pos : Pos} (h : WE X sc d cm l st fun a st₁ => WE X sc d cm r st₁ fun b st₂ => W2 X d cm (binaryOp op) a b st₂.cells fun v cs => Q v ⟨cs, st₂.vars⟩) : WE X sc d cm (.BinOp l op r pos) st Q := by
  intro A env φ s he hA R
  refine wpAny_BinOp (Tri.seq (h A env φ s he hA R) fun a s₁ φ₁ ra st₁ S₁ R₁ hra h₁ => ?_)
  refine Tri.seq (h₁ A env φ₁ s₁ he hA R₁) fun b s₂ φ₂ rb st₂ S₂ R₂ hrb h₂ => ?_
  exact Tri.after (S₁.trans S₂ R₂.f.dis) (TriC.lift R₂ (h₂ A φ₂ s₂ a b hA R₂.c (hra.mono S₂.pre) hrb) fun _ _ q => q)

theorem WE.compare {l r : Expr} {op : CmpOp} {pos : Pos} (h : WE X sc d cm l st fun a st₁ => WE X sc d cm r st₁ fun b st₂ => W2 X d cm (compareOp op) a b st₂.cells fun v cs => Q v ⟨cs, st₂.vars⟩) (hm : behindInMarks op r = false := by with_unfolding_all rfl) : WE X sc d cm (.Compare l [op] [r] pos) st Q := by
  intro A env φ s he hA R
  refine wpAny_Compare1 (Tri.seq (h A env φ s he hA R) fun a s₁ φ₁ ra st₁ S₁ R₁ hra h₁ => ?_) hm
  refine Tri.seq (h₁ A env φ₁ s₁ he hA R₁) fun b s₂ φ₂ rb st₂ S₂ R₂ hrb h₂ => ?_
  exact Tri.after (S₁.trans S₂ R₂.f.dis) (TriC.lift R₂ (h₂ A φ₂ s₂ a b hA R₂.c (hra.mono S₂.pre) hrb) fun _ _ q => q)

theorem WEs.nil {pos : Pos} {Q : List V → St → Prop} (q : Q [] st) : WEs X sc d cm [] pos st Q :=
  fun A env φ s he hA R => spliced_none (Tri.here (r := []) .refl R trivial q)

theorem WEs.cons {e : Expr} {rest : List Expr} {pos : Pos} {Q : List V → St → Prop} (h : WE X sc d cm e st fun a st₁ => WEs X sc d cm rest pos st₁ fun bs st₂ => Q (a :: bs) st₂)
    (hs : ∀ env, starEach (e :: rest) env = (false, eval e env) :: starEach rest env := by intro _; with_unfolding_all rfl) : WEs X sc d cm (e :: rest) pos st Q := by
  intro A env φ s he hA R
  refine spliced_more (Tri.seq (h A env φ s he hA R) fun a s₁ φ₁ ra st₁ S₁ R₁ hra h₁ => ?_) (hs env)
  refine wpAny_mono (h₁ A env φ₁ s₁ he hA R₁) (fun vs s₂ hv => ?_) fun _ _ x => x
  obtain ⟨φ₂, rs, st₂, S₂, R₂, hrs, q⟩ := hv
  exact ⟨φ₂, ra :: rs, st₂, S₁.trans S₂ R₂.f.dis, R₂, ⟨hra.mono S₂.pre, hrs⟩, q⟩

theorem WE.constStr {x : Str} {k : Nat} {pos : Pos} (q : Q (.str x) st) : WE X sc d cm (.Constant (.str x) k pos) st Q :=
  fun _ _ _ _ _ _ R => Calls.Constant_str (Tri.here .toks R (VRel.str _ _ _) q)
theorem WE.constInt {i : Int} {k : Nat} {pos : Pos} (q : Q (.int i) st) : WE X sc d cm (.Constant (.int i) k pos) st Q :=
  fun _ _ _ _ _ _ R => wpAny_Constant_int (Tri.here .toks R (VRel.int _ _ _) q)
theorem WE.constNone {k : Nat} {pos : Pos} (q : Q .none st) : WE X sc d cm (.Constant .none k pos) st Q :=
  fun _ _ _ _ _ _ R => wpAny_Constant_none (Tri.here .refl R (VRel.none _) q)
theorem WE.constBool {b : Bool} {k : Nat} {pos : Pos} (q : Q (.bool b) st) : WE X sc d cm (.Constant (.bool b) k pos) st Q :=
  fun _ _ _ _ _ _ R => Constant_bool (Tri.here .refl R (VRel.bool _ _) q)
end

inductive AFlow where
  | next
  | brk
  | cont
  | ret (v : V)

def FRel (φ : List Addr) : AFlow → Flow → Prop
  | .next, f => f = .next
  | .brk, f => f = .brk
  | .cont, f => f = .cont
  | .ret r, f => ∃ v, f = .ret v ∧ VRel φ r v

theorem FRel.next (φ : List Addr) : FRel φ .next .next := rfl
theorem FRel.brk (φ : List Addr) : FRel φ .brk .brk := rfl
theorem FRel.cont (φ : List Addr) : FRel φ .cont .cont := rfl
theorem FRel.ret {φ : List Addr} {r : V} {v : Value} (h : VRel φ r v) : FRel φ (.ret r) (.ret v) := ⟨v, rfl, h⟩

section
variable (X : Cx) (sc : Scope) (d : Nat) (cm : Bool)
def WS (b : Stmt) (st : St) (Q : AFlow → St → Prop) : Prop :=
  ∀ A env φ s, env.scope = sc → Room X d cm A → Rel X φ env st s.heap → Tri X A env φ s (exec b env) FRel Q
def WB (bs : List Stmt) (st : St) (Q : AFlow → St → Prop) : Prop :=
  ∀ A env φ s, env.scope = sc → Room X d cm A → Rel X φ env st s.heap → Tri X A env φ s (execs bs env) FRel Q
/-- a value into a target -/
def WA (t : Expr) (v : V) (st : St) (Q : St → Prop) : Prop :=
  ∀ A env φ s vv, env.scope = sc → Room X d cm A → Rel X φ env st s.heap → VRel φ v vv → Tri X A env φ s (assign t env vv) (fun _ (_ : Unit) (_ : Unit) => True) fun _ st' => Q st'
/-- a value into a field of an object -/
def WSA (o : V) (name : Str) (v : V) (st : St) (Q : St → Prop) : Prop :=
  ∀ A env φ s ov vv, Room X d cm A → Rel X φ env st s.heap → VRel φ o ov → VRel φ v vv → Tri X A env φ s (setAttr ov name vv) (fun _ (_ : Unit) (_ : Unit) => True) fun _ st' => Q st'
/-- a value into an item -/
def WSI (o i v : V) (cs : List Cell) (Q : List Cell → Prop) : Prop :=
  ∀ A φ s ov iv vv, Room X d cm A → RelC X φ cs s.heap → VRel φ o ov → VRel φ i iv → VRel φ v vv → TriC X A φ s (setItem ov iv vv) (fun _ (_ : Unit) (_ : Unit) => True) fun _ cs' => Q cs'
end

section
variable {X : Cx} {sc : Scope} {d : Nat} {cm : Bool} {st : St} {Q : AFlow → St → Prop}

theorem WB.nil (q : Q .next st) : WB X sc d cm [] st Q := fun A env φ s he hA R => wpAny_execs_nil (Tri.here .refl R (FRel.next _) q)

/-- what comes behind a statement -/
abbrev thenB (X : Cx) (sc : Scope) (d : Nat) (cm : Bool) (bs : List Stmt) (Q : AFlow → St → Prop) : AFlow → St → Prop := fun f st₁ => match f with | .next => WB X sc d cm bs st₁ Q | f => Q f st₁
theorem WB.cons {b : Stmt} {bs : List Stmt} (h : WS X sc d cm b st (thenB X sc d cm bs Q)) : WB X sc d cm (b :: bs) st Q := by
  intro A env φ s he hA R
  refine wpAny_execs_cons (Tri.seq (h A env φ s he hA R) fun f s₁ φ₁ r st₁ S₁ R₁ hr h₁ => ?_)
  cases r with
  | next => cases (hr : f = .next); exact Tri.after S₁ (h₁ A env φ₁ s₁ he hA R₁)
  | brk => cases (hr : f = .brk); exact Tri.here S₁ R₁ (FRel.brk _) h₁
  | cont => cases (hr : f = .cont); exact Tri.here S₁ R₁ (FRel.cont _) h₁
  | ret v => obtain ⟨u, rfl, hv⟩ := hr; exact Tri.here S₁ R₁ (FRel.ret hv) h₁

theorem WS.mono {b : Stmt} {Q' : AFlow → St → Prop} (h : WS X sc d cm b st Q) (k : ∀ r st', Q r st' → Q' r st') : WS X sc d cm b st Q' :=
  fun A env φ s he hA R => wpAny_mono (h A env φ s he hA R) (fun _ _ ⟨φ', r, st', S, R', hr, q⟩ => ⟨φ', r, st', S, R', hr, k _ _ q⟩) fun _ _ x => x
theorem WB.mono {b : List Stmt} {Q' : AFlow → St → Prop} (h : WB X sc d cm b st Q) (k : ∀ r st', Q r st' → Q' r st') : WB X sc d cm b st Q' :=
  fun A env φ s he hA R => wpAny_mono (h A env φ s he hA R) (fun _ _ ⟨φ', r, st', S, R', hr, q⟩ => ⟨φ', r, st', S, R', hr, k _ _ q⟩) fun _ _ x => x

theorem WS.pass {pos : Pos} (q : Q .next st) : WS X sc d cm (.Pass pos) st Q := fun _ _ _ _ _ _ R => wpAny_Pass (Tri.here .refl R (FRel.next _) q)
theorem WS.break {pos : Pos} (q : Q .brk st) : WS X sc d cm (.Break pos) st Q := fun _ _ _ _ _ _ R => wpAny_Break (Tri.here .refl R (FRel.brk _) q)
theorem WS.continue {pos : Pos} (q : Q .cont st) : WS X sc d cm (.Continue pos) st Q := fun _ _ _ _ _ _ R => wpAny_Continue (Tri.here .refl R (FRel.cont _) q)
theorem WS.ret {e : Expr} {pos : Pos} (h : WE X sc d cm e st fun r st₁ => Q (.ret r) st₁) : WS X sc d cm (.Return (some e) pos) st Q :=
  fun A env φ s he hA R => wpAny_Return_some (Tri.seq (h A env φ s he hA R) fun _ _ _ _ _ S₁ R₁ hr h₁ => Tri.here S₁ R₁ (FRel.ret hr) h₁)

theorem WS.ite {test : Expr} {body orelse : List Stmt} {pos : Pos} (h : WT X sc d cm test st fun b st₁ => if b = true then WB X sc d cm body st₁ Q else WB X sc d cm orelse st₁ Q) : WS X sc d cm (.If test body orelse pos) st Q := by
  intro A env φ s he hA R
  refine wpAny_If (Tri.seq (h A env φ s he hA R) fun b s₁ φ₁ r st₁ S₁ R₁ hr h₁ => ?_)
  cases (hr : b = r)
  cases b with
  | true => rw [if_pos rfl] at h₁ ⊢; exact Tri.after S₁ (h₁ A env φ₁ s₁ he hA R₁)
  | false => rw [if_neg Bool.false_ne_true] at h₁ ⊢; exact Tri.after S₁ (h₁ A env φ₁ s₁ he hA R₁)

/-- a name is set -/
theorem store_name {x : Str} {v : V} {vv : Value} {A : Around} {env : Env} {φ : List Addr} {s : Shared} (hk : env.kindOf x = some .local ∨ env.kindOf x = some .cell) (R : Rel X φ env st s.heap) (hv : VRel φ v vv) {Q : St → Prop} (q : Q ⟨st.cells, setv x v st.vars⟩) :
    Tri X A env φ s (storeName env x vv) (fun _ (_ : Unit) (_ : Unit) => True) fun _ st' => Q st' := by
  have hR : ∀ h', RelC X φ st.cells s.heap → (∀ b o, b ∉ fAddrs env → s.heap.get? b = some o → h'.get? b = some o) → FrsOk X φ h' → RelC X φ st.cells h' := fun h' C k hfrs =>
    ⟨C.base.keeps fun a o hf e => k a o (fun hm => hf (R.f.fa a hm).2) e, C.len, C.nd, C.low, fun l c hc => let ⟨a, o, e1, e2, e3⟩ := C.cell l c hc; ⟨a, o, e1, k a o (fun hm => (R.f.fa a hm).1 (List.mem_of_getElem? e1)) e2, e3⟩, hfrs⟩
  obtain ⟨m, hn, hm⟩ := R.f.ns
  have key : ∀ (h' : Heap) (tk : Nat) (z : Addr), z ∈ fAddrs env → (∃ o, h'.get? z = some o ∧ ∀ vs, o.data ≠ .fields vs) → Heap.SameBut z s.heap h' → (∃ m', h'.Ns env.locals m' ∧ ∀ y, env.kindOf y = some .local → OptRel φ ((setv x v st.vars).lookup y) (m' y)) →
      (∀ y, env.kindOf y = some .cell → ∃ ca u, env.cells.lookup y = some ca ∧ h'.IsCell ca u ∧ OptRel φ ((setv x v st.vars).lookup y) u) → TriP X env φ s (fun _ (_ : Unit) (_ : Unit) => True) (fun _ st' => Q st') () { s with heap := h', toks := tk } := by
    intro h' tk z hz hzo hs hns hcel
    have keep : ∀ b o, b ∉ fAddrs env → s.heap.get? b = some o → h'.get? b = some o := fun b o hb e => (hs.2 b (fun q => hb (q ▸ hz))).trans e
    have hfrs : FrsOk X φ h' := R.c.frs.keeps fun b o hb _ e hf => by
      by_cases ez : b = z
      · subst ez; exact ⟨hb, hzo⟩
      · exact ⟨hb, o, (hs.2 b ez).trans e, hf⟩
    refine ⟨φ, (), ⟨st.cells, setv x v st.vars⟩, .mk' ⟨rfl, rfl, rfl⟩ (List.prefix_refl _) (fun b o e _ hb => keep b o hb e) (fun _ h h' => absurd h h'), ⟨hR h' R.c keep hfrs, R.f.kind, R.f.glob, R.f.blt, R.f.fa, R.f.nd, fun a ha => ?_, hns, hcel, R.f.top⟩, trivial, q⟩
    by_cases e : a = z
    · subst e; exact let ⟨o, h, _⟩ := hzo; ⟨o, h⟩
    · obtain ⟨o, ho⟩ := R.f.ex a ha; exact ⟨o, (hs.2 a e).trans ho⟩
  rcases hk with hk | hk
  · refine wpAny_storeName_local hk hn (fun h' hn' hs' => key h' _ env.locals (.head _) (let ⟨o, _, _, e, hd, _⟩ := hn'; ⟨o, e, fun vs q => by rw [hd] at q; cases q⟩) hs' ⟨_, hn', fun y hy => ?_⟩ fun y hy => ?_) (by rw [R.f.kind]; rfl)
    · rw [lookup_setv]
      by_cases e : y = x
      · simp only [e, if_true]; exact hv
      · simp only [if_neg e]; exact hm y hy
    · obtain ⟨ca, u, hc, hi, hr⟩ := R.f.cel y hy
      have hne : ca ≠ env.locals := fun e => (List.nodup_cons.mp R.f.nd).1 (e ▸ List.mem_map.mpr ⟨_, mem_of_lookup hc, rfl⟩)
      refine ⟨ca, u, hc, hi.sameBut hs' hne, ?_⟩
      rw [lookup_setv, if_neg]; exact hr
      rintro rfl; rw [hk] at hy; cases hy
  · obtain ⟨ca, u, hc, hi, hr⟩ := R.f.cel x hk
    have hmem : ca ∈ env.cells.map (·.2) := List.mem_map.mpr ⟨_, mem_of_lookup hc, rfl⟩
    have hne : env.locals ≠ ca := fun e => (List.nodup_cons.mp R.f.nd).1 (e ▸ hmem)
    refine wpAny_storeName_cell R.f.kind hk hc hi fun h' hi' hs' => key h' _ ca (.tail _ hmem) (let ⟨o, e, hd⟩ := hi'; ⟨o, e, fun vs q => by rw [hd] at q; cases q⟩) hs' ⟨m, hn.sameBut hs' hne, fun y hy => ?_⟩ fun y hy => ?_
    · rw [lookup_setv, if_neg]; exact hm y hy
      rintro rfl; rw [hk] at hy; cases hy
    · rw [lookup_setv]
      by_cases e : y = x
      · subst e; rw [if_pos rfl]; exact ⟨ca, some vv, hc, hi', hv⟩
      · rw [if_neg e]
        obtain ⟨cb, u', hc', hi'', hr'⟩ := R.f.cel y hy
        refine ⟨cb, u', hc', hi''.sameBut hs' (fun z => e ?_), hr'⟩
        subst z
        exact name_of_addr (by
          have := (List.nodup_cons.mp R.f.nd).2
          rw [List.nodup_iff_pairwise_ne] at this
          exact List.pairwise_map.mp this) (mem_of_lookup hc') (mem_of_lookup hc)

def Stores (sc : Scope) (x : Str) : Prop := sc.names.lookup x = some .local ∨ sc.names.lookup x = some .cell

theorem WS.assign {x : Str} {p pos : Pos} {e : Expr} (hk : sc.names.lookup x = some .local ∨ sc.names.lookup x = some .cell) (h : WE X sc d cm e st fun v st₁ => Q .next ⟨st₁.cells, setv x v st₁.vars⟩)
    (hs : ∀ env : Env, swapsWith e (some (.Name x p)) pos.line env = pure false := by intro _; with_unfolding_all rfl) : WS X sc d cm (.Assign [.Name x p] e pos) st Q := by
  intro A env φ s he hA R
  subst he
  refine wpAny_Assign_Name (Tri.seq (h A env φ s rfl hA R) fun v s₁ φ₁ r st₁ S₁ R₁ hr h₁ => ?_) (hs env)
  exact wpAny_mono (store_name (Q := fun st' => Q .next st') hk R₁ hr h₁) (fun _ s₂ ⟨φ₂, _, st₂, S₂, R₂, _, q⟩ => Tri.here (S₁.trans S₂ R₂.f.dis) R₂ (FRel.next _) q) fun _ _ x => x.elim

theorem WA.name {x : Str} {p : Pos} {v : V} {Q : St → Prop} (hk : sc.names.lookup x = some .local ∨ sc.names.lookup x = some .cell) (q : Q ⟨st.cells, setv x v st.vars⟩) : WA X sc d cm (.Name x p) v st Q := by
  intro A env φ s vv he hA R hv
  subst he
  exact assign_Name (store_name hk R hv q)

theorem WS.augName {x : Str} {p pos : Pos} {op : Operator} {e : Expr} {old : V} (hk : sc.names.lookup x = some .local) (hv : st.vars.lookup x = some old) (h : WE X sc d cm e st fun v st₁ => W2 X d cm (inplaceOp op) old v st₁.cells fun r cs => Q .next ⟨cs, setv x r st₁.vars⟩) :
    WS X sc d cm (.AugAssign (.Name x p) op e pos) st Q := by
  intro A env φ s he hA R
  subst he
  obtain ⟨m, hn, hm⟩ := R.f.ns
  have := hm x hk
  rw [hv] at this
  cases hmx : m x with
  | none => rw [hmx] at this; exact this.elim
  | some o =>
    rw [hmx] at this
    refine wpAny_AugAssign_Name (wpAny_loadName_local R.f.kind hk hn hmx ?_)
    refine Tri.seq (h A env φ s rfl hA R) fun v s₁ φ₁ r st₁ S₁ R₁ hr h₁ => ?_
    refine Tri.seq (TriC.lift R₁ (h₁ A φ₁ s₁ o v hA R₁.c (VRel.mono this S₁.pre) hr) (Q' := fun r st₂ => st₂.vars = st₁.vars ∧ Q .next ⟨st₂.cells, setv x r st₁.vars⟩) fun r cs q => ⟨rfl, q⟩) fun u s₂ φ₂ r₂ st₂ S₂ R₂ hr₂ h₂ => ?_
    refine wpAny_mono (store_name (Q := fun st' => Q .next st') (.inl hk) R₂ hr₂ (by rw [h₂.1]; exact h₂.2)) (fun _ s₃ ⟨φ₃, _, st₃, S₃, R₃, _, q⟩ => Tri.here ((S₁.trans S₂ R₂.f.dis).trans S₃ R₃.f.dis) R₃ (FRel.next _) q) fun _ _ x => x.elim

theorem WS.expr {e : Expr} {pos : Pos} (h : WE X sc d cm e st fun v st₁ => (∀ l, v ≠ .ref l) ∧ (∀ u, v ≠ .val u) ∧ Q .next st₁)
    (hi : ∀ env : Env, env.scope.kind = .function → interactive env = false := by intro _ h; simp [interactive, h]) (hs : ∀ env : Env, swapsWith e none pos.line env = pure false := by intro _; with_unfolding_all rfl) : WS X sc d cm (.Expr e pos) st Q := by
  intro A env φ s he hA R
  subst he
  refine wpAny_Expr (Tri.seq (h A env φ s rfl hA R) fun v s₁ φ₁ r st₁ S₁ R₁ hr h₁ => ?_) (hi env R.f.kind) (hs env)
  have e : Tri.here S₁ R₁ (FRel.next _) h₁.2.2 = Tri.here S₁ R₁ (FRel.next _) h₁.2.2 := rfl
  cases r with
  | none => cases (hr : v = .none); exact Tri.here S₁ R₁ (FRel.next _) h₁.2.2
  | bool b => cases (hr : v = .bool b); exact Tri.here S₁ R₁ (FRel.next _) h₁.2.2
  | int i => obtain ⟨t, rfl⟩ := hr; exact Tri.here S₁ R₁ (FRel.next _) h₁.2.2
  | str i => obtain ⟨t, rfl⟩ := hr; exact Tri.here S₁ R₁ (FRel.next _) h₁.2.2
  | ref l => exact absurd rfl (h₁.1 l)
  | val u => exact absurd rfl (h₁.2.1 u)
end

section
variable {X : Cx} {sc : Scope} {d : Nat} {cm : Bool} {st : St} {Q : Bool → St → Prop}

theorem WT.mono {e : Expr} {Q' : Bool → St → Prop} (h : WT X sc d cm e st Q) (k : ∀ r st', Q r st' → Q' r st') : WT X sc d cm e st Q' :=
  fun A env φ s he hA R => wpAny_mono (h A env φ s he hA R) (fun _ _ ⟨φ', r, st', S, R', hr, q⟩ => ⟨φ', r, st', S, R', hr, k _ _ q⟩) fun _ _ x => x

theorem WT.compare {l r : Expr} {op : CmpOp} {pos : Pos} (h : WE X sc d cm l st fun a st₁ => WE X sc d cm r st₁ fun b st₂ => W2 X d cm (compareOp op) a b st₂.cells fun v cs => ∃ t, v = .bool t ∧ Q t ⟨cs, st₂.vars⟩) (hm : behindInMarks op r = false := by with_unfolding_all rfl) : WT X sc d cm (.Compare l [op] [r] pos) st Q := by
  intro A env φ s he hA R
  refine wpAny_isTrue_Compare1 (Tri.seq (h A env φ s he hA R) fun a s₁ φ₁ ra st₁ S₁ R₁ hra h₁ => ?_) hm
  refine Tri.seq (h₁ A env φ₁ s₁ he hA R₁) fun b s₂ φ₂ rb st₂ S₂ R₂ hrb h₂ => ?_
  refine Tri.seq (TriC.lift R₂ (h₂ A φ₂ s₂ a b hA R₂.c (hra.mono S₂.pre) hrb) (Q' := fun v st₃ => ∃ t, v = .bool t ∧ Q t st₃) fun _ _ q => q) fun v s₃ φ₃ rv st₃ S₃ R₃ hrv h₃ => ?_
  obtain ⟨t, rfl, q⟩ := h₃
  cases (hrv : v = .bool t)
  exact wpAny_truthy_bool (Tri.here ((S₁.trans S₂ R₂.f.dis).trans S₃ R₃.f.dis) R₃ (BRel.rfl _ _) q)

theorem WT.not {e : Expr} {pos : Pos} (h : WT X sc d cm e st fun b st₁ => Q (!b) st₁) : WT X sc d cm (.UnaryOp .Not e pos) st Q :=
  fun A env φ s he hA R => isTrue_not (Tri.seq (h A env φ s he hA R) fun _ _ _ _ _ S₁ R₁ hr h₁ => Tri.here S₁ R₁ (by cases hr; exact BRel.rfl _ _) h₁)

theorem WT.and_nil {pos : Pos} (q : Q true st) : WT X sc d cm (.BoolOp .And [] pos) st Q := fun _ _ _ _ _ _ R => isTrue_and_nil (Tri.here .refl R (BRel.rfl _ _) q)
theorem WT.or_nil {pos : Pos} (q : Q false st) : WT X sc d cm (.BoolOp .Or [] pos) st Q := fun _ _ _ _ _ _ R => isTrue_or_nil (Tri.here .refl R (BRel.rfl _ _) q)
theorem WT.and {e : Expr} {rest : List Expr} {pos : Pos} (h : WT X sc d cm e st fun b st₁ => if b = true then WT X sc d cm (.BoolOp .And rest pos) st₁ Q else Q false st₁) : WT X sc d cm (.BoolOp .And (e :: rest) pos) st Q := by
  intro A env φ s he hA R
  refine isTrue_and (Tri.seq (h A env φ s he hA R) fun b s₁ φ₁ r st₁ S₁ R₁ hr h₁ => ?_)
  cases (hr : b = r)
  cases b with
  | true => rw [if_pos rfl] at h₁ ⊢; exact Tri.after S₁ (h₁ A env φ₁ s₁ he hA R₁)
  | false => rw [if_neg Bool.false_ne_true] at h₁ ⊢; exact Tri.here S₁ R₁ (BRel.rfl _ _) h₁
theorem WT.or {e : Expr} {rest : List Expr} {pos : Pos} (h : WT X sc d cm e st fun b st₁ => if b = true then Q true st₁ else WT X sc d cm (.BoolOp .Or rest pos) st₁ Q) : WT X sc d cm (.BoolOp .Or (e :: rest) pos) st Q := by
  intro A env φ s he hA R
  refine isTrue_or (Tri.seq (h A env φ s he hA R) fun b s₁ φ₁ r st₁ S₁ R₁ hr h₁ => ?_)
  cases (hr : b = r)
  cases b with
  | true => rw [if_pos rfl] at h₁ ⊢; exact Tri.here S₁ R₁ (BRel.rfl _ _) h₁
  | false => rw [if_neg Bool.false_ne_true] at h₁ ⊢; exact Tri.after S₁ (h₁ A env φ₁ s₁ he hA R₁)

theorem WT.plain {e : Expr} (h : WE X sc d cm e st fun v st₁ => WB1 X d cm truthy v st₁.cells fun b cs => Q b ⟨cs, st₁.vars⟩)
    (hp : ∀ (env : Env) (whole : Sem Value), isTrue e env whole = (do let v ← whole; standAt e.pos; holding [v] (truthy v)) := by intro _ _; with_unfolding_all rfl) : WT X sc d cm e st Q := by
  intro A env φ s he hA R
  refine isTrue_plain (Tri.seq (h A env φ s he hA R) fun v s₁ φ₁ r st₁ S₁ R₁ hr h₁ => ?_) (hp env _)
  exact Tri.after S₁ (TriC.lift R₁ (h₁ A φ₁ s₁ v hA R₁.c hr) fun _ _ q => q)

/-- and, or as values -/
theorem WE.or2 {e₁ e₂ : Expr} {rest : List Expr} {pos : Pos} {Q : V → St → Prop} (h : WE X sc d cm e₁ st fun v st₁ => WB1 X d cm truthy v st₁.cells fun b cs => if b = true then Q v ⟨cs, st₁.vars⟩ else WE X sc d cm (.BoolOp .Or (e₂ :: rest) pos) ⟨cs, st₁.vars⟩ Q) : WE X sc d cm (.BoolOp .Or (e₁ :: e₂ :: rest) pos) st Q := by
  intro A env φ s he hA R
  refine BoolOp_or (Tri.seq (h A env φ s he hA R) fun v s₁ φ₁ r st₁ S₁ R₁ hr h₁ => ?_)
  refine Tri.seq (TriC.lift R₁ (h₁ A φ₁ s₁ v hA R₁.c hr) (Q' := fun b st₂ => if b = true then Q r st₂ else WE X sc d cm (.BoolOp .Or (e₂ :: rest) pos) st₂ Q) fun _ _ q => q) fun b s₂ φ₂ rb st₂ S₂ R₂ hrb h₂ => ?_
  cases (hrb : b = rb)
  have S := S₁.trans S₂ R₂.f.dis
  cases b with
  | true => rw [if_pos rfl] at h₂ ⊢; exact Tri.here S R₂ (hr.mono S₂.pre) h₂
  | false => rw [if_neg Bool.false_ne_true] at h₂ ⊢; exact Tri.after S (h₂ A env φ₂ s₂ he hA R₂)
theorem WE.boolOne {e : Expr} {op : BoolOp} {pos : Pos} {Q : V → St → Prop} (h : WE X sc d cm e st Q) : WE X sc d cm (.BoolOp op [e] pos) st Q :=
  fun A env φ s he hA R => BoolOp_one (h A env φ s he hA R)
end

section ops
variable {X : Cx} {d : Nat} {cm : Bool} {cs : List Cell} {Q : V → List Cell → Prop}

theorem TriC.ret {α β : Type} {φ : List Addr} {s : Shared} {tk : Nat} {v : α} {r : β} {rel : List Addr → β → α → Prop} {Q : β → List Cell → Prop} (R : RelC X φ cs s.heap) (hr : rel φ r v) (q : Q r cs) :
    TriCP X φ s rel Q v { s with toks := tk } := ⟨φ, r, cs, .toks, R, hr, q⟩
theorem TriC.ret0 {α β : Type} {φ : List Addr} {s : Shared} {v : α} {r : β} {rel : List Addr → β → α → Prop} {Q : β → List Cell → Prop} (R : RelC X φ cs s.heap) (hr : rel φ r v) (q : Q r cs) :
    TriCP X φ s rel Q v s := ⟨φ, r, cs, .refl, R, hr, q⟩

theorem W2.addInt {a b : Int} (q : Q (.int (a + b)) cs) : W2 X d cm (binaryOp .Add) (.int a) (.int b) cs Q := by
  rintro A φ s va vb hA R ⟨t, rfl⟩ ⟨u, rfl⟩; exact add_int (TriC.ret R (VRel.int _ _ _) q)
theorem W2.subInt {a b : Int} (q : Q (.int (a - b)) cs) : W2 X d cm (binaryOp .Sub) (.int a) (.int b) cs Q := by
  rintro A φ s va vb hA R ⟨t, rfl⟩ ⟨u, rfl⟩; exact sub_int (TriC.ret R (VRel.int _ _ _) q)
theorem W2.modInt {a b : Int} (hb : b ≠ 0) (q : Q (.int (a.fmod b)) cs) : W2 X d cm (binaryOp .Mod) (.int a) (.int b) cs Q := by
  rintro A φ s va vb hA R ⟨t, rfl⟩ ⟨u, rfl⟩; exact mod_int hb (TriC.ret R (VRel.int _ _ _) q)
theorem W2.addStr {x y : Str} (q : Q (.str (x ++ y)) cs) (hz : x.length + y.length ≤ sizeLine) : W2 X d cm (binaryOp .Add) (.str x) (.str y) cs Q := by
  rintro A φ s va vb hA R ⟨t, rfl⟩ ⟨u, rfl⟩; exact add_str (fun t' tk => TriC.ret R (VRel.str _ _ _) q) hz
theorem W2.eqStr {x y : Str} (q : Q (.bool (x == y)) cs) : W2 X d cm (compareOp .Eq) (.str x) (.str y) cs Q := by
  rintro A φ s va vb hA R ⟨t, rfl⟩ ⟨u, rfl⟩; exact eq_str (TriC.ret0 R (VRel.bool _ _) q)
theorem W2.neStr {x y : Str} (q : Q (.bool (x != y)) cs) : W2 X d cm (compareOp .NotEq) (.str x) (.str y) cs Q := by
  rintro A φ s va vb hA R ⟨t, rfl⟩ ⟨u, rfl⟩; exact ne_str (TriC.ret0 R (VRel.bool _ _) q)
theorem W2.eqInt {x y : Int} (q : Q (.bool (x == y)) cs) : W2 X d cm (compareOp .Eq) (.int x) (.int y) cs Q := by
  rintro A φ s va vb hA R ⟨t, rfl⟩ ⟨u, rfl⟩; exact eq_int (TriC.ret0 R (VRel.bool _ _) q)
theorem W2.neInt {x y : Int} (q : Q (.bool (x != y)) cs) : W2 X d cm (compareOp .NotEq) (.int x) (.int y) cs Q := by
  rintro A φ s va vb hA R ⟨t, rfl⟩ ⟨u, rfl⟩; exact ne_int (TriC.ret0 R (VRel.bool _ _) q)
theorem W2.ltInt {x y : Int} (q : Q (.bool (decide (x < y))) cs) : W2 X d cm (compareOp .Lt) (.int x) (.int y) cs Q := by
  rintro A φ s va vb hA R ⟨t, rfl⟩ ⟨u, rfl⟩; exact lt_int (TriC.ret0 R (VRel.bool _ _) q)
theorem W2.gtInt {x y : Int} (q : Q (.bool (decide (x > y))) cs) : W2 X d cm (compareOp .Gt) (.int x) (.int y) cs Q := by
  rintro A φ s va vb hA R ⟨t, rfl⟩ ⟨u, rfl⟩; exact gt_int (TriC.ret0 R (VRel.bool _ _) q)
theorem W2.geInt {x y : Int} (q : Q (.bool (decide (x ≥ y))) cs) : W2 X d cm (compareOp .GtE) (.int x) (.int y) cs Q := by
  rintro A φ s va vb hA R ⟨t, rfl⟩ ⟨u, rfl⟩; exact ge_int (TriC.ret0 R (VRel.bool _ _) q)

def V.isNone : V → Bool
  | .none => true
  | .val u => u == .none
  | _ => false
theorem VRel.isNone {φ : List Addr} {r : V} {v : Value} (h : VRel φ r v) : (v == .none) = r.isNone := by
  cases r with
  | none => cases (h : v = .none); rfl
  | bool b => cases (h : v = .bool b); rfl
  | int b => obtain ⟨t, rfl⟩ := h; rfl
  | str b => obtain ⟨t, rfl⟩ := h; rfl
  | ref b => obtain ⟨t, _, rfl⟩ := h; rfl
  | val u => cases (h : v = u); rfl
theorem W2.isNone {a : V} (q : Q (.bool a.isNone) cs) : W2 X d cm (compareOp .Is) a .none cs Q := by
  rintro A φ s va vb hA R ha hb; cases (hb : vb = .none)
  exact is_none (TriC.ret0 R (by rw [ha.isNone]; exact VRel.bool _ _) q)
theorem W2.isNotNone {a : V} (q : Q (.bool (!a.isNone)) cs) (hv : ∀ u, a ≠ .val u := by intro _ h; cases h) : W2 X d cm (compareOp .IsNot) a .none cs Q := by
  rintro A φ s va vb hA R ha hb; cases (hb : vb = .none)
  exact wpAny_isNot_plain (by cases a <;> first | exact absurd rfl (hv _) | (cases (ha : va = _); rfl) | (obtain ⟨_, rfl⟩ := ha; rfl) | (obtain ⟨_, _, rfl⟩ := ha; rfl)) (TriC.ret0 R (by rw [ha.isNone]; exact VRel.bool _ _) q)
theorem W2.inStr {x y : Str} (q : Q (.bool (Txt.contains x y)) cs) : W2 X d cm (compareOp .In) (.str y) (.str x) cs Q := by
  rintro A φ s va vb hA R ⟨t, rfl⟩ ⟨u, rfl⟩; exact SB.contains (TriC.ret0 R (VRel.bool _ _) q)
theorem W2.neBool {x y : Bool} (q : Q (.bool (x != y)) cs) : W2 X d cm (compareOp .NotEq) (.bool x) (.bool y) cs Q := by
  rintro A φ s va vb hA R ha hb; cases (ha : va = .bool x); cases (hb : vb = .bool y); exact ne_bool (TriC.ret0 R (VRel.bool _ _) q)

theorem WB1.truthyBool {b : Bool} {Q : Bool → List Cell → Prop} (q : Q b cs) : WB1 X d cm truthy (.bool b) cs Q := by
  rintro A φ s va hA R ha; cases (ha : va = .bool b); exact wpAny_truthy_bool (TriC.ret0 R (BRel.rfl _ _) q)
theorem WB1.truthyNone {Q : Bool → List Cell → Prop} (q : Q false cs) : WB1 X d cm truthy .none cs Q := by
  rintro A φ s va hA R ha; cases (ha : va = .none); exact truthy_none (TriC.ret0 R (BRel.rfl _ _) q)
theorem WB1.truthyStr {x : Str} {Q : Bool → List Cell → Prop} (hz : x.length < 1000) (q : Q (x.length != 0) cs) : WB1 X d cm truthy (.str x) cs Q := by
  rintro A φ s va hA R ⟨t, rfl⟩
  refine P.truthy_str (by omega) (TriC.ret R ?_ q)
  show ((x.length : Int) != 0) = (x.length != 0)
  cases h : x.length with
  | zero => rfl
  | succ n => simp; omega
theorem WB1.truthyList {l : Nat} {xs : List V} {Q : Bool → List Cell → Prop} (hl : cs[l]? = some (.list xs)) (hz : xs.length < 1000) (q : Q (!xs.isEmpty) cs) : WB1 X d cm truthy (.ref l) cs Q := by
  rintro A φ s va hA R ⟨a, e, rfl⟩
  obtain ⟨a', o, e1, e2, vs, n, rfl, h2⟩ := R.cell l _ hl
  rw [e] at e1; cases e1
  have hlen := h2.length
  refine wpAny_truthy_list ⟨_, e2, rfl, n, rfl⟩ (by rw [← Array.length_toList]; omega) (TriC.ret R ?_ q)
  cases xs <;> cases vs with | mk l => cases l <;> first | rfl | cases hlen
end ops

section
variable (X : Cx)
/-- method lookups that give a built-in, or a function of the text -/
def MethB (ov : V) (name : Str) (cs : List Cell) (id : String) : Prop :=
  ∀ A φ s v (pl : Sem Bool) (P : Value × List Value → Shared → Prop) (E : Value → Shared → Prop), RelC X φ cs s.heap → VRel φ ov v → P (.builtin id, [v]) s → wpAny (md X) A (getMethod v name pl) P E s
def MethF (ov : V) (name : Str) (cs : List Cell) (f : Addr) : Prop :=
  ∀ A φ s v (pl : Sem Bool) (P : Value × List Value → Shared → Prop) (E : Value → Shared → Prop), RelC X φ cs s.heap → VRel φ ov v → P (.ref f, [v]) s → wpAny (md X) A (getMethod v name pl) P E s
end

section
variable {X : Cx} {sc : Scope} {d : Nat} {cm : Bool} {st : St} {Q : V → St → Prop}

theorem WCV.use {f : V} {vs : List V} {Q : V → List Cell → Prop} {env : Env} {φ : List Addr} {s : Shared} {A : Around} {fv : Value} {vals : List Value} {st : St} {Q' : V → St → Prop} (h : WCV X d cm f vs st.cells Q) (hA : Room X d cm A) (R : Rel X φ env st s.heap) (hf : VRel φ f fv) (hv : All2 (VRel φ) vs vals)
    (q : ∀ r cs, Q r cs → Q' r ⟨cs, st.vars⟩) : Tri X A env φ s (call fv vals) VRel Q' := TriC.lift R (h A φ s fv vals hA R.c hf hv) q

theorem WCC.mono {f : V} {vs : List V} {cs : List Cell} {Q Q' : V → List Cell → Prop} (h : WCC X d cm f vs cs Q) (q : ∀ r cs, Q r cs → Q' r cs) : WCC X d cm f vs cs Q' :=
  fun A φ s fv vals hA R hf hv => codeAny_mono (h A φ s fv vals hA R hf hv) fun r s' hr => by
    rcases r with e | (v | _ | _ | _) <;> first | exact hr.elim | skip
    obtain ⟨φ', r, cs', S, R', hv, hq⟩ := hr
    exact ⟨φ', r, cs', S, R', hv, q _ _ hq⟩

theorem WCV.mono {f : V} {vs : List V} {cs : List Cell} {Q Q' : V → List Cell → Prop} (h : WCV X d cm f vs cs Q) (q : ∀ r cs, Q r cs → Q' r cs) : WCV X d cm f vs cs Q' :=
  fun A φ s fv vals hA R hf hv => (h A φ s fv vals hA R hf hv).mono q

theorem WE.callK {func e : Expr} {rest : List Expr} {pos : Pos} (h : WE X sc d cm func st fun f st₁ => ∃ v, f = .val v ∧ keepIn X.K v = true ∧ WEs X sc d cm (e :: rest) pos st₁ fun vs st₂ => WCV X d cm f vs st₂.cells fun r cs => Q r ⟨cs, st₂.vars⟩)
    (hs : ∀ env, starEach (e :: rest) env = (false, eval e env) :: starEach rest env := by intro _; with_unfolding_all rfl) (hp : ∀ env, (backTo pos (starEach rest env)).any (·.1) = false := by intro _; with_unfolding_all rfl)
    (he : ∀ env, eval (.Call func (e :: rest) [] pos) env = (do callWith pos (← eval func env) [] (backTo pos (starEach (e :: rest) env)) (backToKw pos (keywordEach [] env))) := by intro _; with_unfolding_all rfl) : WE X sc d cm (.Call func (e :: rest) [] pos) st Q := by
  intro A env φ s hsc hA R
  refine Call_ (Tri.seq (h A env φ s hsc hA R) fun f s₁ φ₁ r st₁ S₁ R₁ hr h₁ => ?_) (he env)
  obtain ⟨v, rfl, hk, h₁⟩ := h₁
  cases (hr : f = v)
  refine callWith_K R₁.c.base.X hk (Tri.seq (h₁ A env φ₁ s₁ hsc hA R₁) fun vals s₂ φ₂ vs st₂ S₂ R₂ hvs h₂ => ⟨R₂.c.base.X, ?_⟩) (hs env) (hp env)
  exact Tri.after (S₁.trans S₂ R₂.f.dis) (h₂.use hA R₂ (VRel.val _ _) hvs fun _ _ q => q)

theorem WE.callK0 {func : Expr} {pos : Pos} (h : WE X sc d cm func st fun f st₁ => ∃ v, f = .val v ∧ keepIn X.K v = true ∧ WCV X d cm f [] st₁.cells fun r cs => Q r ⟨cs, st₁.vars⟩)
    (he : ∀ env, eval (.Call func [] [] pos) env = (do callWith pos (← eval func env) [] (backTo pos (starEach [] env)) (backToKw pos (keywordEach [] env))) := by intro _; with_unfolding_all rfl) : WE X sc d cm (.Call func [] [] pos) st Q := by
  intro A env φ s hsc hA R
  refine Call_ (Tri.seq (h A env φ s hsc hA R) fun f s₁ φ₁ r st₁ S₁ R₁ hr h₁ => ?_) (he env)
  obtain ⟨v, rfl, hk, h₁⟩ := h₁
  cases (hr : f = v)
  exact callWith_K0 R₁.c.base.X hk (Tri.after S₁ (h₁.use hA R₁ (VRel.val _ _) trivial fun _ _ q => q))

theorem WE.callB {func e : Expr} {rest : List Expr} {pos : Pos} (h : WE X sc d cm func st fun f st₁ => ∃ id, f = .val (.builtin id) ∧ WEs X sc d cm (e :: rest) pos st₁ fun vs st₂ => WCV X d cm f vs st₂.cells fun r cs => Q r ⟨cs, st₂.vars⟩)
    (hs : ∀ env, starEach (e :: rest) env = (false, eval e env) :: starEach rest env := by intro _; with_unfolding_all rfl) (hp : ∀ env, (backTo pos (starEach rest env)).any (·.1) = false := by intro _; with_unfolding_all rfl)
    (he : ∀ env, eval (.Call func (e :: rest) [] pos) env = (do callWith pos (← eval func env) [] (backTo pos (starEach (e :: rest) env)) (backToKw pos (keywordEach [] env))) := by intro _; with_unfolding_all rfl) : WE X sc d cm (.Call func (e :: rest) [] pos) st Q := by
  intro A env φ s hsc hA R
  refine Call_ (Tri.seq (h A env φ s hsc hA R) fun f s₁ φ₁ r st₁ S₁ R₁ hr h₁ => ?_) (he env)
  obtain ⟨id, rfl, h₁⟩ := h₁
  cases (hr : f = _)
  refine PyProof.Rows.callWith_builtin1 (Tri.seq (h₁ A env φ₁ s₁ hsc hA R₁) fun vals s₂ φ₂ vs st₂ S₂ R₂ hvs h₂ => ?_) (hs env) (hp env)
  exact Tri.after (S₁.trans S₂ R₂.f.dis) (h₂.use hA R₂ (VRel.val _ _) hvs fun _ _ q => q)

theorem WE.callT {func e : Expr} {rest : List Expr} {pos : Pos} (h : WE X sc d cm func st fun f st₁ => ∃ T, f = .val (.type T) ∧ WEs X sc d cm (e :: rest) pos st₁ fun vs st₂ => WCV X d cm f vs st₂.cells fun r cs => Q r ⟨cs, st₂.vars⟩)
    (hs : ∀ env, starEach (e :: rest) env = (false, eval e env) :: starEach rest env := by intro _; with_unfolding_all rfl) (hp : ∀ env, (backTo pos (starEach rest env)).any (·.1) = false := by intro _; with_unfolding_all rfl)
    (he : ∀ env, eval (.Call func (e :: rest) [] pos) env = (do callWith pos (← eval func env) [] (backTo pos (starEach (e :: rest) env)) (backToKw pos (keywordEach [] env))) := by intro _; with_unfolding_all rfl) : WE X sc d cm (.Call func (e :: rest) [] pos) st Q := by
  intro A env φ s hsc hA R
  refine Call_ (Tri.seq (h A env φ s hsc hA R) fun f s₁ φ₁ r st₁ S₁ R₁ hr h₁ => ?_) (he env)
  obtain ⟨id, rfl, h₁⟩ := h₁
  cases (hr : f = _)
  refine PyProof.Rows.callWith_type1 (Tri.seq (h₁ A env φ₁ s₁ hsc hA R₁) fun vals s₂ φ₂ vs st₂ S₂ R₂ hvs h₂ => ?_) (hs env) (hp env)
  exact Tri.after (S₁.trans S₂ R₂.f.dis) (h₂.use hA R₂ (VRel.val _ _) hvs fun _ _ q => q)

theorem WE.callT0 {func : Expr} {pos : Pos} (h : WE X sc d cm func st fun f st₁ => ∃ T, f = .val (.type T) ∧ WCV X d cm f [] st₁.cells fun r cs => Q r ⟨cs, st₁.vars⟩)
    (he : ∀ env, eval (.Call func [] [] pos) env = (do callWith pos (← eval func env) [] (backTo pos (starEach [] env)) (backToKw pos (keywordEach [] env))) := by intro _; with_unfolding_all rfl) : WE X sc d cm (.Call func [] [] pos) st Q := by
  intro A env φ s hsc hA R
  refine Call_ (Tri.seq (h A env φ s hsc hA R) fun f s₁ φ₁ r st₁ S₁ R₁ hr h₁ => ?_) (he env)
  obtain ⟨v, rfl, h₁⟩ := h₁
  cases (hr : f = _)
  exact callWith_type0 (Tri.after S₁ (h₁.use hA R₁ (VRel.val _ _) trivial fun _ _ q => q))

/-- method calls -/
theorem WE.methB {o e : Expr} {name : Str} {rest : List Expr} {apos pos : Pos} (h : WE X sc d cm o st fun ov st₁ => ∃ id, MethB X ov name st₁.cells id ∧ WEs X sc d cm (e :: rest) pos st₁ fun vs st₂ => WCV X d cm (.val (.builtin id)) (ov :: vs) st₂.cells fun r cs => Q r ⟨cs, st₂.vars⟩)
    {pl : Env → Sem Bool} (hs : ∀ env, starEach (e :: rest) env = (false, eval e env) :: starEach rest env := by intro _; with_unfolding_all rfl) (hp : ∀ env, (backTo pos (starEach rest env)).any (·.1) = false := by intro _; with_unfolding_all rfl)
    (he : ∀ env, eval (.Call (.Attribute o name apos) (e :: rest) [] pos) env = (do let ov ← eval o env; standAt apos.atName; let (f, first) ← holding [ov] (getMethod ov name (pl env)); callWith pos f first (backTo pos (starEach (e :: rest) env)) []) := by intro _; with_unfolding_all rfl) : WE X sc d cm (.Call (.Attribute o name apos) (e :: rest) [] pos) st Q := by
  intro A env φ s hsc hA R
  refine MethodCall_ (pl := pl env) (Tri.seq (h A env φ s hsc hA R) fun ov s₁ φ₁ r st₁ S₁ R₁ hr h₁ => ?_) (he env)
  obtain ⟨id, hm, h₁⟩ := h₁
  refine hm A φ₁ s₁ ov _ _ _ R₁.c hr ?_
  refine callWith_method1 (Tri.seq (h₁ A env φ₁ s₁ hsc hA R₁) fun vals s₂ φ₂ vs st₂ S₂ R₂ hvs h₂ => ?_) (hs env) (hp env)
  exact Tri.after (S₁.trans S₂ R₂.f.dis) (h₂.use hA R₂ (VRel.val _ _) ⟨hr.mono S₂.pre, hvs⟩ fun _ _ q => q)

theorem WE.methB0 {o : Expr} {name : Str} {apos pos : Pos} (h : WE X sc d cm o st fun ov st₁ => ∃ id, MethB X ov name st₁.cells id ∧ WCV X d cm (.val (.builtin id)) [ov] st₁.cells fun r cs => Q r ⟨cs, st₁.vars⟩)
    {pl : Env → Sem Bool} (he : ∀ env, eval (.Call (.Attribute o name apos) [] [] pos) env = (do let ov ← eval o env; standAt apos.atName; let (f, first) ← holding [ov] (getMethod ov name (pl env)); callWith pos f first (backTo pos (starEach [] env)) []) := by intro _; with_unfolding_all rfl) : WE X sc d cm (.Call (.Attribute o name apos) [] [] pos) st Q := by
  intro A env φ s hsc hA R
  refine MethodCall_ (pl := pl env) (Tri.seq (h A env φ s hsc hA R) fun ov s₁ φ₁ r st₁ S₁ R₁ hr h₁ => ?_) (he env)
  obtain ⟨id, hm, h₁⟩ := h₁
  refine hm A φ₁ s₁ ov _ _ _ R₁.c hr ?_
  exact callWith_method0 (Tri.after S₁ (h₁.use hA R₁ (VRel.val _ _) ⟨hr, trivial⟩ fun _ _ q => q))

theorem WE.methF {o e : Expr} {name : Str} {rest : List Expr} {apos pos : Pos} (h : WE X sc d cm o st fun ov st₁ => ∃ f, MethF X ov name st₁.cells f ∧ keepIn X.K (.ref f) = true ∧ WEs X sc d cm (e :: rest) pos st₁ fun vs st₂ => WCV X d cm (.val (.ref f)) (ov :: vs) st₂.cells fun r cs => Q r ⟨cs, st₂.vars⟩)
    {pl : Env → Sem Bool} (hs : ∀ env, starEach (e :: rest) env = (false, eval e env) :: starEach rest env := by intro _; with_unfolding_all rfl) (hp : ∀ env, (backTo pos (starEach rest env)).any (·.1) = false := by intro _; with_unfolding_all rfl)
    (he : ∀ env, eval (.Call (.Attribute o name apos) (e :: rest) [] pos) env = (do let ov ← eval o env; standAt apos.atName; let (f, first) ← holding [ov] (getMethod ov name (pl env)); callWith pos f first (backTo pos (starEach (e :: rest) env)) []) := by intro _; with_unfolding_all rfl) : WE X sc d cm (.Call (.Attribute o name apos) (e :: rest) [] pos) st Q := by
  intro A env φ s hsc hA R
  refine MethodCall_ (pl := pl env) (Tri.seq (h A env φ s hsc hA R) fun ov s₁ φ₁ r st₁ S₁ R₁ hr h₁ => ?_) (he env)
  obtain ⟨f, hm, hk, h₁⟩ := h₁
  refine hm A φ₁ s₁ ov _ _ _ R₁.c hr ?_
  refine callWith_K R₁.c.base.X hk (Tri.seq (h₁ A env φ₁ s₁ hsc hA R₁) fun vals s₂ φ₂ vs st₂ S₂ R₂ hvs h₂ => ⟨R₂.c.base.X, ?_⟩) (hs env) (hp env)
  exact Tri.after (S₁.trans S₂ R₂.f.dis) (h₂.use hA R₂ (VRel.val _ _) ⟨hr.mono S₂.pre, hvs⟩ fun _ _ q => q)

theorem WE.methF0 {o : Expr} {name : Str} {apos pos : Pos} (h : WE X sc d cm o st fun ov st₁ => ∃ f, MethF X ov name st₁.cells f ∧ keepIn X.K (.ref f) = true ∧ WCV X d cm (.val (.ref f)) [ov] st₁.cells fun r cs => Q r ⟨cs, st₁.vars⟩)
    {pl : Env → Sem Bool} (he : ∀ env, eval (.Call (.Attribute o name apos) [] [] pos) env = (do let ov ← eval o env; standAt apos.atName; let (f, first) ← holding [ov] (getMethod ov name (pl env)); callWith pos f first (backTo pos (starEach [] env)) []) := by intro _; with_unfolding_all rfl) : WE X sc d cm (.Call (.Attribute o name apos) [] [] pos) st Q := by
  intro A env φ s hsc hA R
  refine MethodCall_ (pl := pl env) (Tri.seq (h A env φ s hsc hA R) fun ov s₁ φ₁ r st₁ S₁ R₁ hr h₁ => ?_) (he env)
  obtain ⟨f, hm, hk, h₁⟩ := h₁
  refine hm A φ₁ s₁ ov _ _ _ R₁.c hr ?_
  exact callWith_K0 R₁.c.base.X hk (Tri.after S₁ (h₁.use hA R₁ (VRel.val _ _) ⟨hr, trivial⟩ fun _ _ q => q))

/-- what a def gives back -/
def retOf : AFlow → V
  | .ret v => v
  | _ => .none

theorem cells_has (x : Str) : ∀ (names : List (Str × NameKind)) (n : Nat) (acc : List (Str × Addr)), ((x, NameKind.cell) ∈ names ∨ (acc.lookup x).isSome = true) → ((cellsFrom n names acc).lookup x).isSome = true
  | [], _, _, h => h.elim (fun h => nomatch h) id
  | (y, k) :: r, n, acc, h => by
    unfold cellsFrom
    split
    · refine cells_has x r _ _ ?_
      rcases h with h | h
      · rcases List.mem_cons.mp h with e | h
        · cases e; right; simp
        · exact .inl h
      · right
        by_cases e : x = y
        · subst e; simp
        · simp only [List.lookup, beq_eq_false_iff_ne.mpr e]; exact h
    · rename_i hk
      refine cells_has x r _ _ ?_
      rcases h with h | h
      · rcases List.mem_cons.mp h with e | h
        · cases e; exact absurd rfl hk
        · exact .inl h
      · exact .inr h

theorem lookup_zip_none {x : Str} {α : Type} : ∀ {ps : List Str} {vs : List α}, x ∉ ps → (ps.zip vs).lookup x = none
  | [], _, _ => by simp
  | _ :: _, [], _ => by simp
  | p :: ps, v :: vs, h => by
    have h1 : x ≠ p := fun e => h (e ▸ .head _)
    simp only [List.zip_cons_cons, List.lookup, beq_eq_false_iff_ne.mpr h1]
    exact lookup_zip_none fun hm => h (.tail _ hm)

theorem bindL_rel {φ : List Addr} {kind : Str → Option NameKind} {x : Str} (hx : kind x = some .local) : ∀ {ps : List Str} {vs : List V} {vals : List Value} {m : Str → Option Value} {r : Option V}, All2 (VRel φ) vs vals → ps.Nodup → OptRel φ r (m x) →
    OptRel φ (((ps.zip vs).lookup x).or r) (bindL kind (ps.zip vals) m x)
  | [], _, _, _, _, _, _, h => by simpa [bindL] using h
  | _ :: _, [], [], _, _, _, _, h => by simpa [bindL] using h
  | p :: ps, v :: vs, u :: vals, m, r, ⟨h1, h2⟩, hn, h => by
    simp only [List.zip_cons_cons, bindL]
    have hn' := List.nodup_cons.mp hn
    by_cases e : x = p
    · subst e
      have := bindL_rel hx (ps := ps) (m := if kind x = some .local then fun y => if y = x then some u else m y else m) (r := some v) h2 hn'.2 (by rw [if_pos hx]; simp only [if_true]; exact h1)
      rw [lookup_zip_none hn'.1] at this
      simpa using this
    · have := bindL_rel hx (ps := ps) (m := if kind p = some .local then fun y => if y = p then some u else m y else m) (r := r) h2 hn'.2 (by split <;> simp [e, h])
      simp only [List.lookup, beq_eq_false_iff_ne.mpr e]
      exact this
  | _ :: _, [], _ :: _, _, _, h, _, _ => h.elim
  | _ :: _, _ :: _, [], _, _, h, _, _ => h.elim

theorem bindC_rel {φ : List Addr} {kind : Str → Option NameKind} {x : Str} (hx : kind x ≠ some .local) : ∀ {ps : List Str} {vs : List V} {vals : List Value} {m : Str → Option Value} {r : Option V}, All2 (VRel φ) vs vals → ps.Nodup → OptRel φ r (m x) →
    OptRel φ (((ps.zip vs).lookup x).or r) (bindC kind (ps.zip vals) m x)
  | [], _, _, _, _, _, _, h => by simpa [bindC] using h
  | _ :: _, [], [], _, _, _, _, h => by simpa [bindC] using h
  | p :: ps, v :: vs, u :: vals, m, r, ⟨h1, h2⟩, hn, h => by
    simp only [List.zip_cons_cons, bindC]
    have hn' := List.nodup_cons.mp hn
    by_cases e : x = p
    · subst e
      have := bindC_rel hx (ps := ps) (m := if kind x = some .local then m else fun y => if y = x then some u else m y) (r := some v) h2 hn'.2 (by rw [if_neg hx]; simp only [if_true]; exact h1)
      rw [lookup_zip_none hn'.1] at this
      simpa using this
    · have := bindC_rel hx (ps := ps) (m := if kind p = some .local then m else fun y => if y = p then some u else m y) (r := r) h2 hn'.2 (by split <;> simp [e, h])
      simp only [List.lookup, beq_eq_false_iff_ne.mpr e]
      exact this
  | _ :: _, [], _ :: _, _, _, h, _, _ => h.elim
  | _ :: _, _ :: _, [], _, _, h, _, _ => h.elim

theorem Room.deeper {A : Around} (h : Room X (d + 1) cm A) (env : Env) : Room (X.push env) d cm (A.deeper env) := by
  obtain ⟨h0, h1, h2, h3⟩ := h
  refine ⟨Around.frames_deeper h0, ?_, ?_, h3⟩
  · show A.depth + 1 + d + d < 600; omega
  · show A.units + 3 + 20 * d < 9000; omega

theorem mem_of_lookup' {α : Type} {l : List (Str × α)} {x : Str} {v : α} (h : l.lookup x = some v) : (x, v) ∈ l := mem_of_lookup h

theorem cellsFrom_keys : ∀ (names : List (Str × NameKind)) (n : Nat) (acc : List (Str × Addr)), (cellsFrom n names acc).map (·.1) = ((names.filter (·.2 == .cell)).map (·.1)).reverse ++ acc.map (·.1)
  | [], _, _ => by simp [cellsFrom]
  | (y, k) :: r, n, acc => by
    unfold cellsFrom
    split
    · rename_i h; rw [cellsFrom_keys r, List.filter_cons_of_pos (by simpa using h)]; simp
    · rename_i h; rw [cellsFrom_keys r, List.filter_cons_of_neg (by simpa using h)]

theorem lookup_of_nodup {α : Type} : ∀ {l : List (Str × α)} {n : Str} {c : α}, (l.map (·.1)).Nodup → (n, c) ∈ l → l.lookup n = some c
  | (m, c') :: r, n, c, hn, h => by
    have hn' := List.nodup_cons.mp hn
    rcases List.mem_cons.mp h with e | h
    · cases e; simp
    · have e : n ≠ m := fun e => hn'.1 (e ▸ List.mem_map.mpr ⟨_, h, rfl⟩)
      simp only [List.lookup, beq_eq_false_iff_ne.mpr e]
      exact lookup_of_nodup hn'.2 h

theorem isPush {env : Env} {φ : List Addr} {c : Cell} {o : Obj} : c.Is (X.push env) φ o ↔ c.Is X φ o := by cases c <;> exact Iff.rfl
theorem RelC.pop {env : Env} {φ : List Addr} {cs : List Cell} {h : Heap} (R : RelC (X.push env) φ cs h) : RelC X φ cs h :=
  ⟨R.base, R.len, R.nd, R.low, fun l c hc => let ⟨a, o, e1, e2, e3⟩ := R.cell l c hc; ⟨a, o, e1, e2, isPush.mp e3⟩, fun env' he' => R.frs env' (.tail _ he')⟩

/-- a call enters a def's frame -/
theorem enter_fn {cs : List Cell} {Q : V → List Cell → Prop} {f : Addr} {fd : FuncData} {body : List Stmt} {ps : List Str} {vs : List V} {A : Around} {φ : List Addr} {s : Shared} {vals : List Value} {E : Value → Shared → Prop} (hA : Room X (d + 1) cm A) (R : RelC X φ cs s.heap) (hv : All2 (VRel φ) vs vals)
    (hfix : fd.globals = mainGlobals ∧ fd.builtins = builtinsNs ∧ fd.closure = []) (hloc : (ps.all fun x => decide (fd.scope.names.lookup x = some .local) || decide (fd.scope.names.lookup x = some .cell)) = true) (hnd : ps.Nodup) (hnames : (fd.scope.names.map (·.1)).Nodup)
    (hflag : fd.scope.isCoroutine = false ∧ fd.scope.isGenerator = false ∧ fd.scope.kind = .function)
    (h : ∀ env, WB (X.push env) fd.scope d cm body ⟨cs, ps.zip vs⟩ fun fl st' => Q (retOf fl) st'.cells) :
    wpAny (md X) A.in1 (newFunctionEnv fd.scope fd.globals [] (ps.zip vals) (fd.qualname ++ ".<locals>.") (some f) fd.code none fd.builtins) (fun env s₂ => s₂.heap.NoLimit ∧ codeAny (md X) A (.func body env) (RetP X φ s Q) s₂) E s := by
  have hkind : ∀ x, fd.scope.names.lookup x = some .cell → ((cellsFrom (s.heap.objs.size + 1) fd.scope.names []).lookup x).isSome = true := fun x hx => cells_has x _ _ _ (.inl (mem_of_lookup hx))
  refine wpAny_newFunctionEnv_cells hflag.2.2 (fun x hx => ?_) fun env he s₁ C => ⟨R.base.nl.keeps C.toInCall.keep, codeAny_func ?_⟩
  · have hm : x.1 ∈ ps := (List.of_mem_zip (a := x.1) (b := x.2) hx).1
    have := List.all_eq_true.mp hloc x.1 hm
    rcases Bool.or_eq_true _ _ |>.mp this with e | e
    · exact .inl (of_decide_eq_true e)
    · exact .inr ⟨of_decide_eq_true e, hkind _ (of_decide_eq_true e)⟩
  · have hscope : env.scope = fd.scope := by rw [he]; rfl
    have hcells : env.cells = cellsFrom (s.heap.objs.size + 1) fd.scope.names [] := by rw [he]; rfl
    have hgl : env.globals = fd.globals := by rw [he]; rfl
    have hbl : env.builtins = fd.builtins := by rw [he]; rfl
    obtain ⟨⟨⟨h', tk, rfl⟩, hns, hkeep, hfr⟩, hcel, hap, hab⟩ := C
    dsimp only at hns hkeep hcel
    have hnone : ∀ a, s.heap.objs.size ≤ a → s.heap.get? a = none := fun a ha => by
      cases q : s.heap.get? a with
      | none => rfl
      | some o => exact absurd (Heap.lt_size q) (Nat.not_lt.mpr ha)
    have hge : ∀ a ∈ fAddrs env, s.heap.objs.size ≤ a := fun a ha => by
      rcases List.mem_cons.mp ha with e | ha
      · rw [e]; exact hfr
      · obtain ⟨⟨n, c⟩, hm, rfl⟩ := List.mem_map.mp ha
        exact Nat.le_of_lt (Nat.lt_of_le_of_lt hfr (hab n c hm))
    have hfa : ∀ a ∈ fAddrs env, s.heap.get? a = none := fun a ha => hnone a (hge a ha)
    have hkeys : (env.cells.map (·.1)).Nodup := by
      rw [hcells, cellsFrom_keys]
      simp only [List.map_nil, List.append_nil]
      rw [List.nodup_iff_pairwise_ne, List.pairwise_reverse]
      exact List.Pairwise.imp (fun h => Ne.symm h) (List.nodup_iff_pairwise_ne.mp (hnames.sublist (List.filter_sublist.map _)))
    have hex : ∀ a ∈ fAddrs env, ∃ o, h'.get? a = some o := fun a ha => by
      rcases List.mem_cons.mp ha with e | ha
      · obtain ⟨o, _, _, ho, _⟩ := hns; exact ⟨o, e ▸ ho⟩
      · obtain ⟨⟨n, c⟩, hm, rfl⟩ := List.mem_map.mp ha
        obtain ⟨o, ho, _⟩ := hcel n c (lookup_of_nodup hkeys hm)
        exact ⟨o, ho⟩
    have hfrm : env.frame = some env.locals := by rw [he]; rfl
    have hdis : ∀ a ∈ fAddrs env, a ∉ φ := fun a ha hm => by
      obtain ⟨o, e⟩ := R.ex a hm
      rw [hfa a ha] at e; cases e
    have RC : RelC (X.push env) φ cs h' := by
      have R0 : RelC X φ cs h' := R.ext hkeep
      refine ⟨R0.base, R0.len, R0.nd, R0.low, fun l c hc => let ⟨a, o, e1, e2, e3⟩ := R0.cell l c hc; ⟨a, o, e1, e2, isPush.mpr e3⟩, fun env' he' => ?_⟩
      rcases List.mem_cons.mp he' with rfl | he'
      · obtain ⟨o, es, ep, ho, hd, _⟩ := hns
        exact ⟨by rw [hscope, hflag.2.2]; decide, env'.locals, o, hfrm, hdis _ (.head _), R.base.free (hfa _ (.head _)) (R.base.above (hge _ (.head _))), ho, fun vs q => by rw [hd] at q; cases q⟩
      · exact R0.frs env' he'
    have F : FrOk (X.push env) φ env (ps.zip vs) h' := by
      refine ⟨by rw [hscope]; exact hflag.2.2, by rw [hgl]; exact hfix.1, by rw [hbl]; exact hfix.2.1, fun a ha => ⟨hdis a ha, R.base.free (hfa a ha) (R.base.above (hge a ha))⟩, ?_, hex, ⟨_, hns, fun x hx => ?_⟩, fun x hx => ?_, fun _ => ⟨⟨_, rfl⟩, hfrm⟩⟩
      · refine List.nodup_cons.mpr ⟨fun hm => ?_, ?_⟩
        · obtain ⟨⟨n, c⟩, hm, e⟩ := List.mem_map.mp hm
          exact absurd (hab n c hm) (by rw [show c = env.locals from e]; exact Nat.lt_irrefl _)
        · rw [List.nodup_iff_pairwise_ne]; exact List.pairwise_map.mpr hap
      · have := bindL_rel (φ := φ) (kind := env.kindOf) (m := fun _ => none) (r := none) hx hv hnd trivial
        simpa using this
      · have hx' : fd.scope.names.lookup x = some .cell := hscope ▸ hx
        obtain ⟨ca, hca⟩ := Option.isSome_iff_exists.mp (hkind x hx')
        refine ⟨ca, _, hcells ▸ hca, hcel x ca (hcells ▸ hca), ?_⟩
        have := bindC_rel (φ := φ) (kind := env.kindOf) (m := fun _ => none) (r := none) (by rw [hx]; decide) hv hnd trivial
        simpa using this
    refine wpAny_mono (h env (A.deeper env) env φ { s with heap := h', toks := tk } hscope (hA.deeper env) ⟨RC, F⟩) (fun fl s₂ hq => ?_) fun _ _ x => x.elim
    obtain ⟨φ₂, r, st₂, S₂, R₂, hr, q⟩ := hq
    have hnf : ∀ b o, s.heap.get? b = some o → b ∉ fAddrs env := fun b o e hm => by rw [hfa b hm] at e; cases e
    refine ⟨φ₂, retOf r, st₂.cells, ⟨⟨S₂.sh.1, S₂.sh.2.1, S₂.sh.2.2⟩, S₂.pre, fun b o e hb _ hfr' => S₂.keep b o (hkeep b o e) hb (hnf b o e) fun hm => ?_, fun b o e hb _ => S₂.slots b o (hkeep b o e) hb (hnf b o e), fun a ha hn => ?_⟩, RelC.pop R₂.c, ?_, q⟩
    · unfold Cx.fr Cx.push at hm
      rw [List.filterMap_cons, hfrm] at hm
      rcases List.mem_cons.mp hm with z | hm
      · exact hnf b o e (z ▸ .head _)
      · exact hfr' hm
    · cases e : s.heap.get? a with
      | none => rfl
      | some o => have := S₂.fresh a ha hn; rw [hkeep a o e] at this; cases this
    · cases r with
      | next => cases (hr : fl = .next); exact VRel.none _
      | brk => cases (hr : fl = .brk); exact VRel.none _
      | cont => cases (hr : fl = .cont); exact VRel.none _
      | ret v => obtain ⟨u, rfl, hv'⟩ := hr; exact hv'
theorem len1 {β : Type} {F G : List Value → β} (h : ∀ a, F [a] = G [a]) : ∀ {vals : List Value}, vals.length = 1 → F vals = G vals
  | [a], _ => h a
theorem len2 {β : Type} {F G : List Value → β} (h : ∀ a b, F [a, b] = G [a, b]) : ∀ {vals : List Value}, vals.length = 2 → F vals = G vals
  | [a, b], _ => h a b
theorem len3 {β : Type} {F G : List Value → β} (h : ∀ a b c, F [a, b, c] = G [a, b, c]) : ∀ {vals : List Value}, vals.length = 3 → F vals = G vals
  | [a, b, c], _ => h a b c


theorem WCC.fn {cs : List Cell} {Q : V → List Cell → Prop} {f : Addr} {o : Obj} {fd : FuncData} {sc : Scope} {body : List Stmt} {ps : List Str} {vs : List V} (hK : X.K.lookup f = some o) (hd : o.data = .func fd) (hsc : fd.scope = sc) (hbody : fd.body = .stmts body)
    (hps : fd.params.args.map (·.arg) = ps) (hfix : fd.globals = mainGlobals ∧ fd.builtins = builtinsNs ∧ fd.closure = []) (hcode : codeIn X.K fd.code fd.qualname = true)
    (hb : ∀ vals : List Value, vals.length = vs.length → bindArgs fd ⟨vals, []⟩ = pure (ps.zip vals)) (hloc : (ps.all fun x => decide (sc.names.lookup x = some .local) || decide (sc.names.lookup x = some .cell)) = true) (hnd : ps.Nodup) (hnames : (sc.names.map (·.1)).Nodup)
    (hflag : sc.isCoroutine = false ∧ sc.isGenerator = false ∧ sc.kind = .function)
    (h : ∀ env, WB (X.push env) sc d cm body ⟨cs, ps.zip vs⟩ fun fl st' => Q (retOf fl) st'.cells) : WCC X (d + 1) cm (.val (.ref f)) vs cs Q := by
  intro A φ s fv vals hA R hf hv
  cases (hf : fv = .ref f)
  subst hsc
  refine codeAny_call_function (by have := hA.depth; show A.depth < 1000; omega) (R.base.X f o hK) hd hflag.1 hflag.2.1 hbody (codeRec_of R.base.X hcode) ?_
  rw [hb vals hv.length.symm, hfix.2.2]
  exact wpAny_pure (enter_fn hA R hv hfix hloc hnd hnames hflag h)

/-- a def with star parameters: the rest as a tuple -/
theorem WCC.fnStar {cs : List Cell} {Q : V → List Cell → Prop} {f : Addr} {o : Obj} {fd : FuncData} {sc : Scope} {body : List Stmt} {ps : List Str} {vs rest : List V} (hK : X.K.lookup f = some o) (hd : o.data = .func fd) (hsc : fd.scope = sc) (hbody : fd.body = .stmts body)
    (hfix : fd.globals = mainGlobals ∧ fd.builtins = builtinsNs ∧ fd.closure = []) (hcode : codeIn X.K fd.code fd.qualname = true) (hz : rest.length ≤ sizeLine)
    (hb : ∀ vals more : List Value, vals.length = vs.length → bindArgs fd ⟨vals ++ more, []⟩ = (newTuple more >>= fun t => pure (ps.zip (vals ++ [t])))) (hloc : (ps.all fun x => decide (sc.names.lookup x = some .local) || decide (sc.names.lookup x = some .cell)) = true) (hnd : ps.Nodup) (hnames : (sc.names.map (·.1)).Nodup)
    (hflag : sc.isCoroutine = false ∧ sc.isGenerator = false ∧ sc.kind = .function)
    (h : ∀ env, WB (X.push env) sc d cm body ⟨cs ++ [.tuple rest], ps.zip (vs ++ [.ref cs.length])⟩ fun fl st' => Q (retOf fl) st'.cells) : WCC X (d + 1) cm (.val (.ref f)) (vs ++ rest) cs Q := by
  intro A φ s fv vals hA R hf hv
  cases (hf : fv = .ref f)
  subst hsc
  refine codeAny_call_function (by have := hA.depth; show A.depth < 1000; omega) (R.base.X f o hK) hd hflag.1 hflag.2.1 hbody (codeRec_of R.base.X hcode) ?_
  obtain ⟨v1, v2, rfl, h1, h2⟩ : ∃ v1 v2, vals = v1 ++ v2 ∧ All2 (VRel φ) vs v1 ∧ All2 (VRel φ) rest v2 := by
    clear hb h
    induction vs generalizing vals with
    | nil => exact ⟨[], vals, rfl, trivial, hv⟩
    | cons a vs ih =>
      cases vals with
      | nil => exact hv.elim
      | cons b vals => obtain ⟨v1, v2, rfl, h1, h2⟩ := ih vals hv.2; exact ⟨b :: v1, v2, rfl, ⟨hv.1, h1⟩, h2⟩
  rw [hb v1 v2 h1.length.symm, hfix.2.2]
  refine wpAny_bind (wpAny_newObj_type ?_ (by show v2.toArray.size ≤ sizeLine; rw [List.size_toArray, ← h2.length]; exact hz))
  refine wpAny_pure ?_
  have n1 := get_none_of_size (h := s.heap) (Nat.le_refl _)
  have k1 : ∀ b o, s.heap.get? b = some o → (s.heap.push (tupOf v2.toArray 0)).get? b = some o := fun b o e => Heap.get?_push_of_some _ e
  have pre : φ <+: φ ++ [s.heap.objs.size] := List.prefix_append _ _
  have R1 : RelC X (φ ++ [s.heap.objs.size]) (cs ++ [.tuple rest]) (s.heap.push (tupOf v2.toArray 0)) := R.push k1 n1 (R.base.above (Nat.le_refl _)) (Heap.get?_push_size _ rfl) ⟨_, _, rfl, by simpa using h2.mono fun _ _ x => x.mono pre⟩
  have hx : (φ ++ [s.heap.objs.size])[cs.length]? = some s.heap.objs.size := by rw [← R.len]; exact get_snoc _ _
  refine wpAny_mono (enter_fn (E := fun _ _ => False) (s := { s with heap := s.heap.push (tupOf v2.toArray 0) }) hA R1 ((h1.mono fun _ _ x => x.mono pre).append (l' := [.ref cs.length]) ⟨VRel.ref hx, trivial⟩) hfix hloc hnd hnames hflag h) (fun env s₂ q => ⟨q.1, codeAny_mono q.2 fun r s' hr => ?_⟩) fun _ _ x => x.elim
  rcases r with e | (v | _ | _ | _) <;> try exact hr.elim
  obtain ⟨φ', r, cs', S, R', hv', hq⟩ := hr
  exact ⟨φ', r, cs', (Step.push (s := s) (s' := { s with heap := s.heap.push (tupOf v2.toArray 0) }) ⟨rfl, rfl, rfl⟩ k1 n1).trans S fun _ h => (nomatch h), R', hv', hq⟩
end

section
variable {X : Cx} {sc : Scope} {d : Nat} {cm : Bool} {st : St} {cs : List Cell}

theorem WE.attr {e : Expr} {name : Str} {pos : Pos} {Q : V → St → Prop} (h : WE X sc d cm e st fun o st₁ => W1 X d cm (fun v => getAttr v name true) o st₁.cells fun r cs => Q r ⟨cs, st₁.vars⟩)
    (he : ∀ env, eval (.Attribute e name pos) env = (do let o ← eval e env; standAt pos.atName; let r ← holding [o] (getAttr o name true); letTemporaryGo e o r; pure r) := by intro _; with_unfolding_all rfl) : WE X sc d cm (.Attribute e name pos) st Q := by
  intro A env φ s hsc hA R
  refine Attribute_any_ (Tri.seq (h A env φ s hsc hA R) fun o s₁ φ₁ r st₁ S₁ R₁ hr h₁ => ?_) (he env)
  exact Tri.after S₁ (TriC.lift R₁ (h₁ A φ₁ s₁ o hA R₁.c hr) fun _ _ q => q)

theorem handed {φ : List Addr} {r : V} {v : Value} (h : VRel φ r v) (hn : ∀ u, r ≠ .val u) : handedIn v = true := by
  cases r with
  | none => cases (h : v = .none); rfl
  | bool b => cases (h : v = .bool b); rfl
  | int b => obtain ⟨t, rfl⟩ := h; rfl
  | str b => obtain ⟨t, rfl⟩ := h; rfl
  | ref b => obtain ⟨t, _, rfl⟩ := h; rfl
  | val u => exact absurd rfl (hn u)

/-- the object of a cell -/
theorem inst_at {φ : List Addr} {h : Heap} {l dl : Nat} {C a : Addr} {xs : List (Option V)} {kvs : List (Str × V)} (R : RelC X φ cs h) (hl : cs[l]? = some (.inst C dl xs)) (hdl : cs[dl]? = some (.attrs kvs)) (ha : φ[l]? = some a) :
    ∃ dx vs es n, φ[dl]? = some dx ∧ h.get? a = some { cls := .ref C, dict := some dx, data := .plain, slots := vs } ∧ h.get? dx = some (dictOf es n) ∧ All2 (OptRel φ) xs vs.toList ∧ KeysLit X.w.params es ∧ es.length = kvs.length ∧
      (∀ x, OptRel φ (kvs.lookup x) ((es.find? (·.key.isStr x)).map (·.val))) ∧ W.InstAt h a { cls := .ref C, dict := some dx, data := .plain, slots := vs } C (some (dictOf es n)) := by
  obtain ⟨a', o, e1, e2, dx, vs, e3, rfl, h4⟩ := R.cell l _ hl
  rw [ha] at e1; cases e1
  obtain ⟨dx', o', e5, e6, es, n, rfl, h7, h8, h9⟩ := R.cell dl _ hdl
  rw [e3] at e5; cases e5
  exact ⟨dx, vs, es, n, e3, e2, e6, h4, h7, h8, h9, ⟨e2, rfl, rfl, e6⟩⟩

theorem keysLit_refKey {P : Params} {es : List DictEntry} (h : KeysLit P es) : es.any (·.refKey) = false := by
  rw [List.any_eq_false]
  intro e he
  obtain ⟨x, t, q, _⟩ := h.all e he
  simp [DictEntry.refKey, q]

theorem W1.attr {l dl : Nat} {C : Addr} {xs : List (Option V)} {kvs : List (Str × V)} {r : V} {name : Str} {Q : V → List Cell → Prop} (hl : cs[l]? = some (.inst C dl xs)) (hdl : cs[dl]? = some (.attrs kvs)) (hr : kvs.lookup name = some r) (hn : ∀ u, r ≠ .val u)
    (hga : findIn X.K (.ref C) "__getattribute__" = some (some (.builtin "object.__getattribute__"))) (hh : (clsIn X.K C).any (·.hasDict) = true) (hna : findIn X.K (.ref C) name = some none) (q : Q r cs) : W1 X d cm (fun v => getAttr v name true) (.ref l) cs Q := by
  rintro A φ s va hA R ⟨a, ha, rfl⟩
  obtain ⟨cd, hc, hd⟩ := any_some hh
  obtain ⟨dx, vs, es, n, e3, e2, e6, h4, h7, h8, h9, I⟩ := inst_at R hl hdl ha
  have hx := h9 name
  rw [hr] at hx
  cases hf : es.find? (·.key.isStr name) with
  | none => rw [hf] at hx; exact hx.elim
  | some en =>
    rw [hf] at hx
    have hv : VRel φ r en.val := hx
    refine get_value R.base.X I hga (v := en.val) ?_ (handed hv hn) (TriC.ret R hv q)
    unfold findObj
    rw [hc, hna]
    simp only [Option.bind_some, W.ownOf, hd, if_true, lookIn, hf]

theorem W1.slot {l dl i : Nat} {C p : Addr} {xs : List (Option V)} {kvs : List (Str × V)} {r : V} {name : Str} {Q : V → List Cell → Prop} (hl : cs[l]? = some (.inst C dl xs)) (hdl : cs[dl]? = some (.attrs kvs)) (hr : xs[i]? = some (some r)) (hn : ∀ u, r ≠ .val u)
    (hga : findIn X.K (.ref C) "__getattribute__" = some (some (.builtin "object.__getattribute__"))) (hgn : findIn X.K (.ref C) "__getattr__" = some none) (hf : ∀ od, findObj X.K C od name = some (.bind (.builtin "member_descriptor.__get__") (.ref p))) (hs : slotIn X.K p C = some i) (q : Q r cs) : W1 X d cm (fun v => getAttr v name true) (.ref l) cs Q := by
  rintro A φ s va hA R ⟨a, ha, rfl⟩
  obtain ⟨dx, vs, es, n, e3, e2, e6, h4, h7, h8, h9, I⟩ := inst_at R hl hdl ha
  obtain ⟨ov, e7, e8⟩ := h4.get hr
  cases ov with
  | none => exact e8.elim
  | some v =>
    have hv : VRel φ r v := e8
    refine get_bind R.base.X I hga (hf _) hgn (wpAny_call (slot_get (s := { s with toks := s.toks + 1 }) (v := v) R.base.X I hs ?_ ?_))
    · show (vs[i]?).join = some v
      rw [← Array.getElem?_toList, e7]; rfl
    · show wpAny _ _ (handedOut v) _ _ _
      rw [handedOut_of (handed hv hn)]
      exact wpAny_pure (TriC.ret R hv q)

theorem MethF.inst {l dl : Nat} {C f : Addr} {xs : List (Option V)} {kvs : List (Str × V)} {name : Str} (hl : cs[l]? = some (.inst C dl xs)) (hdl : cs[dl]? = some (.attrs kvs)) (hr : kvs.lookup name = none)
    (hga : findIn X.K (.ref C) "__getattribute__" = some (some (.builtin "object.__getattribute__"))) (hgn : findIn X.K (.ref C) "__getattr__" = some none) (hf : findIn X.K (.ref C) name = some (some (.ref f))) (ht : typeIn X.K (.ref f) = some (.type "function")) : MethF X (.ref l) name cs f := by
  rintro A φ s v pl P E R ⟨a, ha, rfl⟩ hp
  obtain ⟨dx, vs, es, n, e3, e2, e6, h4, h7, h8, h9, I⟩ := inst_at R hl hdl ha
  refine method_fn R.base.X I hga hgn hf ht ?_ hp
  have hx := h9 name
  rw [hr] at hx
  cases hf : es.find? (·.key.isStr name) with
  | some en => rw [hf] at hx; exact hx.elim
  | none => simp [shadowIn, lookIn, hf, keysLit_refKey h7]

/-- all that lies on a heap but at two places -/
def allBut (h : Heap) (L a : Addr) : List (Addr × Obj) := (List.range h.objs.size).filterMap fun b => if b = L ∨ b = a then none else (h.get? b).map fun o => (b, o)
theorem mem_allBut {h : Heap} {L a b : Addr} {o : Obj} : (b, o) ∈ allBut h L a ↔ h.get? b = some o ∧ b ≠ L ∧ b ≠ a := by
  unfold allBut
  rw [List.mem_filterMap]
  constructor
  · rintro ⟨c, hc, e⟩
    split at e
    · cases e
    · rename_i hn
      obtain ⟨o', e1, e2⟩ := Option.map_eq_some_iff.mp e
      cases e2
      exact ⟨e1, fun z => hn (.inl z), fun z => hn (.inr z)⟩
  · rintro ⟨e, h1, h2⟩
    refine ⟨b, List.mem_range.mpr (Heap.lt_size e), ?_⟩
    rw [if_neg (fun z => z.elim h1 h2), e]; rfl

abbrev noHeap : Heap := { objs := #[] }
theorem noHeap_get (a : Addr) : noHeap.get? a = none := rfl

theorem fr_none {h : Heap} {L : Addr} {m : Str → Option Value} (hn : h.Ns L m) : Fr noHeap L h m := ⟨hn, fun b o e => (by rw [noHeap_get] at e; cases e), Nat.zero_le _⟩
theorem news_all {h : Heap} {L a : Addr} {o : Obj} (ho : h.get? a = some o) (hne : a ≠ L) : News noHeap L h ([] ++ (a, o) :: allBut h L a) := by
  rintro ⟨b, o'⟩ hb
  rcases List.mem_cons.mp hb with e | hb
  · cases e; exact ⟨ho, hne, noHeap_get _⟩
  · obtain ⟨h1, h2, h3⟩ := mem_allBut.mp hb; exact ⟨h1, h2, noHeap_get _⟩

/-- what is left when one object was turned by a rule over frames and ledgers -/
theorem turned {φ : List Addr} {env : Env} {s : Shared} {l : Nat} {a : Addr} {c' : Cell} {o o' : Obj} {h' : Heap} {tk : Nat} {m : Str → Option Value} {Q : St → Prop} (R : Rel X φ env st s.heap) (hl : l < st.cells.length) (ha : φ[l]? = some a) (ho : s.heap.get? a = some o)
    (hm : s.heap.Ns env.locals m) (hmr : ∀ x, env.kindOf x = some .local → OptRel φ (st.vars.lookup x) (m x)) (F : Fr noHeap env.locals h' m) (N : News noHeap env.locals h' ([] ++ (a, o') :: allBut s.heap env.locals a)) (hc : c'.Is X φ o') (q : Q ⟨st.cells.set l c', st.vars⟩) :
    TriP X env φ s (fun _ (_ : Unit) (_ : Unit) => True) (fun _ st' => Q st') () { s with heap := h', toks := tk } := by
  have hma : a ∈ φ := List.mem_of_getElem? ha
  have hfa : ∀ b ∈ fAddrs env, b ≠ a := fun b hb e => (R.f.fa b hb).1 (e ▸ hma)
  have keep : ∀ b ob, b ≠ env.locals → b ≠ a → s.heap.get? b = some ob → h'.get? b = some ob := fun b ob h1 h2 e => (N (b, ob) (.tail _ (mem_allBut.mpr ⟨e, h1, h2⟩))).1
  have hoa : h'.get? a = some o' := (N (a, o') (.head _)).1
  have hfree := R.f.fa env.locals (.head _)
  have hLφ := hfree.1
  refine ⟨φ, (), ⟨st.cells.set l c', st.vars⟩, .mk' ⟨rfl, rfl, rfl⟩ (List.prefix_refl _) (fun b ob e h1 h2 => keep b ob (fun z => h2 (z ▸ .head _)) (fun z => h1 (z ▸ hma)) e) (fun _ h h' => absurd h h'), ⟨?_, ?_⟩, trivial, q⟩
  · have C := R.c
    refine ⟨C.base.keeps fun b ob hb e => keep b ob (fun z => hb (z ▸ hfree.2)) (fun z => hb (z ▸ C.low a hma)) e, by rw [List.length_set]; exact C.len, C.nd, C.low, fun j c hj => ?_, C.frs.keeps fun b o hb _ e hf => ⟨hb, ?_⟩⟩
    rotate_left
    · by_cases ez : b = env.locals
      · obtain ⟨ob, _, _, hob, hd, _⟩ := F.ns; exact ⟨ob, ez ▸ hob, fun vs q => by rw [hd] at q; cases q⟩
      · exact ⟨o, keep b o ez (fun z => hb (z ▸ hma)) e, hf⟩
    rw [List.getElem?_set] at hj
    split at hj
    · rename_i e
      subst e
      first
        | (cases hj; exact ⟨a, o', ha, hoa, hc⟩)
        | (split at hj
           · cases hj; exact ⟨a, o', ha, hoa, hc⟩
           · cases hj)
    · rename_i e
      obtain ⟨b, ob, e1, e2, e3⟩ := C.cell j c hj
      refine ⟨b, ob, e1, keep b ob (fun z => hLφ (z ▸ List.mem_of_getElem? e1)) (fun z => e ?_) e2, e3⟩
      subst z
      obtain ⟨h1, q1⟩ := List.getElem?_eq_some_iff.mp ha
      obtain ⟨h2, q2⟩ := List.getElem?_eq_some_iff.mp e1
      exact (List.getElem_inj C.nd).mp (q1.trans q2.symm)
  · have f := R.f
    refine ⟨f.kind, f.glob, f.blt, f.fa, f.nd, fun b hb => ?_, ⟨m, F.ns, hmr⟩, fun x hx => ?_, f.top⟩
    · by_cases e : b = env.locals
      · obtain ⟨ob, _, _, hob, _⟩ := F.ns; exact ⟨ob, e ▸ hob⟩
      · obtain ⟨ob, hob⟩ := f.ex b hb; exact ⟨ob, keep b ob e (hfa b hb) hob⟩
    · obtain ⟨ca, v, h1, ⟨ob, h2, h3⟩, h4⟩ := f.cel x hx
      have hmem : ca ∈ env.cells.map (·.2) := List.mem_map.mpr ⟨_, mem_of_lookup h1, rfl⟩
      exact ⟨ca, v, h1, ⟨ob, keep ca ob (fun z => (List.nodup_cons.mp f.nd).1 (z ▸ hmem)) (hfa ca (.tail _ hmem)) h2, h3⟩, h4⟩

theorem keysLit_putL {P : Params} {name : Str} {tk : Tok} {v : Value} : ∀ {es : List DictEntry}, KeysLit P es → KeysLit P (putL name (PyData.keyHash P name) (.str name tk) v es)
  | [], _ => ⟨⟨name, tk, rfl, rfl⟩, trivial⟩
  | e :: r, ⟨h1, h2⟩ => by
    unfold putL
    split
    · exact ⟨h1, h2⟩
    · exact ⟨h1, keysLit_putL h2⟩

theorem find_putL {P : Params} {name x : Str} {tk : Tok} {v : Value} : ∀ {es : List DictEntry}, KeysLit P es → ((putL name (PyData.keyHash P name) (.str name tk) v es).find? (·.key.isStr x)).map (·.val) = if x = name then some v else (es.find? (·.key.isStr x)).map (·.val)
  | [], _ => by
    by_cases e : x = name
    · subst e; simp [putL, Value.isStr]
    · have : (name == x) = false := beq_eq_false_iff_ne.mpr fun z => e z.symm
      simp [putL, Value.isStr, this, e]
  | en :: r, ⟨⟨y, t, h1, h1'⟩, h2⟩ => by
    unfold putL
    by_cases e : y = name
    · have : en.key.isStr name = true := by simp [h1, Value.isStr, e]
      rw [if_pos this]
      by_cases e' : x = name
      · subst e'; simp [List.find?_cons, this]
      · have q : en.key.isStr x = false := by simp [h1, Value.isStr]; intro z; exact e' (z ▸ e)
        simp [List.find?_cons, q, e']
    · have : ¬ en.key.isStr name = true := by simp [h1, Value.isStr, e]
      rw [if_neg this]
      by_cases e' : x = y
      · have q : en.key.isStr x = true := by simp [h1, Value.isStr, e']
        have : x ≠ name := fun z => e (e' ▸ z)
        simp [List.find?_cons, q, this]
      · have q : en.key.isStr x = false := by simp [h1, Value.isStr]; exact fun z => e' z.symm
        rw [List.find?_cons, q, find_putL h2, List.find?_cons, q]

theorem length_putL {name : Str} {hs : Int} {k v : Value} : ∀ {es : List DictEntry}, (putL name hs k v es).length = if es.any (·.key.isStr name) then es.length else es.length + 1
  | [] => by simp [putL]
  | e :: r => by
    unfold putL
    by_cases h : e.key.isStr name = true
    · rw [if_pos h]; simp [h]
    · rw [if_neg h]
      have := length_putL (name := name) (hs := hs) (k := k) (v := v) (es := r)
      simp only [List.length_cons, this, List.any_cons, h, Bool.false_or]
      split <;> rfl
theorem length_setv {x : Str} {v : V} : ∀ {l : List (Str × V)}, (setv x v l).length = if (l.lookup x).isSome then l.length else l.length + 1
  | [] => by simp [setv]
  | (y, u) :: r => by
    unfold setv
    by_cases e : y = x
    · subst e; simp
    · have e' : x ≠ y := fun z => e z.symm
      rw [if_neg e]
      simp only [List.length_cons, length_setv, List.lookup, beq_eq_false_iff_ne.mpr e']
      split <;> rfl

theorem WSA.dict {l dl : Nat} {C : Addr} {xs : List (Option V)} {kvs : List (Str × V)} {name : Str} {v : V} {Q : St → Prop} (hl : st.cells[l]? = some (.inst C dl xs)) (hdl : st.cells[dl]? = some (.attrs kvs)) (hz : kvs.length < 900)
    (hsa : findIn X.K (.ref C) "__setattr__" = some (some (.builtin "object.__setattr__"))) (hp : plainOver X.K C = true) (ht : takerIn X.K C name = some none) (hh : (clsIn X.K C).any (·.hasDict) = true)
    (q : Q ⟨st.cells.set dl (.attrs (setv name v kvs)), st.vars⟩) : WSA X d cm (.ref l) name v st Q := by
  rintro A env φ s ov vv hA R ⟨a, ha, rfl⟩ hv
  obtain ⟨dx, vs, es, n, e3, e2, e6, h4, h7, h8, h9, I⟩ := inst_at R.c hl hdl ha
  obtain ⟨m, hns, hmr⟩ := R.f.ns
  have hLd : dx ≠ env.locals := fun z => (R.f.fa env.locals (.head _)).1 (z ▸ List.mem_of_getElem? e3)
  refine set_plain R.c.base.X I hsa ?_
  refine osa_dict (s := { s with toks := s.toks + 1 }) (od' := dictOf (putL name (PyData.keyHash X.w.params name) (.str name (s.toks + 1)) vv es) (putN name es n)) (fr_none hns) (news_all e6 hLd) R.c.base.X I rfl hp ht hh ?_ (fun p hp => (nomatch hp)) (fun p hp => (mem_allBut.mp hp).2.2) (putName_dict ..) rfl ?_ fun h' F N => ?_
  · simp only [lookIn]
    cases hf : es.find? (·.key.isStr name) with
    | some en => simp
    | none => simp [keysLit_refKey h7]
  · rw [length_putL]; split <;> omega
  · refine turned (s := s) (l := dl) (c' := .attrs (setv name v kvs)) R (List.getElem?_eq_some_iff.mp hdl).1 e3 e6 hns hmr F N ⟨_, _, rfl, keysLit_putL h7, ?_, fun x => ?_⟩ q
    · rw [length_putL, length_setv, h8]
      have : es.any (·.key.isStr name) = (kvs.lookup name).isSome := by
        have hx := h9 name
        cases hf : es.find? (·.key.isStr name) with
        | some en =>
          rw [List.any_eq_true.mpr ⟨en, List.mem_of_find?_eq_some hf, List.find?_some hf⟩]
          rw [hf] at hx
          cases hk : kvs.lookup name with
          | none => rw [hk] at hx; exact hx.elim
          | some _ => rfl
        | none =>
          rw [List.any_eq_false.mpr (fun e he => by have := List.find?_eq_none.mp hf e he; simpa using this)]
          rw [hf] at hx
          cases hk : kvs.lookup name with
          | some _ => rw [hk] at hx; exact hx.elim
          | none => rfl
      rw [this]
    · rw [find_putL h7, lookup_setv]
      split
      · exact hv
      · exact h9 x

/-- a slot's list with one more value -/
def putSlot (i : Nat) (v : V) (xs : List (Option V)) : List (Option V) := (xs ++ List.replicate (i + 1 - xs.length) none).set i (some v)

theorem all2_replicate {φ : List Addr} (n : Nat) : All2 (OptRel φ) (List.replicate n none) (List.replicate n none) := by
  induction n with
  | zero => trivial
  | succ n ih => exact ⟨trivial, ih⟩
theorem all2_set {α β : Type} {R : α → β → Prop} {a : α} {b : β} (hab : R a b) : ∀ {l : List α} {m : List β} (i : Nat), All2 R l m → All2 R (l.set i a) (m.set i b)
  | [], [], _, _ => trivial
  | _ :: _, _ :: _, 0, ⟨_, h2⟩ => ⟨hab, h2⟩
  | _ :: _, _ :: _, i + 1, ⟨h1, h2⟩ => ⟨h1, all2_set hab i h2⟩
  | [], _ :: _, _, h => h.elim
  | _ :: _, [], _, h => h.elim

theorem WSA.slot {l dl i : Nat} {C p : Addr} {xs : List (Option V)} {kvs : List (Str × V)} {name : Str} {v : V} {Q : St → Prop} (hl : st.cells[l]? = some (.inst C dl xs)) (hdl : st.cells[dl]? = some (.attrs kvs))
    (hsa : findIn X.K (.ref C) "__setattr__" = some (some (.builtin "object.__setattr__"))) (hp : plainOver X.K C = true) (ht : takerIn X.K C name = some (some (.ref p))) (hty : typeIn X.K (.ref p) = some (.type "member_descriptor")) (hs : slotIn X.K p C = some i) (hi : i < 1000)
    (q : Q ⟨st.cells.set l (.inst C dl (putSlot i v xs)), st.vars⟩) : WSA X d cm (.ref l) name v st Q := by
  rintro A env φ s ov vv hA R ⟨a, ha, rfl⟩ hv
  obtain ⟨dx, vs, es, n, e3, e2, e6, h4, h7, h8, h9, I⟩ := inst_at R.c hl hdl ha
  obtain ⟨m, hns, hmr⟩ := R.f.ns
  have hLa : a ≠ env.locals := fun z => (R.f.fa env.locals (.head _)).1 (z ▸ List.mem_of_getElem? ha)
  refine set_plain R.c.base.X I hsa ?_
  refine osa_descr (s := { s with toks := s.toks + 1 }) KF.slot_mset R.c.base.X I hp ht hty ?_
  refine slot_set (s := { s with toks := s.toks + 1 }) (fr_none hns) (news_all e2 hLa) R.c.base.X I hs hi (fun p hp => (nomatch hp)) (fun p hp => (mem_allBut.mp hp).2.2) rfl rfl fun h' F N => ?_
  refine turned (s := s) (l := l) (c' := .inst C dl (putSlot i v xs)) R (List.getElem?_eq_some_iff.mp hl).1 ha e2 hns hmr F N ⟨dx, _, e3, rfl, ?_⟩ q
  unfold putSlot
  have hlen := h4.length
  have : ((vs ++ Array.replicate (i + 1 - vs.size) none).setIfInBounds i (some vv)).toList = (vs.toList ++ List.replicate (i + 1 - vs.toList.length) none).set i (some vv) := by simp
  rw [this, ← hlen]
  exact all2_set (R := OptRel φ) (a := some v) (b := some vv) hv i (h4.append (all2_replicate _))

/-- a new object of a class of the text's, its __init__ called -/
theorem WCC.make {C fI : Addr} {vs : List V} {Q : V → List Cell → Prop} (hm : makesIn X.K C = true) (hi : findIn X.K (.ref C) "__init__" = some (some (.ref fI))) (hf : typeIn X.K (.ref fI) = some (.type "function"))
    (h : WCC X d cm (.val (.ref fI)) (.ref (cs.length + 1) :: vs) (cs ++ [.attrs [], .inst C cs.length []]) fun r cs' => r = .none ∧ Q (.ref (cs.length + 1)) cs') : WCC X (d + 1) cm (.val (.ref C)) vs cs Q := by
  intro A φ s fv vals hA R hfv hv
  cases (hfv : fv = .ref C)
  obtain ⟨hh, g, dr, t, os⟩ := s
  refine make_core (makes_of R.base.X hm) (looks_findIn R.base.X hi) (fun self => bind_fn R.base.X self hf) (.inl rfl) ?_
  have k1 : ∀ b o, hh.get? b = some o → (hh.push emptyDict).get? b = some o := fun b o e => Heap.get?_push_of_some _ e
  have n1 : hh.get? hh.objs.size = none := by
    cases q : hh.get? hh.objs.size with
    | none => rfl
    | some o => exact absurd (Heap.lt_size q) (Nat.lt_irrefl _)
  have R1 : RelC X (φ ++ [hh.objs.size]) (cs ++ [.attrs []]) (hh.push emptyDict) := R.push k1 n1 (R.base.above (Nat.le_refl _)) (Heap.get?_push_size _ rfl) ⟨[], 0, rfl, trivial, rfl, fun x => trivial⟩
  have n2 : (hh.push emptyDict).get? (hh.objs.size + 1) = none := by
    cases q : (hh.push emptyDict).get? (hh.objs.size + 1) with
    | none => rfl
    | some o => have := Heap.lt_size q; rw [Heap.size_push] at this; exact absurd this (Nat.lt_irrefl _)
  have g2 : ((hh.push emptyDict).push (instObj C hh.objs.size)).get? (hh.objs.size + 1) = some (instObj C hh.objs.size) := by
    have := Heap.get?_push_size (hh.push emptyDict) (o := instObj C hh.objs.size) rfl
    rwa [Heap.size_push] at this
  have R2 : RelC X (φ ++ [hh.objs.size] ++ [hh.objs.size + 1]) (cs ++ [.attrs []] ++ [.inst C cs.length []]) ((hh.push emptyDict).push (instObj C hh.objs.size)) :=
    R1.push (fun b o e => Heap.get?_push_of_some _ e) n2 (R.base.above (Nat.le_succ _)) g2 ⟨hh.objs.size, #[], by rw [← R.len]; simp, rfl, trivial⟩
  have pre : φ <+: φ ++ [hh.objs.size] ++ [hh.objs.size + 1] := by rw [List.append_assoc]; exact List.prefix_append _ _
  have hroom : Room X d cm (A.under (.builtin "type.__call__" ⟨.ref C :: vals, []⟩)) := by
    obtain ⟨h0, h1, h2, h3⟩ := hA
    refine ⟨?_, ?_, ?_, h3⟩
    · show pushEnvs [] A.frames = _; rw [h0]; rfl
    · show A.depth + 1 + d + d < 600; omega
    · show A.units + Code.cUnits _ + 20 * d < 9000
      have : Code.cUnits (.builtin "type.__call__" ⟨.ref C :: vals, []⟩) ≤ 10 := Nat.le_of_ble_eq_true rfl
      omega
  have ecs : cs ++ [Cell.attrs []] ++ [Cell.inst C cs.length []] = cs ++ [.attrs [], .inst C cs.length []] := by simp
  rw [ecs] at R2
  have hx : (φ ++ [hh.objs.size] ++ [hh.objs.size + 1])[cs.length + 1]? = some (hh.objs.size + 1) := by
    have : cs.length + 1 = (φ ++ [hh.objs.size]).length := by simp [R.len]
    rw [this]; exact get_snoc _ _
  have h' := h (A.under (.builtin "type.__call__" ⟨.ref C :: vals, []⟩)) _ ⟨(hh.push emptyDict).push (instObj C hh.objs.size), g, dr, t, os⟩ (.ref fI) (.ref (hh.objs.size + 1) :: vals) hroom R2 (VRel.val _ _) ⟨VRel.ref hx, hv.mono fun _ _ x => x.mono pre⟩
  have S2 : Step X.fr φ [] ⟨hh, g, dr, t, os⟩ (φ ++ [hh.objs.size] ++ [hh.objs.size + 1]) ⟨(hh.push emptyDict).push (instObj C hh.objs.size), g, dr, t, os⟩ :=
    (Step.push (s := ⟨hh, g, dr, t, os⟩) (s' := ⟨hh.push emptyDict, g, dr, t, os⟩) ⟨rfl, rfl, rfl⟩ k1 n1).trans (Step.push ⟨rfl, rfl, rfl⟩ (fun b o e => Heap.get?_push_of_some _ e) n2) fun _ h => (nomatch h)
  refine codeAny_mono h' fun r s' hr => ?_
  rcases r with e | (v | _ | _ | _) <;> try exact hr.elim
  rename_i v
  obtain ⟨φ', r, cs', S, R', hv', rfl, hq⟩ := hr
  cases (hv' : v = .none)
  exact ⟨rfl, φ', _, cs', S2.trans S fun _ h => (nomatch h), R', VRel.ref (get_of_prefix S.pre hx), hq⟩
end

section
variable {X : Cx} {sc : Scope} {d : Nat} {cm : Bool} {st : St} {cs : List Cell}

theorem Cell.isList {φ : List Addr} {vs : Array Value} {n : Nat} {xs : List V} (h : All2 (VRel φ) xs vs.toList) : (Cell.list xs).Is X φ (lstOf vs n) := ⟨vs, n, rfl, h⟩
theorem Cell.isTuple {φ : List Addr} {vs : Array Value} {n : Nat} {xs : List V} (h : All2 (VRel φ) xs vs.toList) : (Cell.tuple xs).Is X φ (tupOf vs n) := ⟨vs, n, rfl, h⟩
theorem Cell.isDict0 {φ : List Addr} : (Cell.dict [] 0).Is X φ { cls := .type "dict", data := .dict #[] } := ⟨⟨rfl, rfl, rfl⟩, #[], [], rfl, fun e he => by simp at he, Pairs.nil, List.nodup_nil, trivial⟩

/-- a new object comes in -/
theorem TriC.new {α : Type} {φ : List Addr} {s : Shared} {c : Cell} {o : Obj} {tk : Nat} {Q : V → List Cell → Prop} (R : RelC X φ cs s.heap) (hf : o.isFreed = false) (hc : c.Is X (φ ++ [s.heap.objs.size]) o) (q : Q (.ref cs.length) (cs ++ [c])) :
    TriCP X φ s VRel Q (.ref s.heap.objs.size) { s with heap := s.heap.push o, toks := tk } :=
  ⟨φ ++ [s.heap.objs.size], .ref cs.length, cs ++ [c], Step.push ⟨rfl, rfl, rfl⟩ (fun b o e => Heap.get?_push_of_some _ e) (get_none_of_size (Nat.le_refl _)),
    R.push (fun b o e => Heap.get?_push_of_some _ e) (get_none_of_size (Nat.le_refl _)) (R.base.above (Nat.le_refl _)) (Heap.get?_push_size _ hf) hc, VRel.ref (by rw [← R.len]; exact get_snoc _ _), q⟩

theorem all2_mono_snoc {φ : List Addr} {a : Addr} {xs : List V} {vs : List Value} (h : All2 (VRel φ) xs vs) : All2 (VRel (φ ++ [a])) xs vs := h.mono fun _ _ x => x.mono (List.prefix_append _ _)

theorem WE.list {elts : List Expr} {pos : Pos} {Q : V → St → Prop} (h : WEs X sc d cm elts pos st fun vs st₁ => vs.length ≤ sizeLine ∧ Q (.ref st₁.cells.length) ⟨st₁.cells ++ [.list vs], st₁.vars⟩) : WE X sc d cm (.List elts pos) st Q := by
  intro A env φ s hsc hA R
  refine List_ (Tri.seq (h A env φ s hsc hA R) fun vals s₁ φ₁ vs st₁ S₁ R₁ hvs h₁ => ?_)
  refine Tri.after S₁ (TriC.lift R₁ (Q := fun r cs' => Q r ⟨cs', st₁.vars⟩) ?_ fun _ _ q => q)
  exact wpAny_newObj_type (TriC.new (α := Unit) R₁.c rfl (Cell.isList (by simpa using all2_mono_snoc hvs)) h₁.2) (by show vals.toArray.size ≤ sizeLine; rw [List.size_toArray, ← hvs.length]; exact h₁.1)

theorem WE.tuple {elts : List Expr} {k : Nat} {pos : Pos} {Q : V → St → Prop} (h : WEs X sc d cm elts pos st fun vs st₁ => vs.length ≤ sizeLine ∧ Q (.ref st₁.cells.length) ⟨st₁.cells ++ [.tuple vs], st₁.vars⟩) : WE X sc d cm (.Tuple elts k pos) st Q := by
  intro A env φ s hsc hA R
  refine Tuple_ (Tri.seq (h A env φ s hsc hA R) fun vals s₁ φ₁ vs st₁ S₁ R₁ hvs h₁ => ?_)
  refine Tri.after S₁ (TriC.lift R₁ (Q := fun r cs' => Q r ⟨cs', st₁.vars⟩) ?_ fun _ _ q => q)
  exact wpAny_newObj_type (TriC.new (α := Unit) R₁.c rfl (Cell.isTuple (by simpa using all2_mono_snoc hvs)) h₁.2) (by show vals.toArray.size ≤ sizeLine; rw [List.size_toArray, ← hvs.length]; exact h₁.1)

theorem WE.dict0 {pos : Pos} {Q : V → St → Prop} (q : Q (.ref st.cells.length) ⟨st.cells ++ [.dict [] 0], st.vars⟩) : WE X sc d cm (.Dict [] [] pos) st Q := by
  intro A env φ s hsc hA R
  refine Tri.after .refl (TriC.lift R (Q := fun r cs' => Q r ⟨cs', st.vars⟩) ?_ fun _ _ q => q)
  exact wpAny_Dict_empty (TriC.new (α := Unit) R.c rfl Cell.isDict0 q)

/-- dicts by texts -/
theorem valueAt_rel {φ : List Addr} (k : Str) : ∀ {kvs : List (Str × V)} {kvs' : List (Str × Value)}, All2 (KVRel φ) kvs kvs' → OptRel φ (kvs.lookup k) (valueAt kvs' k)
  | [], [], _ => trivial
  | (x, v) :: r, (x', v') :: r', ⟨⟨e1, e2⟩, h2⟩ => by
    cases (e1 : x = x')
    unfold valueAt
    by_cases e : k = x
    · subst e; simpa [List.find?_cons, OptRel] using e2
    · have e' : ¬ x = k := fun z => e z.symm
      have := valueAt_rel k h2
      unfold valueAt at this
      simp only [List.lookup, beq_eq_false_iff_ne.mpr e, List.find?_cons, e', decide_false]
      exact this
  | [], _ :: _, h => h.elim
  | _ :: _, [], h => h.elim

theorem keys_rel {φ : List Addr} : ∀ {kvs : List (Str × V)} {kvs' : List (Str × Value)}, All2 (KVRel φ) kvs kvs' → kvs.map (·.1) = kvs'.map (·.1)
  | [], [], _ => rfl
  | (x, v) :: r, (x', v') :: r', ⟨⟨e1, e2⟩, h2⟩ => by simp only [List.map_cons, keys_rel h2]; rw [show x = x' from e1]
  | [], _ :: _, h => h.elim
  | _ :: _, [], h => h.elim

theorem stored_rel {φ : List Addr} {k : Str} {v : V} {vv : Value} (hv : VRel φ v vv) : ∀ {kvs : List (Str × V)} {kvs' : List (Str × Value)}, All2 (KVRel φ) kvs kvs' → (kvs'.map (·.1)).Nodup → All2 (KVRel φ) (setv k v kvs) (stored kvs' k vv)
  | [], [], _, _ => ⟨⟨rfl, hv⟩, trivial⟩
  | (x, u) :: r, (x', u') :: r', ⟨⟨e1, e2⟩, h2⟩, hn => by
    cases (e1 : x = x')
    have hn' := List.nodup_cons.mp hn
    unfold setv stored
    by_cases e : x = k
    · subst e
      rw [if_pos rfl]
      have : (((x, u') :: r').any fun kv => decide (kv.1 = x)) = true := by simp
      rw [if_pos this, List.map_cons, if_pos rfl, map_store_of_not_mem r' x vv hn'.1]
      exact ⟨⟨rfl, hv⟩, h2⟩
    · rw [if_neg e]
      have ih := stored_rel hv (k := k) h2 hn'.2
      unfold stored at ih
      have : (((x, u') :: r').any fun kv => decide (kv.1 = k)) = (r'.any fun kv => decide (kv.1 = k)) := by simp [e]
      rw [this]
      split
      · rename_i h; rw [if_pos h] at ih; rw [List.map_cons, if_neg e]; exact ⟨⟨rfl, e2⟩, ih⟩
      · rename_i h; rw [if_neg h] at ih; exact ⟨⟨rfl, e2⟩, ih⟩
  | [], _ :: _, h, _ => h.elim
  | _ :: _, [], h, _ => h.elim

def delv (k : Str) (kvs : List (Str × V)) : List (Str × V) := kvs.filter fun p => decide (p.1 ≠ k)
theorem without_rel {φ : List Addr} {k : Str} : ∀ {kvs : List (Str × V)} {kvs' : List (Str × Value)}, All2 (KVRel φ) kvs kvs' → All2 (KVRel φ) (delv k kvs) (without kvs' k)
  | [], [], _ => trivial
  | (x, u) :: r, (x', u') :: r', ⟨⟨e1, e2⟩, h2⟩ => by
    cases (e1 : x = x')
    have ih := without_rel (k := k) h2
    unfold delv without at *
    by_cases e : x = k
    · simp [e] at ih ⊢; exact ih
    · simp [e] at ih ⊢; exact ⟨⟨rfl, e2⟩, ih⟩
  | [], _ :: _, h => h.elim
  | _ :: _, [], h => h.elim

theorem dict_at {φ : List Addr} {h : Heap} {l ep : Nat} {a : Addr} {kvs : List (Str × V)} (R : RelC X φ cs h) (hl : cs[l]? = some (.dict kvs ep)) (ha : φ[l]? = some a) : ∃ kvs', h.DictAt (strKind X.prog X.w) a kvs' ep ∧ All2 (KVRel φ) kvs kvs' ∧ (a == sysModules) = false := by
  obtain ⟨a', o, e1, e2, h1, es, kvs', h2, h3, h4, h5, h6⟩ := R.cell l _ hl
  rw [ha] at e1; cases e1
  exact ⟨kvs', ⟨o, es, e2, h1, h2, h3, h4, h5⟩, h6, beq_eq_false_iff_ne.mpr (R.low a (List.mem_of_getElem? ha)).2.2.2.2⟩

theorem dict_back {φ : List Addr} {h : Heap} {a : Addr} {kvs : List (Str × V)} {kvs' : List (Str × Value)} (hd : h.DictOf (strKind X.prog X.w) a kvs') (hr : All2 (KVRel φ) kvs kvs') : ∃ ep o, h.get? a = some o ∧ (Cell.dict kvs ep).Is X φ o := by
  obtain ⟨o, es, ep, h1, h2, h3, h4, h5, h6⟩ := hd
  exact ⟨ep, o, h1, h2, es, kvs', h3, h4, h5, h6, hr⟩

theorem WCV.dictGet {l ep : Nat} {kvs : List (Str × V)} {x : Str} {Q : V → List Cell → Prop} (hl : cs[l]? = some (.dict kvs ep)) (q : Q ((kvs.lookup x).getD .none) cs) : WCV X d cm (.val (.builtin "dict.get")) [.ref l, .str x] cs Q := by
  rintro A φ s fv vals hA R hf hv
  cases (hf : fv = _)
  match vals, hv with
  | [_, _], ⟨⟨a, ha, rfl⟩, ⟨t, rfl⟩, _⟩ =>
    obtain ⟨kvs', hd, hr, hs⟩ := dict_at R hl ha
    refine call_meetsIn F.slot_dict_get hd.dictOf.typeIs F.entry_dict_get (F.args_dict_get_2 _ _) (meets_dict_get (strKind X.prog X.w) a (strKind_is X.prog X.w x t) hs) ⟨_, hd.dictOf.mapOf, ?_⟩
    have := valueAt_rel x hr
    refine TriC.ret R ?_ q
    cases h1 : kvs.lookup x with
    | none =>
      cases h2 : valueAt kvs' x with
      | none => exact VRel.none _
      | some _ => rw [h1, h2] at this; exact this.elim
    | some r =>
      cases h2 : valueAt kvs' x with
      | none => rw [h1, h2] at this; exact this.elim
      | some _ => rw [h1, h2] at this; exact this
  | [], h => exact h.elim
  | [_], h => exact h.2.elim
  | _ :: _ :: _ :: _, h => exact h.2.2.elim

theorem W2.dictItem {value slice : Expr} {l ep : Nat} {kvs : List (Str × V)} {x : Str} {r : V} {Q : V → List Cell → Prop} (hl : cs[l]? = some (.dict kvs ep)) (hx : kvs.lookup x = some r) (q : Q r cs)
    (hs : ∀ a t, subscripted slice false (.ref a) (.str x t) = operate [.ref a, .str x t] (getItem (.ref a) (.str x t)) := by intro _ _; with_unfolding_all rfl) : W2 X d cm (subscriptTail value slice) (.ref l) (.str x) cs Q := by
  rintro A φ s va vb hA R ⟨a, ha, rfl⟩ ⟨t, rfl⟩
  obtain ⟨kvs', hd, hr, hsm⟩ := dict_at R hl ha
  have := valueAt_rel x hr
  rw [hx] at this
  cases h2 : valueAt kvs' x with
  | none => rw [h2] at this; exact this.elim
  | some v =>
    rw [h2] at this
    exact tail_any hd.dictOf.typeIs slot_dict_getitem.lookup (wpAny_getItem_of (strKind_is X.prog X.w x t) hd.dictOf.mapOf h2 (TriC.ret R (r := r) this q)) (hs a t)

theorem WSI.dict {l ep : Nat} {kvs : List (Str × V)} {x : Str} {v : V} {Q : List Cell → Prop} (hl : cs[l]? = some (.dict kvs ep)) (hz : kvs.length ≤ sizeLine) (q : ∀ ep', Q (cs.set l (.dict (setv x v kvs) ep'))) : WSI X d cm (.ref l) (.str x) v cs Q := by
  rintro A φ s ov iv vv hA R ⟨a, ha, rfl⟩ ⟨t, rfl⟩ hv
  obtain ⟨kvs', hd, hr, hsm⟩ := dict_at R hl ha
  have hlen := hr.length
  refine wpAny_setItem_pairs (strKind_is X.prog X.w x t) hd.dictOf (fun h' hd' hs' => ?_) (by omega)
  obtain ⟨ep', o, e1, e2⟩ := dict_back hd' (stored_rel hv hr hd.nodup)
  exact ⟨φ, (), _, Step.set ⟨rfl, rfl, rfl⟩ (List.mem_of_getElem? ha) fun b o hb e => (hs'.2 b hb).trans e, R.set ha (fun b o hb e => (hs'.2 b hb).trans e) e1 e2, trivial, q ep'⟩

theorem W2.inDict {l ep : Nat} {kvs : List (Str × V)} {x : Str} {Q : V → List Cell → Prop} (hl : cs[l]? = some (.dict kvs ep)) (q : Q (.bool (kvs.lookup x).isSome) cs) : W2 X d cm (compareOp .In) (.str x) (.ref l) cs Q := by
  rintro A φ s va vb hA R ⟨t, rfl⟩ ⟨a, ha, rfl⟩
  obtain ⟨kvs', hd, hr, hsm⟩ := dict_at R hl ha
  refine wpAny_in_of (strKind_is X.prog X.w x t) hsm hd.dictOf.mapOf (TriC.ret R ?_ q)
  have := valueAt_rel x hr
  cases h1 : kvs.lookup x <;> cases h2 : valueAt kvs' x <;> rw [h1, h2] at this <;> first | exact VRel.bool _ _ | exact this.elim

theorem MethB.dict {l ep : Nat} {kvs : List (Str × V)} {name : Str} {id : String} (hl : cs[l]? = some (.dict kvs ep)) (slot : Slot "dict" name id) (hty : typeOf (.builtin id) = pure (.type "method_descriptor")) : MethB X (.ref l) name cs id := by
  rintro A φ s v pl P E R ⟨a, ha, rfl⟩ hp
  obtain ⟨a', o, e1, e2, h1, es, kvs', h2, h3, h4, h5, h6⟩ := R.cell l _ hl
  rw [ha] at e1; cases e1
  exact getMethod_builtin ⟨o, e2, h1.1⟩ F.plainAttrs_dict slot hty (fun b e => by cases e; exact ⟨o, e2, h1.2.1⟩) hp

theorem MethB.list {l : Nat} {xs : List V} {name : Str} {id : String} (hl : cs[l]? = some (.list xs)) (slot : Slot "list" name id) (hty : typeOf (.builtin id) = pure (.type "method_descriptor")) : MethB X (.ref l) name cs id := by
  rintro A φ s v pl P E R ⟨a, ha, rfl⟩ hp
  obtain ⟨a', o, e1, e2, vs, n, rfl, h2⟩ := R.cell l _ hl
  rw [ha] at e1; cases e1
  exact getMethod_builtin ⟨_, e2, rfl⟩ F.plainAttrs_list slot hty (fun b e => by cases e; exact ⟨_, e2, rfl⟩) hp

/-- lists -/
theorem list_at {φ : List Addr} {h : Heap} {l : Nat} {a : Addr} {xs : List V} (R : RelC X φ cs h) (hl : cs[l]? = some (.list xs)) (ha : φ[l]? = some a) : ∃ vs n, h.get? a = some (lstOf vs n) ∧ All2 (VRel φ) xs vs.toList := by
  obtain ⟨a', o, e1, e2, vs, n, rfl, h2⟩ := R.cell l _ hl
  rw [ha] at e1; cases e1
  exact ⟨vs, n, e2, h2⟩

theorem WCV.append {l : Nat} {xs : List V} {v : V} {Q : V → List Cell → Prop} (hl : cs[l]? = some (.list xs)) (hz : xs.length ≤ sizeLine) (q : Q .none (cs.set l (.list (xs ++ [v])))) : WCV X d cm (.val (.builtin "list.append")) [.ref l, v] cs Q := by
  rintro A φ s fv vals hA R hf hv
  cases (hf : fv = _)
  match vals, hv with
  | [_, vv], ⟨⟨a, ha, rfl⟩, h2, _⟩ =>
    obtain ⟨vs, n, e, hr⟩ := list_at R hl ha
    have hlen := hr.length
    refine wpAny_list_append_plain ⟨n, e⟩ (fun h' hp' hs' => ?_) (by rw [← Array.length_toList]; omega)
    obtain ⟨n', e'⟩ := hp'
    refine ⟨φ, .none, _, Step.set ⟨rfl, rfl, rfl⟩ (List.mem_of_getElem? ha) fun b o hb e => (hs'.2 b hb).trans e, R.set ha (fun b o hb e => (hs'.2 b hb).trans e) e' (Cell.isList ?_), VRel.none _, q⟩
    rw [Array.toList_push]; exact hr.append ⟨h2, trivial⟩
  | [], h => exact h.elim
  | [_], h => exact h.2.elim
  | _ :: _ :: _ :: _, h => exact h.2.2.elim
end

section
variable {X : Cx} {sc : Scope} {d : Nat} {cm : Bool} {st : St} {Q : AFlow → St → Prop}

theorem WS.assignAttr {o e : Expr} {name : Str} {p pos : Pos} (h : WE X sc d cm e st fun v st₁ => WE X sc d cm o st₁ fun ov st₂ => WSA X d cm ov name v st₂ fun st₃ => Q .next st₃)
    (hs : ∀ env : Env, swapsWith e (some (.Attribute o name p)) pos.line env = pure false := by intro _; with_unfolding_all rfl) : WS X sc d cm (.Assign [.Attribute o name p] e pos) st Q := by
  intro A env φ s he hA R
  refine plainObj_wpAny_Assign_Attribute (Tri.seq (h A env φ s he hA R) fun v s₁ φ₁ r st₁ S₁ R₁ hr h₁ => ?_) (hs env)
  refine Tri.seq (h₁ A env φ₁ s₁ he hA R₁) fun ov s₂ φ₂ ro st₂ S₂ R₂ hro h₂ => ?_
  refine wpAny_mono (h₂ A env φ₂ s₂ ov v hA R₂ hro (hr.mono S₂.pre)) (fun _ s₃ ⟨φ₃, _, st₃, S₃, R₃, _, q⟩ => Tri.here ((S₁.trans S₂ R₂.f.dis).trans S₃ R₃.f.dis) R₃ (FRel.next _) q) fun _ _ x => x.elim

theorem WS.assignSub {o i e : Expr} {p pos : Pos} (h : WE X sc d cm e st fun v st₁ => WE X sc d cm o st₁ fun ov st₂ => WE X sc d cm i st₂ fun iv st₃ => WSI X d cm ov iv v st₃.cells fun cs => Q .next ⟨cs, st₃.vars⟩)
    (hs : ∀ env : Env, swapsWith e (some (.Subscript o i p)) pos.line env = pure false := by intro _; with_unfolding_all rfl) : WS X sc d cm (.Assign [.Subscript o i p] e pos) st Q := by
  intro A env φ s he hA R
  refine wpAny_Assign_Subscript (Tri.seq (h A env φ s he hA R) fun v s₁ φ₁ r st₁ S₁ R₁ hr h₁ => ?_) (hs env)
  refine Tri.seq (h₁ A env φ₁ s₁ he hA R₁) fun ov s₂ φ₂ ro st₂ S₂ R₂ hro h₂ => ?_
  refine Tri.seq (h₂ A env φ₂ s₂ he hA R₂) fun iv s₃ φ₃ ri st₃ S₃ R₃ hri h₃ => ?_
  have T := TriC.lift R₃ (h₃ A φ₃ s₃ ov iv v hA R₃.c (hro.mono S₃.pre) hri (hr.mono (S₂.pre.trans S₃.pre))) (Q' := fun _ st' => Q .next st') fun _ _ q => q
  exact wpAny_mono T (fun _ s₄ ⟨φ₄, _, st₄, S₄, R₄, _, q⟩ => Tri.here (((S₁.trans S₂ R₂.f.dis).trans S₃ R₃.f.dis).trans S₄ R₄.f.dis) R₄ (FRel.next _) q) fun _ _ x => x.elim

theorem WA.sub {o i : Expr} {p : Pos} {v : V} {Q : St → Prop} (h : WE X sc d cm o st fun ov st₂ => WE X sc d cm i st₂ fun iv st₃ => WSI X d cm ov iv v st₃.cells fun cs => Q ⟨cs, st₃.vars⟩) : WA X sc d cm (.Subscript o i p) v st Q := by
  intro A env φ s vv he hA R hv
  refine kas_sub (Tri.seq (h A env φ s he hA R) fun ov s₂ φ₂ ro st₂ S₂ R₂ hro h₂ => ?_)
  refine Tri.seq (h₂ A env φ₂ s₂ he hA R₂) fun iv s₃ φ₃ ri st₃ S₃ R₃ hri h₃ => ?_
  have T := TriC.lift R₃ (h₃ A φ₃ s₃ ov iv vv hA R₃.c (hro.mono S₃.pre) hri (hv.mono (S₂.pre.trans S₃.pre))) (Q' := fun _ st' => Q st') fun _ _ q => q
  exact wpAny_mono T (fun _ s₄ ⟨φ₄, _, st₄, S₄, R₄, _, q⟩ => ⟨φ₄, (), st₄, ((S₂.trans S₃ R₃.f.dis).trans S₄ R₄.f.dis), R₄, trivial, q⟩) fun _ _ x => x.elim

theorem WS.assign2 {t₁ t₂ e : Expr} {pos : Pos} (h : WE X sc d cm e st fun v st₁ => WA X sc d cm t₁ v st₁ fun st₂ => WA X sc d cm t₂ v st₂ fun st₃ => Q .next st₃)
    (he1 : ∀ env : Env, (assignEach [t₁, t₂] env).map (·.2) = [PySem.assign t₁ env, PySem.assign t₂ env] := by intro _; with_unfolding_all rfl) (he2 : ∀ env : Env, swappedStores [t₁, t₂] e env = pure none := by intro _; with_unfolding_all rfl) : WS X sc d cm (.Assign [t₁, t₂] e pos) st Q := by
  intro A env φ s he hA R
  refine wpAny_Assign_two (Tri.seq (h A env φ s he hA R) fun v s₁ φ₁ r st₁ S₁ R₁ hr h₁ => ?_) (he1 env) (he2 env)
  refine Tri.seq (h₁ A env φ₁ s₁ v he hA R₁ hr) fun _ s₂ φ₂ _ st₂ S₂ R₂ _ h₂ => ?_
  exact wpAny_mono (h₂ A env φ₂ s₂ v he hA R₂ (hr.mono S₂.pre)) (fun _ s₃ ⟨φ₃, _, st₃, S₃, R₃, _, q⟩ => Tri.here ((S₁.trans S₂ R₂.f.dis).trans S₃ R₃.f.dis) R₃ (FRel.next _) q) fun _ _ x => x.elim

theorem WE.named {t e : Expr} {pos : Pos} {Q : V → St → Prop} (h : WE X sc d cm e st fun v st₁ => WA X sc d cm t v st₁ fun st₂ => Q v st₂) : WE X sc d cm (.NamedExpr t e pos) st Q := by
  intro A env φ s he hA R
  refine wpAny_NamedExpr (Tri.seq (h A env φ s he hA R) fun v s₁ φ₁ r st₁ S₁ R₁ hr h₁ => ?_)
  exact wpAny_mono (h₁ A env φ₁ s₁ v he hA R₁ hr) (fun _ s₂ ⟨φ₂, _, st₂, S₂, R₂, _, q⟩ => Tri.here (S₁.trans S₂ R₂.f.dis) R₂ (hr.mono S₂.pre) q) fun _ _ x => x.elim

theorem WS.augAttr {o e : Expr} {name : Str} {p pos : Pos} {op : Operator} (h : WE X sc d cm o st fun ov st₁ => W1 X d cm (fun v => getAttr v name true) ov st₁.cells fun old cs => WE X sc d cm e ⟨cs, st₁.vars⟩ fun v st₂ => W2 X d cm (inplaceOp op) old v st₂.cells fun r cs' => WSA X d cm ov name r ⟨cs', st₂.vars⟩ fun st₃ => Q .next st₃) :
    WS X sc d cm (.AugAssign (.Attribute o name p) op e pos) st Q := by
  intro A env φ s he hA R
  refine wpAny_AugAssign_AttributeAny (Tri.seq (h A env φ s he hA R) fun ov s₁ φ₁ ro st₁ S₁ R₁ hro h₁ => ?_)
  refine Tri.seq (TriC.lift R₁ (h₁ A φ₁ s₁ ov hA R₁.c hro) (Q' := fun old st₂ => WE X sc d cm e st₂ fun v st₂ => W2 X d cm (inplaceOp op) old v st₂.cells fun r cs' => WSA X d cm ro name r ⟨cs', st₂.vars⟩ fun st₃ => Q .next st₃) fun _ _ q => q) fun old s₂ φ₂ rold st₂ S₂ R₂ hrold h₂ => ?_
  refine Tri.seq (h₂ A env φ₂ s₂ he hA R₂) fun v s₃ φ₃ rv st₃ S₃ R₃ hrv h₃ => ?_
  refine Tri.seq (TriC.lift R₃ (h₃ A φ₃ s₃ old v hA R₃.c (hrold.mono S₃.pre) hrv) (Q' := fun r st₄ => WSA X d cm ro name r st₄ fun st₃ => Q .next st₃) fun _ _ q => q) fun new s₄ φ₄ rn st₄ S₄ R₄ hrn h₄ => ?_
  have S := ((S₁.trans S₂ R₂.f.dis).trans S₃ R₃.f.dis).trans S₄ R₄.f.dis
  exact wpAny_mono (h₄ A env φ₄ s₄ ov new hA R₄ (hro.mono ((S₂.pre.trans S₃.pre).trans S₄.pre)) hrn) (fun _ s₅ ⟨φ₅, _, st₅, S₅, R₅, _, q⟩ => Tri.here (S.trans S₅ R₅.f.dis) R₅ (FRel.next _) q) fun _ _ x => x.elim
end

/-- a source of a loop -/
structure Iter (X : Cx) (src : V) (ok : List Cell → Prop) (items : List V) where
  At : List Addr → Nat → Obj → Prop
  mono : ∀ φ φ' i o, At φ i o → φ <+: φ' → At φ' i o
  start : ∀ (A : Around) φ (s : Shared) vv cs (P : Value → Shared → Prop) (E : Value → Shared → Prop), RelC X φ cs s.heap → ok cs → VRel φ src vv →
    (∀ o tk, At φ 0 o → o.isFreed = false → P (.ref s.heap.objs.size) { s with heap := s.heap.push o, toks := tk }) → wpAny (md X) A (pyIter vv) P E s
  again : ∀ (A : Around) φ (s : Shared) I o cs (P : Value → Shared → Prop) (E : Value → Shared → Prop), RelC X φ cs s.heap → s.heap.get? I = some o → At φ 0 o → P (.ref I) s → wpAny (md X) A (pyIter (.ref I)) P E s
  item : ∀ (A : Around) φ (s : Shared) I o i cs r (P : Option Value → Shared → Prop) (E : Value → Shared → Prop), RelC X φ cs s.heap → ok cs → I ∉ φ → s.heap.get? I = some o → At φ i o → items[i]? = some r →
    (∀ v h' o' tk, VRel φ r v → h'.get? I = some o' → At φ (i + 1) o' → Heap.ExtBut I s.heap h' → P (some v) { s with heap := h', toks := tk }) → wpAny (md X) A (pyNext (.ref I)) P E s
  done : ∀ (A : Around) φ (s : Shared) I o cs (P : Option Value → Shared → Prop) (E : Value → Shared → Prop), A.handled = none → RelC X φ cs s.heap → ok cs → I ∉ φ → s.heap.get? I = some o → At φ items.length o →
    (∀ h' tk, Heap.ExtBut I s.heap h' → P none { s with heap := h', toks := tk }) → wpAny (md X) A (pyNext (.ref I)) P E s

section
variable {X : Cx} {sc : Scope} {d : Nat} {cm : Bool} {st : St} {Q : AFlow → St → Prop}

/-- objects beside the tracked ones come in, or turn -/
theorem Rel.aside {φ : List Addr} {env : Env} {h h' : Heap} {I : Addr} (R : Rel X φ env st h) (hI : I ∉ φ) (hIf : I ∉ fAddrs env) (hfree : Free X.K I) (hfr : I ∉ X.fr) (k : Heap.ExtBut I h h') : Rel X φ env st h' := by
  have kφ : ∀ a ∈ φ, a ≠ I := fun a ha e => hI (e ▸ ha)
  have kf : ∀ a ∈ fAddrs env, a ≠ I := fun a ha e => hIf (e ▸ ha)
  refine ⟨⟨R.c.base.keeps fun a o ha e => k a o (fun z => ha (z ▸ hfree)) e, R.c.len, R.c.nd, R.c.low, fun l c hc => ?_, fun env' he' => ?_⟩, ⟨R.f.kind, R.f.glob, R.f.blt, R.f.fa, R.f.nd, fun a ha => ?_, ?_, fun x hx => ?_, R.f.top⟩⟩
  rotate_left
  · obtain ⟨h1, L, o, h2, h3, h4, h5, h6⟩ := R.c.frs env' he'
    exact ⟨h1, L, o, h2, h3, h4, k L o (fun z => hfr (List.mem_filterMap.mpr ⟨env', he', z ▸ h2⟩)) h5, h6⟩
  rotate_right
  · obtain ⟨a, o, e1, e2, e3⟩ := R.c.cell l c hc
    exact ⟨a, o, e1, k a o (kφ a (List.mem_of_getElem? e1)) e2, e3⟩
  · obtain ⟨o, e⟩ := R.f.ex a ha; exact ⟨o, k a o (kf a ha) e⟩
  · obtain ⟨m, ⟨o, es, ep, e, r⟩, hm⟩ := R.f.ns
    exact ⟨m, ⟨o, es, ep, k _ o (kf _ (.head _)) e, r⟩, hm⟩
  · obtain ⟨ca, v, h1, ⟨o, h2, h3⟩, h4⟩ := R.f.cel x hx
    exact ⟨ca, v, h1, ⟨o, k ca o (kf ca (.tail _ (List.mem_map.mpr ⟨_, mem_of_lookup h1, rfl⟩))) h2, h3⟩, h4⟩

theorem Rel.push {φ : List Addr} {env : Env} {h : Heap} (R : Rel X φ env st h) (o : Obj) : Rel X φ env st (h.push o) := by
  have k : ∀ b o', h.get? b = some o' → (h.push o).get? b = some o' := fun b o' e => Heap.get?_push_of_some _ e
  refine ⟨R.c.ext k, ⟨R.f.kind, R.f.glob, R.f.blt, R.f.fa, R.f.nd, fun a ha => let ⟨o, e⟩ := R.f.ex a ha; ⟨o, k a o e⟩, ?_, fun x hx => ?_, R.f.top⟩⟩
  · obtain ⟨m, hm, hr⟩ := R.f.ns; exact ⟨m, hm.push _, hr⟩
  · obtain ⟨ca, v, h1, h2, h4⟩ := R.f.cel x hx; exact ⟨ca, v, h1, h2.keeps k, h4⟩

/-- a step that only turned an object that was not there at the start -/
theorem Step.aside {fr φ φ' fa : List Addr} {s s₁ s₂ : Shared} {I : Addr} (S : Step fr φ fa s φ' s₁) (hn : s.heap.get? I = none) (hs : s₂.gens = s₁.gens ∧ s₂.drawn = s₁.drawn ∧ s₂.os = s₁.os) (k : Heap.ExtBut I s₁.heap s₂.heap) : Step fr φ fa s φ' s₂ :=
  ⟨⟨hs.1.trans S.sh.1, hs.2.1.trans S.sh.2.1, hs.2.2.trans S.sh.2.2⟩, S.pre, fun b o e h1 h2 h3 => k b o (fun z => by rw [z, hn] at e; cases e) (S.keep b o e h1 h2 h3), fun b o e h1 h2 => let ⟨sl, q⟩ := S.slots b o e h1 h2; ⟨sl, k b _ (fun z => by rw [z, hn] at e; cases e) q⟩, S.fresh⟩

def forK (ok : List Cell → Prop) (J : Nat → St → Prop) (Q : AFlow → St → Prop) (i : Nat) : AFlow → St → Prop := fun f st' => match f with
  | .next => ok st'.cells ∧ J (i + 1) st'
  | .cont => ok st'.cells ∧ J (i + 1) st'
  | .brk => Q .next st'
  | .ret v => Q (.ret v) st'
def whileK (J : Nat → St → Prop) (Q : AFlow → St → Prop) (n : Nat) : AFlow → St → Prop := fun f st' => match f with
  | .next => ∃ m, m < n ∧ J m st'
  | .cont => ∃ m, m < n ∧ J m st'
  | .brk => Q .next st'
  | .ret v => Q (.ret v) st'
/-- through a condition in between, without its text in the goals -/
theorem WS.mid {b : Stmt} {st : St} {Q : AFlow → St → Prop} (P : AFlow → St → Prop) (h : ∀ K : AFlow → St → Prop, (∀ f st, P f st → K f st) → WS X sc d cm b st K) (k : ∀ f st, P f st → Q f st) : WS X sc d cm b st Q := WS.mono (h P fun _ _ h => h) k

theorem WS.for {src : V} {ok : List Cell → Prop} {items : List V} (it : Iter X src ok items) (J : Nat → St → Prop) {x : Str} {px pos : Pos} {iter : Expr} {body : List Stmt} (hcm : cm = true) (hk : sc.names.lookup x = some .local ∨ sc.names.lookup x = some .cell)
    (h : WE X sc d cm iter st fun v st₀ => v = src ∧ ok st₀.cells ∧ J 0 st₀)
    (turn : ∀ i r st, items[i]? = some r → ok st.cells → J i st → ∀ K : AFlow → St → Prop, (∀ st', ok st'.cells ∧ J (i + 1) st' → K .next st') → (∀ st', ok st'.cells ∧ J (i + 1) st' → K .cont st') → (∀ st', Q .next st' → K .brk st') → (∀ v st', Q (.ret v) st' → K (.ret v) st') → WB X sc d cm body ⟨st.cells, setv x r st.vars⟩ K)
    (fin : ∀ st, ok st.cells → J items.length st → Q .next st) (hs : ∀ env x, foldedSetIterable iter env x = pure x := by intro _ _; with_unfolding_all rfl) : WS X sc d cm (.For (.Name x px) iter body [] pos) st Q := by
  intro A env φ s he hA R
  subst he
  refine wpAny_For (Tri.seq (h A env φ s rfl hA R) fun v s₁ φ₁ r st₁ S₁ R₁ hr h₁ => ?_) (hs env)
  obtain ⟨rfl, hok, hJ⟩ := h₁
  refine it.start A φ₁ s₁ v st₁.cells _ _ R₁.c hok hr fun o tk hat hfr => ?_
  generalize hI : s₁.heap.objs.size = I
  have hIn : s₁.heap.get? I = none := get_none_of_size (Nat.le_of_eq hI)
  have hIfree : Free X.K I := R₁.c.base.free hIn (R₁.c.base.above (Nat.le_of_eq hI))
  have hIs : s.heap.get? I = none := by
    cases e : s.heap.get? I with
    | none => rfl
    | some ob =>
      have h1 : I ∉ φ₁ := fun hm => by obtain ⟨o', e'⟩ := R₁.c.ex I hm; rw [hIn] at e'; cases e'
      have h2 : I ∉ fAddrs env := fun hm => by obtain ⟨o', e'⟩ := R₁.f.ex I hm; rw [hIn] at e'; cases e'
      have h3 : I ∉ φ := fun hm => h1 (S₁.pre.subset hm)
      obtain ⟨sl, this⟩ := S₁.slots I ob e h3 h2; rw [hIn] at this; cases this
  have hIr : I ∉ X.fr := fun hm => by
    obtain ⟨env', he', hf'⟩ := List.mem_filterMap.mp hm
    obtain ⟨_, L, o', h2, _, _, h5, _⟩ := R₁.c.frs env' he'
    rw [hf'] at h2; cases h2
    rw [hIn] at h5; cases h5
  have hIf : I ∉ fAddrs env := fun hm => by obtain ⟨o', e'⟩ := R₁.f.ex I hm; rw [hIn] at e'; cases e'
  refine codeAny_forLoop_any (fun n s' => ∃ i φ' st' o', n = items.length + 1 - i ∧ i ≤ items.length ∧ Step X.fr φ (fAddrs env) s φ' s' ∧ Rel X φ' env st' s'.heap ∧ ok st'.cells ∧ J i st' ∧ I ∉ φ' ∧ s'.heap.get? I = some o' ∧ it.At φ' i o') ?_ (items.length + 1) ?_
  · rintro n s' ⟨i, φ', st', o', rfl, hi, S', R', hok', hJ', hIφ, hIo, hIat⟩
    by_cases hlt : i < items.length
    · obtain ⟨r', hr'⟩ : ∃ r', items[i]? = some r' := ⟨items[i], by simp [hlt]⟩
      refine it.item A φ' s' I o' i st'.cells r' _ _ R'.c hok' hIφ hIo hIat hr' fun v h' o'' tk' hv hIo'' hIat'' hext => ?_
      dsimp only
      have R'' : Rel X φ' env st' h' := R'.aside hIφ hIf hIfree hIr hext
      have S'' : Step X.fr φ (fAddrs env) s φ' { s' with heap := h', toks := tk' } := S'.aside hIs ⟨rfl, rfl, rfl⟩ hext
      refine wpAny_pure ?_
      refine assign_Name (Tri.seq (store_name (s := { s' with heap := h', toks := tk' }) (Q := fun st'' => st'' = ⟨st'.cells, setv x r' st'.vars⟩) hk R'' hv rfl) fun _ s₃ φ₃ _ st₃ S₃ R₃ _ e₃ => ?_)
      subst e₃
      have hIφ₃ : I ∉ φ₃ := fun hm => by
        by_cases hm' : I ∈ φ'
        · exact hIφ hm'
        · have := S₃.fresh I hm hm'; rw [hIo''] at this; cases this
      refine Tri.seq (turn i r' st' hr' hok' hJ' (forK ok J Q i) (fun _ h => h) (fun _ h => h) (fun _ h => h) (fun _ _ h => h) A env φ₃ s₃ rfl hA R₃) fun f s₄ φ₄ rf st₄ S₄ R₄ hrf h₄ => ?_
      have S₀₄ := (S''.trans S₃ R₃.f.dis).trans S₄ R₄.f.dis
      have hI₃ : s₃.heap.get? I = some o'' := S₃.keep I o'' hIo'' hIφ hIf hIr
      have hI₄ : s₄.heap.get? I = some o'' := S₄.keep I o'' hI₃ hIφ₃ hIf hIr
      have hIφ₄ : I ∉ φ₄ := fun hm => by have := S₄.fresh I hm hIφ₃; rw [hI₃] at this; cases this
      cases rf with
      | next => cases (hrf : f = .next); exact ⟨items.length + 1 - (i + 1), by omega, i + 1, φ₄, st₄, o'', rfl, hlt, S₀₄, R₄, h₄.1, h₄.2, hIφ₄, hI₄, it.mono _ _ _ _ hIat'' (S₃.pre.trans S₄.pre)⟩
      | cont => cases (hrf : f = .cont); exact ⟨items.length + 1 - (i + 1), by omega, i + 1, φ₄, st₄, o'', rfl, hlt, S₀₄, R₄, h₄.1, h₄.2, hIφ₄, hI₄, it.mono _ _ _ _ hIat'' (S₃.pre.trans S₄.pre)⟩
      | brk => cases (hrf : f = .brk); exact Tri.here S₀₄ R₄ (FRel.next _) h₄
      | ret u => obtain ⟨u', rfl, hu⟩ := hrf; exact Tri.here S₀₄ R₄ (FRel.ret hu) h₄
    · have hi' : i = items.length := by omega
      subst hi'
      refine it.done A φ' s' I o' st'.cells _ _ (hA.calm hcm) R'.c hok' hIφ hIo hIat fun h' tk' hext => ?_
      exact wpAny_execs_nil (Tri.here (S'.aside hIs ⟨rfl, rfl, rfl⟩ hext) (R'.aside hIφ hIf hIfree hIr hext) (FRel.next _) (fin st' hok' hJ'))
  · have ho : (s₁.heap.push o).get? I = some o := by rw [← hI]; exact Heap.get?_push_size _ hfr
    have hIφ₁ : I ∉ φ₁ := fun hm => by obtain ⟨o', e'⟩ := R₁.c.ex I hm; rw [hIn] at e'; cases e'
    exact ⟨0, φ₁, st₁, o, rfl, Nat.zero_le _, ⟨⟨S₁.sh.1, S₁.sh.2.1, S₁.sh.2.2⟩, S₁.pre, fun b ob e h1 h2 h3 => Heap.get?_push_of_some _ (S₁.keep b ob e h1 h2 h3), fun b ob e h1 h2 => let ⟨sl, q⟩ := S₁.slots b ob e h1 h2; ⟨sl, Heap.get?_push_of_some _ q⟩, S₁.fresh⟩, R₁.push o, hok, hJ, hIφ₁, ho, hat⟩

theorem WS.while {test : Expr} {body orelse : List Stmt} {pos : Pos} (J : Nat → St → Prop) (n : Nat) (h0 : J n st)
    (turn : ∀ n st, J n st → ∀ K : AFlow → St → Prop, (∀ st', (∃ m, m < n ∧ J m st') → K .next st') → (∀ st', (∃ m, m < n ∧ J m st') → K .cont st') → (∀ st', Q .next st' → K .brk st') → (∀ v st', Q (.ret v) st' → K (.ret v) st') → WT X sc d cm test st fun b st₁ => if b = true then WB X sc d cm body st₁ K
      else WB X sc d cm orelse st₁ Q) : WS X sc d cm (.While test body orelse pos) st Q := by
  intro A env φ s he hA R
  refine wpAny_While (codeAny_whileLoop (fun n s' => ∃ φ' st', Step X.fr φ (fAddrs env) s φ' s' ∧ Rel X φ' env st' s'.heap ∧ J n st') ?_ n ⟨φ, st, .refl, R, h0⟩)
  rintro n s' ⟨φ', st', S', R', hJ⟩
  refine Tri.seq (turn n st' hJ (whileK J Q n) (fun _ h => h) (fun _ h => h) (fun _ h => h) (fun _ _ h => h) A env φ' s' he hA R') fun b s₁ φ₁ r st₁ S₁ R₁ hr h₁ => ?_
  cases (hr : b = r)
  have S := S'.trans S₁ R₁.f.dis
  cases b with
  | false =>
    rw [if_neg Bool.false_ne_true] at h₁ ⊢
    exact Tri.seq (h₁ A env φ₁ s₁ he hA R₁) fun f s₂ φ₂ rf st₂ S₂ R₂ hrf h₂ => Tri.here (S.trans S₂ R₂.f.dis) R₂ hrf h₂
  | true =>
    rw [if_pos rfl] at h₁ ⊢
    refine Tri.seq (h₁ A env φ₁ s₁ he hA R₁) fun f s₂ φ₂ rf st₂ S₂ R₂ hrf h₂ => ?_
    have S' := S.trans S₂ R₂.f.dis
    cases rf with
    | next => cases (hrf : f = .next); obtain ⟨m, hm, hj⟩ := h₂; exact ⟨m, hm, φ₂, st₂, S', R₂, hj⟩
    | cont => cases (hrf : f = .cont); obtain ⟨m, hm, hj⟩ := h₂; exact ⟨m, hm, φ₂, st₂, S', R₂, hj⟩
    | brk => cases (hrf : f = .brk); exact Tri.here S' R₂ (FRel.next _) h₂
    | ret u => obtain ⟨u', rfl, hu⟩ := hrf; exact Tri.here S' R₂ (FRel.ret hu) h₂
end

section
variable {X : Cx}

theorem All2.none {α β : Type} {R : α → β → Prop} {l : List α} {m : List β} (h : All2 R l m) : m[l.length]? = none := by
  rw [h.length]; simp

def Iter.list (X : Cx) (l : Nat) (xs : List V) : Iter X (.ref l) (fun cs => cs[l]? = some (.list xs)) xs where
  At φ i o := ∃ a, φ[l]? = some a ∧ o.cls = .type "list_iterator" ∧ o.data = .fields #[.ref a, .int i 0]
  mono _ _ _ _ := fun ⟨a, e, r⟩ p => ⟨a, get_of_prefix p e, r⟩
  start A φ s vv cs P E R hok hv k := by
    obtain ⟨a, ha, rfl⟩ := hv
    obtain ⟨vs, n, e, hr⟩ := list_at R hok ha
    exact wpAny_pyIter_list ⟨_, e, rfl, n, rfl⟩ (k _ _ ⟨a, ha, rfl, rfl⟩ rfl)
  again A φ s I o cs P E R ho hat hp := by
    obtain ⟨a, ha, h1, h2⟩ := hat
    exact wpAny_pyIter_listiter (i := 0) ⟨o, ho, h1, h2⟩ hp
  item A φ s I o i cs r P E R hok hI ho hat hr k := by
    obtain ⟨a, ha, h1, h2⟩ := hat
    obtain ⟨vs, n, e, hvs⟩ := list_at R hok ha
    obtain ⟨v, hv1, hv2⟩ := hvs.get hr
    refine wpAny_pyNext_list_item ⟨o, ho, h1, h2⟩ ⟨_, e, rfl, n, rfl⟩ (x := v) (by rw [← Array.getElem?_toList]; exact hv1) fun h' hit hs => ?_
    obtain ⟨o', e', h1', h2'⟩ := hit
    exact k v h' o' _ hv2 e' ⟨a, ha, h1', h2'⟩ hs.extBut
  done A φ s I o cs P E hh R hok hI ho hat k := by
    obtain ⟨a, ha, h1, h2⟩ := hat
    obtain ⟨vs, n, e, hvs⟩ := list_at R hok ha
    exact wpAny_pyNext_list_end hh ⟨o, ho, h1, h2⟩ ⟨_, e, rfl, n, rfl⟩ (by rw [← Array.getElem?_toList]; exact hvs.none) fun h' he => k h' _ he

theorem tup_at {φ : List Addr} {h : Heap} {l : Nat} {a : Addr} {xs : List V} {cs : List Cell} (R : RelC X φ cs h) (hl : cs[l]? = some (.tuple xs)) (ha : φ[l]? = some a) : ∃ vs n, h.get? a = some (tupOf vs n) ∧ All2 (VRel φ) xs vs.toList := by
  obtain ⟨a', o, e1, e2, vs, n, rfl, h2⟩ := R.cell l _ hl
  rw [ha] at e1; cases e1
  exact ⟨vs, n, e2, h2⟩

def Iter.tuple (X : Cx) (l : Nat) (xs : List V) : Iter X (.ref l) (fun cs => cs[l]? = some (.tuple xs)) xs where
  At φ i o := ∃ a, φ[l]? = some a ∧ o.cls = .type "tuple_iterator" ∧ o.data = .fields #[.ref a, .int i 0]
  mono _ _ _ _ := fun ⟨a, e, r⟩ p => ⟨a, get_of_prefix p e, r⟩
  start A φ s vv cs P E R hok hv k := by
    obtain ⟨a, ha, rfl⟩ := hv
    obtain ⟨vs, n, e, hr⟩ := tup_at R hok ha
    exact wpAny_pyIter_tuple ⟨_, e, rfl, n, rfl⟩ (k _ _ ⟨a, ha, rfl, rfl⟩ rfl)
  again A φ s I o cs P E R ho hat hp := by
    obtain ⟨a, ha, h1, h2⟩ := hat
    exact wpAny_pyIter_tupleiter (i := 0) ⟨o, ho, h1, h2⟩ hp
  item A φ s I o i cs r P E R hok hI ho hat hr k := by
    obtain ⟨a, ha, h1, h2⟩ := hat
    obtain ⟨vs, n, e, hvs⟩ := tup_at R hok ha
    obtain ⟨v, hv1, hv2⟩ := hvs.get hr
    refine wpAny_pyNext_tuple_item ⟨o, ho, h1, h2⟩ ⟨_, e, rfl, n, rfl⟩ (x := v) (by rw [← Array.getElem?_toList]; exact hv1) fun h' hit hs => ?_
    obtain ⟨o', e', h1', h2'⟩ := hit
    exact k v h' o' _ hv2 e' ⟨a, ha, h1', h2'⟩ hs.extBut
  done A φ s I o cs P E hh R hok hI ho hat k := by
    obtain ⟨a, ha, h1, h2⟩ := hat
    obtain ⟨vs, n, e, hvs⟩ := tup_at R hok ha
    exact wpAny_pyNext_tuple_end hh ⟨o, ho, h1, h2⟩ ⟨_, e, rfl, n, rfl⟩ (by rw [← Array.getElem?_toList]; exact hvs.none) fun h' he => k h' _ he

def Iter.keys (X : Cx) (l : Nat) (kvs : List (Str × V)) (ep : Nat) : Iter X (.ref l) (fun cs => cs[l]? = some (.dict kvs ep)) (kvs.map fun p => .str p.1) where
  At φ i o := ∃ a, φ[l]? = some a ∧ o.cls = .type "dict_keyiterator" ∧ o.data = .fields #[.ref a, .int i 0, .int kvs.length 0, .int ep 0]
  mono _ _ _ _ := fun ⟨a, e, r⟩ p => ⟨a, get_of_prefix p e, r⟩
  start A φ s vv cs P E R hok hv k := by
    obtain ⟨a, ha, rfl⟩ := hv
    obtain ⟨kvs', hd, hr, hs⟩ := dict_at R hok ha
    refine wpAny_pyIter_dict hs hd (k _ _ ⟨a, ha, rfl, ?_⟩ rfl)
    rw [hr.length]; rfl
  again A φ s I o cs P E R ho hat hp := by
    obtain ⟨a, ha, h1, h2⟩ := hat
    exact wpAny_pyIter_keyiter (d := a) (i := 0) (n := kvs.length) (ep := ep) ⟨o, ho, h1, h2⟩ hp
  item A φ s I o i cs r P E R hok hI ho hat hr k := by
    obtain ⟨a, ha, h1, h2⟩ := hat
    obtain ⟨kvs', hd, hr', hs⟩ := dict_at R hok ha
    rw [List.getElem?_map] at hr
    obtain ⟨p, hp, rfl⟩ := Option.map_eq_some_iff.mp hr
    obtain ⟨q, hq, hpq⟩ := hr'.get hp
    refine wpAny_pyNext_dict_item (it := I) (d := a) (i := i) (ep := ep) (kvs := kvs') (k := q.1) (v := q.2) ⟨o, ho, h1, by rw [← hr'.length]; exact h2⟩ hd hq fun key h' hkey hit hsb => ?_
    obtain ⟨o', e', h1', h2'⟩ := hit
    obtain ⟨t, rfl⟩ := Value.isStrOf_shape (hkey : Value.isStrOf q.1 key = true)
    exact k _ h' o' _ (by rw [hpq.1]; exact VRel.str _ _ _) e' ⟨a, ha, h1', by rw [hr'.length]; exact h2'⟩ hsb.extBut
  done A φ s I o cs P E hh R hok hI ho hat k := by
    obtain ⟨a, ha, h1, h2⟩ := hat
    obtain ⟨kvs', hd, hr', hs⟩ := dict_at R hok ha
    rw [List.length_map] at h2
    exact wpAny_pyNext_dict_end (it := I) (d := a) (i := kvs.length) (ep := ep) (kvs := kvs') hh ⟨o, ho, h1, by rw [← hr'.length]; exact h2⟩ hd hr'.none fun h' he => k h' _ he
end

section
variable {X : Cx} {d : Nat} {cm : Bool} {cs : List Cell} {Q : V → List Cell → Prop}

theorem All2.size {α : Type} {R : α → Value → Prop} {xs : List α} {vs : Array Value} (h : All2 R xs vs.toList) : xs.length = vs.size := h.length.trans (Array.length_toList ..)

theorem all2_one {φ : List Addr} {a : V} {vals : List Value} (h : All2 (VRel φ) [a] vals) : ∃ v, vals = [v] ∧ VRel φ a v := by
  match vals, h with
  | [v], ⟨h1, _⟩ => exact ⟨v, rfl, h1⟩
  | [], h => exact h.elim
  | _ :: _ :: _, h => exact h.2.elim
theorem all2_two {φ : List Addr} {a b : V} {vals : List Value} (h : All2 (VRel φ) [a, b] vals) : ∃ v u, vals = [v, u] ∧ VRel φ a v ∧ VRel φ b u := by
  match vals, h with
  | [v, u], ⟨h1, h2, _⟩ => exact ⟨v, u, rfl, h1, h2⟩
  | [], h => exact h.elim
  | [_], h => exact h.2.elim
  | _ :: _ :: _ :: _, h => exact h.2.2.elim
theorem all2_nil {φ : List Addr} {vals : List Value} (h : All2 (VRel φ) [] vals) : vals = [] := by
  match vals, h with
  | [], _ => rfl
  | _ :: _, h => exact h.elim

theorem WCV.lenList {l : Nat} {xs : List V} (hl : cs[l]? = some (.list xs)) (hz : xs.length < 1000000) (q : Q (.int xs.length) cs) : WCV X d cm (.val (.builtin "len")) [.ref l] cs Q := by
  intro A φ s fv vals hA R hf hv
  cases (hf : fv = _)
  obtain ⟨_, rfl, a, ha, rfl⟩ := all2_one hv
  obtain ⟨vs, n, e, hr⟩ := list_at R hl ha
  have hlen := hr.size
  refine Calls.call_len_list ⟨_, e, rfl, n, rfl⟩ (by omega) (TriC.ret R ?_ q)
  rw [← hlen]; exact VRel.int _ _ _
theorem WCV.lenTuple {l : Nat} {xs : List V} (hl : cs[l]? = some (.tuple xs)) (hz : xs.length < 1000000) (q : Q (.int xs.length) cs) : WCV X d cm (.val (.builtin "len")) [.ref l] cs Q := by
  intro A φ s fv vals hA R hf hv
  cases (hf : fv = _)
  obtain ⟨_, rfl, a, ha, rfl⟩ := all2_one hv
  obtain ⟨vs, n, e, hr⟩ := tup_at R hl ha
  have hlen := hr.size
  refine len_tuple (items := vs) ⟨_, e, rfl, n, rfl⟩ (by omega) (TriC.ret R ?_ q)
  rw [← hlen]; exact VRel.int _ _ _
theorem WCV.lenStr {x : Str} (hz : x.length < 1000000) (q : Q (.int x.length) cs) : WCV X d cm (.val (.builtin "len")) [.str x] cs Q := by
  intro A φ s fv vals hA R hf hv
  cases (hf : fv = _)
  obtain ⟨_, rfl, t, rfl⟩ := all2_one hv
  exact P.len_str (by omega) (TriC.ret R (VRel.int _ _ _) q)

theorem set_list {φ : List Addr} {s : Shared} {l : Nat} {a : Addr} {ys : List V} {vs ws : Array Value} {n n' tk : Nat} {f : Obj → Obj} {r : V} {v : Value} (R : RelC X φ cs s.heap) (ha : φ[l]? = some a) (e : s.heap.get? a = some (lstOf vs n)) (hf : f (lstOf vs n) = lstOf ws n') (hr : All2 (VRel φ) ys ws.toList) (hv : VRel φ r v) (q : Q r (cs.set l (.list ys))) :
    TriCP X φ s VRel Q v { s with heap := s.heap.update a f, toks := tk } := by
  have k : ∀ b o, b ≠ a → s.heap.get? b = some o → (s.heap.update a f).get? b = some o := fun b o hb e => ((Heap.SameBut.update ..).2 b hb).trans e
  have e' : (s.heap.update a f).get? a = some (lstOf ws n') := by
    have := Heap.get?_update_self f e (by rw [hf]; rfl)
    rw [this, hf]
  exact ⟨φ, r, _, Step.set ⟨rfl, rfl, rfl⟩ (List.mem_of_getElem? ha) k, R.set ha k e' (Cell.isList hr), hv, q⟩

theorem mapSeq_list (g : Array Value → Array Value) (vs : Array Value) (n : Nat) : ∃ n', Obj.mapSeq g (lstOf vs n) = lstOf (g vs) n' := ⟨_, rfl⟩

theorem WCV.pop {l : Nat} {xs : List V} {v : V} (hl : cs[l]? = some (.list (xs ++ [v]))) (hz : xs.length < 1000000) (q : Q v (cs.set l (.list xs))) : WCV X d cm (.val (.builtin "list.pop")) [.ref l] cs Q := by
  intro A φ s fv vals hA R hf hv
  cases (hf : fv = _)
  obtain ⟨_, rfl, a, ha, rfl⟩ := all2_one hv
  obtain ⟨vs, n, e, hr⟩ := list_at R hl ha
  have hlen := hr.size
  rw [List.length_append, List.length_singleton] at hlen
  obtain ⟨y, hy1, hy2⟩ := hr.get (i := xs.length) (a := v) (get_snoc _ _)
  have hy : vs[vs.size - 1]? = some y := by rw [← Array.getElem?_toList]; rw [← hlen]; simpa using hy1
  obtain ⟨n', en⟩ := mapSeq_list (fun xs => xs.eraseIdxIfInBounds (vs.size - 1)) vs n
  refine call_meets F.slot_list_pop ⟨_, e, rfl⟩ F.entry_list_pop (F.args_list_pop_1 _) (MeetsSeq.list_pop_last a vs n y hy (by rw [sizeLine_eq]; omega)) ⟨e, set_list R ha e en ?_ hy2 q⟩
  have key : vs.toList = vs.toList.take xs.length ++ [y] := by
    have h1 : vs.toList.length = xs.length + 1 := by rw [Array.length_toList]; exact hlen.symm
    have h2 : vs.toList.drop xs.length = [y] := by
      rw [List.drop_eq_getElem_cons (by omega), List.drop_eq_nil_of_le (by omega)]
      rw [List.getElem?_eq_getElem (by omega)] at hy1
      simpa using hy1
    rw [← h2, List.take_append_drop]
  have e2 : (vs.eraseIdxIfInBounds (vs.size - 1)).toList = vs.toList.take xs.length := by
    have h1 : vs.size - 1 = xs.length := by omega
    rw [h1, Array.toList_eraseIdxIfInBounds, List.eraseIdx_eq_take_drop_succ, List.drop_eq_nil_of_le (by rw [Array.length_toList]; omega), List.append_nil]
  rw [e2]
  have : ∀ {l : List V} {m : List Value}, All2 (VRel φ) l m → ∀ k, All2 (VRel φ) (l.take k) (m.take k) := by
    intro l
    induction l with
    | nil => intro m h k; cases m with | nil => simp [All2] | cons _ _ => exact h.elim
    | cons a l ih =>
      intro m h k
      cases m with
      | nil => exact h.elim
      | cons b m => cases k with | zero => simp [All2] | succ k => exact ⟨h.1, ih h.2 k⟩
  simpa using this hr xs.length

theorem WCV.clear {l : Nat} {xs : List V} (hl : cs[l]? = some (.list xs)) (hz : xs.length < 1000000) (q : Q .none (cs.set l (.list []))) : WCV X d cm (.val (.builtin "list.clear")) [.ref l] cs Q := by
  intro A φ s fv vals hA R hf hv
  cases (hf : fv = _)
  obtain ⟨_, rfl, a, ha, rfl⟩ := all2_one hv
  obtain ⟨vs, n, e, hr⟩ := list_at R hl ha
  have hlen := hr.size
  obtain ⟨n', en⟩ := mapSeq_list (fun _ => #[]) vs n
  exact call_meets F.slot_list_clear ⟨_, e, rfl⟩ F.entry_list_clear (F.args_list_clear_1 _) (AutoSeq1.list_clear_list_0 a vs n (by rw [sizeLine_eq]; omega)) ⟨e, set_list (ys := []) R ha e en trivial (VRel.none _) q⟩

theorem WCV.tupleOf {l : Nat} {xs : List V} (hl : cs[l]? = some (.list xs)) (hz : xs.length < 1000000) (q : Q (.ref cs.length) (cs ++ [.tuple xs])) : WCV X d cm (.val (.type "tuple")) [.ref l] cs Q := by
  intro A φ s fv vals hA R hf hv
  cases (hf : fv = _)
  obtain ⟨_, rfl, a, ha, rfl⟩ := all2_one hv
  obtain ⟨vs, n, e, hr⟩ := list_at R hl ha
  have hlen := hr.size
  refine call_tuple_list ⟨_, e, rfl, n, rfl⟩ (fun h' hk => ?_) (by rw [sizeLine_eq]; omega)
  have R' : RelC X φ cs ({ s with heap := h' } : Shared).heap := R.ext hk
  obtain ⟨φ', r, cs', S, R'', hv', hq⟩ := TriC.new (α := Unit) (tk := s.toks) (c := .tuple xs) (o := tupOf vs 0) R' rfl (Cell.isTuple (all2_mono_snoc hr)) q
  exact ⟨φ', r, cs', (Step.ext (s := s) (s' := { s with heap := h' }) ⟨rfl, rfl, rfl⟩ hk).trans S fun _ h => (nomatch h), R'', hv', hq⟩

theorem W2.iaddInt {a b : Int} (q : Q (.int (a + b)) cs) : W2 X d cm (inplaceOp .Add) (.int a) (.int b) cs Q := by
  rintro A φ s va vb hA R ⟨t, rfl⟩ ⟨u, rfl⟩; exact AutoIntOps.iadd_0 (TriC.ret R (VRel.int _ _ _) q)
theorem W2.isubInt {a b : Int} (q : Q (.int (a - b)) cs) : W2 X d cm (inplaceOp .Sub) (.int a) (.int b) cs Q := by
  rintro A φ s va vb hA R ⟨t, rfl⟩ ⟨u, rfl⟩; exact AutoIntOps.isub_0 (TriC.ret R (VRel.int _ _ _) q)

theorem WCV.setNew (q : Q (.ref cs.length) (cs ++ [.set []])) : WCV X d cm (.val (.type "set")) [] cs Q := by
  intro A φ s fv vals hA R hf hv
  cases (hf : fv = _)
  cases all2_nil hv
  exact call_set_0 fun led => TriC.new (α := Unit) (tk := s.toks) (c := .set []) R rfl (setObjOf_fresh led) q

theorem set_at {φ : List Addr} {h : Heap} {l : Nat} {a : Addr} {xs : List Str} (R : RelC X φ cs h) (hl : cs[l]? = some (.set xs)) (ha : φ[l]? = some a) (hz : xs.length < 4000) : h.SetOf (strKind X.prog X.w) a (fun x => xs.contains x) xs.length := by
  obtain ⟨a', o, e1, e2, h2⟩ := R.cell l _ hl
  rw [ha] at e1; cases e1
  exact Obj.SetObjOf.setOf h2 e2 (by show xs.length < 4096; omega)

theorem W2.inSet {l : Nat} {xs : List Str} {x : Str} (hl : cs[l]? = some (.set xs)) (hz : xs.length < 4000) (q : Q (.bool (xs.contains x)) cs) : W2 X d cm (compareOp .In) (.str x) (.ref l) cs Q := by
  rintro A φ s va vb hA R ⟨t, rfl⟩ ⟨a, ha, rfl⟩
  exact wpAny_inSet_of (strKind_is X.prog X.w x t) rfl (set_at R hl ha hz) (TriC.ret R (VRel.bool _ _) q)

theorem MethB.set {l : Nat} {xs : List Str} (hl : cs[l]? = some (.set xs)) (hz : xs.length < 4000) : MethB X (.ref l) "add" cs "set.add" := by
  rintro A φ s v pl P E R ⟨a, ha, rfl⟩ hp
  exact getMethod_set_add (set_at R hl ha hz) hp

theorem WCV.setAdd {l : Nat} {xs : List Str} {x : Str} (hl : cs[l]? = some (.set xs)) (hz : xs.length < 4000) (hx : x ∉ xs) (q : Q .none (cs.set l (.set (xs ++ [x])))) : WCV X d cm (.val (.builtin "set.add")) [.ref l, .str x] cs Q := by
  intro A φ s fv vals hA R hf hv
  cases (hf : fv = _)
  obtain ⟨_, _, rfl, ⟨a, ha, rfl⟩, ⟨t, rfl⟩⟩ := all2_two hv
  refine call_set_add (strKind_is X.prog X.w x t) rfl (set_at R hl ha hz) (by show xs.length + 1 < 4096; omega) fun h' hs' hS => ?_
  obtain ⟨o, e, hso⟩ := hS.objOf
  have k : ∀ b o, b ≠ a → s.heap.get? b = some o → h'.get? b = some o := fun b o hb e => (hs'.2 b hb).trans e
  refine ⟨φ, .none, _, Step.set ⟨rfl, rfl, rfl⟩ (List.mem_of_getElem? ha) k, R.set (c' := .set (xs ++ [x])) ha k e ?_, VRel.none _, q⟩
  have e1 : (fun k' => xs.contains k' || decide (k' = x)) = fun k' => (xs ++ [x]).contains k' := by
    funext k'
    rw [List.contains_append]
    congr 1
    simp [List.contains_cons, BEq.beq]
  have e2 : (if xs.contains x = true then xs.length else xs.length + 1) = (xs ++ [x]).length := by
    rw [if_neg (by simpa using hx)]; simp
  show Obj.SetObjOf _ o (fun k' => (xs ++ [x]).contains k') (xs ++ [x]).length
  rw [← e1, ← e2]; exact hso
end

section
variable {X : Cx} {d : Nat} {cm : Bool} {cs : List Cell} {Q : V → List Cell → Prop}

/-- a def with defaults -/
theorem WCC.fnD {f : Addr} {o : Obj} {fd : FuncData} {sc : Scope} {body : List Stmt} {ps : List Str} {vs dv : List V} {ex : List Value} (hK : X.K.lookup f = some o) (hd : o.data = .func fd) (hsc : fd.scope = sc) (hbody : fd.body = .stmts body)
    (hfix : fd.globals = mainGlobals ∧ fd.builtins = builtinsNs ∧ fd.closure = []) (hcode : codeIn X.K fd.code fd.qualname = true)
    (hb : ∀ (vals : List Value) (S : Setting), vals.length = vs.length → peek X.K S (bindArgs fd ⟨vals, []⟩) = some (ps.zip (vals ++ ex))) (hex : ∀ φ, All2 (VRel φ) dv ex) (hloc : (ps.all fun x => decide (sc.names.lookup x = some .local) || decide (sc.names.lookup x = some .cell)) = true) (hnd : ps.Nodup) (hnames : (sc.names.map (·.1)).Nodup)
    (hflag : sc.isCoroutine = false ∧ sc.isGenerator = false ∧ sc.kind = .function)
    (h : ∀ env, WB (X.push env) sc d cm body ⟨cs, ps.zip (vs ++ dv)⟩ fun fl st' => Q (retOf fl) st'.cells) : WCC X (d + 1) cm (.val (.ref f)) vs cs Q := by
  intro A φ s fv vals hA R hf hv
  cases (hf : fv = .ref f)
  subst hsc
  refine codeAny_call_function (by have := hA.depth; show A.depth < 1000; omega) (R.base.X f o hK) hd hflag.1 hflag.2.1 hbody (codeRec_of R.base.X hcode) ?_
  refine kp_binds R.base.X (fun S => hb vals S hv.length.symm) _ _ _ _ ?_
  rw [hfix.2.2]
  exact enter_fn hA R (hv.append (hex φ)) hfix hloc hnd hnames hflag h

theorem meets_bool_list (l : Addr) (items : Array Value) : Meets (Builtin.«bool.__new__» ⟨[.type "bool", .ref l], []⟩) (fun _ R s => s.heap.IsList l items ∧ (items.size : Int) < 2 ^ 63 ∧ R (.ok (.ret (.bool (!items.isEmpty)))) { s with toks := s.toks + 1 + 1 }) :=
  Meets.of_wp fun prog w A R s hs => by
    obtain ⟨hp, g, d, tk, os⟩ := s
    obtain ⟨hl, hz, hr⟩ := hs
    have f1 := F.conv_sub_bool
    repeat (any_goals (first | assumption | with_reducible apply wpAny_truthy_list hl hz | wp_step))
    all_goals first | exact ⟨_, rfl, hr⟩ | skip

theorem WCV.boolList {l : Nat} {xs : List V} (hl : cs[l]? = some (.list xs)) (hz : xs.length < 1000000) (q : Q (.bool (!xs.isEmpty)) cs) : WCV X d cm (.val (.type "bool")) [.ref l] cs Q := by
  intro A φ s fv vals hA R hf hv
  cases (hf : fv = _)
  obtain ⟨_, rfl, a, ha, rfl⟩ := all2_one hv
  obtain ⟨vs, n, e, hr⟩ := list_at R hl ha
  have hlen := hr.size
  refine call_bool_1 (meets_bool_list a vs) ⟨⟨_, e, rfl, n, rfl⟩, by omega, ⟨rfl, TriC.ret R ?_ q⟩⟩
  have : xs.isEmpty = vs.isEmpty := by
    cases xs <;> cases vs with | mk l => cases l <;> first | rfl | cases hlen
  rw [this]; exact VRel.bool _ _
end

/-- parts of a slice -/
def V.part : V → Option Int
  | .int i => some i
  | _ => .none
def V.isPart : V → Bool
  | .int _ => true
  | .none => true
  | _ => false

section
variable (X : Cx) (sc : Scope) (d : Nat) (cm : Bool)
def WP (x : Option Expr) (st : St) (Q : V → St → Prop) : Prop :=
  ∀ A env φ s, env.scope = sc → Room X d cm A → Rel X φ env st s.heap → Tri X A env φ s (evalPart x env) VRel Q
def WSL (value slice : Expr) (o l u k : V) (cs : List Cell) (Q : V → List Cell → Prop) : Prop :=
  ∀ A φ s ov a lv uv kv, Room X d cm A → RelC X φ cs s.heap → VRel φ o ov → VRel φ l lv → VRel φ u uv → VRel φ k kv → s.heap.IsSliceOf a lv uv kv → TriC X A φ s (subscriptTail value slice ov (.ref a)) VRel Q
end

section
variable {X : Cx} {sc : Scope} {d : Nat} {cm : Bool} {st : St} {cs : List Cell}

theorem WP.none {Q : V → St → Prop} (q : Q .none st) : WP X sc d cm none st Q := fun A env φ s he hA R => evalPart_none_step (Tri.here .refl R (VRel.none _) q)
theorem WP.some {e : Expr} {Q : V → St → Prop} (h : WE X sc d cm e st Q) : WP X sc d cm (some e) st Q := fun A env φ s he hA R => evalPart_some_step (h A env φ s he hA R)

theorem WE.sub {value slice : Expr} {pos : Pos} {Q : V → St → Prop} (h : WE X sc d cm value st fun o st₁ => WE X sc d cm slice st₁ fun i st₂ => W2 X d cm (subscriptTail value slice) o i st₂.cells fun r cs => Q r ⟨cs, st₂.vars⟩) : WE X sc d cm (.Subscript value slice pos) st Q := by
  intro A env φ s he hA R
  refine Subscript_ (Tri.seq (h A env φ s he hA R) fun a s₁ φ₁ ra st₁ S₁ R₁ hra h₁ => ?_)
  refine Tri.seq (h₁ A env φ₁ s₁ he hA R₁) fun b s₂ φ₂ rb st₂ S₂ R₂ hrb h₂ => ?_
  exact Tri.after (S₁.trans S₂ R₂.f.dis) (TriC.lift R₂ (h₂ A φ₂ s₂ a b hA R₂.c (hra.mono S₂.pre) hrb) fun _ _ q => q)

theorem WE.slice {value : Expr} {lo hi sp : Option Expr} {p pos : Pos} {Q : V → St → Prop} (h : WE X sc d cm value st fun o st₁ => WP X sc d cm lo st₁ fun l st₂ => WP X sc d cm hi st₂ fun u st₃ => WP X sc d cm sp st₃ fun k st₄ => WSL X d cm value (.Slice lo hi sp p) o l u k st₄.cells fun r cs => Q r ⟨cs, st₄.vars⟩) : WE X sc d cm (.Subscript value (.Slice lo hi sp p) pos) st Q := by
  intro A env φ s he hA R
  refine Subscript_ (Tri.seq (h A env φ s he hA R) fun a s₁ φ₁ ra st₁ S₁ R₁ hra h₁ => ?_)
  refine wpAny_Slice (Tri.seq (h₁ A env φ₁ s₁ he hA R₁) fun l s₂ φ₂ rl st₂ S₂ R₂ hrl h₂ => ?_)
  refine Tri.seq (h₂ A env φ₂ s₂ he hA R₂) fun u s₃ φ₃ ru st₃ S₃ R₃ hru h₃ => ?_
  refine Tri.seq (h₃ A env φ₃ s₃ he hA R₃) fun k s₄ φ₄ rk st₄ S₄ R₄ hrk h₄ => ?_
  have S := ((S₁.trans S₂ R₂.f.dis).trans S₃ R₃.f.dis).trans S₄ R₄.f.dis
  have R₅ := R₄.push { cls := .type "slice", data := .fields #[l, u, k] }
  have S₅ : Step X.fr φ₄ (fAddrs env) s₄ φ₄ { s₄ with heap := s₄.heap.push { cls := .type "slice", data := .fields #[l, u, k] } } := .mk' ⟨rfl, rfl, rfl⟩ (List.prefix_refl _) (fun b o e _ _ => Heap.get?_push_of_some _ e) (fun _ h h' => absurd h h')
  refine Tri.after (S.trans S₅ R₅.f.dis) (TriC.lift (s := { s₄ with heap := s₄.heap.push { cls := .type "slice", data := .fields #[l, u, k] } }) R₅ (h₄ A φ₄ _ a s₄.heap.objs.size l u k hA R₅.c (hra.mono ((S₂.pre.trans S₃.pre).trans S₄.pre)) (hrl.mono (S₃.pre.trans S₄.pre)) (hru.mono S₄.pre) hrk (Heap.IsSliceOf.new ..)) fun _ _ q => q)

theorem WE.neg {i : Int} {k : Nat} {p pos : Pos} {Q : V → St → Prop} (q : Q (.int (-i)) st) : WE X sc d cm (.UnaryOp .USub (.Constant (.int i) k p) pos) st Q := by
  intro A env φ s he hA R
  refine UnaryOp_ (wpAny_Constant_int (neg_int (Tri.here .toks R (VRel.int _ _ _) q)))

variable {Q : V → List Cell → Prop}

theorem part_of {φ : List Addr} {l : V} {lv : Value} (h : VRel φ l lv) (hp : l.isPart = true) : IsPart lv l.part := by
  cases l with
  | none => cases (h : lv = _); exact .none
  | int i => obtain ⟨t, rfl⟩ := h; exact .int _ _
  | _ => cases hp

theorem W2.listItem {value slice : Expr} {l : Nat} {xs : List V} {i : Int} {r : V} (hl : cs[l]? = some (.list xs)) (h0 : 0 ≤ i) (hx : xs[i.toNat]? = some r) (hz : xs.length < 1000000) (q : Q r cs)
    (hs : ∀ a t, subscripted slice false (.ref a) (.int i t) = operate [.ref a, .int i t] (getItem (.ref a) (.int i t)) := by intro _ _; with_unfolding_all rfl) : W2 X d cm (subscriptTail value slice) (.ref l) (.int i) cs Q := by
  rintro A φ s va vb hA R ⟨a, ha, rfl⟩ ⟨t, rfl⟩
  obtain ⟨vs, n, e, hr⟩ := list_at R hl ha
  obtain ⟨v, hv1, hv2⟩ := hr.get hx
  have hlt := (List.getElem?_eq_some_iff.mp hx).1
  exact tail_any (Heap.IsList.typeIs ⟨_, e, rfl, n, rfl⟩) slot_list_getitem.lookup (wpAny_getItem_list ⟨_, e, rfl, n, rfl⟩ h0 (by omega) (by rw [← Array.getElem?_toList]; exact hv1) (TriC.ret R hv2 q)) (hs a t)

theorem W2.listItemNeg {value slice : Expr} {l : Nat} {xs : List V} {i : Int} {r : V} (hl : cs[l]? = some (.list xs)) (h0 : i < 0) (h1 : -(xs.length : Int) ≤ i) (hx : xs[(i + xs.length).toNat]? = some r) (hz : xs.length < 1000000) (q : Q r cs)
    (hs : ∀ a t, subscripted slice false (.ref a) (.int i t) = operate [.ref a, .int i t] (getItem (.ref a) (.int i t)) := by intro _ _; with_unfolding_all rfl) : W2 X d cm (subscriptTail value slice) (.ref l) (.int i) cs Q := by
  rintro A φ s va vb hA R ⟨a, ha, rfl⟩ ⟨t, rfl⟩
  obtain ⟨vs, n, e, hr⟩ := list_at R hl ha
  obtain ⟨v, hv1, hv2⟩ := hr.get hx
  have hsz := hr.size
  exact tail_any (Heap.IsList.typeIs ⟨_, e, rfl, n, rfl⟩) slot_list_getitem.lookup (wpAny_getItem_list_neg ⟨_, e, rfl, n, rfl⟩ h0 (by omega) (by omega) (by rw [← hsz, ← Array.getElem?_toList]; exact hv1) (TriC.ret R hv2 q)) (hs a t)

theorem W2.strItem {value slice : Expr} {x : Str} {i : Int} (hr : fitsSsize i = true) (hin : (Txt.charAt x i).isSome = true) (q : Q (.str (Txt.item x i)) cs)
    (hs : ∀ u t, subscripted slice false (.str x u) (.int i t) = operate [.str x u, .int i t] (getItem (.str x u) (.int i t)) := by intro _ _; with_unfolding_all rfl) : W2 X d cm (subscriptTail value slice) (.str x) (.int i) cs Q := by
  rintro A φ s va vb hA R ⟨u, rfl⟩ ⟨t, rfl⟩
  exact tail_any (typeIs_str _ _ _) F.slot_str_getitem.lookup (SB.getItem hr hin (TriC.ret R (VRel.str _ _ _) q)) (hs u t)

theorem WSL.str {value slice : Expr} {x : Str} {l u : V} (hl : l.isPart = true) (hu : u.isPart = true) (hz : x.length < 1000000) (q : Q (.str (Txt.slice x l.part u.part)) cs)
    (hs : ∀ t a, subscripted slice false (.str x t) (.ref a) = operate [.ref a, .str x t] (getItem (.str x t) (.ref a)) := by intro _ _; with_unfolding_all rfl) : WSL X d cm value slice (.str x) l u .none cs Q := by
  rintro A φ s ov a lv uv kv hA R ⟨t, rfl⟩ hlv huv hkv hsl
  cases (hkv : kv = .none)
  have go : ∀ (p q : Option (Int × Tok)), lv = partValue p → uv = partValue q → p.map (·.1) = l.part → q.map (·.1) = u.part → TriC X A φ s (subscriptTail value slice (.str x t) (.ref a)) VRel Q := by
    intro p q' hp hq hp' hq'
    subst hp hq
    refine tail_any (typeIs_str _ _ _) F.slot_str_getitem.lookup (wpAny_getItem_str_slice (l := p) (u := q') (st := none) hsl rfl (post_val_or_str ?_)) (hs t a)
    have e : (if (((none : Option (Int × Tok)).map (·.1)).getD 1 == 1 && (slicePicked x p q' none).length == x.length) = true then x else ⟨((slicePicked x p q' none).filterMap (x.cps[·]?)).toArray⟩ : Str) = Txt.slice x l.part u.part := by
      unfold Txt.slice slicePicked
      rw [hp', hq']
      rfl
    rw [e]
    exact ⟨Nat.le_trans (Txt.slice_le x _ _) (by rw [sizeLine_eq]; omega), fun t' k => TriC.ret R (VRel.str _ _ _) q⟩
  cases l with
  | none =>
    cases (hlv : lv = .none)
    cases u with
    | none => cases (huv : uv = .none); exact go none none rfl rfl rfl rfl
    | int i => obtain ⟨t', rfl⟩ := huv; exact go none (some (i, t')) rfl rfl rfl rfl
    | _ => cases hu
  | int j =>
    obtain ⟨t₂, rfl⟩ := hlv
    cases u with
    | none => cases (huv : uv = .none); exact go (some (j, t₂)) none rfl rfl rfl rfl
    | int i => obtain ⟨t', rfl⟩ := huv; exact go (some (j, t₂)) (some (i, t')) rfl rfl rfl rfl
    | _ => cases hu
  | _ => cases hl

/-- a slice of a list -/
def pick {α : Type} (l : List α) (lo hi : Option Int) : List α := (l.drop (kms_lo lo l.length)).take (kms_hi hi l.length - kms_lo lo l.length)

theorem All2.take {α β : Type} {R : α → β → Prop} : ∀ {l : List α} {m : List β}, All2 R l m → ∀ k, All2 R (l.take k) (m.take k)
  | [], [], _, k => by simp [All2]
  | _ :: _, _ :: _, _, 0 => by simp [All2]
  | _ :: _, _ :: _, ⟨h1, h2⟩, k + 1 => ⟨h1, h2.take k⟩
  | [], _ :: _, h, _ => h.elim
  | _ :: _, [], h, _ => h.elim
theorem All2.drop {α β : Type} {R : α → β → Prop} : ∀ {l : List α} {m : List β}, All2 R l m → ∀ k, All2 R (l.drop k) (m.drop k)
  | [], [], _, k => by simp [All2]
  | _ :: _, _ :: _, h, 0 => h
  | _ :: _, _ :: _, ⟨h1, h2⟩, k + 1 => h2.drop k
  | [], _ :: _, h, _ => h.elim
  | _ :: _, [], h, _ => h.elim
theorem All2.reverse {α β : Type} {R : α → β → Prop} : ∀ {l : List α} {m : List β}, All2 R l m → All2 R l.reverse m.reverse
  | [], [], _ => trivial
  | _ :: _, _ :: _, ⟨h1, h2⟩ => by rw [List.reverse_cons, List.reverse_cons]; exact h2.reverse.append ⟨h1, trivial⟩
  | [], _ :: _, h => h.elim
  | _ :: _, [], h => h.elim

theorem WSL.list {value slice : Expr} {m : Nat} {xs : List V} {l u : V} (hm : cs[m]? = some (.list xs)) (hl : l.isPart = true) (hu : u.isPart = true) (hz : xs.length < 1000000) (q : Q (.ref cs.length) (cs ++ [.list (pick xs l.part u.part)]))
    (hs : ∀ b a, subscripted slice false (.ref b) (.ref a) = operate [.ref a, .ref b] (getItem (.ref b) (.ref a)) := by intro _ _; with_unfolding_all rfl) : WSL X d cm value slice (.ref m) l u .none cs Q := by
  rintro A φ s ov a lv uv kv hA R ⟨b, hb, rfl⟩ hlv huv hkv hsl
  cases (hkv : kv = .none)
  obtain ⟨vs, n, e, hr⟩ := list_at R hm hb
  have hsz := hr.size
  refine tail_any (Heap.IsList.typeIs ⟨_, e, rfl, n, rfl⟩) slot_list_getitem.lookup (wpAny_getItem_list_slice ⟨_, e, rfl, n, rfl⟩ hsl (part_of hlv hl) (part_of huv hu) .none (by simp) ?_ (by rw [sizeLine_eq]; omega)) (hs b a)
  refine TriC.new (α := Unit) (tk := s.toks) (c := .list (pick xs l.part u.part)) (o := lstOf (slicePick vs l.part u.part none) 0) R rfl (Cell.isList (all2_mono_snoc ?_)) q
  rw [kms_pick_eq]
  unfold pick kms_pick
  rw [← hr.length]
  exact (hr.drop _).take _

theorem WSL.listRev {value slice : Expr} {m : Nat} {xs : List V} (hm : cs[m]? = some (.list xs)) (hz : xs.length < 1000000) (q : Q (.ref cs.length) (cs ++ [.list xs.reverse]))
    {ops : Addr → Addr → List Value} (hs : ∀ b a, subscripted slice false (.ref b) (.ref a) = operate (ops b a) (getItem (.ref b) (.ref a)) := by intro _ _; with_unfolding_all rfl) : WSL X d cm value slice (.ref m) .none .none (.int (-1)) cs Q := by
  rintro A φ s ov a lv uv kv hA R ⟨b, hb, rfl⟩ hlv huv ⟨t, rfl⟩ hsl
  cases (hlv : lv = .none)
  cases (huv : uv = .none)
  obtain ⟨vs, n, e, hr⟩ := list_at R hm hb
  have hsz := hr.size
  refine tail_any (Heap.IsList.typeIs ⟨_, e, rfl, n, rfl⟩) slot_list_getitem.lookup (wpAny_getItem_list_slice ⟨_, e, rfl, n, rfl⟩ hsl .none .none (.int _ _) (by simp) ?_ (by rw [sizeLine_eq]; omega)) (hs b a)
  refine TriC.new (α := Unit) (tk := s.toks) (c := .list xs.reverse) (o := lstOf (slicePick vs none none (some (-1))) 0) R rfl (Cell.isList (all2_mono_snoc ?_)) q
  rw [krv_pick]
  exact hr.reverse

theorem W2.addList {l m : Nat} {xs ys : List V} (hl : cs[l]? = some (.list xs)) (hm : cs[m]? = some (.list ys)) (hz : xs.length + ys.length < 1000000) (q : Q (.ref cs.length) (cs ++ [.list (xs ++ ys)])) : W2 X d cm (binaryOp .Add) (.ref l) (.ref m) cs Q := by
  rintro A φ s va vb hA R ⟨a, ha, rfl⟩ ⟨b, hb, rfl⟩
  obtain ⟨vs, n, e, hr⟩ := list_at R hl ha
  obtain ⟨us, n2, e2, hr2⟩ := list_at R hm hb
  have h1 := hr.size
  have h2 := hr2.size
  refine P.add_list (n := n) (n2 := n2) e e2 ?_ (by rw [sizeLine_eq]; omega)
  refine TriC.new (α := Unit) (tk := s.toks) (c := .list (xs ++ ys)) (o := lstOf (vs ++ us) 0) R rfl (Cell.isList (all2_mono_snoc ?_)) q
  rw [Array.toList_append]
  exact hr.append hr2
end

theorem li_ga : Slot "list_iterator" "__getattribute__" "object.__getattribute__" :=
  .of (owner := "object") (n := "__getattribute__") (by rw [typeLookup_type, builtinLookup_eq_fast]; kernel_rfl) (by decide +kernel) (by decide +kernel) (by decide +kernel)
    (by first | exact .inl (by decide +kernel) | exact .inr (by decide +kernel)) (by rw [isSubtype_type]; kernel_rfl)
theorem li_ga_args (a b : Value) : argsOk "object.__getattribute__" ⟨[a, b], []⟩ := PySem.F.args_object_getattribute_2 a b
theorem li_ga_entry : entryFor table "object.__getattribute__" = some Builtin.«object.__getattribute__» := PySem.F.entry_object_getattribute
theorem wd_get : Slot "wrapper_descriptor" "__get__" "wrapper_descriptor.__get__" :=
  .of (owner := "wrapper_descriptor") (n := "__get__") (by rw [typeLookup_type, builtinLookup_eq_fast]; kernel_rfl) (by decide +kernel) (by decide +kernel) (by decide +kernel)
    (by first | exact .inl (by decide +kernel) | exact .inr (by decide +kernel)) (by rw [isSubtype_type]; kernel_rfl)
theorem wd_set : typeLookup (.type "wrapper_descriptor") "__set__" = pure none := by rw [typeLookup_type, builtinLookup_eq_fast]; kernel_rfl
theorem wd_del : typeLookup (.type "wrapper_descriptor") "__delete__" = pure none := by rw [typeLookup_type, builtinLookup_eq_fast]; kernel_rfl
theorem ty_next : typeOf (.builtin "list_iterator.__next__") = pure (.type "wrapper_descriptor") := by kernel_rfl
theorem wd_entry : entryFor table "wrapper_descriptor.__get__" = some Builtin.«wrapper_descriptor.__get__» := entryFor_of_tree (by kernel_rfl)
theorem wd_args (a b c : Value) : argsOk "wrapper_descriptor.__get__" ⟨[a, b, c], []⟩ := by unfold argsOk; kernel_rfl
theorem li_owner : (".".intercalate ("list_iterator.__next__".cutAt '.').dropLast) = "list_iterator" := by
  have e0 : "list_iterator.__next__".cutAt '.' = ["list_iterator", "__next__"] := by first | rfl | decide +kernel
  rw [e0]; decide +kernel
theorem li_sub : isSubtype (.type "list_iterator") (.type (".".intercalate ("list_iterator.__next__".cutAt '.').dropLast)) = pure true := by rw [li_owner, isSubtype_type]; kernel_rfl

section
variable {prog : Program} {w : World} {A : Around} {E : Value → Shared → Prop} {h : Heap} {g : Array GenState} {d : Drawn} {t : Nat} {os : OsState} {a : Addr} {o : Obj}

theorem next_get {R : Result → Shared → Prop} (hx : h.get? a = some o) (hc : o.cls = .type "list_iterator")
    (hq : R (.ok (.ret (.ref h.objs.size))) ⟨h.push { cls := .type "method-wrapper", data := .fields #[.builtin "list_iterator.__next__", .ref a] }, g, d, t, os⟩) :
    codeAny (model prog w) A (.call (.builtin "wrapper_descriptor.__get__") ⟨[.builtin "list_iterator.__next__", .ref a, .type "list_iterator"], []⟩) R ⟨h, g, d, t, os⟩ := by
  have hT : (⟨h, g, d, t, os⟩ : Shared).TypeIs (.ref a) "list_iterator" := ⟨_, hx, hc⟩
  have hT5 : (⟨h, g, d, t, os⟩ : Shared).TypeIs (.builtin "list_iterator.__next__") "wrapper_descriptor" := ty_next
  have f8 := li_sub
  refine codeAny_call_builtin wd_get.plain wd_entry (wd_get.check _ _ _ _ _ _ _ _ hT5 (wd_args _ _ _) ?_)
  repeat (any_goals (first | assumption | wp_step))

theorem next_entry {tk : Tok} {vs : Array Value} {Q : PySem.Fin → Shared → Prop} (hx : h.get? a = some { cls := .type "list_iterator", data := .fields vs })
    (hq : Q (.done (.ret (.ref h.objs.size))) ⟨h.push { cls := .type "method-wrapper", data := .fields #[.builtin "list_iterator.__next__", .ref a] }, g, d, t, os⟩) :
    wpAny (model prog w) A (Builtin.«object.__getattribute__» ⟨[.ref a, .str "__next__" tk], []⟩) Q E ⟨h, g, d, t, os⟩ := by
  have hT : (⟨h, g, d, t, os⟩ : Shared).TypeIs (.ref a) "list_iterator" := ⟨_, hx, rfl⟩
  have hT5 : (⟨h, g, d, t, os⟩ : Shared).TypeIs (.builtin "list_iterator.__next__") "wrapper_descriptor" := ty_next
  have f4 := slot_listiter_next.lookup
  have f5 := ty_next
  have f6 := wd_get.lookup
  have f7 := wd_set
  have f8 := wd_del
  repeat (any_goals (first | assumption | wp_step))
  refine next_get hx rfl ?_
  repeat (any_goals (first | assumption | wp_step))

theorem next_call {tk : Tok} {vs : Array Value} {R : Result → Shared → Prop} (hx : h.get? a = some { cls := .type "list_iterator", data := .fields vs })
    (hq : R (.ok (.ret (.ref h.objs.size))) ⟨h.push { cls := .type "method-wrapper", data := .fields #[.builtin "list_iterator.__next__", .ref a] }, g, d, t, os⟩) :
    codeAny (model prog w) A (.call (.builtin "object.__getattribute__") ⟨[.ref a, .str "__next__" tk], []⟩) R ⟨h, g, d, t, os⟩ :=
  codeAny_call_builtin li_ga.plain li_ga_entry (li_ga.check _ _ _ _ _ _ _ _ (show (⟨h, g, d, t, os⟩ : Shared).TypeIs (.ref a) "list_iterator" from ⟨_, hx, rfl⟩) (li_ga_args _ _) (next_entry hx hq))

theorem next_by {tk : Tok} {vs : Array Value} {Q : Value → Shared → Prop} (hx : h.get? a = some { cls := .type "list_iterator", data := .fields vs })
    (hq : Q (.ref h.objs.size) ⟨h.push { cls := .type "method-wrapper", data := .fields #[.builtin "list_iterator.__next__", .ref a] }, g, d, t, os⟩) :
    wpAny (model prog w) A (getAttrBy (.ref a) (.str "__next__" tk) true true) Q E ⟨h, g, d, t, os⟩ := by
  have hT : (⟨h, g, d, t, os⟩ : Shared).TypeIs (.ref a) "list_iterator" := ⟨_, hx, rfl⟩
  have f2 := li_ga.lookup
  have f3 := li_ga.bind (.ref a)
  repeat (any_goals (first | assumption | wp_step))
  refine next_call hx ?_
  show wpAny _ _ (handedOut _) _ _ _
  rw [handedOut_of rfl]; exact wpAny_pure hq

theorem next_attr {vs : Array Value} {s : Shared} {Q : Value → Shared → Prop} (hx : s.heap.get? a = some { cls := .type "list_iterator", data := .fields vs })
    (hq : ∀ tk, Q (.ref s.heap.objs.size) { s with heap := s.heap.push { cls := .type "method-wrapper", data := .fields #[.builtin "list_iterator.__next__", .ref a] }, toks := tk }) :
    wpAny (model prog w) A (getAttr (.ref a) "__next__" true) Q E s := by
  obtain ⟨h, g, d, t, os⟩ := s
  unfold getAttr
  repeat (any_goals (first | assumption | with_reducible apply next_by hx | wp_step))
  all_goals first | exact hq _ | skip

theorem check_next (v : Value) : checkBoundCall "list_iterator.__next__" ⟨[v], []⟩ = pure () := by first | kernel_rfl | rfl
theorem quiet_next {args : Args} : (Code.builtin "list_iterator.__next__" args).quiet = true := Code.quiet_builtin _ (by decide +kernel)

/-- the wrapper called -/
theorem call_wrapper {x : Addr} {vs : Array Value} {s : Shared} {Q : Value → Shared → Prop} (hx : s.heap.get? x = some { cls := .type "method-wrapper", data := .fields #[.builtin "list_iterator.__next__", .ref a] })
    (h : wpAny (model prog w) A.in1 (Builtin.«list_iterator.__next__» ⟨[.ref a], []⟩) (fun fin s' => match fin with | .done (.ret v) => Q v s' | _ => False) E s) :
    wpAny (model prog w) A (call (.ref x) []) Q E s := by
  refine wpAny_call (codeAny_of_tree ?_)
  show wpAny _ A.in1 (callAny (.ref x) ⟨[], []⟩) _ _ s
  simp only [callAny]
  refine wpAny_bind (wpAny_load hx ?_)
  simp only [show (Value.type "method-wrapper" == Value.type "method" || Value.type "method-wrapper" == Value.type "builtin_function_or_method" || Value.type "method-wrapper" == Value.type "method-wrapper") = true by decide, if_true]
  refine KFB.if_so (by decide) ?_
  refine wpAny_bind (wpAny_of_eq (a := ()) (check_next _) ?_)
  refine wpAny_bind (wpAny_pure (wpAny_pure ?_))
  refine ⟨quiet_next, codeAny_builtin entry_listiter_next (wpAny_mono h (fun fin s' z => ?_) fun _ _ z => z)⟩
  rcases fin with (_ | _ | _ | _) | _ <;> first | exact z | exact z.elim

theorem next_item {it l : Addr} {i : Nat} {items : Array Value} {x : Value} {s : Shared} {Q : PySem.Fin → Shared → Prop} (ho : s.heap.get? it = some { cls := .type "list_iterator", data := .fields #[.ref l, .int i 0] })
    (hl : s.heap.IsList l items) (hx : items[i]? = some x)
    (hQ : ∀ h', h'.get? it = some { cls := .type "list_iterator", data := .fields #[.ref l, .int ((i + 1 : Nat) : Int) 0] } → Heap.SameBut it s.heap h' → Q (.done (.ret x)) { s with heap := h' }) :
    wpAny (model prog w) A (Builtin.«list_iterator.__next__» ⟨[.ref it], []⟩) Q E s := by
  obtain ⟨ol, hol, _, nl, hdl⟩ := hl
  show wpAny _ _ (field (.ref it) 0 >>= _) _ _ s
  refine wpAny_bind (wpAny_field ho rfl (x := .ref l) rfl ?_)
  show wpAny _ _ (if (Value.ref l == Value.none) = true then _ else _) _ _ s
  rw [if_neg (show ¬ ((Value.ref l == Value.none) = true) from Bool.false_ne_true)]
  show wpAny _ _ (field (.ref it) 1 >>= _) _ _ s
  refine wpAny_bind (wpAny_field ho rfl (x := .int i 0) rfl ?_)
  show wpAny _ _ (seqItems? (.ref l) >>= _) _ _ s
  refine wpAny_bind (wpAny_seqItems hol hdl ?_)
  simp only [Int.toNat_natCast, hx]
  refine wpAny_bind (wpAny_setField ho rfl (by simp) (wpAny_pure (hQ _ ?_ (Heap.SameBut.update ..))))
  rw [Heap.get?_update_self _ ho (Obj.isFreed_of_fields (Obj.data_mapFields rfl _))]
  simp [Obj.mapFields, rawInt]

theorem next_end {it l : Addr} {i : Nat} {items : Array Value} {s : Shared} {Q : PySem.Fin → Shared → Prop} (hh : A.handled = none) (ho : s.heap.get? it = some { cls := .type "list_iterator", data := .fields #[.ref l, .int i 0] })
    (hl : s.heap.IsList l items) (hx : items[i]? = none)
    (hE : ∀ h' e t vs, s.heap.get? e = none → (s.heap.objs.size ≤ e ∧ ∃ o, h'.get? it = some o) → h'.get? e = some { cls := .type "StopIteration", data := .fields vs } → vs[0]? = some (.ref t) → vs[1]? = some .none → Heap.ExtBut it s.heap h' → E (.ref e) { s with heap := h' }) :
    wpAny (model prog w) A (Builtin.«list_iterator.__next__» ⟨[.ref it], []⟩) Q E s := by
  obtain ⟨ol, hol, _, nl, hdl⟩ := hl
  show wpAny _ _ (field (.ref it) 0 >>= _) _ _ s
  refine wpAny_bind (wpAny_field ho rfl (x := .ref l) rfl ?_)
  show wpAny _ _ (if (Value.ref l == Value.none) = true then _ else _) _ _ s
  rw [if_neg (show ¬ ((Value.ref l == Value.none) = true) from Bool.false_ne_true)]
  show wpAny _ _ (field (.ref it) 1 >>= _) _ _ s
  refine wpAny_bind (wpAny_field ho rfl (x := .int i 0) rfl ?_)
  show wpAny _ _ (seqItems? (.ref l) >>= _) _ _ s
  refine wpAny_bind (wpAny_seqItems hol hdl ?_)
  simp only [Int.toNat_natCast, hx]
  refine wpAny_bind (wpAny_rule (wpAny_bind (wpAny_setField ho rfl (by simp) ?_)))
  show wpAny _ _ (newExc (.type "StopIteration") [] >>= _) _ _ _
  refine wpAny_bind ?_
  simp only [newExc, newTuple]
  refine wpAny_bind (wpAny_newObj_type ?_ (by size_fits))
  refine wpAny_bind (m := firstArgMember _ _) (wpAny_of_eq (a := Value.none) (by first | rfl | (simp only [firstArgMember]; rfl)) ?_)
  refine wpAny_newObj_type ?_ (by size_fits)
  simp only [raiseNew]
  refine wpAny_bind (wpAny_handled ?_)
  rw [hh]
  refine wpAny_bind (wpAny_pure (wpAny_throw ?_))
  have hit := Heap.get?_update_self (Obj.mapFields (·.setIfInBounds 0 Value.none)) ho (Obj.isFreed_of_fields (Obj.data_mapFields rfl _))
  refine hE _ _ s.heap.objs.size _ ?_ ⟨?_, _, Heap.get?_push_of_some _ (Heap.get?_push_of_some _ hit)⟩ (Heap.get?_push_size _ rfl) ?_ ?_ (((Heap.SameBut.update ..).extBut.push _).push _)
  · refine Heap.get?_none_of_le ?_
    rw [Heap.size_push, Heap.size_after_update]
    omega
  · rw [Heap.size_push, Heap.size_after_update]
    omega
  · rw [Array.getElem?_append_left (by simp)]; simp [Heap.size_after_update]
  · rw [Array.getElem?_append_left (by simp)]; simp
end

/-- an address apart from what is tracked -/
structure Apart (X : Cx) (φ : List Addr) (env : Env) (e : Addr) : Prop where
  φ : e ∉ φ
  fr : e ∉ X.fr
  fa : e ∉ fAddrs env
  free : Free X.K e

section
variable {X : Cx} {sc : Scope} {d : Nat} {cm : Bool} {st : St} {φ φ₀ : List Addr} {env : Env} {h h' : Heap} {s s₀ : Shared} {A : Around}

theorem FrsOk.mem (f : FrsOk X φ h) {L : Addr} (hL : L ∈ X.fr) : L ∉ φ ∧ Free X.K L ∧ ∃ o, h.get? L = some o ∧ ∀ vs, o.data ≠ .fields vs := by
  obtain ⟨env', he', hf⟩ := List.mem_filterMap.mp hL
  obtain ⟨_, L', o, h2, h3, h4, h5, h6⟩ := f env' he'
  rw [hf] at h2; cases h2
  exact ⟨h3, h4, o, h5, h6⟩

theorem kept_of {H : List Addr} (k : (hideAll h (H ++ X.fr)).StaysIn h') {b : Addr} {o : Obj} (e : h.get? b = some o) (hb : b ∉ H) (hr : b ∉ X.fr) : h'.get? b = some o :=
  k b o (hideAll_get _ e fun hm => (List.mem_append.mp hm).elim hb hr)

/-- after the machinery of exceptions has looked at the frames -/
theorem Rel.exc {H : List Addr} (R : Rel X φ env st h) (hH : ∀ b ∈ H, Apart X φ env b) (k : (hideAll h (H ++ X.fr)).StaysIn h') (u : h.UpToSlots h') : Rel X φ env st h' := by
  refine ⟨⟨R.c.base.keeps fun a o ha e => kept_of k e (fun hm => ha (hH a hm).free) (fun hm => ha (R.c.frs.mem hm).2.1), R.c.len, R.c.nd, R.c.low, fun l c hc => ?_, fun env' he' => ?_⟩, ⟨R.f.kind, R.f.glob, R.f.blt, R.f.fa, R.f.nd, fun a ha => ?_, ?_, fun x hx => ?_, R.f.top⟩⟩
  · obtain ⟨a, o, e1, e2, e3⟩ := R.c.cell l c hc
    have hm := List.mem_of_getElem? e1
    exact ⟨a, o, e1, kept_of k e2 (fun hm' => (hH a hm').φ hm) (fun hm' => (R.c.frs.mem hm').1 hm), e3⟩
  · obtain ⟨h1, L, o, h2, h3, h4, h5, h6⟩ := R.c.frs env' he'
    obtain ⟨sl, q⟩ := u L o h5 h6
    exact ⟨h1, L, _, h2, h3, h4, q, h6⟩
  · obtain ⟨o, e⟩ := R.f.ex a ha
    by_cases hr : a ∈ X.fr
    · obtain ⟨_, _, o', e', hn⟩ := R.c.frs.mem hr
      obtain ⟨sl, q⟩ := u a o' e' hn
      exact ⟨_, q⟩
    · exact ⟨o, kept_of k e (fun hm => (hH a hm).fa ha) hr⟩
  · obtain ⟨m, hm, hr⟩ := R.f.ns; exact ⟨m, u.ns hm, hr⟩
  · obtain ⟨ca, v, h1, ⟨o, h2, h3⟩, h4⟩ := R.f.cel x hx
    obtain ⟨sl, q⟩ := u ca o h2 fun vs z => by rw [h3] at z; cases z
    exact ⟨ca, v, h1, ⟨_, q, h3⟩, h4⟩

theorem Step.exc {H fa : List Addr} (S : Step X.fr φ₀ fa s₀ φ s) (f : FrsOk X φ s.heap) (hH : ∀ b ∈ H, s₀.heap.get? b = none) (k : (hideAll s.heap (H ++ X.fr)).StaysIn h') (u : s.heap.UpToSlots h') : Step X.fr φ₀ fa s₀ φ { s with heap := h' } := by
  have hnH : ∀ b o, s₀.heap.get? b = some o → b ∉ H := fun b o e hm => by rw [hH b hm] at e; cases e
  refine ⟨⟨S.sh.1, S.sh.2.1, S.sh.2.2⟩, S.pre, fun b o e h1 h2 h3 => kept_of k (S.keep b o e h1 h2 h3) (hnH b o e) h3, fun b o e h1 h2 => ?_, S.fresh⟩
  obtain ⟨sl, q⟩ := S.slots b o e h1 h2
  by_cases hr : b ∈ X.fr
  · obtain ⟨_, _, o', e', hn⟩ := f.mem hr
    rw [q] at e'; cases e'
    obtain ⟨sl', q'⟩ := u b _ q hn
    exact ⟨sl', q'⟩
  · exact ⟨sl, kept_of k q (hnH b o e) hr⟩

theorem funFrames_of {base : Heap} : ∀ {l : List Env}, (∀ env ∈ l, env.scope.kind ≠ .module ∧ ∃ L o, env.frame = some L ∧ base.get? L = none ∧ h.get? L = some o ∧ ∀ vs, o.data ≠ .fields vs) → h.FunFrames base l
  | [], _ => trivial
  | env :: l, hl => ⟨(hl env (.head _)).1, (hl env (.head _)).2, funFrames_of fun e he => hl e (.tail _ he)⟩

theorem frames_hide (f : FrsOk X φ h) (H : List Addr) : h.FunFrames (hideAll h (H ++ X.fr)) X.frs :=
  funFrames_of fun env' he' => let ⟨h1, L, o, h2, h3, h4, h5, h6⟩ := f env' he'; ⟨h1, L, o, h2, hideAll_none _ (List.mem_append_right _ (List.mem_filterMap.mpr ⟨env', he', h2⟩)), h5, h6⟩

theorem Room.mark {A : Around} {e : Value} (hA : Room X d cm A) : Room X d false (A.mark (some e)) := ⟨hA.frames, hA.depth, hA.units, fun h => (nomatch h)⟩

/-- a new exception of a built-in class is caught in its own frame -/
theorem caught_new {Xn T : String} {x : Str} {np pos : Pos} {b₀ : Stmt} {suite : List Stmt} {rest : List ExceptHandler} {e t : Addr} {vs : Array Value} {Q : AFlow → St → Prop}
    (he : env.scope = sc) (hnc : sc.names.lookup (".0" : Str) = none) (hA : Room X d cm A) (S : Step X.fr φ₀ (fAddrs env) s₀ φ s) (R : Rel X φ env st s.heap) (hap : Apart X φ env e) (he0 : s₀.heap.get? e = none) (ho : s.heap.get? e = some { cls := .type Xn, data := .fields vs }) (h0 : vs[0]? = some (.ref t)) (h1 : vs[1]? = some .none)
    (hk : sc.names.lookup x = some .globalImplicit) (hv : nsIn X.K mainGlobals x = some none) (hb : bootBuiltins x = some (.type T)) (hn : x ≠ "__name__") (hd : (x == ("__debug__" : Str)) = false)
    (hexc : isSubtype (.type T) (.type "BaseException") = pure true) (hnt : isSubtype (.type ((Manifest.find? T).elim "type" fun y => y.metatype)) (.type "tuple") = pure false) (hsub : isSubtype (.type Xn) (.type T) = pure true)
    (h : WB X sc d false (b₀ :: suite) st Q) :
    wpAny (md X) A (noteFrame (.ref e) env) (fun _ s₂ => wpAny (md X) A (setFlight (.ref e) none) (fun _ s₃ => wpAny (md X) A (handleBy (.ref e) env (.ExceptHandler (some (.Name x np)) none (b₀ :: suite) pos :: rest))
      (TriP X env φ₀ s₀ FRel Q) (fun _ _ => False) s₃) (fun _ _ => False) s₂) (fun _ _ => False) s := by
  obtain ⟨⟨outer, hfrs⟩, hframe⟩ := R.f.top (by rw [he]; exact hnc)
  have hfr : A.frames = some (env :: outer) := by rw [hA.frames, hfrs]
  have hFF : s.heap.FunFrames (hideAll s.heap ([e] ++ X.fr)) (env :: outer) := by rw [← hfrs]; exact frames_hide R.c.frs [e]
  have hbe : (hideAll s.heap ([e] ++ X.fr)).get? e = none := hideAll_none _ (.head _)
  have hH : ∀ b ∈ [e], Apart X φ env b := fun b hm => by rw [List.mem_singleton.mp hm]; exact hap
  have hH0 : ∀ b ∈ [e], s₀.heap.get? b = none := fun b hm => by rw [List.mem_singleton.mp hm]; exact he0
  unfold noteFrame
  simp only [hframe]
  refine wpAny_bind (wpAny_field ho rfl h1 ?_)
  rw [if_neg (by decide)]
  refine wpAny_entryW (a0 := .ref t) hfr hFF hframe ho (fun b o q => of_hideAll _ q) hbe rfl (Array.getElem?_eq_some_iff.mp h1).1 h0 fun h₄ hN => ?_
  have hheld : Heap.HeldW (hideAll s.heap ([e] ++ X.fr)) (env :: outer) e (.type Xn) (.ref t) env.locals h₄ := ⟨hN.1, hbe, hN.2.1, hN.2.2.1⟩
  refine wpAny_landsW hheld fun h₅ hfl hsm₅ => ?_
  have u₅ : s.heap.UpToSlots h₅ := Heap.UpToSlots.trans hN.2.2.2 hsm₅
  have R₅ := R.exc hH hfl.1 u₅
  obtain ⟨ob, hob, hobc⟩ := hfl.there
  refine wpAny_handleBy_builtin (X := Xn) (T := T) (b := true) hexc hnt hsub ?_
  obtain ⟨mg, hg⟩ := R₅.c.base.g
  obtain ⟨mb, hbn, hbm⟩ := R₅.c.base.b
  refine wpAny_Name ?_ hd
  rw [loadName_read R₅.f.kind (show env.scope.names.lookup x = _ by rw [he]; exact hk)]
  refine Calls.loadGlobal_builtin (by rw [R₅.f.glob]; exact hg) (mg_none_of R₅.c.base.X hg hv) (by rw [R₅.f.blt]; exact hbn) ((hbm x hn).trans hb) ⟨rfl, ⟨ob, hob, hobc⟩, ?_⟩
  rw [if_pos rfl]
  refine lands_againW hfl fun h₆ hfl₆ hsm₆ => ?_
  have u₆ := u₅.trans hsm₆
  have R₆ := R.exc hH hfl₆.1 u₆
  have S₆ := S.exc R.c.frs hH0 hfl₆.1 u₆
  exact wpAny_mono (h _ env φ { s with heap := h₆ } he hA.mark R₆) (fun f s' ⟨φ', r, st', S', R', hr, q⟩ => ⟨φ', r, st', S₆.trans S' R'.f.dis, R', hr, q⟩) fun _ _ x => x.elim
end

theorem kbi_entry : entryFor table "iter" = some Builtin.«iter» := PySem.W.kdk_entry_iter
theorem kbi_args (a : Value) : argsOk "iter" ⟨[a], []⟩ := PySem.W.kdk_args_iter a

section
variable {X : Cx} {sc : Scope} {d : Nat} {cm : Bool} {st : St} {cs : List Cell} {Q : V → List Cell → Prop}

theorem liter_at {φ : List Addr} {h : Heap} {m l i : Nat} {a : Addr} (R : RelC X φ cs h) (hl : cs[m]? = some (.liter l i)) (ha : φ[m]? = some a) : ∃ b, φ[l]? = some b ∧ h.get? a = some { cls := .type "list_iterator", data := .fields #[.ref b, .int i 0] } := by
  obtain ⟨a', o, e1, e2, b, hb, rfl⟩ := R.cell m _ hl
  rw [ha] at e1; cases e1
  exact ⟨b, hb, e2⟩
theorem next_at {φ : List Addr} {h : Heap} {m it : Nat} {a : Addr} (R : RelC X φ cs h) (hl : cs[m]? = some (.nextOf it)) (ha : φ[m]? = some a) : ∃ b, φ[it]? = some b ∧ h.get? a = some { cls := .type "method-wrapper", data := .fields #[.builtin "list_iterator.__next__", .ref b] } := by
  obtain ⟨a', o, e1, e2, b, hb, rfl⟩ := R.cell m _ hl
  rw [ha] at e1; cases e1
  exact ⟨b, hb, e2⟩

theorem WCV.iterList {l : Nat} {xs : List V} (hl : cs[l]? = some (.list xs)) (q : Q (.ref cs.length) (cs ++ [.liter l 0])) : WCV X d cm (.val (.builtin "iter")) [.ref l] cs Q := by
  intro A φ s fv vals hA R hf hv
  cases (hf : fv = _)
  obtain ⟨_, rfl, a, ha, rfl⟩ := all2_one hv
  obtain ⟨vs, n, e, hr⟩ := list_at R hl ha
  refine Calls.call_function_entry (by decide +kernel) (by decide +kernel) kbi_entry (kbi_args _) ?_
  unfold Builtin.«iter»
  refine wpAny_bind (m := someArgs "iter" 1 2 _) (wpAny_of_eq (a := [Value.ref a]) (by first | rfl | kernel_rfl!) ?_)
  show wpAny _ _ (pyIter (.ref a) >>= _) _ _ _
  refine wpAny_bind (wpAny_pyIter_list ⟨_, e, rfl, n, rfl⟩ ?_)
  exact wpAny_pure ⟨_, rfl, TriC.new (α := Unit) (tk := s.toks) (c := .liter l 0) R rfl ⟨a, get_of_prefix (List.prefix_append _ _) ha, rfl⟩ q⟩

theorem W1.nextAttr {m l i : Nat} (hl : cs[m]? = some (.liter l i)) (q : Q (.ref cs.length) (cs ++ [.nextOf m])) : W1 X d cm (fun v => getAttr v "__next__" true) (.ref m) cs Q := by
  rintro A φ s va hA R ⟨a, ha, rfl⟩
  obtain ⟨b, hb, e⟩ := liter_at R hl ha
  exact next_attr e fun tk => TriC.new (α := Unit) (c := .nextOf m) R rfl ⟨a, get_of_prefix (List.prefix_append _ _) ha, rfl⟩ q

theorem callWith_wrapper {M : Model} {A : Around} {E : Value → Shared → Prop} {s : Shared} {pos : Pos} {u a : Addr} {env : Env} {Q : Value → Shared → Prop} (ho : s.heap.get? u = some { cls := .type "method-wrapper", data := .fields #[.builtin "list_iterator.__next__", .ref a] })
    (h : wpAny M A (call (.ref u) []) Q E s) : wpAny M A (callWith pos (.ref u) [] (backTo pos (starEach [] env)) []) Q E s := by
  unfold callWith
  refine wpAny_bind (wpAny_holding (evalArgs_nil3 (wpAny_bind (wpAny_standAt ?_))))
  refine wpAny_bind (m := keeperOf (.ref u)) ?_
  unfold keeperOf
  refine wpAny_bind (wpAny_load ho ?_)
  simp only [show (Value.type "method-wrapper" != Value.type "method") = true by decide, show (Value.type "method-wrapper" == Value.type "builtin_function_or_method" || Value.type "method-wrapper" == Value.type "method-wrapper") = true by decide, if_true]
  refine wpAny_pure ?_
  exact wpAny_bind (wpAny_mono h (fun r s₂ hr => wpAny_bind (wpAny_holding (wpAny_point (wpAny_pure hr)))) fun _ _ x => x)

theorem WS.exprR {e : Expr} {pos : Pos} {Q : AFlow → St → Prop} (h : WE X sc d cm e st fun v st₁ => Q .next st₁)
    (hi : ∀ env : Env, env.scope.kind = .function → interactive env = false := by intro _ h; simp [interactive, h]) (hs : ∀ env : Env, swapsWith e none pos.line env = pure false := by intro _; with_unfolding_all rfl) : WS X sc d cm (.Expr e pos) st Q := by
  intro A env φ s he hA R
  show wpAny _ _ _ _ _ _
  rw [exec_Expr env e pos (hi env R.f.kind) (hs env)]
  refine wpAny_bind (wpAny_standAt (wpAny_bind (Tri.seq (h A env φ s he hA R) fun v s₁ φ₁ r st₁ S₁ R₁ hr h₁ => ?_)))
  exact wpAny_dropValue (Tri.here S₁ R₁ (FRel.next _) h₁)

/-- node = stack[-1]() with StopIteration caught -/
theorem WS.tryNext {x : Str} {p p1 p2 p3 np hp pos : Pos} {fe : Expr} {b₀ : Stmt} {suite : List Stmt} {Q : AFlow → St → Prop} (hcm : cm = true) (hk : sc.names.lookup x = some .local ∨ sc.names.lookup x = some .cell)
    (hnc : sc.names.lookup (".0" : Str) = none) (hkS : sc.names.lookup ("StopIteration" : Str) = some .globalImplicit) (hvS : nsIn X.K mainGlobals ("StopIteration" : Str) = some none)
    (h : WE X sc d cm fe st fun fv st₁ => ∃ m it l i xs, fv = .ref m ∧ st₁.cells[m]? = some (.nextOf it) ∧ st₁.cells[it]? = some (.liter l i) ∧ st₁.cells[l]? = some (.list xs) ∧
      (∀ v, xs[i]? = some v → Q .brk ⟨st₁.cells.set it (.liter l (i + 1)), setv x v st₁.vars⟩) ∧ (xs[i]? = none → WB X sc d false (b₀ :: suite) ⟨st₁.cells.set it .dead, st₁.vars⟩ Q))
    (he : ∀ env, eval (.Call fe [] [] p1) env = (do callWith p1 (← eval fe env) [] (backTo p1 (starEach [] env)) (backToKw p1 (keywordEach [] env))) := by intro _; with_unfolding_all rfl)
    (hs : ∀ env : Env, swapsWith (.Call fe [] [] p1) (some (.Name x p)) p2.line env = pure false := by intro _; with_unfolding_all rfl) :
    WS X sc d cm (.Try [.Assign [.Name x p] (.Call fe [] [] p1) p2, .Break p3] [.ExceptHandler (some (.Name "StopIteration" np)) none (b₀ :: suite) hp] [] [] pos) st Q := by
  intro A env φ s hsc hA R
  subst hsc
  refine wpAny_Try_except (wpAny_execs_cons (wpAny_Assign_Name (Call_ (Tri.seq (h A env φ s rfl hA R) fun f s₁ φ₁ rf st₁ S₁ R₁ hrf h₁ => ?_) (he env)) (hs env)))
  obtain ⟨m, it, l, i, xs, rfl, hm, hit, hl, h2, h3⟩ := h₁
  obtain ⟨am, ham, rfl⟩ := hrf
  obtain ⟨ai, hai, em⟩ := next_at R₁.c hm ham
  obtain ⟨al, hal, ei⟩ := liter_at R₁.c hit hai
  obtain ⟨vs, n, el, hr⟩ := list_at R₁.c hl hal
  have hlen := hr.size
  refine callWith_wrapper em (call_wrapper (vs := vs) em ?_)
  cases hx : xs[i]? with
  | some v =>
    obtain ⟨vv, hv1, hv2⟩ := hr.get hx
    refine next_item ei ⟨_, el, rfl, n, rfl⟩ (by rw [← Array.getElem?_toList]; exact hv1) fun h' e' hsb => ?_
    have k : ∀ b o, b ≠ ai → s₁.heap.get? b = some o → h'.get? b = some o := fun b o hb e => (hsb.2 b hb).trans e
    have C := R₁.c.set (c' := .liter l (i + 1)) hai k e' ⟨al, hal, rfl⟩
    have S₂ : Step X.fr φ₁ [] s₁ φ₁ { s₁ with heap := h' } := Step.set ⟨rfl, rfl, rfl⟩ (List.mem_of_getElem? hai) k
    have R₂ : Rel X φ₁ env ⟨st₁.cells.set it (.liter l (i + 1)), st₁.vars⟩ h' := ⟨C, R₁.f.step S₂⟩
    refine wpAny_mono (store_name (s := { s₁ with heap := h' }) (Q := fun st' => Q .brk st') hk R₂ hv2 (h2 v hx)) (fun _ s₃ ⟨φ₃, _, st₃, S₃, R₃, _, q⟩ => ?_) fun _ _ x => x.elim
    exact wpAny_execs_cons (wpAny_Break (Tri.here ((S₁.trans S₂.widen R₂.f.dis).trans S₃ R₃.f.dis) R₃ (FRel.brk _) q))
  | none =>
    have hi : vs[i]? = none := by
      rw [Array.getElem?_eq_none_iff]; have := List.getElem?_eq_none_iff.mp hx; omega
    refine next_end (hA.calm hcm) ei ⟨_, el, rfl, n, rfl⟩ hi fun h' e t ws hn hz he' h0 h1 hext => ?_
    have hei : e ≠ ai := fun z => by rw [z, ei] at hn; cases hn
    have keep : ∀ b o, b ≠ ai → s₁.heap.get? b = some o → h'.get? b = some o := hext
    obtain ⟨hsz, o', ho'⟩ := hz
    have C := R₁.c.set (c' := .dead) hai keep ho' trivial
    have S₂ : Step X.fr φ₁ [] s₁ φ₁ { s₁ with heap := h' } := Step.set ⟨rfl, rfl, rfl⟩ (List.mem_of_getElem? hai) keep
    have R₂ : Rel X φ₁ env ⟨st₁.cells.set it .dead, st₁.vars⟩ h' := ⟨C, R₁.f.step S₂⟩
    have hnot : ∀ b o, s₁.heap.get? b = some o → b ≠ e := fun b o hb z => by rw [z, hn] at hb; cases hb
    have hap : Apart X φ₁ env e := ⟨fun hm' => by obtain ⟨o, ho⟩ := R₁.c.ex e hm'; exact hnot e o ho rfl, fun hm' => by obtain ⟨_, _, o, ho, _⟩ := R₁.c.frs.mem hm'; exact hnot e o ho rfl, fun hm' => by obtain ⟨o, ho⟩ := R₁.f.ex e hm'; exact hnot e o ho rfl, R₁.c.base.free hn (R₁.c.base.above hsz)⟩
    have he0 : s.heap.get? e = none := by
      cases q : s.heap.get? e with
      | none => rfl
      | some o =>
        have h4 : e ∉ φ := fun hm' => hap.φ (S₁.pre.subset hm')
        obtain ⟨sl, q'⟩ := S₁.slots e o q h4 hap.fa
        rw [hn] at q'; cases q'
    exact caught_new (T := "StopIteration") rfl hnc hA (S₁.trans S₂.widen R₂.f.dis) R₂ hap he0 he' h0 h1 hkS hvS (by kernel_rfl) (by decide) (by decide) (by rw [isSubtype_type]; kernel_rfl) (by rw [isSubtype_type]; kernel_rfl) (by rw [isSubtype_type]; kernel_rfl) (h3 hx)
end

section
variable (X : Cx) (d : Nat) (cm : Bool)
/-- an item is taken away -/
def WDI (o i : V) (cs : List Cell) (Q : List Cell → Prop) : Prop :=
  ∀ A φ s ov iv, Room X d cm A → RelC X φ cs s.heap → VRel φ o ov → VRel φ i iv → TriC X A φ s (delItem ov iv) (fun _ (_ : Unit) (_ : Unit) => True) fun _ cs' => Q cs'
end
section
variable {X : Cx} {sc : Scope} {d : Nat} {cm : Bool} {st : St} {cs : List Cell} {Q : AFlow → St → Prop}

theorem WS.del {o i : Expr} {p pos : Pos} (h : WE X sc d cm o st fun ov st₁ => WE X sc d cm i st₁ fun iv st₂ => WDI X d cm ov iv st₂.cells fun cs => Q .next ⟨cs, st₂.vars⟩) : WS X sc d cm (.Delete [.Subscript o i p] pos) st Q := by
  intro A env φ s he hA R
  refine wpAny_Delete (wpAny_deleteEach_cons (delete_Subscript (Tri.seq (h A env φ s he hA R) fun ov s₁ φ₁ ro st₁ S₁ R₁ hro h₁ => ?_)))
  refine Tri.seq (h₁ A env φ₁ s₁ he hA R₁) fun iv s₂ φ₂ ri st₂ S₂ R₂ hri h₂ => ?_
  have T := TriC.lift R₂ (h₂ A φ₂ s₂ ov iv hA R₂.c (hro.mono S₂.pre) hri) (Q' := fun _ st' => Q .next st') fun _ _ q => q
  exact wpAny_mono T (fun _ s₃ ⟨φ₃, _, st₃, S₃, R₃, _, q⟩ => wpAny_deleteEach_nil (Tri.here ((S₁.trans S₂ R₂.f.dis).trans S₃ R₃.f.dis) R₃ (FRel.next _) q)) fun _ _ x => x.elim

theorem WDI.dict {l ep : Nat} {kvs : List (Str × V)} {x : Str} {Q : List Cell → Prop} (hl : cs[l]? = some (.dict kvs ep)) (hz : kvs.length < 1000000) (hx : (kvs.lookup x).isSome = true) (q : ∀ ep', Q (cs.set l (.dict (delv x kvs) ep'))) : WDI X d cm (.ref l) (.str x) cs Q := by
  rintro A φ s ov iv hA R ⟨a, ha, rfl⟩ ⟨t, rfl⟩
  obtain ⟨kvs', hd, hr, hsm⟩ := dict_at R hl ha
  have hlen := hr.length
  have hD := hd.dictOf
  show wpAny (md X) A (delItem (.ref a) (.str x t)) _ _ s
  unfold delItem
  refine wpAny_holding ?_
  refine wpAny_bind (wpAny_sequenceKey hD.typeIs (by decide) ?_)
  refine wpAny_bind (wpAny_callSpecial?_slot (name := Str.ofString "__delitem__") hD.typeIs PySem.F.slot_dict_delitem
    (call_meetsIn PySem.F.slot_dict_delitem hD.typeIs PySem.F.entry_dict_delitem (PySem.F.args_dict_delitem_2 _ _) (meets_dict_delitem_pairs (strKind X.prog X.w) a (strKind_is X.prog X.w x t)) ⟨kvs', hD, (by rw [← hlen, sizeLine_eq]; omega), ?_, fun h' hmm hs' => ?_⟩))
  · have := valueAt_rel x hr
    cases h1 : kvs.lookup x with
    | none => rw [h1] at hx; cases hx
    | some r =>
      cases h2 : valueAt kvs' x with
      | none => rw [h1, h2] at this; exact this.elim
      | some _ => rfl
  · obtain ⟨ep', o, e1, e2⟩ := dict_back hmm (without_rel hr)
    exact wpAny_pure ⟨φ, (), _, Step.set ⟨rfl, rfl, rfl⟩ (List.mem_of_getElem? ha) fun b o hb e => (hs'.2 b hb).trans e, R.set ha (fun b o hb e => (hs'.2 b hb).trans e) e1 e2, trivial, q ep'⟩

theorem WDI.list {l k : Nat} {xs : List V} {i : Int} {Q : List Cell → Prop} (hl : cs[l]? = some (.list xs)) (hz : xs.length < 1000000) (hf : Builtin.List.listFitsIndex i = true) (hk : seqIndex? i xs.length = some k) (q : Q (cs.set l (.list (xs.eraseIdx k)))) : WDI X d cm (.ref l) (.int i) cs Q := by
  rintro A φ s ov iv hA R ⟨a, ha, rfl⟩ ⟨t, rfl⟩
  obtain ⟨vs, n, e, hr⟩ := list_at R hl ha
  have hlen := hr.size
  obtain ⟨n', en⟩ := mapSeq_list (fun xs => xs.eraseIdxIfInBounds k) vs n
  refine P.delItem_list (n := n) e hf (by rw [← hlen]; exact hk) ?_ (by rw [sizeLine_eq]; omega)
  have k' : ∀ b o, b ≠ a → s.heap.get? b = some o → (s.heap.update a (Obj.mapSeq fun xs => xs.eraseIdxIfInBounds k)).get? b = some o := fun b o hb e => ((Heap.SameBut.update ..).2 b hb).trans e
  have e' : (s.heap.update a (Obj.mapSeq fun xs => xs.eraseIdxIfInBounds k)).get? a = some (lstOf (vs.eraseIdxIfInBounds k) n') := by
    have := Heap.get?_update_self (Obj.mapSeq fun xs => xs.eraseIdxIfInBounds k) e (by rw [en]; rfl)
    rw [this, en]
  refine ⟨φ, (), _, Step.set ⟨rfl, rfl, rfl⟩ (List.mem_of_getElem? ha) k', R.set ha k' e' (Cell.isList ?_), trivial, q⟩
  rw [Array.toList_eraseIdxIfInBounds, List.eraseIdx_eq_take_drop_succ, List.eraseIdx_eq_take_drop_succ]
  exact (hr.take k).append (hr.drop (k + 1))
end

def Grown (cs cs' : List Cell) : Prop := ∀ (k : Nat) (c : Cell), cs[k]? = some c → cs'[k]? = some c
theorem Grown.refl (cs : List Cell) : Grown cs cs := fun _ _ e => e
theorem Grown.trans {a b c : List Cell} (h : Grown a b) (h' : Grown b c) : Grown a c := fun k x e => h' k x (h k x e)
theorem Grown.len {a b : List Cell} (h : Grown a b) : a.length ≤ b.length := by
  rcases Nat.lt_or_ge b.length a.length with hl | hl
  · have := h b.length a[b.length] (by simp [hl])
    rw [List.getElem?_eq_none (Nat.le_refl _)] at this; cases this
  · exact hl
theorem Grown.app (cs more : List Cell) : Grown cs (cs ++ more) := fun k c e => by
  rw [List.getElem?_append_left (List.getElem?_eq_some_iff.mp e).1]; exact e
theorem Grown.setA {cs0 cs : List Cell} (g : Grown cs0 cs) {k : Nat} {c : Cell} (hk : cs0.length ≤ k) : Grown cs0 (cs.set k c) := fun j c' e => by
  rw [List.getElem?_set_ne]
  · exact g j c' e
  · have := (List.getElem?_eq_some_iff.mp e).1; omega

def relab (scope sc : Scope) : Scope :=
  { scope with names := scope.names.map fun (n, k) => if (k == .free && sc.kind == .function && sc.names.lookup n == some .cell) then (n, .cell) else (n, k) }

def compOk (scope sc : Scope) (x : Str) : Bool :=
  scope.kind == .function && sc.kind == .function && decide (scope.names.map (·.1)).Nodup &&
  (scope.names.all fun p => match p.2 with
    | .free => sc.names.lookup p.1 == some .cell
    | .local => p.1 == x || p.1 == (".0" : Str)
    | .cell => false
    | _ => true) && scope.names.lookup x == some .local && scope.names.lookup (".0" : Str) == some .local && (x != (".0" : Str))

def clFrom (env : Env) : List (Str × NameKind) → List (Str × Addr) → List (Str × Addr)
  | [], acc => acc
  | (n, k) :: r, acc => clFrom env r (if k = .free then (n, (env.cells.lookup n).getD 0) :: acc else acc)

theorem closureFor_cells {scope : Scope} {env : Env} (h : ∀ n, (n, NameKind.free) ∈ scope.names → ∃ a, env.cells.lookup n = some a) : closureFor scope env = pure (clFrom env scope.names []) := by
  unfold closureFor
  have key : ∀ (l : List (Str × NameKind)) (acc : List (Str × Addr)), (∀ n, (n, NameKind.free) ∈ l → ∃ a, env.cells.lookup n = some a) →
      (forIn l acc fun (x : Str × NameKind) (r : List (Str × Addr)) => (if (x.2 == .free) = true then do let a ← cellOf env x.1; pure (ForInStep.yield ((x.1, a) :: r)) else pure (ForInStep.yield r) : Sem (ForInStep (List (Str × Addr))))) = pure (clFrom env l acc) := by
    intro l
    induction l with
    | nil => intro acc _; rfl
    | cons p r ih =>
      intro acc hl
      obtain ⟨n, k⟩ := p
      rw [List.forIn_cons]
      by_cases e : k = .free
      · subst e
        obtain ⟨a, ha⟩ := hl n (.head _)
        have hcell : cellOf env n = pure a := by simp [cellOf, ha]
        simp only [beq_self_eq_true, if_true, hcell, pure_bind]
        rw [ih _ fun m hm => hl m (.tail _ hm)]
        simp [clFrom, ha]
      · have e' : (k == NameKind.free) = false := by simpa using e
        simp only [e', Bool.false_eq_true, if_false, pure_bind]
        rw [ih _ fun m hm => hl m (.tail _ hm)]
        simp [clFrom, e]
  have := key scope.names [] h
  simp only [bind_pure]
  exact this

theorem clFrom_mem {env : Env} : ∀ {l : List (Str × NameKind)} {acc : List (Str × Addr)} {p : Str × Addr}, p ∈ clFrom env l acc → p ∈ acc ∨ ((p.1, NameKind.free) ∈ l ∧ p.2 = (env.cells.lookup p.1).getD 0)
  | [], _, _, h => .inl h
  | (n, k) :: r, acc, p, h => by
    unfold clFrom at h
    rcases clFrom_mem h with h | ⟨h, h'⟩
    · split at h
      · rename_i e
        rcases List.mem_cons.mp h with h | h
        · subst h; exact .inr ⟨by rw [e]; exact .head _, rfl⟩
        · exact .inl h
      · exact .inl h
    · exact .inr ⟨.tail _ h, h'⟩
theorem clFrom_has {env : Env} : ∀ {l : List (Str × NameKind)} {acc : List (Str × Addr)} {n : Str}, ((n, NameKind.free) ∈ l ∨ n ∈ acc.map (·.1)) → n ∈ (clFrom env l acc).map (·.1)
  | [], _, _, h => h.elim (fun h => nomatch h) id
  | (m, k) :: r, acc, n, h => by
    unfold clFrom
    refine clFrom_has ?_
    rcases h with h | h
    · rcases List.mem_cons.mp h with e | h
      · cases e; right; simp
      · exact .inl h
    · right; split
      · exact List.mem_cons_of_mem _ h
      · exact h
theorem clFrom_keys {env : Env} : ∀ {l : List (Str × NameKind)} {acc : List (Str × Addr)}, (l.map (·.1)).Nodup → (acc.map (·.1)).Nodup → (∀ n ∈ l.map (·.1), n ∉ acc.map (·.1)) → ((clFrom env l acc).map (·.1)).Nodup
  | [], _, _, h, _ => h
  | (m, k) :: r, acc, hl, ha, hd => by
    have hl' := List.nodup_cons.mp hl
    unfold clFrom
    split
    · refine clFrom_keys hl'.2 (List.nodup_cons.mpr ⟨hd m (.head _), ha⟩) fun n hn hm => ?_
      rcases List.mem_cons.mp hm with e | hm
      · exact hl'.1 ((show n = m from e) ▸ hn)
      · exact hd n (.tail _ hn) hm
    · exact clFrom_keys hl'.2 ha fun n hn => hd n (.tail _ hn)

theorem lookup_of_mem {α : Type} {l : List (Str × α)} (hn : (l.map (·.1)).Nodup) {n : Str} {c : α} (h : (n, c) ∈ l) : l.lookup n = some c := lookup_of_nodup hn h

theorem relab_lookup {scope sc : Scope} (hn : (scope.names.map (·.1)).Nodup) {y : Str} : (relab scope sc).names.lookup y = (scope.names.lookup y).map fun k => if (k == .free && sc.kind == .function && sc.names.lookup y == some .cell) then .cell else k := by
  unfold relab
  dsimp only
  generalize scope.names = l
  induction l with
  | nil => rfl
  | cons p r ih =>
    obtain ⟨n, k⟩ := p
    rw [List.map_cons]
    by_cases e : y = n
    · subst e
      by_cases h : (k == NameKind.free && sc.kind == .function && sc.names.lookup y == some NameKind.cell) = true
      · simp only [h, if_true, List.lookup, beq_self_eq_true, Option.map_some]
      · simp only [h, if_false, List.lookup, beq_self_eq_true, Option.map_some, Bool.false_eq_true]
    · have e' := beq_eq_false_iff_ne.mpr e
      by_cases h : (k == NameKind.free && sc.kind == .function && sc.names.lookup n == some NameKind.cell) = true
      · simp only [h, if_true, List.lookup, e']; exact ih
      · simp only [h, if_false, List.lookup, e', Bool.false_eq_true]; exact ih

section
variable {X : Cx} {sc scope : Scope} {x : Str}

theorem compOk_get (h : compOk scope sc x = true) : scope.kind = .function ∧ sc.kind = .function ∧ (scope.names.map (·.1)).Nodup ∧ (∀ n, (n, NameKind.free) ∈ scope.names → sc.names.lookup n = some .cell) ∧ (∀ n, (n, NameKind.local) ∈ scope.names → n = x ∨ n = (".0" : Str)) ∧ (∀ n, (n, NameKind.cell) ∉ scope.names) ∧ scope.names.lookup x = some .local ∧ scope.names.lookup (".0" : Str) = some .local ∧ (".0" : Str) ≠ x := by
  unfold compOk at h
  simp only [Bool.and_eq_true, beq_iff_eq, decide_eq_true_eq, List.all_eq_true] at h
  obtain ⟨⟨⟨⟨⟨⟨h1, h2⟩, h3⟩, h4⟩, h5⟩, h6⟩, h7⟩ := h
  refine ⟨h1, h2, h3, fun n hn => ?_, fun n hn => ?_, fun n hn => ?_, h5, h6, fun z => by simp [z] at h7⟩
  · simpa using h4 _ hn
  · simpa using h4 _ hn
  · simpa using h4 _ hn

/-- the frame of a comprehension -/
theorem FrOk.comp {φ : List Addr} {env : Env} {vars : List (Str × V)} {h : Heap} {C : Addr} {m : Str → Option Value} {r : V} {v : Value} (f : FrOk X φ env vars h) (hok : compOk scope env.scope x = true) (hC : C ∉ φ ∧ Free X.K C) (hCf : C ∉ fAddrs env) (hns : h.Ns C m) (hmx : m x = some v) (hr : VRel φ r v)
    (hm : m (".0" : Str) = none) (h0 : vars.lookup (".0" : Str) = none) : FrOk X φ (compEnvC scope (clFrom env scope.names []) C env) (setv x r vars) h := by
  obtain ⟨k1, k2, k3, k4, k5, k6, k7, k8, _⟩ := compOk_get hok
  have hcl : ∀ p ∈ clFrom env scope.names [], (p.1, NameKind.free) ∈ scope.names ∧ env.cells.lookup p.1 = some p.2 := fun p hp => by
    rcases clFrom_mem hp with hp | ⟨h1, h2⟩
    · cases hp
    · obtain ⟨ca, _, hc, _⟩ := f.cel p.1 (k4 _ h1)
      rw [hc] at h2; exact ⟨h1, by rw [hc, h2]; rfl⟩
  have hsub : ∀ a ∈ (clFrom env scope.names []).map (·.2), a ∈ env.cells.map (·.2) := fun a ha => by
    obtain ⟨p, hp, rfl⟩ := List.mem_map.mp ha
    exact List.mem_map.mpr ⟨(p.1, p.2), mem_of_lookup (hcl p hp).2, rfl⟩
  have hfa : ∀ a ∈ fAddrs (compEnvC scope (clFrom env scope.names []) C env), a = C ∨ a ∈ fAddrs env := fun a ha => by
    rcases List.mem_cons.mp ha with e | ha
    · exact .inl e
    · exact .inr (.tail _ (hsub a ha))
  have hkeys : ((clFrom env scope.names []).map (·.1)).Nodup := clFrom_keys k3 List.nodup_nil fun n _ h => nomatch h
  have hsc : ∀ y, (compEnvC scope (clFrom env scope.names []) C env).kindOf y = (relab scope env.scope).names.lookup y := fun _ => rfl
  refine ⟨k1, f.glob, f.blt, fun a ha => ?_, ?_, fun a ha => ?_, ⟨m, hns, fun y hy => ?_⟩, fun y hy => ?_, fun h1 => ?_⟩
  · rcases hfa a ha with rfl | ha
    · exact hC
    · exact f.fa a ha
  · refine List.nodup_cons.mpr ⟨fun hm' => hCf (.tail _ (hsub _ hm')), ?_⟩
    show ((clFrom env scope.names []).map (·.2)).Nodup
    have hnd := (List.nodup_cons.mp f.nd).2
    have : ∀ l : List (Str × Addr), (l.map (·.1)).Nodup → (∀ p ∈ l, env.cells.lookup p.1 = some p.2) → (l.map (·.2)).Nodup := by
      intro l
      induction l with
      | nil => intro _ _; exact List.nodup_nil
      | cons p l ih =>
        intro hk hl
        have hk' := List.nodup_cons.mp hk
        refine List.nodup_cons.mpr ⟨fun hm' => ?_, ih hk'.2 fun q hq => hl q (.tail _ hq)⟩
        obtain ⟨q, hq, e⟩ := List.mem_map.mp hm'
        have h1 := mem_of_lookup (hl p (.head _))
        have h2 := mem_of_lookup (hl q (.tail _ hq))
        rw [e] at h2
        have := name_of_addr (by
          rw [List.nodup_iff_pairwise_ne] at hnd
          exact List.pairwise_map.mp hnd) h1 h2
        exact hk'.1 (List.mem_map.mpr ⟨q, hq, this.symm⟩)
    exact this _ hkeys fun p hp => (hcl p hp).2
  · rcases hfa a ha with rfl | ha
    · obtain ⟨o, _, _, ho, _⟩ := hns; exact ⟨o, ho⟩
    · exact f.ex a ha
  · rw [hsc, relab_lookup k3] at hy
    obtain ⟨k, hk, hk'⟩ := Option.map_eq_some_iff.mp hy
    have hkl : k = .local := by
      split at hk'
      · cases hk'
      · exact hk'
    subst hkl
    rw [lookup_setv]
    rcases k5 y (mem_of_lookup hk) with rfl | rfl
    · rw [if_pos rfl, hmx]; exact hr
    · by_cases e : (".0" : Str) = x
      · subst e; rw [hm] at hmx; cases hmx
      · rw [if_neg e, h0, hm]; trivial
  · rw [hsc, relab_lookup k3] at hy
    obtain ⟨k, hk, hk'⟩ := Option.map_eq_some_iff.mp hy
    have hyc : k = .free := by
      split at hk'
      · rename_i h; simp only [Bool.and_eq_true, beq_iff_eq] at h; exact h.1.1
      · subst hk'; exact absurd (mem_of_lookup hk) (k6 y)
    subst hyc
    have hfree := mem_of_lookup hk
    obtain ⟨ca, u, hc, hi, hrel⟩ := f.cel y (k4 y hfree)
    have hmem := clFrom_has (env := env) (acc := []) (.inl hfree)
    obtain ⟨p, hp, rfl⟩ := List.mem_map.mp hmem
    have hp2 := (hcl p hp).2
    refine ⟨ca, u, ?_, hi, ?_⟩
    · show (clFrom env scope.names []).lookup p.1 = some ca
      rw [hc] at hp2
      cases hp2
      exact lookup_of_mem hkeys hp
    · rw [lookup_setv, if_neg]; exact hrel
      intro e; rw [e, k7] at hk; cases hk
  · exfalso
    have := relab_lookup (scope := scope) (sc := env.scope) k3 (y := ".0")
    rw [k8] at this
    have h1' : (relab scope env.scope).names.lookup (".0" : Str) = none := h1
    rw [h1'] at this
    simp at this

/-- the frame around after a part of a comprehension -/
theorem FrOk.around {φ φ' : List Addr} {env : Env} {vars vars' : List (Str × V)} {s s' : Shared} {C : Addr} (f : FrOk X φ env vars s.heap) (hok : compOk scope env.scope x = true) (hCf : C ∉ fAddrs env) (S : Step X.fr φ (fAddrs (compEnvC scope (clFrom env scope.names []) C env)) s φ' s')
    (f' : FrOk X φ' (compEnvC scope (clFrom env scope.names []) C env) vars' s'.heap) (hv : ∀ y, y ≠ x → vars'.lookup y = vars.lookup y) : FrOk X φ' env vars s'.heap := by
  obtain ⟨k1, k2, k3, k4, k5, k6, k7, k8, _⟩ := compOk_get hok
  have hcl : ∀ p ∈ clFrom env scope.names [], (p.1, NameKind.free) ∈ scope.names ∧ env.cells.lookup p.1 = some p.2 := fun p hp => by
    rcases clFrom_mem hp with hp | ⟨h1, h2⟩
    · cases hp
    · obtain ⟨ca, _, hc, _⟩ := f.cel p.1 (k4 _ h1)
      rw [hc] at h2; exact ⟨h1, by rw [hc, h2]; rfl⟩
  have dis : ∀ a ∈ fAddrs env, a ∉ φ' := fun a ha hm => by
    obtain ⟨o, e⟩ := f.ex a ha
    have := S.fresh a hm (f.fa a ha).1; rw [e] at this; cases this
  have hL : env.locals ∉ fAddrs (compEnvC scope (clFrom env scope.names []) C env) := fun hm => by
    rcases List.mem_cons.mp hm with e | hm
    · exact hCf (List.mem_cons.mpr (.inl (show C = env.locals from e.symm)))
    · obtain ⟨p, hp, e⟩ := List.mem_map.mp hm
      exact (List.nodup_cons.mp f.nd).1 (e ▸ List.mem_map.mpr ⟨(p.1, p.2), mem_of_lookup (hcl p hp).2, rfl⟩)
  refine ⟨f.kind, f.glob, f.blt, fun a ha => ⟨dis a ha, (f.fa a ha).2⟩, f.nd, fun a ha => ?_, ?_, fun y hy => ?_, f.top⟩
  · by_cases hm : a ∈ fAddrs (compEnvC scope (clFrom env scope.names []) C env)
    · exact f'.ex a hm
    · obtain ⟨o, e⟩ := f.ex a ha
      obtain ⟨sl, q⟩ := S.slots a o e (f.fa a ha).1 hm
      exact ⟨_, q⟩
  · obtain ⟨m, ⟨o, es, ep, ho, r⟩, hm⟩ := f.ns
    obtain ⟨sl, e'⟩ := S.slots _ o ho (f.fa _ (.head _)).1 hL
    exact ⟨m, ⟨_, es, ep, e', r⟩, fun x hx => (hm x hx).mono S.pre⟩
  · obtain ⟨ca, v, hc, ⟨o', ho', hd'⟩, hr⟩ := f.cel y hy
    have hca : ca ∈ fAddrs env := .tail _ (List.mem_map.mpr ⟨_, mem_of_lookup hc, rfl⟩)
    by_cases hm : ca ∈ fAddrs (compEnvC scope (clFrom env scope.names []) C env)
    · have hm' : ca ∈ (clFrom env scope.names []).map (·.2) := by
        rcases List.mem_cons.mp hm with e | hm
        · exact absurd (show C ∈ fAddrs env from (show ca = C from e) ▸ hca) hCf
        · exact hm
      obtain ⟨p, hp, e⟩ := List.mem_map.mp hm'
      obtain ⟨hp1, hp2⟩ := hcl p hp
      have hpy : p.1 = y := by
        have h1 := mem_of_lookup hp2
        have h2 := mem_of_lookup hc
        rw [e] at h1
        have hnd := (List.nodup_cons.mp f.nd).2
        exact name_of_addr (by
          rw [List.nodup_iff_pairwise_ne] at hnd
          exact List.pairwise_map.mp hnd) h1 h2
      have hkind : (compEnvC scope (clFrom env scope.names []) C env).kindOf y = some .cell := by
        show (relab scope env.scope).names.lookup y = _
        rw [relab_lookup k3, ← hpy, lookup_of_mem k3 hp1]
        simp [k2, k4 _ hp1]
      obtain ⟨ca', v', hc', hi', hr'⟩ := f'.cel y hkind
      have hkeys : ((clFrom env scope.names []).map (·.1)).Nodup := clFrom_keys k3 List.nodup_nil fun n _ h => nomatch h
      have hcc : ca' = ca := by
        have h1 : (clFrom env scope.names []).lookup p.1 = some p.2 := lookup_of_mem hkeys hp
        have h2 : (clFrom env scope.names []).lookup y = some ca' := hc'
        rw [← hpy, h1] at h2
        cases h2; exact e
      subst hcc
      refine ⟨ca', v', hc, hi', ?_⟩
      rw [hv y] at hr'
      · exact hr'
      · rintro rfl
        have h1 := lookup_of_mem k3 hp1
        rw [hpy, k7] at h1; cases h1
    · obtain ⟨sl, e'⟩ := S.slots ca o' ho' (f.fa ca hca).1 hm
      exact ⟨ca, v, hc, ⟨_, e', hd'⟩, hr.mono S.pre⟩
end

section
variable (X : Cx) (sc : Scope) (d : Nat) (cm : Bool)
def ifsOf (ifs : List Expr) (env : Env) : Sem Bool := forIn ifs true fun c r => if r = true then do let ok ← isTrue c env (eval c env); pure (ForInStep.yield ok) else pure (ForInStep.yield r)
/-- the tests of a comprehension -/
def WIF (ifs : List Expr) (st : St) (Q : Bool → St → Prop) : Prop :=
  ∀ A env φ s, env.scope = sc → Room X d cm A → Rel X φ env st s.heap → Tri X A env φ s (ifsOf ifs env) BRel Q
end

section
variable {X : Cx} {sc : Scope} {d : Nat} {cm : Bool} {st : St}

theorem WIF.nil {Q : Bool → St → Prop} (q : Q true st) : WIF X sc d cm [] st Q :=
  fun A env φ s he hA R => wpAny_pure (Tri.here .refl R (BRel.rfl _ _) q)
theorem WIF.one {c : Expr} {Q : Bool → St → Prop} (h : WT X sc d cm c st Q) : WIF X sc d cm [c] st Q := by
  intro A env φ s he hA R
  unfold ifsOf
  show wpAny _ _ _ _ _ _
  rw [List.forIn_cons]
  simp only [if_true]
  refine wpAny_bind (wpAny_bind (Tri.seq (h A env φ s he hA R) fun b s₁ φ₁ r st₁ S₁ R₁ hr h₁ => wpAny_pure ?_))
  exact wpAny_pure (Tri.here S₁ R₁ hr h₁)

theorem Step.inComp {fr φ φ' φ'' fa fa' : List Addr} {s s' s'' : Shared} (a : Step fr φ fa s φ' s') (b : Step fr φ' fa' s' φ'' s'') (hfa : ∀ x ∈ fa', x ∈ fa ∨ s.heap.get? x = none) (hd : ∀ x ∈ fa, x ∉ φ'') : Step fr φ fa s φ'' s'' := by
  have hn : ∀ x, x ∉ φ → (∃ o, s.heap.get? x = some o) → x ∉ φ' := fun x hx ⟨o, e⟩ hm => by
    have := a.fresh x hm hx; rw [e] at this; cases this
  have hf : ∀ x o, s.heap.get? x = some o → x ∉ fa → x ∉ fa' := fun x o e h hm => (hfa x hm).elim h fun z => by rw [e] at z; cases z
  refine ⟨⟨b.sh.1.trans a.sh.1, b.sh.2.1.trans a.sh.2.1, b.sh.2.2.trans a.sh.2.2⟩, a.pre.trans b.pre, fun x o e h1 h2 h3 => b.keep x o (a.keep x o e h1 h2 h3) (hn x h1 ⟨o, e⟩) (hf x o e h2) h3, fun x o e h1 h2 => ?_, fun x hx hx' => ?_⟩
  · obtain ⟨sl, q⟩ := a.slots x o e h1 h2
    obtain ⟨sl', q'⟩ := b.slots x _ q (hn x h1 ⟨o, e⟩) (hf x o e h2)
    exact ⟨sl', q'⟩
  by_cases h : x ∈ φ'
  · exact a.fresh x h hx'
  · cases e : s.heap.get? x with
    | none => rfl
    | some o =>
      have h2 : x ∉ fa := fun hf => hd x hf hx
      obtain ⟨sl, this⟩ := a.slots x o e hx' h2
      rw [b.fresh x hx h] at this; cases this

/-- what a comprehension does behind its source -/
def CompGo (X : Cx) (sc : Scope) (d : Nat) (cm : Bool) (x : Str) (ifs : List Expr) (elt : Expr) (scope : Scope) (v : V) (st₀ : St) (Q : V → St → Prop) : Prop :=
  ∃ src ok items, ∃ _it : Iter X src ok items, ∃ J : Nat → List V → List Cell → Prop, v = src ∧ st₀.vars.lookup (".0" : Str) = none ∧ items.length < 1000000 ∧ ok st₀.cells ∧ ok (st₀.cells ++ [.list []]) ∧ J 0 [] (st₀.cells ++ [.list []]) ∧
  (∀ i r acc cs, items[i]? = some r → ok cs → cs[st₀.cells.length]? = some (.list acc) → J i acc cs → WIF X (relab scope sc) d cm ifs ⟨cs, setv x r st₀.vars⟩ fun b st' => st'.vars = setv x r st₀.vars ∧ if b = true then
      WE X (relab scope sc) d cm elt st' fun v st'' => st''.vars = setv x r st₀.vars ∧ st''.cells[st₀.cells.length]? = some (.list acc) ∧ ok (st''.cells.set st₀.cells.length (.list (acc ++ [v]))) ∧ J (i + 1) (acc ++ [v]) (st''.cells.set st₀.cells.length (.list (acc ++ [v])))
    else st'.cells[st₀.cells.length]? = some (.list acc) ∧ ok st'.cells ∧ J (i + 1) acc st'.cells) ∧
  (∀ acc cs, ok cs → cs[st₀.cells.length]? = some (.list acc) → J items.length acc cs → Q (.ref st₀.cells.length) ⟨cs, st₀.vars⟩)

theorem comp_core {elt iter : Expr} {x : Str} {px pos : Pos} {ifs : List Expr} {scope : Scope} {Q : V → St → Prop} {A : Around} {env : Env} {φ φ₁ : List Addr} {s s₁ : Shared} {st₀ : St} {rv : V} {vv : Value} {RR : Value → Addr → Result → Shared → Prop} {E : Value → Shared → Prop}
    (hcm : cm = true) (hok : compOk scope env.scope x = true) (hA : Room X d cm A) (S₁ : Step X.fr φ (fAddrs env) s φ₁ s₁) (R₁ : Rel X φ₁ env st₀ s₁.heap) (hr : VRel φ₁ rv vv) (go : CompGo X env.scope d cm x ifs elt scope rv st₀ Q)
    (hRR : ∀ D C m (s' : Shared) φ' st', Step X.fr φ (fAddrs env) s φ' s' → Rel X φ' env st' s'.heap → VRel φ' (.ref st₀.cells.length) (.ref D) → Q (.ref st₀.cells.length) st' → s'.heap.Ns C m → C ∉ φ' → C ∉ fAddrs env → Free X.K C → C ∉ X.fr → s.heap.get? C = none → RR (.ref D) C (.ok .next) s') :
    wpAny (md X) A (pyIter vv) (fun itv s₂ => wpAny (md X) A (newList []) (fun acc s₃ => wpAny (md X) A (newFunctionEnv scope env.globals (clFrom env scope.names []) [] env.qual none .none (some env)) (fun cenv s₄ =>
      codeAny (md X) A (.compStart (.ListComp elt [⟨.Name x px, iter, ifs, 0⟩] scope pos) 0 itv acc { cenv with scope := relabel scope env }) (RR acc cenv.locals) s₄) E s₃) E s₂) E s₁ := by
  refine wpAny_hide fun P hP => ?_
  obtain ⟨src, ok, items, it, J, rfl, h0, hlen, hok0, hok1, hJ, turn, fin⟩ := go
  obtain ⟨k1, k2, k3, k4, k5, k6, k7, k8, k9⟩ := compOk_get hok
  refine it.start A φ₁ s₁ vv st₀.cells _ _ R₁.c hok0 hr fun o tk hat hfr => ?_
  generalize hI : s₁.heap.objs.size = I
  have hIn : s₁.heap.get? I = none := get_none_of_size (Nat.le_of_eq hI)
  have R₂ := R₁.push o
  have S₂ : Step X.fr φ (fAddrs env) s φ₁ { s₁ with heap := s₁.heap.push o, toks := tk } := ⟨⟨S₁.sh.1, S₁.sh.2.1, S₁.sh.2.2⟩, S₁.pre, fun b ob e h1 h2 h3 => Heap.get?_push_of_some _ (S₁.keep b ob e h1 h2 h3), fun b ob e h1 h2 => let ⟨sl, q⟩ := S₁.slots b ob e h1 h2; ⟨sl, Heap.get?_push_of_some _ q⟩, S₁.fresh⟩
  have hIo : (s₁.heap.push o).get? I = some o := by rw [← hI]; exact Heap.get?_push_size _ hfr
  have hIsz : I < (s₁.heap.push o).objs.size := Heap.lt_size hIo
  have hIfree : Free X.K I := R₁.c.base.free hIn (R₁.c.base.above (Nat.le_of_eq hI))
  -- what was not on the first heap
  have apart : ∀ {a : Addr} {h : Heap} {st : St} {s' : Shared} {φ' : List Addr}, Step X.fr φ (fAddrs env) s φ' s' → Rel X φ' env st s'.heap → s'.heap.get? a = none → a ∉ φ' ∧ a ∉ fAddrs env ∧ a ∉ X.fr ∧ s.heap.get? a = none := by
    intro a h st s' φ' S R e
    have h1 : a ∉ φ' := fun hm => by obtain ⟨o', e'⟩ := R.c.ex a hm; rw [e] at e'; cases e'
    have h2 : a ∉ fAddrs env := fun hm => by obtain ⟨o', e'⟩ := R.f.ex a hm; rw [e] at e'; cases e'
    refine ⟨h1, h2, fun hm => ?_, ?_⟩
    · obtain ⟨_, _, o', e', _⟩ := R.c.frs.mem hm; rw [e] at e'; cases e'
    · cases q : s.heap.get? a with
      | none => rfl
      | some ob => obtain ⟨sl, this⟩ := S.slots a ob q (fun hm => h1 (S.pre.subset hm)) h2; rw [e] at this; cases this
  obtain ⟨hIφ, hIf, hIr, hIs⟩ := apart (h := s₁.heap) S₁ R₁ hIn
  refine hP _ _ ?_
  refine wpAny_hide fun P2 hP2 => ?_
  refine wpAny_newObj_type ?_
  generalize hD : (s₁.heap.push o).objs.size = D
  have hDn : (s₁.heap.push o).get? D = none := get_none_of_size (Nat.le_of_eq hD)
  have C₃ : RelC X (φ₁ ++ [D]) (st₀.cells ++ [.list []]) ((s₁.heap.push o).push (lstOf #[] 0)) := R₂.c.push (fun b o e => Heap.get?_push_of_some _ e) hDn (R₂.c.base.above (Nat.le_of_eq hD)) (by rw [← hD]; exact Heap.get?_push_size _ rfl) ⟨#[], 0, rfl, trivial⟩
  have S₃' : Step X.fr φ₁ [] { s₁ with heap := s₁.heap.push o, toks := tk } (φ₁ ++ [D]) { s₁ with heap := (s₁.heap.push o).push (lstOf #[] 0), toks := tk } := Step.push ⟨rfl, rfl, rfl⟩ (fun b o e => Heap.get?_push_of_some _ e) hDn
  have R₃ : Rel X (φ₁ ++ [D]) env ⟨st₀.cells ++ [.list []], st₀.vars⟩ ((s₁.heap.push o).push (lstOf #[] 0)) := ⟨C₃, R₂.f.step S₃'⟩
  have S₃ := S₂.trans S₃'.widen R₃.f.dis
  have hIo3 : ((s₁.heap.push o).push (lstOf #[] 0)).get? I = some o := Heap.get?_push_of_some _ hIo
  have hID : I ≠ D := by rw [← hD]; exact Nat.ne_of_lt hIsz
  have hIφ3 : I ∉ φ₁ ++ [D] := fun hm => (List.mem_append.mp hm).elim hIφ fun h => hID (List.mem_singleton.mp h)
  have hDa : (φ₁ ++ [D])[st₀.cells.length]? = some D := by rw [← R₁.c.len]; exact get_snoc _ _
  have e3 : ((s₁.heap.push o).push { cls := .type "list", data := .seq ([] : List Value).toArray }) = (s₁.heap.push o).push (lstOf #[] 0) := rfl
  refine hP2 _ _ ?_
  refine wpAny_hide fun P3 hP3 => ?_
  refine wpAny_newFunctionEnv (fun y hy e => k6 y.1 (by rw [← e]; exact hy)) (by intro y hy; simp at hy) (fun h₁ hns₁ hsb₁ => ?_) k1
  dsimp only at hns₁ hsb₁ ⊢
  rw [e3] at hns₁ hsb₁ ⊢
  generalize hC : ((s₁.heap.push o).push (lstOf #[] 0)).objs.size = C at hns₁ hsb₁ ⊢
  have hCn : ((s₁.heap.push o).push (lstOf #[] 0)).get? C = none := get_none_of_size (Nat.le_of_eq hC)
  obtain ⟨hCφ, hCf, hCr, hCs⟩ := apart (h := s₁.heap) (s' := { s₁ with heap := (s₁.heap.push o).push (lstOf #[] 0), toks := tk }) S₃ R₃ hCn
  have hCfree : Free X.K C := R₃.c.base.free hCn (R₃.c.base.above (Nat.le_of_eq hC))
  have hCI : C ≠ I := fun z => by rw [z, hIo3] at hCn; cases hCn
  have ext1 : Heap.ExtBut C ((s₁.heap.push o).push (lstOf #[] 0)) h₁ := fun b ob hb e => hsb₁.extBut b ob hb (Heap.get?_push_of_some _ e)
  have R₄ := R₃.aside hCφ hCf hCfree hCr ext1
  have S₄ : Step X.fr φ (fAddrs env) s (φ₁ ++ [D]) { s₁ with heap := h₁, toks := tk } := Step.aside (s₁ := { s₁ with heap := (s₁.heap.push o).push (lstOf #[] 0), toks := tk }) S₃ hCs ⟨rfl, rfl, rfl⟩ ext1
  have hIo4 : h₁.get? I = some o := ext1 I o hCI.symm hIo3
  have hfac : ∀ a ∈ fAddrs (compEnvC scope (clFrom env scope.names []) C env), a = C ∨ a ∈ fAddrs env := fun a ha => by
    rcases List.mem_cons.mp ha with e | ha
    · exact .inl e
    · obtain ⟨p, hp, rfl⟩ := List.mem_map.mp ha
      rcases clFrom_mem hp with hp | ⟨h1, h2⟩
      · cases hp
      · obtain ⟨ca, _, hc, _⟩ := R₁.f.cel p.1 (k4 _ h1)
        rw [hc] at h2
        exact .inr (.tail _ (List.mem_map.mpr ⟨(p.1, ca), mem_of_lookup hc, by rw [h2]; rfl⟩))
  have hIc : I ∉ fAddrs (compEnvC scope (clFrom env scope.names []) C env) := fun hm => (hfac I hm).elim (fun z => hCI z.symm) hIf
  have hxk : (compEnvC scope (clFrom env scope.names []) C env).kindOf x = some .local := by
    show (relab scope env.scope).names.lookup x = _
    rw [relab_lookup k3, k7]; rfl
  have hxp : ((compEnvC scope (clFrom env scope.names []) C env).scope.kind == .class || ((compEnvC scope (clFrom env scope.names []) C env).scope.kind == .module && (compEnvC scope (clFrom env scope.names []) C env).locals != (compEnvC scope (clFrom env scope.names []) C env).globals)) = false := by
    simp [compEnvC, relabel, k1]
  have loop : ∀ s₅ : Shared, s₅ = { s₁ with heap := h₁, toks := tk + ([] : List (Str × Value)).length } → codeAny (md X) A (.compLoop (.ListComp elt [⟨.Name x px, iter, ifs, 0⟩] scope pos) 0 (.ref I) (.ref D) (compEnvC scope (clFrom env scope.names []) C env)) (RR (.ref D) C) s₅ := by
    rintro s₅ rfl
    refine codeAny_compLoop_tests (fun n s' => ∃ i φ' cs' acc o' m, n = items.length + 1 - i ∧ i ≤ items.length ∧ Step X.fr φ (fAddrs env) s φ' s' ∧ Rel X φ' env ⟨cs', st₀.vars⟩ s'.heap ∧ ok cs' ∧ cs'[st₀.cells.length]? = some (.list acc) ∧ acc.length ≤ i ∧ J i acc cs' ∧ I ∉ φ' ∧ C ∉ φ' ∧ s'.heap.get? I = some o' ∧ it.At φ' i o' ∧ s'.heap.Ns C m ∧ m (".0" : Str) = none ∧ φ'[st₀.cells.length]? = some D) ?_ (items.length + 1) ?_
    · intro n s' hI'
      refine wpAny_hide fun P4 hP4 => ?_
      obtain ⟨i, φ', cs', acc, o', m, hni, hi, S', R', hok', hacc, hal, hJ', hIφ', hCφ', hIo', hIat, hnsC, hm0, hDφ⟩ := hI'
      by_cases hlt : i < items.length
      · obtain ⟨r', hr'⟩ : ∃ r', items[i]? = some r' := ⟨items[i], by simp [hlt]⟩
        refine it.item A φ' s' I o' i cs' r' _ _ R'.c hok' hIφ' hIo' hIat hr' fun v h' o'' tk' hv hIo'' hIat'' hext => ?_
        refine hP4 _ _ ?_
        dsimp only
        refine wpAny_hide fun P5 hP5 => ?_
        have R5 := R'.aside hIφ' hIf hIfree hIr hext
        have S5 : Step X.fr φ (fAddrs env) s φ' { s' with heap := h', toks := tk' } := S'.aside hIs ⟨rfl, rfl, rfl⟩ hext
        have hns5 : h'.Ns C m := hnsC.at' fun o e => hext C o hCI e
        refine wpAny_assign_Name (wpAny_storeName_local (s := { s' with heap := h', toks := tk' }) hxk hns5 (fun h₂ hn₂ hs₂ => ?_) hxp)
        have R6 := R5.aside hCφ' hCf hCfree hCr hs₂.extBut
        have S6 : Step X.fr φ (fAddrs env) s φ' { s' with heap := h₂, toks := tk' + 1 } := Step.aside (s₁ := { s' with heap := h', toks := tk' }) S5 hCs ⟨rfl, rfl, rfl⟩ hs₂.extBut
        have hIo6 : h₂.get? I = some o'' := hs₂.extBut I o'' hCI.symm hIo''
        have F6 : FrOk X φ' (compEnvC scope (clFrom env scope.names []) C env) (setv x r' st₀.vars) h₂ := R6.f.comp hok ⟨hCφ', hCfree⟩ hCf hn₂ (by simp) hv (by simp [k9, hm0]) h0
        have hT := turn i r' acc cs' hr' hok' hacc hJ' A (compEnvC scope (clFrom env scope.names []) C env) φ' { s' with heap := h₂, toks := tk' + 1 } rfl hA ⟨R6.c, F6⟩
        refine hP5 _ _ ?_
        refine wpAny_hide fun P6 hP6 => ?_
        refine Tri.seq hT fun b s₃ φ₃ rb st₃ S₃ R₃ hrb h₃ => ?_
        cases (hrb : b = rb)
        obtain ⟨hv3, h₃⟩ := h₃
        have hvv : ∀ {vars : List (Str × V)}, vars = setv x r' st₀.vars → ∀ y, y ≠ x → vars.lookup y = st₀.vars.lookup y := fun e y hy => by rw [e, lookup_setv, if_neg hy]
        have F7 := FrOk.around (s := { s' with heap := h₂, toks := tk' + 1 }) R6.f hok hCf S₃ R₃.f (hvv hv3)
        have S7 := S6.inComp S₃ (fun a ha => (hfac a ha).elim (fun z => .inr (z ▸ hCs)) .inl) F7.dis
        have hI7 : s₃.heap.get? I = some o'' := S₃.keep I o'' hIo6 hIφ' hIc hIr
        have hI7φ : I ∉ φ₃ := fun hm => by have := S₃.fresh I hm hIφ'; rw [hIo6] at this; cases this
        have hC7φ : C ∉ φ₃ := fun hm => by
          have := S₃.fresh C hm hCφ'
          obtain ⟨ob, _, _, hob, _⟩ := hn₂
          cases (show some ob = none from hob.symm.trans this)
        have nsOf : ∀ {h3 : Heap} {φ3 : List Addr} {vars : List (Str × V)}, vars = setv x r' st₀.vars → FrOk X φ3 (compEnvC scope (clFrom env scope.names []) C env) vars h3 → ∃ m', h3.Ns C m' ∧ m' (".0" : Str) = none := by
          intro h3 φ3 vars e F
          obtain ⟨m', hn', hm'⟩ := F.ns
          refine ⟨m', hn', ?_⟩
          have hk : (compEnvC scope (clFrom env scope.names []) C env).kindOf (".0" : Str) = some .local := by
            show (relab scope env.scope).names.lookup (".0" : Str) = _
            rw [relab_lookup k3, k8]; rfl
          have := hm' _ hk
          rw [e, lookup_setv, if_neg k9, h0] at this
          cases hq : m' (".0" : Str) with
          | none => rfl
          | some u => rw [hq] at this; exact this.elim
        cases b with
        | false =>
          rw [if_neg Bool.false_ne_true] at h₃
          obtain ⟨m7, hn7, hm7⟩ := nsOf hv3 R₃.f
          refine hP6 _ _ ?_
          try dsimp only
          rw [if_neg Bool.false_ne_true]
          exact ⟨items.length + 1 - (i + 1), by omega, i + 1, φ₃, st₃.cells, acc, o'', m7, rfl, hlt, S7, ⟨R₃.c, F7⟩, h₃.2.1, h₃.1, by omega, h₃.2.2, hI7φ, hC7φ, hI7, it.mono _ _ _ _ hIat'' S₃.pre, hn7, hm7, get_of_prefix S₃.pre hDφ⟩
        | true =>
          rw [if_pos rfl] at h₃
          refine hP6 _ _ ?_
          try dsimp only
          rw [if_pos rfl]
          refine wpAny_hide fun P7 hP7 => ?_
          refine Tri.seq (h₃ A (compEnvC scope (clFrom env scope.names []) C env) φ₃ s₃ rfl hA R₃) fun u s₄ φ₄ ru st₄ S₄ R₄ hru h₄ => ?_
          obtain ⟨hv4, hacc4, hok4, hJ4⟩ := h₄
          have F8 := FrOk.around F7 hok hCf S₄ R₄.f (hvv hv4)
          have S8 := S7.inComp S₄ (fun a ha => (hfac a ha).elim (fun z => .inr (z ▸ hCs)) .inl) F8.dis
          have hI8 : s₄.heap.get? I = some o'' := S₄.keep I o'' hI7 hI7φ hIc hIr
          have hI8φ : I ∉ φ₄ := fun hm => by have := S₄.fresh I hm hI7φ; rw [hI7] at this; cases this
          obtain ⟨m7, hn7, hm7⟩ := nsOf hv3 R₃.f
          have hC8φ : C ∉ φ₄ := fun hm => by
            have := S₄.fresh C hm hC7φ
            obtain ⟨ob, _, _, hob, _⟩ := hn7
            rw [hob] at this; cases this
          obtain ⟨m8, hn8, hm8⟩ := nsOf hv4 R₄.f
          have hD4 := get_of_prefix (S₃.pre.trans S₄.pre) hDφ
          have R8 : Rel X φ₄ env ⟨st₄.cells, st₀.vars⟩ s₄.heap := ⟨R₄.c, F8⟩
          have hT9 := TriC.lift R8 (WCV.append (X := X) (d := d) (cm := cm) (l := st₀.cells.length) (xs := acc) (v := ru) (Q := fun r cs => r = .none ∧ cs = st₄.cells.set st₀.cells.length (.list (acc ++ [ru]))) hacc4 (by rw [sizeLine_eq]; omega) ⟨rfl, rfl⟩ A φ₄ s₄ (.builtin "list.append") [.ref D, u] hA R₄.c rfl ⟨VRel.ref hD4, hru, trivial⟩) (Q' := fun r st => st = ⟨st₄.cells.set st₀.cells.length (.list (acc ++ [ru])), st₀.vars⟩) fun r cs q => by rw [q.2]
          refine hP7 _ _ ?_
          refine wpAny_hide fun P8 hP8 => ?_
          refine Tri.seq hT9 fun _ s₅ φ₅ _ st₅ S₅ R₅ _ h₅ => ?_
          subst h₅
          have hI9 : s₅.heap.get? I = some o'' := S₅.keep I o'' hI8 hI8φ hIf hIr
          have hI9φ : I ∉ φ₅ := fun hm => by have := S₅.fresh I hm hI8φ; rw [hI8] at this; cases this
          have hn9 : s₅.heap.Ns C m8 := hn8.at' fun o e => S₅.keep C o e hC8φ hCf hCr
          have hC9φ : C ∉ φ₅ := fun hm => by
            have := S₅.fresh C hm hC8φ
            obtain ⟨ob, _, _, hob, _⟩ := hn8
            rw [hob] at this; cases this
          refine hP8 _ _ ?_
          refine ⟨items.length + 1 - (i + 1), by omega, i + 1, φ₅, _, acc ++ [ru], o'', m8, rfl, hlt, S8.trans S₅ R₅.f.dis, R₅, hok4, ?_, by simp; omega, hJ4, hI9φ, hC9φ, hI9, it.mono _ _ _ _ hIat'' ((S₃.pre.trans S₄.pre).trans S₅.pre), hn9, hm8, get_of_prefix S₅.pre hD4⟩
          rw [List.getElem?_set_self]; exact (List.getElem?_eq_some_iff.mp hacc4).1
      · have hi' : i = items.length := by omega
        subst hi'
        refine it.done A φ' s' I o' cs' _ _ (hA.calm hcm) R'.c hok' hIφ' hIo' hIat fun h' tk' hext => ?_
        refine hP4 _ _ ?_
        exact hRR D C m _ φ' ⟨cs', st₀.vars⟩ (S'.aside hIs ⟨rfl, rfl, rfl⟩ hext) (R'.aside hIφ' hIf hIfree hIr hext) (VRel.ref hDφ) (fin acc cs' hok' hacc hJ') (hnsC.at' fun o e => hext C o hCI e) hCφ' hCf hCfree hCr hCs
    · exact ⟨0, φ₁ ++ [D], _, [], o, _, rfl, Nat.zero_le _, S₄, R₄, hok1, by simp, Nat.le_refl _, hJ, hIφ3, hCφ, hIo4, it.mono _ _ _ _ hat (List.prefix_append _ _), hns₁, rfl, hDa⟩
  have hag : it.At (φ₁ ++ [D]) 0 o := it.mono _ _ _ _ hat (List.prefix_append _ _)
  refine hP3 _ _ ?_
  have fin' := codeAny_compStart_list (R := RR (.ref D) C) (loop _ rfl) (it.again A (φ₁ ++ [D]) { s₁ with heap := h₁, toks := tk + ([] : List (Str × Value)).length } I o (st₀.cells ++ [.list []]) _ _ R₄.c hIo4 hag (loop _ rfl))
  exact fin'

theorem relabel_eq (scope : Scope) (env : Env) : relabel scope env = relab scope env.scope := rfl

theorem closure_ok {φ : List Addr} {env : Env} {vars : List (Str × V)} {h : Heap} {scope : Scope} {x : Str} (f : FrOk X φ env vars h) (hok : compOk scope env.scope x = true) : closureFor scope env = pure (clFrom env scope.names []) :=
  closureFor_cells fun n hn => let ⟨ca, _, hc, _⟩ := f.cel n ((compOk_get hok).2.2.2.1 n hn); ⟨ca, hc⟩

theorem WE.comp {elt iter : Expr} {x : Str} {px pos : Pos} {ifs : List Expr} {scope : Scope} {Q : V → St → Prop} (hcm : cm = true) (hok : compOk scope sc x = true) (h : WE X sc d cm iter st fun v st₀ => CompGo X sc d cm x ifs elt scope v st₀ Q)
    (hs : ∀ env x, foldedSetIterable iter env x = pure x := by intro _ _; with_unfolding_all rfl) : WE X sc d cm (.ListComp elt [⟨.Name x px, iter, ifs, 0⟩] scope pos) st Q := by
  intro A env φ s he hA R
  subst he
  have hg := compOk_get hok
  show wpAny _ _ _ _ _ _
  rw [eval_ListComp]
  refine wpAny_comprehension_free (use := none) rfl (hs env) (closure_ok R.f hok) hg.1 (fun y hy e => lookup_of_mem hg.2.2.1 (by rw [← e]; exact hy)) ?_
  refine Tri.seq (h A env φ s rfl hA R) fun v s₁ φ₁ r st₁ S₁ R₁ hr h₁ => ?_
  refine comp_core (RR := fun acc C => compPost (md X) A (fun _ _ => False) none (TriP X env φ s VRel Q) acc C) hcm hok hA S₁ R₁ hr h₁ ?_
  intro D C m s' φ' st' S' R' hv hq hns c1 c2 c3 c4 c5
  exact ⟨m, hns, fun h' hs' => ⟨φ', _, st', S'.aside c5 ⟨rfl, rfl, rfl⟩ hs'.extBut, R'.aside c1 c2 c3 c4 hs'.extBut, hv, hq⟩⟩



/-- a comprehension that turns nothing that stands: out tells for each item what comes in -/
theorem CompGo.plain {x : Str} {ifs : List Expr} {elt : Expr} {scope : Scope} {v src : V} {st₀ : St} {Q : V → St → Prop} {ok : List Cell → Prop} {items : List V} (it : Iter X src ok items) (out : List (Option V)) (hv : v = src) (h0 : st₀.vars.lookup (".0" : Str) = none) (hz : items.length < 1000000) (hout : out.length = items.length)
    (hok : ∀ cs, Grown st₀.cells cs → ok cs)
    (turn : ∀ (i : Nat) (r : V) (o : Option V) (cs : List Cell), items[i]? = some r → out[i]? = some o → Grown st₀.cells cs → WIF X (relab scope sc) d cm ifs ⟨cs, setv x r st₀.vars⟩ fun b st' => st'.vars = setv x r st₀.vars ∧ Grown cs st'.cells ∧ b = o.isSome ∧ ∀ u, o = some u → WE X (relab scope sc) d cm elt st' fun v st'' => st''.vars = setv x r st₀.vars ∧ Grown st'.cells st''.cells ∧ v = u)
    (fin : ∀ cs, Grown st₀.cells cs → cs[st₀.cells.length]? = some (.list (out.filterMap id)) → Q (.ref st₀.cells.length) ⟨cs, st₀.vars⟩) : CompGo X sc d cm x ifs elt scope v st₀ Q := by
  refine ⟨src, ok, items, it, fun i acc cs => Grown st₀.cells cs ∧ acc = (out.take i).filterMap id, hv, h0, hz, hok _ (Grown.refl _), hok _ (Grown.app _ _), ⟨Grown.app _ _, rfl⟩, fun i r acc cs hr hokc hacc hJ => ?_, fun acc cs hokc hacc hJ => ?_⟩
  · obtain ⟨hg, rfl⟩ := hJ
    have hi : i < out.length := by rw [hout]; exact (List.getElem?_eq_some_iff.mp hr).1
    have ho : out[i]? = some out[i] := List.getElem?_eq_getElem hi
    refine fun A env φ s he hA R => wpAny_mono (turn i r out[i] cs hr ho hg A env φ s he hA R) (fun _ _ ⟨φ', b, st', S, R', hb, h1, h2, h3, h4⟩ => ⟨φ', b, st', S, R', hb, h1, ?_⟩) fun _ _ z => z
    have hta : ∀ {z : Option V}, out[i] = z → (out.take (i + 1)).filterMap id = (out.take i).filterMap id ++ z.toList := fun hz => by
      rw [List.take_add_one, ho, hz, List.filterMap_append]
      cases ‹Option V› <;> simp
    cases hq : out[i] with
    | none =>
      rw [hq] at h3
      rw [h3, if_neg (by simp)]
      refine ⟨h2 _ _ hacc, hok _ (hg.trans h2), hg.trans h2, ?_⟩
      rw [hta hq]; simp
    | some u =>
      rw [hq] at h3
      rw [h3, if_pos (by simp)]
      refine (h4 u hq).mono fun w st'' ⟨g1, g2, g3⟩ => ?_
      subst g3
      have g' : Grown st₀.cells (st''.cells.set st₀.cells.length (.list ((out.take i).filterMap id ++ [w]))) := (hg.trans (h2.trans g2)).setA (Nat.le_refl _)
      refine ⟨g1, g2 _ _ (h2 _ _ hacc), hok _ g', g', ?_⟩
      rw [hta hq]; simp
  · obtain ⟨hg, rfl⟩ := hJ
    rw [← hout, List.take_length] at hacc
    exact fin cs hg hacc
end

theorem ns_names {h : Heap} {a : Addr} {m : Str → Option Value} (hn : h.Ns a m) : ∃ l : List Str, ∀ x, x ∉ l → m x = none := by
  obtain ⟨o, es, ep, ho, hd, hk, hf⟩ := hn
  refine ⟨es.toList.filterMap fun e => match e.key with | .str n _ => some n | _ => none, fun x hx => ?_⟩
  rw [← hf x]
  unfold nsFind findBy
  rw [← Array.find?_toList]
  cases q : es.toList.find? (fun e => e.key.isStr x) with
  | none => rfl
  | some e =>
    exfalso
    apply hx
    have h1 := List.mem_of_find?_eq_some q
    have h2 := List.find?_some q
    refine List.mem_filterMap.mpr ⟨e, h1, ?_⟩
    obtain ⟨n, t, hkey⟩ := hk e (by simpa using h1)
    rw [hkey] at h2 ⊢
    have : n = x := by simpa [Value.isStr] using h2
    rw [this]

theorem ownCls {X : Cx} {h : Heap} {x : Str} {C : Addr} {bmB : List Value} {newId : String} (b : Base X.K h) (ex : nsIn X.K mainGlobals x = some (some (.ref C))) (q : excIn X.K C bmB newId = true) : ∃ mg, h.Ns mainGlobals mg ∧ OwnCls x C bmB newId mg h := by
  obtain ⟨mg, hg⟩ := b.g
  obtain ⟨mb, hb, hbm⟩ := b.b
  obtain ⟨l, hl⟩ := ns_names hg
  exact ⟨mg, hg, own_of_in (p := X.prog) (loose := l) (mb := mb) b.X ⟨hg, hb, b.nl, hbm, fun x _ hx _ _ _ => hl x hx⟩ ex q⟩

section
variable (X : Cx) (sc : Scope) (d : Nat)
/-- an own exception was made: what stands then -/
def MadeX (env : Env) (φ : List Addr) (s : Shared) (C : Addr) (Qe : List Cell → Prop) (ev : Value) (s' : Shared) : Prop :=
  ∃ e vs φ' st' s₂, ev = .ref e ∧ Heap.MadeExcOf s₂.heap s'.heap e (.ref C) vs ∧ Step X.fr φ (fAddrs env) s φ' s₂ ∧ Rel X φ' env st' s₂.heap ∧ Qe st'.cells ∧ s' = { s₂ with heap := s'.heap }
def WBX (bs : List Stmt) (st : St) (C : Addr) (Q : AFlow → St → Prop) (Qe : List Cell → Prop) : Prop :=
  ∀ A env φ s, env.scope = sc → Room X d true A → Rel X φ env st s.heap → wpAny (md X) A (execs bs env) (TriP X env φ s FRel Q) (MadeX X env φ s C Qe) s
def WSX (b : Stmt) (st : St) (C : Addr) (Q : AFlow → St → Prop) (Qe : List Cell → Prop) : Prop :=
  ∀ A env φ s, env.scope = sc → Room X d true A → Rel X φ env st s.heap → wpAny (md X) A (exec b env) (TriP X env φ s FRel Q) (MadeX X env φ s C Qe) s
/-- an own exception flies up to the frames of X -/
def FliesX (φ : List Addr) (s : Shared) (C : Addr) (Qe : List Cell → Prop) (ev : Value) (s' : Shared) : Prop :=
  ∃ e t φ' cs' B h₂ L, ev = .ref e ∧ RelC X φ' cs' h₂ ∧ Qe cs' ∧ Step X.fr φ [] s φ' { s' with heap := h₂ } ∧ (∀ b o, h₂.get? b = some o → b ≠ L → b ∉ X.fr → B.get? b = some o) ∧ L ∉ φ' ∧ Free X.K L ∧ s.heap.get? L = none ∧ L ∉ X.fr ∧
    h₂.UpToSlots s'.heap ∧ Heap.FlyingW B X.frs e (.ref C) (.ref t) s'.heap ∧ s.heap.get? e = none
abbrev RetXP (X : Cx) (φ : List Addr) (s : Shared) (C : Addr) (Q : V → List Cell → Prop) (Qe : List Cell → Prop) : Result → Shared → Prop := fun r s' => match r with
    | .ok (.ret v) => TriCP X φ s VRel Q v s'
    | .ok _ => False
    | .error ev => FliesX X φ s C Qe ev s'
def WCX (f : V) (vs : List V) (cs : List Cell) (C : Addr) (Q : V → List Cell → Prop) (Qe : List Cell → Prop) : Prop :=
  ∀ A φ s fv vals, Room X d true A → RelC X φ cs s.heap → VRel φ f fv → All2 (VRel φ) vs vals → codeAny (md X) A (.call fv ⟨vals, []⟩) (RetXP X φ s C Q Qe) s
end

section
variable {X : Cx} {sc : Scope} {d : Nat} {st : St} {C : Addr} {Q : AFlow → St → Prop} {Qe : List Cell → Prop}

theorem MadeX.after {env : Env} {φ φ₁ : List Addr} {s s₁ : Shared} {ev : Value} {s' : Shared} (S : Step X.fr φ (fAddrs env) s φ₁ s₁) (h : MadeX X env φ₁ s₁ C Qe ev s') : MadeX X env φ s C Qe ev s' := by
  obtain ⟨e, vs, φ', st', s₂, rfl, h1, h2, h3, h4, h5⟩ := h
  exact ⟨e, vs, φ', st', s₂, rfl, h1, S.trans h2 h3.f.dis, h3, h4, h5⟩

theorem WBX.nil (q : Q .next st) : WBX X sc d [] st C Q Qe := fun A env φ s he hA R => wpAny_execs_nil (Tri.here .refl R (FRel.next _) q)
theorem WBX.cons {b : Stmt} {bs : List Stmt} (h : WS X sc d true b st fun f st₁ => match f with | .next => WBX X sc d bs st₁ C Q Qe | f => Q f st₁) : WBX X sc d (b :: bs) st C Q Qe := by
  intro A env φ s he hA R
  refine wpAny_execs_cons (Tri.seq (h A env φ s he hA R) fun f s₁ φ₁ r st₁ S₁ R₁ hr h₁ => ?_)
  cases r with
  | next =>
    cases (hr : f = .next)
    exact wpAny_mono (h₁ A env φ₁ s₁ he hA R₁) (fun _ _ ⟨φ₂, r', st₂, S', R', hr', q'⟩ => ⟨φ₂, r', st₂, S₁.trans S' R'.f.dis, R', hr', q'⟩) fun _ _ x => x.after S₁
  | brk => cases (hr : f = .brk); exact Tri.here S₁ R₁ (FRel.brk _) h₁
  | cont => cases (hr : f = .cont); exact Tri.here S₁ R₁ (FRel.cont _) h₁
  | ret v => obtain ⟨u, rfl, hv⟩ := hr; exact Tri.here S₁ R₁ (FRel.ret hv) h₁
theorem WBX.last {b : Stmt} (h : WSX X sc d b st C Q Qe) : WBX X sc d [b] st C Q Qe := by
  intro A env φ s he hA R
  refine wpAny_execs_cons (wpAny_mono (h A env φ s he hA R) (fun f s₁ hf => ?_) fun _ _ x => x)
  obtain ⟨φ₁, r, st₁, S₁, R₁, hr, h₁⟩ := hf
  cases r with
  | next => cases (hr : f = .next); exact wpAny_execs_nil (Tri.here S₁ R₁ (FRel.next _) h₁)
  | brk => cases (hr : f = .brk); exact Tri.here S₁ R₁ (FRel.brk _) h₁
  | cont => cases (hr : f = .cont); exact Tri.here S₁ R₁ (FRel.cont _) h₁
  | ret v => obtain ⟨u, rfl, hv⟩ := hr; exact Tri.here S₁ R₁ (FRel.ret hv) h₁
theorem WSX.ite {test : Expr} {body orelse : List Stmt} {pos : Pos} (h : WT X sc d true test st fun b st₁ => if b = true then WBX X sc d body st₁ C Q Qe else WBX X sc d orelse st₁ C Q Qe) : WSX X sc d (.If test body orelse pos) st C Q Qe := by
  intro A env φ s he hA R
  refine wpAny_If (Tri.seq (h A env φ s he hA R) fun b s₁ φ₁ r st₁ S₁ R₁ hr h₁ => ?_)
  cases (hr : b = r)
  have go : ∀ {bs : List Stmt}, WBX X sc d bs st₁ C Q Qe → wpAny (md X) A (execs bs env) (TriP X env φ s FRel Q) (MadeX X env φ s C Qe) s₁ := fun hb =>
    wpAny_mono (hb A env φ₁ s₁ he hA R₁) (fun _ _ ⟨φ₂, r', st₂, S', R', hr', q'⟩ => ⟨φ₂, r', st₂, S₁.trans S' R'.f.dis, R', hr', q'⟩) fun _ _ x => x.after S₁
  cases b with
  | true => rw [if_pos rfl] at h₁ ⊢; exact go h₁
  | false => rw [if_neg Bool.false_ne_true] at h₁ ⊢; exact go h₁

theorem WE.joined1 {v : Expr} {pos : Pos} {cm : Bool} {Q : V → St → Prop} (h : WE X sc d cm v st Q) : WE X sc d cm (.JoinedStr [v] pos) st Q :=
  fun A env φ s he hA R => JoinedStr_one (h A env φ s he hA R)

theorem WSX.raise {x : Str} {B newId initId : String} {bmB : List Value} {np cpos pos : Pos} {e₀ : Expr} {rest : List Expr} (FB : ExcBaseFacts B newId initId bmB) (hk : sc.names.lookup x = some .globalImplicit) (ex : nsIn X.K mainGlobals x = some (some (.ref C))) (q : excIn X.K C bmB newId = true)
    (h : WEs X sc d true (e₀ :: rest) cpos st fun vs st₁ => vs.length ≤ sizeLine ∧ Qe st₁.cells)
    (hs : ∀ env, starEach (e₀ :: rest) env = (false, eval e₀ env) :: starEach rest env := by intro _; with_unfolding_all rfl) (hp : ∀ env, (backTo cpos (starEach rest env)).any (·.1) = false := by intro _; with_unfolding_all rfl) (hd : (x == ("__debug__" : Str)) = false := by decide) :
    WSX X sc d (.Raise (some (.Call (.Name x np) (e₀ :: rest) [] cpos)) none pos) st C Q Qe := by
  intro A env φ s he hA R
  subst he
  obtain ⟨mg, hg, O⟩ := ownCls R.c.base ex q
  obtain ⟨tl, N, nm, q', bs, hdct, sn, sub, ab, col, dd, k0, k1, k2, k3, k5, mN, hC, hN, hni, T⟩ := O.obj
  refine wpAny_Raise_call_subT (C := C) (nm := nm) (q := q') (N := N) (bs := bs) (bm := tl) (hdct := hdct) (sn := sn) (sub := sub) (ab := ab) (col := col) (dd := dd) (k0 := k0) (k1 := k1) (k2 := k2) (k3 := k3) (k5 := k5)
    FB (mN := mN) (T.hasType FB.hasBase) (hA.calm rfl) (by rw [hs]; show (false || (backTo cpos (starEach rest env)).any (·.1)) = false; rw [hp]; rfl) hni (wpAny_Name ?_ hd)
  rw [loadName_read R.f.kind hk]
  refine Calls.loadGlobal_global (by rw [R.f.glob]; exact hg) O.bound ⟨rfl, ?_⟩
  have hh := h A env φ s rfl hA R
  rw [hs] at hh ⊢
  refine Calls.evalArgs_plain (Tri.seq hh fun vals s₁ φ₁ vs st₁ S₁ R₁ hvs h₁ => ?_)
  obtain ⟨mg1, hg1, O1⟩ := ownCls R₁.c.base ex q
  have keepK : ∀ a o, X.K.lookup a = some o → s.heap.get? a = some o ∧ s₁.heap.get? a = some o := fun a o e => ⟨R.c.base.X a o e, R₁.c.base.X a o e⟩
  obtain ⟨tl1, N1, nm1, q1', bs1, hdct1, sn1, sub1, ab1, col1, dd1, k01, k11, k21, k31, k51, mN1, hC1, hN1, hni1, T1⟩ := O1.obj
  have hCK : ∃ o, X.K.lookup C = some o := by
    unfold excIn at q
    cases hq : X.K.lookup C with
    | none => rw [hq] at q; cases q
    | some o => exact ⟨o, rfl⟩
  obtain ⟨oC, hoC⟩ := hCK
  have e1 := (keepK C oC hoC).1
  have e2 := (keepK C oC hoC).2
  rw [hC] at e1
  have e3 : s₁.heap.get? C = some (excClassObj nm q' C N bs tl hdct sn sub ab col dd k0 k1 k2 k3 k5 newId) := by rw [e2, ← e1]
  have e4 := e3
  rw [hC1] at e4
  injection e4 with e4
  unfold excClassObj at e4
  injection e4 with _ _ e5 _
  injection e5 with e5
  injection e5 with _ _ e6 e7
  injection e6 with _ e6
  have hmN : mN1 "__init__" = none := hni1
  refine ⟨rfl, by rw [← hvs.length]; exact h₁.1, e3, ?_, ?_, fun h' e hx => ⟨e, vals, φ₁, st₁, s₁, rfl, hx, S₁, R₁, h₁.2, rfl⟩⟩
  · refine hN.at' fun o eo => ?_
    have hNK : ∃ oN, X.K.lookup N = some oN := by
      unfold excIn at q
      rw [hoC] at q
      have e8 : oC = excClassObj nm q' C N bs tl hdct sn sub ab col dd k0 k1 k2 k3 k5 newId := by injection e1 with e1; exact e1.symm
      subst e8
      unfold excClassObj at q
      simp only [Bool.and_eq_true] at q
      have hn := q.1.2
      unfold nsOkIn at hn
      cases hq : X.K.lookup N with
      | none => rw [hq] at hn; cases hn
      | some o => exact ⟨o, rfl⟩
    obtain ⟨oN, hoN⟩ := hNK
    have h1 := (keepK N oN hoN).1
    rw [eo] at h1; injection h1 with h1; subst h1
    exact (keepK N o hoN).2
  · rw [← e6]; exact T1

theorem Step.called {env : Env} {φ φ₂ : List Addr} {s s₂ : Shared} {h' : Heap} {tk : Nat} (S₂ : Step (X.push env).fr φ (fAddrs env) { s with heap := h', toks := tk } φ₂ s₂) (hfrm : env.frame = some env.locals) (hkeep : ∀ b o, s.heap.get? b = some o → h'.get? b = some o) (hfa : ∀ a ∈ fAddrs env, s.heap.get? a = none) : Step X.fr φ [] s φ₂ s₂ := by
  have hnf : ∀ b o, s.heap.get? b = some o → b ∉ fAddrs env := fun b o e hm => by rw [hfa b hm] at e; cases e
  refine ⟨⟨S₂.sh.1, S₂.sh.2.1, S₂.sh.2.2⟩, S₂.pre, fun b o e hb _ hfr' => S₂.keep b o (hkeep b o e) hb (hnf b o e) fun hm => ?_, fun b o e hb _ => S₂.slots b o (hkeep b o e) hb (hnf b o e), fun a ha hn => ?_⟩
  · unfold Cx.fr Cx.push at hm
    rw [List.filterMap_cons, hfrm] at hm
    rcases List.mem_cons.mp hm with z | hm
    · exact hnf b o e (z ▸ .head _)
    · exact hfr' hm
  · cases e : s.heap.get? a with
    | none => rfl
    | some o => have := S₂.fresh a ha hn; rw [hkeep a o e] at this; cases this

/-- a call enters a def's frame: what stands there -/
theorem enter_raw {cm : Bool} {cs : List Cell} {f : Addr} {fd : FuncData} {body : List Stmt} {ps : List Str} {vs : List V} {A : Around} {φ : List Addr} {s : Shared} {vals : List Value} {E : Value → Shared → Prop} {RR : Result → Shared → Prop} (hA : Room X (d + 1) cm A) (R : RelC X φ cs s.heap) (hv : All2 (VRel φ) vs vals)
    (hfix : fd.globals = mainGlobals ∧ fd.builtins = builtinsNs ∧ fd.closure = []) (hloc : (ps.all fun x => decide (fd.scope.names.lookup x = some .local) || decide (fd.scope.names.lookup x = some .cell)) = true) (hnd : ps.Nodup) (hnames : (fd.scope.names.map (·.1)).Nodup)
    (hflag : fd.scope.isCoroutine = false ∧ fd.scope.isGenerator = false ∧ fd.scope.kind = .function)
    (h : ∀ env h' tk, env.scope = fd.scope → env.frame = some env.locals → Room (X.push env) d cm (A.deeper env) → Rel (X.push env) φ env ⟨cs, ps.zip vs⟩ h' → (∀ b o, s.heap.get? b = some o → h'.get? b = some o) → (∀ a ∈ fAddrs env, s.heap.get? a = none) →
      wpAny (md X) (A.deeper env) (execs body env) (fun f s' => RR (.ok (.ret (match f with | .ret v => v | _ => .none))) s') (fun e s' => wpAny (md X) (A.deeper env) (leaving env e) (fun _ s'' => RR (.error e) s'') (fun e' s'' => RR (.error e') s'') s') { s with heap := h', toks := tk }) :
    wpAny (md X) A.in1 (newFunctionEnv fd.scope fd.globals [] (ps.zip vals) (fd.qualname ++ ".<locals>.") (some f) fd.code none fd.builtins) (fun env s₂ => s₂.heap.NoLimit ∧ codeAny (md X) A (.func body env) RR s₂) E s := by
  have hkind : ∀ x, fd.scope.names.lookup x = some .cell → ((cellsFrom (s.heap.objs.size + 1) fd.scope.names []).lookup x).isSome = true := fun x hx => cells_has x _ _ _ (.inl (mem_of_lookup hx))
  refine wpAny_newFunctionEnv_cells hflag.2.2 (fun x hx => ?_) fun env he s₁ C => ⟨R.base.nl.keeps C.toInCall.keep, codeAny_func ?_⟩
  · have hm : x.1 ∈ ps := (List.of_mem_zip (a := x.1) (b := x.2) hx).1
    have := List.all_eq_true.mp hloc x.1 hm
    rcases Bool.or_eq_true _ _ |>.mp this with e | e
    · exact .inl (of_decide_eq_true e)
    · exact .inr ⟨of_decide_eq_true e, hkind _ (of_decide_eq_true e)⟩
  · have hscope : env.scope = fd.scope := by rw [he]; rfl
    have hcells : env.cells = cellsFrom (s.heap.objs.size + 1) fd.scope.names [] := by rw [he]; rfl
    have hgl : env.globals = fd.globals := by rw [he]; rfl
    have hbl : env.builtins = fd.builtins := by rw [he]; rfl
    obtain ⟨⟨⟨h', tk, rfl⟩, hns, hkeep, hfr⟩, hcel, hap, hab⟩ := C
    dsimp only at hns hkeep hcel
    have hnone : ∀ a, s.heap.objs.size ≤ a → s.heap.get? a = none := fun a ha => by
      cases q : s.heap.get? a with
      | none => rfl
      | some o => exact absurd (Heap.lt_size q) (Nat.not_lt.mpr ha)
    have hge : ∀ a ∈ fAddrs env, s.heap.objs.size ≤ a := fun a ha => by
      rcases List.mem_cons.mp ha with e | ha
      · rw [e]; exact hfr
      · obtain ⟨⟨n, c⟩, hm, rfl⟩ := List.mem_map.mp ha
        exact Nat.le_of_lt (Nat.lt_of_le_of_lt hfr (hab n c hm))
    have hfa : ∀ a ∈ fAddrs env, s.heap.get? a = none := fun a ha => hnone a (hge a ha)
    have hkeys : (env.cells.map (·.1)).Nodup := by
      rw [hcells, cellsFrom_keys]
      simp only [List.map_nil, List.append_nil]
      rw [List.nodup_iff_pairwise_ne, List.pairwise_reverse]
      exact List.Pairwise.imp (fun h => Ne.symm h) (List.nodup_iff_pairwise_ne.mp (hnames.sublist (List.filter_sublist.map _)))
    have hex : ∀ a ∈ fAddrs env, ∃ o, h'.get? a = some o := fun a ha => by
      rcases List.mem_cons.mp ha with e | ha
      · obtain ⟨o, _, _, ho, _⟩ := hns; exact ⟨o, e ▸ ho⟩
      · obtain ⟨⟨n, c⟩, hm, rfl⟩ := List.mem_map.mp ha
        obtain ⟨o, ho, _⟩ := hcel n c (lookup_of_nodup hkeys hm)
        exact ⟨o, ho⟩
    have hfrm : env.frame = some env.locals := by rw [he]; rfl
    have hdis : ∀ a ∈ fAddrs env, a ∉ φ := fun a ha hm => by
      obtain ⟨o, e⟩ := R.ex a hm
      rw [hfa a ha] at e; cases e
    have RC : RelC (X.push env) φ cs h' := by
      have R0 : RelC X φ cs h' := R.ext hkeep
      refine ⟨R0.base, R0.len, R0.nd, R0.low, fun l c hc => let ⟨a, o, e1, e2, e3⟩ := R0.cell l c hc; ⟨a, o, e1, e2, isPush.mpr e3⟩, fun env' he' => ?_⟩
      rcases List.mem_cons.mp he' with rfl | he'
      · obtain ⟨o, es, ep, ho, hd, _⟩ := hns
        exact ⟨by rw [hscope, hflag.2.2]; decide, env'.locals, o, hfrm, hdis _ (.head _), R.base.free (hfa _ (.head _)) (R.base.above (hge _ (.head _))), ho, fun vs q => by rw [hd] at q; cases q⟩
      · exact R0.frs env' he'
    have F : FrOk (X.push env) φ env (ps.zip vs) h' := by
      refine ⟨by rw [hscope]; exact hflag.2.2, by rw [hgl]; exact hfix.1, by rw [hbl]; exact hfix.2.1, fun a ha => ⟨hdis a ha, R.base.free (hfa a ha) (R.base.above (hge a ha))⟩, ?_, hex, ⟨_, hns, fun x hx => ?_⟩, fun x hx => ?_, fun _ => ⟨⟨_, rfl⟩, hfrm⟩⟩
      · refine List.nodup_cons.mpr ⟨fun hm => ?_, ?_⟩
        · obtain ⟨⟨n, c⟩, hm, e⟩ := List.mem_map.mp hm
          exact absurd (hab n c hm) (by rw [show c = env.locals from e]; exact Nat.lt_irrefl _)
        · rw [List.nodup_iff_pairwise_ne]; exact List.pairwise_map.mpr hap
      · have := bindL_rel (φ := φ) (kind := env.kindOf) (m := fun _ => none) (r := none) hx hv hnd trivial
        simpa using this
      · have hx' : fd.scope.names.lookup x = some .cell := hscope ▸ hx
        obtain ⟨ca, hca⟩ := Option.isSome_iff_exists.mp (hkind x hx')
        refine ⟨ca, _, hcells ▸ hca, hcel x ca (hcells ▸ hca), ?_⟩
        have := bindC_rel (φ := φ) (kind := env.kindOf) (m := fun _ => none) (r := none) (by rw [hx]; decide) hv hnd trivial
        simpa using this
    exact h env h' tk hscope hfrm (hA.deeper env) ⟨RC, F⟩ hkeep hfa

/-- a call of a def whose body may raise an own exception -/
theorem WCX.fn {cs : List Cell} {Q : V → List Cell → Prop} {f : Addr} {o : Obj} {fd : FuncData} {sc : Scope} {body : List Stmt} {ps : List Str} {vs : List V} (hK : X.K.lookup f = some o) (hd : o.data = .func fd) (hsc : fd.scope = sc) (hbody : fd.body = .stmts body)
    (hps : fd.params.args.map (·.arg) = ps) (hfix : fd.globals = mainGlobals ∧ fd.builtins = builtinsNs ∧ fd.closure = []) (hcode : codeIn X.K fd.code fd.qualname = true)
    (hb : ∀ vals : List Value, vals.length = vs.length → bindArgs fd ⟨vals, []⟩ = pure (ps.zip vals)) (hloc : (ps.all fun x => decide (sc.names.lookup x = some .local) || decide (sc.names.lookup x = some .cell)) = true) (hnd : ps.Nodup) (hnames : (sc.names.map (·.1)).Nodup)
    (hflag : sc.isCoroutine = false ∧ sc.isGenerator = false ∧ sc.kind = .function) (hnc : sc.names.lookup (".0" : Str) = none)
    (h : ∀ env, WBX (X.push env) sc d body ⟨cs, ps.zip vs⟩ C (fun fl st' => Q (retOf fl) st'.cells) Qe) : WCX X (d + 1) (.val (.ref f)) vs cs C Q Qe := by
  intro A φ s fv vals hA R hf hv
  cases (hf : fv = .ref f)
  subst hsc
  refine codeAny_call_function (by have := hA.depth; show A.depth < 1000; omega) (R.base.X f o hK) hd hflag.1 hflag.2.1 hbody (codeRec_of R.base.X hcode) ?_
  rw [hb vals hv.length.symm, hfix.2.2]
  refine wpAny_pure (enter_raw hA R hv hfix hloc hnd hnames hflag fun env h' tk hscope hfrm hroom R1 hkeep hfa => ?_)
  refine wpAny_mono (h env (A.deeper env) env φ { s with heap := h', toks := tk } hscope hroom R1) (fun fl s₂ hq => ?_) fun ev s₃ hx => ?_
  · obtain ⟨φ₂, r, st₂, S₂, R₂, hr, q⟩ := hq
    refine ⟨φ₂, retOf r, st₂.cells, Step.called S₂ hfrm hkeep hfa, RelC.pop R₂.c, ?_, q⟩
    cases r with
    | next => cases (hr : fl = .next); exact VRel.none _
    | brk => cases (hr : fl = .brk); exact VRel.none _
    | cont => cases (hr : fl = .cont); exact VRel.none _
    | ret v => obtain ⟨u, rfl, hv'⟩ := hr; exact hv'
  · obtain ⟨e, ws, φ₂, st₂, s₂, rfl, hx, S₂, R₂, hq, hs3⟩ := hx
    have hfr : (A.deeper env).frames = some (env :: X.frs) := hroom.frames
    have hFF : s₂.heap.FunFrames (hideAll s₂.heap (env.locals :: X.fr)) (env :: X.frs) := by
      have := frames_hide R₂.c.frs []
      have e0 : [] ++ (X.push env).fr = env.locals :: X.fr := by
        show (env :: X.frs).filterMap (·.frame) = _
        rw [List.filterMap_cons, hfrm]; rfl
      rw [e0] at this; exact this
    have hLf := R₂.f.fa env.locals (.head _)
    refine wpAny_leaves_madeW (base := hideAll s₂.heap (env.locals :: X.fr)) hfr hfrm (fun b o q => of_hideAll _ q) hFF hx fun h4 t hfl htup htn hup => ?_
    have hen : s.heap.get? e = none := by
      cases q : s.heap.get? e with
      | none => rfl
      | some ob =>
        have h1 : e ∉ fAddrs env := fun hm => by rw [hfa e hm] at q; cases q
        have h2 : e ∉ φ := fun hm => by
          obtain ⟨o', e'⟩ := R₂.c.ex e (S₂.pre.subset hm)
          rw [hx.new] at e'; cases e'
        obtain ⟨sl, this⟩ := S₂.slots e ob (hkeep e ob q) h2 h1
        rw [hx.new] at this; cases this
    have S3 := Step.called S₂ hfrm hkeep hfa
    refine ⟨e, t, φ₂, st₂.cells, hideAll s₂.heap (env.locals :: X.fr), s₂.heap, env.locals, rfl, RelC.pop R₂.c, hq, ?_, fun b o eb hb hbf => hideAll_get _ eb (fun hm => (List.mem_cons.mp hm).elim hb hbf), hLf.1, hLf.2, hfa _ (.head _), fun hm => ?_, (Heap.UpToSlots.of_keeps hx.keeps).trans hup, hfl, hen⟩
    · rw [hs3]; exact S3
    · obtain ⟨_, _, o', e', _⟩ := R.frs.mem hm
      rw [hfa _ (.head _)] at e'; cases e'

theorem of_hide {h : Heap} {l : List Addr} {b : Addr} {o : Obj} (e : (hideAll h l).get? b = some o) : h.get? b = some o ∧ b ∉ l := by
  refine ⟨of_hideAll _ e, fun hm => ?_⟩
  rw [hideAll_none _ hm] at e; cases e

/-- try: o.name() except X: suite, the exception comes out of the callee -/
theorem WS.tryMeth {o : Expr} {name x : Str} {newId : String} {bmB : List Value} {ap p1 p2 np hp pos : Pos} {b₀ : Stmt} {suite : List Stmt} (hnc : sc.names.lookup (".0" : Str) = none) (hk : sc.names.lookup x = some .globalImplicit) (ex : nsIn X.K mainGlobals x = some (some (.ref C))) (q : excIn X.K C bmB newId = true) (hbase : bmB.contains (.type "BaseException") = true)
    (h : WE X sc d true o st fun ov st₁ => ∃ f, MethF X ov name st₁.cells f ∧ keepIn X.K (.ref f) = true ∧ WCX X d (.val (.ref f)) [ov] st₁.cells C (fun r cs => Q .next ⟨cs, st₁.vars⟩) (fun cs => WB X sc d false (b₀ :: suite) ⟨cs, st₁.vars⟩ Q))
    {pl : Env → Sem Bool} (he : ∀ env, eval (.Call (.Attribute o name ap) [] [] p1) env = (do let ov ← eval o env; standAt ap.atName; let (f, first) ← holding [ov] (getMethod ov name (pl env)); callWith p1 f first (backTo p1 (starEach [] env)) []) := by intro _; with_unfolding_all rfl)
    (hi : ∀ env : Env, env.scope.kind = .function → interactive env = false := by intro _ h; simp [interactive, h]) (hs : ∀ env : Env, swapsWith (.Call (.Attribute o name ap) [] [] p1) none p2.line env = pure false := by intro _; with_unfolding_all rfl) (hd : (x == ("__debug__" : Str)) = false := by decide) :
    WS X sc d true (.Try [.Expr (.Call (.Attribute o name ap) [] [] p1) p2] [.ExceptHandler (some (.Name x np)) none (b₀ :: suite) hp] [] [] pos) st Q := by
  intro A env φ s hsc hA R
  subst hsc
  obtain ⟨⟨outer, hfrs⟩, hframe⟩ := R.f.top hnc
  refine wpAny_Try_except (wpAny_execs_cons ?_)
  rw [exec_Expr env _ _ (hi env R.f.kind) (hs env)]
  refine wpAny_bind (wpAny_standAt (wpAny_bind (MethodCall_ (pl := pl env) (Tri.seq (h A env φ s rfl hA R) fun ov s₁ φ₁ r st₁ S₁ R₁ hr h₁ => ?_) (he env))))
  obtain ⟨f, hm, hkp, h₁⟩ := h₁
  refine hm A φ₁ s₁ ov _ _ _ R₁.c hr ?_
  refine callWith_K0 R₁.c.base.X hkp (wpAny_call (codeAny_mono (h₁ A φ₁ s₁ (.ref f) [ov] hA R₁.c rfl ⟨hr, trivial⟩) fun res s₂ hres => ?_))
  rcases res with ev | (_ | _ | _ | v) <;> try exact hres.elim
  · obtain ⟨e, t, φ₂, cs₂, B, h₂, L, rfl, C₂, hq, S₂, hB, hL1, hL2, hL3, hL4, hup, hfl, hen⟩ := hres
    have S₂' : Step X.fr φ₁ [] s₁ φ₂ { s₂ with heap := h₂ } := S₂
    have R₂ : Rel X φ₂ env ⟨cs₂, st₁.vars⟩ h₂ := ⟨C₂, R₁.f.step S₂'⟩
    have S₀₂ : Step X.fr φ (fAddrs env) s φ₂ { s₂ with heap := h₂ } := S₁.trans S₂'.widen R₂.f.dis
    have hLf : L ∉ fAddrs env := fun hm' => by obtain ⟨o', e'⟩ := R₁.f.ex L hm'; rw [hL3] at e'; cases e'
    have hap : ∀ b ∈ [L], Apart X φ₂ env b := fun b hb => by rw [List.mem_singleton.mp hb]; exact ⟨hL1, hL4, hLf, hL2⟩
    have hL0 : ∀ b ∈ [L], s.heap.get? b = none := fun b hb => by
      rw [List.mem_singleton.mp hb]
      cases qL : s.heap.get? L with
      | none => rfl
      | some ob => obtain ⟨sl, this⟩ := S₁.slots L ob qL (fun hm' => hL1 (S₂'.pre.subset (S₁.pre.subset hm'))) hLf; rw [hL3] at this; cases this
    have stay : ∀ {h' : Heap}, B.StaysIn h' → (hideAll h₂ ([L] ++ X.fr)).StaysIn h' := fun hst b o eb => by
      obtain ⟨e1, e2⟩ := of_hide eb
      exact hst b o (hB b o e1 (fun z => e2 (by simp [z])) fun hm' => e2 (List.mem_append_right _ hm'))
    have hfr : A.frames = some (env :: outer) := by rw [hA.frames, hfrs]
    rw [hfrs] at hfl
    refine wpAny_looks_onW hfr hframe hfl fun h₄ hheld₄ hsm₄ => ?_
    refine wpAny_landsW hheld₄ fun h₅ hheld hsm₅' => ?_
    have hsm₅ := hup.trans (hsm₄.trans hsm₅')
    have R₅ := R₂.exc hap (stay hheld.1) hsm₅
    obtain ⟨ob, hob, hobc⟩ := hheld.there
    obtain ⟨mg, hg, O⟩ := ownCls R₅.c.base ex q
    refine wpAny_handleBy_cons (codeAny_handlers_test (wpAny_Name ?_ hd)) (by intro z; cases z)
    rw [loadName_read R₅.f.kind hk]
    refine Calls.loadGlobal_global (by rw [R₅.f.glob]; exact hg) O.bound ?_
    obtain ⟨bm, N, nm, qn, bs, hdct, sn, sub, ab, col, dd, k0, k1, k2, k3, k5, mN, hC, hN, hni, TL⟩ := O.obj
    refine wpAny_excMatches_sub_self hC hob hobc (TL.hasType hbase) (codeAny_handlers_suite ?_)
    refine lands_againW hheld fun h₆ hfl₆ hsm₆ => ?_
    have u₆ := hsm₅.trans hsm₆
    have R₆ := R₂.exc hap (stay hfl₆.1) u₆
    have S₆ := S₀₂.exc C₂.frs hL0 (stay hfl₆.1) u₆
    exact wpAny_mono (hq _ env φ₂ { s₂ with heap := h₆ } rfl hA.mark R₆) (fun f s' ⟨φ', r, st', S', R', hr', q'⟩ => ⟨φ', r, st', S₆.trans S' R'.f.dis, R', hr', q'⟩) fun _ _ z => z.elim
  · obtain ⟨φ₂, r₂, cs₂, S₂, C₂, hv, hq⟩ := hres
    have R₂ : Rel X φ₂ env ⟨cs₂, st₁.vars⟩ s₂.heap := ⟨C₂, R₁.f.step S₂⟩
    refine wpAny_dropValue ?_
    show wpAny _ A (execs [] env) _ _ s₂
    exact wpAny_execs_nil (wpAny_execs_nil (Tri.here (S₁.trans S₂.widen R₂.f.dis) R₂ (FRel.next _) hq))
end

section
variable {X : Cx} {sc : Scope} {d : Nat} {cm : Bool} {st : St} {cs : List Cell} {Q : V → List Cell → Prop}

theorem MethB.str {x name : Str} {id : String} (slot : Slot "str" name id) (hty : typeOf (.builtin id) = pure (.type "method_descriptor")) : MethB X (.str x) name cs id := by
  rintro A φ s v pl P E R ⟨t, rfl⟩ hp
  exact getMethod_builtin (typeIs_str _ _ _) F.plainAttrs_str slot hty (fun b e => by cases e) hp

theorem WCV.startswith {x y : Str} (q : Q (.bool (Txt.startswith x y)) cs) : WCV X d cm (.val (.builtin "str.startswith")) [.str x, .str y] cs Q := by
  intro A φ s fv vals hA R hf hv
  cases (hf : fv = _)
  obtain ⟨_, _, rfl, ⟨t, rfl⟩, ⟨u, rfl⟩⟩ := all2_two hv
  exact SC.startswith (TriC.ret0 R (VRel.bool _ _) q)
theorem WCV.endswith {x y : Str} (q : Q (.bool (Txt.endswith x y)) cs) : WCV X d cm (.val (.builtin "str.endswith")) [.str x, .str y] cs Q := by
  intro A φ s fv vals hA R hf hv
  cases (hf : fv = _)
  obtain ⟨_, _, rfl, ⟨t, rfl⟩, ⟨u, rfl⟩⟩ := all2_two hv
  exact SC.endswith (TriC.ret0 R (VRel.bool _ _) q)
theorem WCV.rfind {x y : Str} (q : Q (.int (Txt.rfind x y)) cs) : WCV X d cm (.val (.builtin "str.rfind")) [.str x, .str y] cs Q := by
  intro A φ s fv vals hA R hf hv
  cases (hf : fv = _)
  obtain ⟨_, _, rfl, ⟨t, rfl⟩, ⟨u, rfl⟩⟩ := all2_two hv
  exact SC.rfind (TriC.ret R (VRel.int _ _ _) q)

open Builtin Builtin.Str in
theorem gives_find4 (x y : Str) (i j : Nat) (t u v z : Tok) : Gives («str.find» ⟨[.str x t, .str y u, .int i v, .int j z], []⟩) (.int (match occurrences x y i (min j x.length) 1 with | k :: _ => (k : Int) | [] => -1)) := by
  have e : ∀ k : Nat, (max 0 (if ((k : Nat) : Int) < 0 then (k : Int) + x.length else (k : Int))).toNat = k := fun k => by
    rw [if_neg (by omega)]; omega
  show Gives (match occurrences x y (max 0 (if ((i : Nat) : Int) < 0 then (i : Int) + x.length else (i : Int))).toNat (min (max 0 (if ((j : Nat) : Int) < 0 then (j : Int) + x.length else (j : Int))).toNat x.length) 1 with | k :: _ => retInt k | [] => (do rule "str.find.not-found"; retInt (-1))) _
  rw [e, e]
  cases occurrences x y i (min j x.length) 1 with
  | nil => exact .rule (.of_eq rfl)
  | cons k _ => exact .of_eq rfl

def find4 (x y : Str) (i j : Nat) : Int := match Builtin.Str.occurrences x y i (min j x.length) 1 with | k :: _ => (k : Int) | [] => -1

theorem WCV.find4 {x y : Str} {i j : Nat} (q : Q (.int (find4 x y i j)) cs) : WCV X d cm (.val (.builtin "str.find")) [.str x, .str y, .int i, .int j] cs Q := by
  intro A φ s fv vals hA R hf hv
  cases (hf : fv = _)
  match vals, hv with
  | [_, _, _, _], ⟨⟨t, rfl⟩, ⟨u, rfl⟩, ⟨v, rfl⟩, ⟨z, rfl⟩, _⟩ =>
    exact call_gives F.slot_str_find (typeIs_str _ _ _) F.entry_str_find (F.args_str_find_4 _ _ _ _) (gives_find4 x y i j t u v z) (TriC.ret R (VRel.int _ _ _) q)
  | [], h => exact h.elim
  | [_], h => exact h.2.elim
  | [_, _], h => exact h.2.2.elim
  | [_, _, _], h => exact h.2.2.2.elim
  | _ :: _ :: _ :: _ :: _ :: _, h => exact h.2.2.2.2.elim

theorem strsFrom_rel {φ : List Addr} : ∀ {ys : List Str} {k : Nat}, All2 (VRel φ) (ys.map .str) (strsFrom k ys)
  | [], _ => trivial
  | y :: ys, k => ⟨VRel.str _ _ _, strsFrom_rel⟩

theorem WCV.split {x y : Str} (hy : (y.length == 0) = false) (hz : x.length < 100000) (hz2 : (Builtin.Str.partsBetween x (Builtin.Str.occurrences x y 0 x.length (x.length + 1)) y.length).length < 1000000) (q : Q (.ref cs.length) (cs ++ [.list ((Txt.split x y).map .str)])) : WCV X d cm (.val (.builtin "str.split")) [.str x, .str y] cs Q := by
  intro A φ s fv vals hA R hf hv
  cases (hf : fv = _)
  obtain ⟨_, _, rfl, ⟨t, rfl⟩, ⟨u, rfl⟩⟩ := all2_two hv
  have one : Txt.split x y = [x] → ∀ tk, TriCP X φ s VRel Q (.ref s.heap.objs.size) { s with heap := s.heap.push { cls := .type "list", data := .seq [Value.str x t].toArray }, toks := tk } := fun e tk =>
    TriC.new (α := Unit) (c := .list ((Txt.split x y).map .str)) (o := lstOf [Value.str x t].toArray 0) R rfl (Cell.isList (by rw [e]; exact ⟨VRel.str _ _ _, trivial⟩)) q
  cases h1 : (decide (x.length < y.length) || decide (Builtin.Str.strKind x < Builtin.Str.strKind y))
  · cases hf : (Builtin.Str.occurrences x y 0 x.length (x.length + 1)).isEmpty
    · refine call_meets F.slot_str_split (typeIs_str _ _ _) F.entry_str_split (F.args_str_split_2 _ _) (meets_str_split_sep x y t u h1 hy hf (by rw [sizeLine_eq]; omega) (by rw [sizeLine_eq]; omega)) ?_
      have e : Txt.split x y = Builtin.Str.partsBetween x (Builtin.Str.occurrences x y 0 x.length (x.length + 1)) y.length := (if_neg (ne_true_of_eq_false h1)).trans (if_neg (ne_true_of_eq_false hf))
      exact TriC.new (α := Unit) (c := .list ((Txt.split x y).map .str)) (o := lstOf (strsFrom s.toks (Builtin.Str.partsBetween x (Builtin.Str.occurrences x y 0 x.length (x.length + 1)) y.length)).toArray 0) R rfl (Cell.isList (by rw [e]; exact strsFrom_rel)) q
    · exact call_meets F.slot_str_split (typeIs_str _ _ _) F.entry_str_split (F.args_str_split_2 _ _) (meets_str_split_not_found x y t u h1 hy hf) (one ((if_neg (ne_true_of_eq_false h1)).trans (if_pos hf)) s.toks)
  · exact call_meets F.slot_str_split (typeIs_str _ _ _) F.entry_str_split (F.args_str_split_2 _ _) (meets_str_split_cannot_occur x y t u h1) (one (if_pos h1) s.toks)

theorem strs_are {φ : List Addr} : ∀ {ys : List Str} {vs : List Value}, All2 (VRel φ) (ys.map .str) vs → StrsAre vs ys
  | [], [], _ => .nil
  | y :: ys, _ :: _, ⟨⟨t, rfl⟩, h⟩ => .cons y t (strs_are h)
  | [], _ :: _, h => h.elim
  | _ :: _, [], h => h.elim

theorem W2.inList {l : Nat} {ys : List Str} {x : Str} (hl : cs[l]? = some (.list (ys.map .str))) (q : Q (.bool (ys.contains x)) cs) : W2 X d cm (compareOp .In) (.str x) (.ref l) cs Q := by
  rintro A φ s va vb hA R ⟨t, rfl⟩ ⟨a, ha, rfl⟩
  obtain ⟨vs, n, e, hr⟩ := list_at R hl ha
  refine in_list_strs (vs := vs.toList) ⟨_, e, rfl, n, by simp⟩ (strs_are hr) ?_
  have : (ys.any (· == x)) = ys.contains x := by
    rw [Bool.eq_iff_iff]; simp [List.contains_iff_mem]
  rw [this]; exact TriC.ret0 R (VRel.bool _ _) q
theorem W2.notInStr {x y : Str} (q : Q (.bool (!Txt.contains x y)) cs) : W2 X d cm (compareOp .NotIn) (.str y) (.str x) cs Q := by
  rintro A φ s va vb hA R ⟨t, rfl⟩ ⟨u, rfl⟩; exact SB.notContains (TriC.ret0 R (VRel.bool _ _) q)
end

theorem entry_vi : entryFor table "dict_valueiterator.__iter__" = some Builtin.«dict_keyiterator.__iter__» := PySem.entry_dict_valueiterator_iter
section
variable {X : Cx} {sc : Scope} {d : Nat} {cm : Bool} {st : St} {cs : List Cell} {Q : V → List Cell → Prop}

/-- dict.values() -/
def valsOf (l : Nat) : Cell := .pred fun φ o => ∃ a, φ[l]? = some a ∧ o = { cls := .type "dict_values", data := .fields #[.ref a] }
theorem WCV.dictValues {l ep : Nat} {kvs : List (Str × V)} (hl : cs[l]? = some (.dict kvs ep)) (q : Q (.ref cs.length) (cs ++ [valsOf l])) : WCV X d cm (.val (.builtin "dict.values")) [.ref l] cs Q := by
  intro A φ s fv vals hA R hf hv
  cases (hf : fv = _)
  obtain ⟨_, rfl, a, ha, rfl⟩ := all2_one hv
  obtain ⟨kvs', hd, hr, hs⟩ := dict_at R hl ha
  refine call_meetsIn F.slot_dict_values hd.dictOf.typeIs F.entry_dict_values (F.args_dict_values_1 _) (meets_dict_values (strKind X.prog X.w) a hs) ⟨⟨_, hd.dictOf⟩, ?_⟩
  exact TriC.new (α := Unit) (tk := s.toks) (c := valsOf l) R rfl ⟨_, List.prefix_refl _, a, get_of_prefix (List.prefix_append _ _) ha, rfl⟩ q

theorem vals_at {φ : List Addr} {h : Heap} {v l : Nat} {a : Addr} (R : RelC X φ cs h) (hl : cs[v]? = some (valsOf l)) (ha : φ[v]? = some a) : ∃ b, φ[l]? = some b ∧ h.IsValuesView a b := by
  obtain ⟨a', o, e1, e2, φ₀, hp, b, hb, rfl⟩ := R.cell v _ hl
  rw [ha] at e1; cases e1
  exact ⟨b, get_of_prefix hp hb, _, e2, rfl, rfl⟩

def Iter.vals (X : Cx) (v l : Nat) (kvs : List (Str × V)) (ep : Nat) : Iter X (.ref v) (fun cs => cs[v]? = some (valsOf l) ∧ cs[l]? = some (.dict kvs ep)) (kvs.map (·.2)) where
  At φ i o := ∃ a, φ[l]? = some a ∧ o.cls = .type "dict_valueiterator" ∧ o.data = .fields #[.ref a, .int i 0, .int kvs.length 0, .int ep 0]
  mono _ _ _ _ := fun ⟨a, e, r⟩ p => ⟨a, get_of_prefix p e, r⟩
  start A φ s vv cs P E R hok hv k := by
    obtain ⟨a, ha, rfl⟩ := hv
    obtain ⟨b, hb, hview⟩ := vals_at R hok.1 ha
    obtain ⟨kvs', hd, hr, hs⟩ := dict_at R hok.2 hb
    refine wpAny_pyIter_values hview hd (k _ _ ⟨b, hb, rfl, ?_⟩ rfl)
    rw [hr.length]; rfl
  again A φ s I o cs P E R ho hat hp := by
    obtain ⟨a, ha, h1, h2⟩ := hat
    have hT : s.TypeIs (.ref I) "dict_valueiterator" := ⟨o, ho, h1⟩
    refine wpAny_pyIter_slot hT F.slot_dict_valueiterator_iter (wpAny_call_entry F.slot_dict_valueiterator_iter hT entry_vi ?_ (F.args_dict_valueiterator_iter_1 _))
    show wpAny _ _ (ret (.ref I)) _ _ s
    exact wpAny_pure ⟨_, rfl, "dict_valueiterator", _, hT, F.slot_dict_valueiterator_next.lookup, hp⟩
  item A φ s I o i cs r P E R hok hI ho hat hr k := by
    obtain ⟨a, ha, h1, h2⟩ := hat
    obtain ⟨kvs', hd, hr', hs⟩ := dict_at R hok.2 ha
    rw [List.getElem?_map] at hr
    obtain ⟨p, hp, rfl⟩ := Option.map_eq_some_iff.mp hr
    obtain ⟨q, hq, hpq⟩ := hr'.get hp
    refine wpAny_pyNext_values_item (it := I) (d := a) (i := i) (ep := ep) (kvs := kvs') (k := q.1) (v := q.2) ⟨o, ho, h1, by rw [← hr'.length]; exact h2⟩ hd hq fun h' hit hsb => ?_
    obtain ⟨o', e', h1', h2'⟩ := hit
    exact k _ h' o' _ hpq.2 e' ⟨a, ha, h1', by rw [hr'.length]; exact h2'⟩ hsb.extBut
  done A φ s I o cs P E hh R hok hI ho hat k := by
    obtain ⟨a, ha, h1, h2⟩ := hat
    obtain ⟨kvs', hd, hr', hs⟩ := dict_at R hok.2 ha
    rw [List.length_map] at h2
    exact wpAny_pyNext_values_end (it := I) (d := a) (i := kvs.length) (ep := ep) (kvs := kvs') hh ⟨o, ho, h1, by rw [← hr'.length]; exact h2⟩ hd hr'.none fun h' he => k h' _ he

/-- range(a, b) -/
def rangeOf (a b : Int) : Cell := .pred fun _ o => ∃ t u v, o = { cls := .type "range", dict := none, data := .fields #[.int a t, .int b u, .int 1 v], slots := #[] }
theorem WCV.range2 {a b : Int} (q : Q (.ref cs.length) (cs ++ [rangeOf a b])) : WCV X d cm (.val (.type "range")) [.int a, .int b] cs Q := by
  intro A φ s fv vals hA R hf hv
  cases (hf : fv = _)
  obtain ⟨_, _, rfl, ⟨t, rfl⟩, ⟨u, rfl⟩⟩ := all2_two hv
  exact call_range_2 (TriC.new (α := Unit) (c := rangeOf a b) R rfl ⟨_, List.prefix_refl _, _, _, _, rfl⟩ q)

def rangeList (a b : Int) : List V := (List.range (b - a).toNat).map fun (i : Nat) => V.int (a + (i : Int))

theorem range_small {a b : Int} (h1 : -1000000 < a) (h2 : a < 1000000) (h3 : -1000000 < b) (h4 : b < 1000000) : Builtin.Range.small a b 1 = true := by
  have e := rangeSize_one a b
  unfold Builtin.Range.small
  rw [e]
  have f : ∀ z : Int, -3000000 < z → z < 3000000 → Builtin.Range.rangeFitsLong z = true := fun z hz1 hz2 => by
    unfold Builtin.Range.rangeFitsLong
    simp; omega
  rw [f a (by omega) (by omega), f b (by omega) (by omega), f 1 (by omega) (by omega), f (if a < b then b - a else 0) (by split <;> omega) (by split <;> omega)]
  simp only [Bool.true_and, Bool.or_eq_true]
  right
  rw [if_pos (by decide)]
  exact f _ (by omega) (by omega)

def Iter.range (X : Cx) (r : Nat) (a b : Int) (h1 : -1000000 < a) (h2 : a < 1000000) (h3 : -1000000 < b) (h4 : b < 1000000) : Iter X (.ref r) (fun cs => cs[r]? = some (rangeOf a b)) (rangeList a b) where
  At _ i o := o = { cls := .type "range_iterator", dict := none, data := .fields #[rawInt (a + i), rawInt ((b - a).toNat - i : Int), rawInt 1], slots := #[] }
  mono _ _ _ _ h _ := h
  start A φ s vv cs P E R hok hv k := by
    obtain ⟨x, hx, rfl⟩ := hv
    obtain ⟨a', o, e1, e2, φ₀, hp, t, u, v, rfl⟩ := R.cell r _ hok
    rw [hx] at e1; cases e1
    refine wpAny_pyIter_range e2 (range_small h1 h2 h3 h4) (k _ _ ?_ rfl)
    have : Builtin.Range.rangeSize a b 1 = ((b - a).toNat : Int) := by rw [rangeSize_one]; split <;> omega
    rw [this]; simp
  again A φ s I o cs P E R ho hat hp := by subst hat; exact wpAny_pyIter_rangeiter ho hp
  item A φ s I o i cs r P E R hok hI ho hat hr k := by
    subst hat
    have hi : i < (b - a).toNat := by have := (List.getElem?_eq_some_iff.mp hr).1; simpa [rangeList] using this
    have hr' : r = .int (a + i) := by
      unfold rangeList at hr
      rw [List.getElem?_map, List.getElem?_range hi] at hr
      simpa using hr.symm
    subst hr'
    refine wpAny_pyNext_range_item ho (by omega) fun h' hit hsb => k _ h' _ _ (VRel.int _ _ _) hit ?_ hsb.extBut
    have e1 : a + (i : Int) + 1 = a + ((i + 1 : Nat) : Int) := by omega
    have e2 : ((b - a).toNat : Int) - (i : Int) - 1 = ((b - a).toNat : Int) - ((i + 1 : Nat) : Int) := by omega
    rw [e1, e2]
  done A φ s I o cs P E hh R hok hI ho hat k := by
    subst hat
    refine wpAny_pyNext_range_end hh ho ?_ fun h' he => k h' _ he
    simp [rangeList]
end

theorem Rel.grow {X : Cx} {φ : List Addr} {env : Env} {st : St} {s : Shared} {h' : Heap} (R : Rel X φ env st s.heap) (k : ∀ b o, s.heap.get? b = some o → h'.get? b = some o) : Rel X φ env st h' :=
  ⟨R.c.ext k, R.f.step (s' := { s with heap := h' }) (Step.ext ⟨rfl, rfl, rfl⟩ k)⟩

theorem ext_all {h h' : Heap} (k : Heap.ExtBut h.objs.size h h') : ∀ b o, h.get? b = some o → h'.get? b = some o := fun b o e =>
  k b o (fun z => by rw [z, get_none_of_size (Nat.le_refl _)] at e; cases e) e

section
variable {X : Cx} {sc : Scope} {d : Nat} {cm : Bool} {st : St} {cs : List Cell}

theorem star_tuple {A : Around} {E : Value → Shared → Prop} {s : Shared} {a : Addr} {vs : Array Value} {n : Nat} {Q : List Value → Shared → Prop} (D : s.heap.get? a = some (tupOf vs n)) (hz : vs.size ≤ sizeLine)
    (h : ∀ h', (∀ b o', s.heap.get? b = some o' → h'.get? b = some o') → Q vs.toList { s with heap := h' }) : StarOf (md X) A E (.ref a) Q s := by
  have hT' : s.TypeIs (.ref a) "tuple" := ⟨_, D, rfl⟩
  have z : wpAny (md X) A (collect (.ref a)) Q E s := wpAny_collect_seq (T := "tuple") a (.inr rfl) D rfl rfl h hz
  unfold StarOf notIterableAtAll
  exact wpAny_bind (wpAny_specialOf hT' PySem.F.slot_tuple_iter.lookup (wpAny_pure ⟨rfl, z⟩))

/-- a bound method -/
def methOf (f : Addr) (l : Nat) : Cell := .pred fun φ o => ∃ a, φ[l]? = some a ∧ o = methodObj (.ref f) (.ref a)
theorem meth_at {φ : List Addr} {h : Heap} {m l : Nat} {f a : Addr} (R : RelC X φ cs h) (hl : cs[m]? = some (methOf f l)) (ha : φ[m]? = some a) : ∃ b, φ[l]? = some b ∧ h.get? a = some (methodObj (.ref f) (.ref b)) := by
  obtain ⟨a', o, e1, e2, φ₀, hp, b, hb, rfl⟩ := R.cell m _ hl
  rw [ha] at e1; cases e1
  exact ⟨b, get_of_prefix hp hb, e2⟩

theorem W1.bound {l dl : Nat} {C f : Addr} {xs : List (Option V)} {kvs : List (Str × V)} {name : Str} {Q : V → List Cell → Prop} (hl : cs[l]? = some (.inst C dl xs)) (hdl : cs[dl]? = some (.attrs kvs)) (hr : kvs.lookup name = none)
    (hga : findIn X.K (.ref C) "__getattribute__" = some (some (.builtin "object.__getattribute__"))) (hgn : findIn X.K (.ref C) "__getattr__" = some none) (hh : hasDictIn X.K C = true) (hf : findIn X.K (.ref C) name = some (some (.ref f)))
    (ht : typeIn X.K (.ref f) = some (.type "function")) (hgf : specialIn X.K (.ref f) "__get__" = some (some (.builtin "function.__get__"))) (htk : takesIn X.K (.ref f) = some false) (hc : copiedNames.contains name = false)
    (q : Q (.ref cs.length) (cs ++ [methOf f l])) : W1 X d cm (fun v => getAttr v name true) (.ref l) cs Q := by
  rintro A φ s va hA R ⟨a, ha, rfl⟩
  obtain ⟨dx, vs, es, n, e3, e2, e6, h4, h7, h8, h9, I⟩ := inst_at R hl hdl ha
  have hlook : lookIn name (dictOf es n) = some none := by
    have hx := h9 name
    rw [hr] at hx
    cases hf : es.find? (·.key.isStr name) with
    | some en => rw [hf] at hx; exact hx.elim
    | none => simp [lookIn, hf, keysLit_refKey h7]
  refine get_bind R.base.X I hga (findObj_fn hh hf hgf htk hc hlook) hgn (wpAny_call (fn_get (s := { s with toks := s.toks + 1 }) R.base.X ht (handed_on rfl ?_)))
  exact TriC.new (α := Unit) (tk := s.toks + 1) (c := methOf f l) R rfl ⟨_, List.prefix_refl _, a, get_of_prefix (List.prefix_append _ _) ha, rfl⟩ q

def StarGo (X : Cx) (sc : Scope) (d : Nat) (cm : Bool) (e : Expr) (Q : V → St → Prop) (vars : List (Str × V)) (bv : V) (cs₁ : List Cell) : Prop := ∃ m f l, bv = .ref m ∧ fnIn X.K f = true ∧
  WE X sc d cm e ⟨cs₁, vars⟩ fun v st₂ => ∃ t xs, v = .ref t ∧ st₂.cells[t]? = some (.tuple xs) ∧ xs.length ≤ 100000 ∧ st₂.cells[m]? = some (methOf f l) ∧ WCC X d cm (.val (.ref f)) (.ref l :: xs) st₂.cells fun r cs => Q r ⟨cs, st₂.vars⟩
/-- o.name(*e), e a tuple -/
theorem WE.methFS {o e : Expr} {name : Str} {p apos pos : Pos} {Q : V → St → Prop} (h : WE X sc d cm o st fun ov st₁ => W1 X d cm (fun v => getAttr v name true) ov st₁.cells fun bv cs₁ => StarGo X sc d cm e Q st₁.vars bv cs₁)
    (he : ∀ env, eval (.Call (.Attribute o name apos) [.Starred e p] [] pos) env = (do let ov ← eval o env; standAt apos.atName; let (f, first) ← holding [ov] (do pure (← getAttr ov name true, [])); let callPos ← pure pos; callWith callPos f first (backTo pos (starEach [.Starred e p] env)) []) := by intro _; with_unfolding_all rfl) : WE X sc d cm (.Call (.Attribute o name apos) [.Starred e p] [] pos) st Q := by
  intro A env φ s hsc hA R
  show wpAny _ _ _ _ _ _
  rw [he]
  refine wpAny_bind (Tri.seq (h A env φ s hsc hA R) fun ov s₁ φ₁ r st₁ S₁ R₁ hr h₁ => ?_)
  refine wpAny_bind (wpAny_standAt (wpAny_bind (wpAny_holding (wpAny_bind (Tri.seq (TriC.lift R₁ (h₁ A φ₁ s₁ ov hA R₁.c hr) (Q' := fun r st => st.vars = st₁.vars ∧ StarGo X sc d cm e Q st₁.vars r st.cells) (fun r cs q => ⟨rfl, q⟩)) fun bv s₂ φ₂ rb st₂ S₂ R₂ hb h₂ => wpAny_pure ?_)))))
  obtain ⟨hv2, m, f, l, rfl, hf, h₂⟩ := h₂
  obtain ⟨aq, haq, rfl⟩ := hb
  refine wpAny_bind (wpAny_pure ?_)
  show wpAny _ _ (callWith pos (.ref aq) [] (backTo pos (starEach [.Starred e p] env)) []) _ _ _
  have hse : starEach [.Starred e p] env = [(true, eval e env)] := rfl
  rw [hse]
  have S12 := S₁.trans S₂ R₂.f.dis
  have R₂' : Rel X φ₂ env ⟨st₂.cells, st₁.vars⟩ s₂.heap := by rw [← hv2]; exact R₂
  have go : wpAny (md X) A (eval e env) (fun v s₃ => StarOf (md X) A (fun _ _ => False) v (fun vs s₄ => (∃ self, MethP X.K aq f self s₄.heap) ∧ wpAny (md X) A (call (.ref aq) ([] ++ vs)) (TriP X env φ s VRel Q) (fun _ _ => False) s₄) s₃) (fun _ _ => False) s₂ := by
    refine Tri.seq (h₂ A env φ₂ s₂ hsc hA R₂') fun v s₃ φ₃ rv st₃ S₃ R₃ hv h₃ => ?_
    obtain ⟨t, xs, rfl, hl, hz, hmt, h₃⟩ := h₃
    obtain ⟨a, ha, rfl⟩ := hv
    obtain ⟨vs, n, e, hxs⟩ := tup_at R₃.c hl ha
    obtain ⟨b, hb, hme⟩ := meth_at R₃.c hmt (get_of_prefix S₃.pre haq)
    refine star_tuple e (by rw [← hxs.size, sizeLine_eq]; omega) fun h' k => ?_
    have R₄ := R₃.grow k
    refine ⟨⟨_, k _ _ hme, R₄.c.base.X⟩, ?_⟩
    have S₄ : Step X.fr φ₃ (fAddrs env) s₃ φ₃ { s₃ with heap := h' } := Step.ext ⟨rfl, rfl, rfl⟩ k
    refine wpAny_call (method_call (k _ _ hme) ?_)
    refine codeAny_mono (h₃ A φ₃ { s₃ with heap := h' } (.ref f) (.ref b :: vs.toList) hA R₄.c rfl ⟨VRel.ref hb, hxs⟩) fun res s₅ hres => ?_
    rcases res with er | (_ | _ | _ | _) <;> first | exact hres.elim | skip
    obtain ⟨φ₅, r₅, cs₅, S₅, C₅, hv₅, q₅⟩ := hres
    have R₅ : Rel X φ₅ env ⟨cs₅, st₃.vars⟩ s₅.heap := ⟨C₅, R₄.f.step S₅⟩
    exact Tri.here (((S12.trans S₃ R₃.f.dis).trans S₄ R₃.f.dis).trans S₅.widen R₅.f.dis) R₅ hv₅ q₅
  refine ks_call (P := fun h => ∃ self, MethP X.K aq f self h) rfl (fun h ⟨self, hP⟩ => keeps_M hf h hP) (ks_lone go)

theorem WS.assert {test : Expr} {msg : Option Expr} {pos : Pos} {Q : AFlow → St → Prop} (h : WT X sc d cm test st fun b st₁ => b = true ∧ Q .next st₁) : WS X sc d cm (.Assert test msg pos) st Q := by
  intro A env φ s he hA R
  refine wpAny_Assert_holds (Tri.seq (h A env φ s he hA R) fun b s₁ φ₁ r st₁ S₁ R₁ hr h₁ => ?_)
  cases (hr : b = r)
  exact ⟨h₁.1, Tri.here S₁ R₁ (FRel.next _) h₁.2⟩

theorem WE.not {e : Expr} {pos : Pos} {Q : V → St → Prop} (h : WE X sc d cm e st fun v st₁ => WB1 X d cm truthy v st₁.cells fun b cs => Q (.bool (!b)) ⟨cs, st₁.vars⟩) : WE X sc d cm (.UnaryOp .Not e pos) st Q := by
  intro A env φ s he hA R
  show wpAny _ _ _ _ _ _
  rw [arm_eval_UnaryOp]
  refine wpAny_bind (Tri.seq (h A env φ s he hA R) fun v s₁ φ₁ r st₁ S₁ R₁ hr h₁ => wpAny_bind (wpAny_standAt (wpAny_holding (not_of ?_))))
  refine Tri.seq (TriC.lift R₁ (h₁ A φ₁ s₁ v hA R₁.c hr) fun _ _ q => q) fun b s₂ φ₂ rb st₂ S₂ R₂ hrb h₂ => ?_
  cases (hrb : b = rb)
  exact Tri.here (S₁.trans S₂ R₂.f.dis) R₂ (VRel.bool _ _) h₂

/-- a pair is taken apart -/
theorem WS.unpack2 {x y : Str} {p1 p2 tp pos : Pos} {k : Nat} {e : Expr} {Q : AFlow → St → Prop} (hcm : cm = true) (hk : sc.names.lookup x = some .local ∨ sc.names.lookup x = some .cell) (hk2 : sc.names.lookup y = some .local ∨ sc.names.lookup y = some .cell)
    (h : WE X sc d cm e st fun v st₁ => ∃ l a b, v = .ref l ∧ st₁.cells[l]? = some (.tuple [a, b]) ∧ Q .next ⟨st₁.cells, setv y b (setv x a st₁.vars)⟩)
    (hs : ∀ env : Env, swapsWithSole [.Tuple [.Name x p1, .Name y p2] k tp] e pos.line env = pure false := by intro _; with_unfolding_all rfl)
    (hw : ∀ env : Env, swappedStores [.Tuple [.Name x p1, .Name y p2] k tp] e env = pure none := by intro _; with_unfolding_all rfl) : WS X sc d cm (.Assign [.Tuple [.Name x p1, .Name y p2] k tp] e pos) st Q := by
  intro A env φ s he hA R
  subst he
  refine Assign_Tuple (Tri.seq (h A env φ s rfl hA R) fun v s₁ φ₁ r st₁ S₁ R₁ hr h₁ => ?_) (hs env) (hw env)
  obtain ⟨l, a, b, rfl, hl, q⟩ := h₁
  obtain ⟨ad, ha, rfl⟩ := hr
  obtain ⟨vs, n, eo, hxs⟩ := tup_at R₁.c hl ha
  obtain ⟨va, vb, hv, hra, hrb⟩ := all2_two hxs
  have hsz : vs.size = 2 := by rw [← hxs.size]; rfl
  refine assign_Tuple_tuple (hA.calm hcm) ⟨_, eo, rfl, n, rfl⟩ (by rw [hsz]; rfl) rfl fun h' k' => ?_
  have k := ext_all k'
  have R₂ := R₁.grow k
  have S₂ : Step X.fr φ₁ (fAddrs env) s₁ φ₁ { s₁ with heap := h' } := Step.ext ⟨rfl, rfl, rfl⟩ k
  rw [hv]
  show wpAny _ _ (do holding [vb] (PySem.assign (.Name x p1) env va); (do holding [] (PySem.assign (.Name y p2) env vb); pure ())) _ _ _
  refine wpAny_bind (wpAny_holding (assign_Name (Tri.seq (store_name (Q := fun st' => st' = ⟨st₁.cells, setv x a st₁.vars⟩) hk R₂ hra rfl) fun _ s₃ φ₃ _ st₃ S₃ R₃ _ e₃ => ?_)))
  subst e₃
  refine wpAny_bind (wpAny_holding (assign_Name (Tri.seq (store_name (Q := fun st' => st' = ⟨st₁.cells, setv y b (setv x a st₁.vars)⟩) hk2 R₃ (hrb.mono S₃.pre) rfl) fun _ s₄ φ₄ _ st₄ S₄ R₄ _ e₄ => ?_)))
  subst e₄
  exact wpAny_pure (Tri.here (((S₁.trans S₂ R₂.f.dis).trans S₃ R₃.f.dis).trans S₄ R₄.f.dis) R₄ (FRel.next _) q)

/-- x, y = (e, f): stored from behind -/
theorem WS.swap2 {x y : Str} {p1 p2 tp pos : Pos} {k : Nat} {e : Expr} {Q : AFlow → St → Prop} (hcm : cm = true) (hk : sc.names.lookup x = some .local ∨ sc.names.lookup x = some .cell) (hk2 : sc.names.lookup y = some .local ∨ sc.names.lookup y = some .cell)
    (hw : ∀ env : Env, env.scope = sc → swappedStores [.Tuple [.Name x p1, .Name y p2] k tp] e env = pure (some [x, y]))
    (h : WE X sc d cm e st fun v st₁ => ∃ l a b, v = .ref l ∧ st₁.cells[l]? = some (.tuple [a, b]) ∧ Q .next ⟨st₁.cells, setv x a (setv y b st₁.vars)⟩)
    (hs : ∀ env : Env, swapsWithSole [.Tuple [.Name x p1, .Name y p2] k tp] e pos.line env = pure false := by intro _; with_unfolding_all rfl) : WS X sc d cm (.Assign [.Tuple [.Name x p1, .Name y p2] k tp] e pos) st Q := by
  intro A env φ s he hA R
  subst he
  refine Assign_Tuple_swapped (names := [x, y]) (Tri.seq (h A env φ s rfl hA R) fun v s₁ φ₁ r st₁ S₁ R₁ hr h₁ => ?_) (hs env) (hw env rfl)
  obtain ⟨l, a, b, rfl, hl, q⟩ := h₁
  obtain ⟨ad, ha, rfl⟩ := hr
  obtain ⟨vs, n, eo, hxs⟩ := tup_at R₁.c hl ha
  obtain ⟨va, vb, hv, hra, hrb⟩ := all2_two hxs
  have hsz : vs.size = 2 := by rw [← hxs.size]; rfl
  have : ([x, y] : List Str).length = vs.size := hsz.symm
  rw [this]
  refine unpackItems_tuple (hA.calm hcm) ⟨_, eo, rfl, n, rfl⟩ fun h' k' => ?_
  have k := ext_all k'
  have R₂ := R₁.grow k
  have S₂ : Step X.fr φ₁ (fAddrs env) s₁ φ₁ { s₁ with heap := h' } := Step.ext ⟨rfl, rfl, rfl⟩ k
  rw [hv]
  show wpAny _ _ (do holding [va] (bindName env y vb); (do holding [] (bindName env x va); pure ())) _ _ _
  refine wpAny_bind (wpAny_holding (bindName_ (Tri.seq (store_name (Q := fun st' => st' = ⟨st₁.cells, setv y b st₁.vars⟩) hk2 R₂ hrb rfl) fun _ s₃ φ₃ _ st₃ S₃ R₃ _ e₃ => ?_)))
  subst e₃
  refine wpAny_bind (wpAny_holding (bindName_ (Tri.seq (store_name (Q := fun st' => st' = ⟨st₁.cells, setv x a (setv y b st₁.vars)⟩) hk R₃ (hra.mono S₃.pre) rfl) fun _ s₄ φ₄ _ st₄ S₄ R₄ _ e₄ => ?_)))
  subst e₄
  exact wpAny_pure (Tri.here (((S₁.trans S₂ R₂.f.dis).trans S₃ R₃.f.dis).trans S₄ R₄.f.dis) R₄ (FRel.next _) q)
end

section
variable {X : Cx} {d : Nat} {cm : Bool} {cs : List Cell} {Q : V → List Cell → Prop}
theorem W2.floordivInt {a b : Int} (hb : b ≠ 0) (hs : b.natAbs < 1073741824) (q : Q (.int (a.fdiv b)) cs) : W2 X d cm (binaryOp .FloorDiv) (.int a) (.int b) cs Q := by
  rintro A φ s va vb hA R ⟨t, rfl⟩ ⟨u, rfl⟩
  exact floordiv_int hb (TriC.ret R (VRel.int _ _ _) q) (.inl (PyProof.noPylong_small hs))

theorem ints_are {φ : List Addr} : ∀ {ys : List Int} {vs : List Value}, All2 (VRel φ) (ys.map .int) vs → ∃ xs : List (Int × Tok), xs.map (·.1) = ys ∧ vs = xs.map fun p => Value.int p.1 p.2
  | [], [], _ => ⟨[], rfl, rfl⟩
  | y :: ys, _ :: vs, ⟨⟨t, rfl⟩, h⟩ => let ⟨xs, h1, h2⟩ := ints_are h; ⟨(y, t) :: xs, by simp [h1], by simp [h2]⟩
  | [], _ :: _, h => h.elim
  | _ :: _, [], h => h.elim

theorem ints_pre {xs : List (Int × Tok)} : PySem.preSum (PySem.numAt xs.toArray) xs.toArray.size = (xs.map (·.1)).sum := by
  rw [preSum_eq, List.take_of_length_le (by simp)]


/-- plain data behind a value -/
inductive CD (cs : List Cell) : V → PyData → Prop
  | none : CD cs .none .none
  | bool (b) : CD cs (.bool b) (.bool b)
  | int (i) : CD cs (.int i) (.int i)
  | str (x) : CD cs (.str x) (.str x)
  | lnil {l : Nat} : cs[l]? = some (.list []) → CD cs (.ref l) (.list [])
  | list {l : Nat} {xs : List V} {ds : List PyData} : cs[l]? = some (.list xs) → xs.length = ds.length → (∀ (i : Nat) (x : V) (e : PyData), xs[i]? = some x → ds[i]? = some e → CD cs x e) → CD cs (.ref l) (.list ds)
  | tuple {l : Nat} {xs : List V} {ds : List PyData} : cs[l]? = some (.tuple xs) → xs.length = ds.length → (∀ (i : Nat) (x : V) (e : PyData), xs[i]? = some x → ds[i]? = some e → CD cs x e) → CD cs (.ref l) (.tuple ds)

theorem readsAll_of {h : Heap} : ∀ {vs : List Value} {ds : List PyData}, vs.length = ds.length → (∀ (i : Nat) (v : Value) (e : PyData), vs[i]? = some v → ds[i]? = some e → ∃ as, Reads h v e as) → ∃ as, ReadsAll h vs ds as
  | [], [], _, _ => ⟨[], .nil⟩
  | v :: vs, e :: ds, hl, k => by
    obtain ⟨as, h1⟩ := k 0 v e rfl rfl
    obtain ⟨bs, h2⟩ := readsAll_of (h := h) (vs := vs) (ds := ds) (by simpa using hl) (fun i v e h1 h2 => k (i + 1) v e (by simpa using h1) (by simpa using h2))
    exact ⟨as ++ bs, .cons h1 h2⟩
  | [], _ :: _, h, _ => by cases h
  | _ :: _, [], h, _ => by cases h

theorem CD.reads {φ : List Addr} {h : Heap} (R : RelC X φ cs h) {v : V} {e : PyData} (c : CD cs v e) : ∀ {vv : Value}, VRel φ v vv → ∃ as, Reads h vv e as := by
  induction c with
  | none => intro vv hv; cases (hv : vv = _); exact ⟨[], .none⟩
  | bool b => intro vv hv; cases (hv : vv = _); exact ⟨[], .bool _⟩
  | int i => rintro vv ⟨t, rfl⟩; exact ⟨[], .int _ _⟩
  | str x => rintro vv ⟨t, rfl⟩; exact ⟨[], .str _ _⟩
  | lnil hl =>
    rintro vv ⟨a, ha, rfl⟩
    obtain ⟨vs, n, e, hr⟩ := list_at R hl ha
    obtain ⟨as, hA⟩ := readsAll_of (h := h) (vs := vs.toList) (ds := []) hr.length.symm (fun i v e _ h2 => by simp at h2)
    exact ⟨_, .list e rfl rfl hA⟩
  | list hl hlen _ ih =>
    rintro vv ⟨a, ha, rfl⟩
    obtain ⟨vs, n, e, hr⟩ := list_at R hl ha
    obtain ⟨as, hA⟩ := readsAll_of (h := h) (vs := vs.toList) (ds := _) (hr.length.symm.trans hlen) (fun i v e h1 h2 => by
      obtain ⟨x, hx, hxv⟩ := hr.get' h1
      exact ih i x e hx h2 hxv)
    exact ⟨_, .list e rfl rfl hA⟩
  | tuple hl hlen _ ih =>
    rintro vv ⟨a, ha, rfl⟩
    obtain ⟨vs, n, e, hr⟩ := tup_at R hl ha
    obtain ⟨as, hA⟩ := readsAll_of (h := h) (vs := vs.toList) (ds := _) (hr.length.symm.trans hlen) (fun i v e h1 h2 => by
      obtain ⟨x, hx, hxv⟩ := hr.get' h1
      exact ih i x e hx h2 hxv)
    exact ⟨_, .tuple e rfl rfl hA⟩

theorem W2.eqData {a b : V} {da db : PyData} (ca : CD cs a da) (cb : CD cs b db) (sa : PySem.SeqAt.shaped da = true) (sb : PySem.SeqAt.shaped db = true) (q : Q (.bool (PyData.eqv da db)) cs) : W2 X d cm (compareOp .Eq) a b cs Q := by
  intro A φ s va vb hA R ha hb
  obtain ⟨as, ra⟩ := ca.reads R ha
  obtain ⟨bs, rb⟩ := cb.reads R hb
  refine eq_dataH ra rb sa sb ?_ (TriC.ret0 R (VRel.bool _ _) q)
  have := hA.units
  unfold cLine; omega
theorem W2.neData {a b : V} {da db : PyData} (ca : CD cs a da) (cb : CD cs b db) (sa : PySem.SeqAt.shaped da = true) (sb : PySem.SeqAt.shaped db = true) (q : Q (.bool (!PyData.eqv da db)) cs) : W2 X d cm (compareOp .NotEq) a b cs Q := by
  intro A φ s va vb hA R ha hb
  obtain ⟨as, ra⟩ := ca.reads R ha
  obtain ⟨bs, rb⟩ := cb.reads R hb
  refine ne_dataH ra rb sa sb ?_ (TriC.ret0 R (VRel.bool _ _) q)
  have := hA.units
  unfold cLine; omega

abbrev dStrs (xs : List Str) : List PyData := xs.map PyData.str
abbrev dInts (xs : List Int) : List PyData := xs.map PyData.int
abbrev dTups (xss : List (List Str)) : List PyData := xss.map fun xs => PyData.tuple (dStrs xs)

theorem CD.strs {l : Nat} {xs : List Str} (h : cs[l]? = some (.list (xs.map .str))) : CD cs (.ref l) (.list (dStrs xs)) :=
  .list h (by simp) fun i x e h1 h2 => by
    rw [List.getElem?_map] at h1 h2
    cases hx : xs[i]? with
    | none => rw [hx] at h1; cases h1
    | some y => rw [hx] at h1 h2; cases h1; cases h2; exact .str _
theorem CD.tstrs {l : Nat} {xs : List Str} (h : cs[l]? = some (.tuple (xs.map .str))) : CD cs (.ref l) (.tuple (dStrs xs)) :=
  .tuple h (by simp) fun i x e h1 h2 => by
    rw [List.getElem?_map] at h1 h2
    cases hx : xs[i]? with
    | none => rw [hx] at h1; cases h1
    | some y => rw [hx] at h1 h2; cases h1; cases h2; exact .str _

/-- a list of tuples of strs -/
def TupL (cs : List Cell) (r : Nat) (xss : List (List Str)) : Prop := ∃ ls : List Nat, cs[r]? = some (.list (ls.map .ref)) ∧ All2 (fun l xs => cs[l]? = some (.tuple (xs.map .str))) ls xss
theorem TupL.grown {cs' : List Cell} {r : Nat} {xss : List (List Str)} (h : TupL cs r xss) (g : Grown cs cs') : TupL cs' r xss :=
  let ⟨ls, h1, h2⟩ := h; ⟨ls, g _ _ h1, h2.mono fun _ _ e => g _ _ e⟩
theorem TupL.cd {r : Nat} {xss : List (List Str)} (h : TupL cs r xss) : CD cs (.ref r) (.list (dTups xss)) := by
  obtain ⟨ls, h1, h2⟩ := h
  refine .list h1 (by simp [h2.length]) fun i x e g1 g2 => ?_
  rw [List.getElem?_map] at g1 g2
  cases hx : ls[i]? with
  | none => rw [hx] at g1; cases g1
  | some l =>
    rw [hx] at g1; cases g1
    obtain ⟨xs, hxs, hc⟩ := h2.get hx
    rw [hxs] at g2; cases g2
    exact .tstrs hc

def AllOk (xs : List Str) : Prop := ∀ x ∈ xs, PyData.strOk x = true
theorem lay_strs : ∀ {xs : List Str}, AllOk xs → PyData.canLayAll0 (dStrs xs) = true
  | [], _ => rfl
  | x :: r, h => by
    show (PyData.strOk x && PyData.canLayAll0 (dStrs r)) = true
    rw [h x (.head _), lay_strs fun y hy => h y (.tail _ hy)]; rfl
theorem dep_strs : ∀ xs : List Str, PyData.depthAll (dStrs xs) = 0
  | [] => rfl
  | _ :: r => by simp [dStrs, PyData.depthAll, PyData.depth] at *; exact dep_strs r
theorem lay_tups : ∀ {xss : List (List Str)}, (∀ xs ∈ xss, AllOk xs) → PyData.canLayAll0 (dTups xss) = true
  | [], _ => rfl
  | x :: r, h => by
    show (PyData.canLayAll0 (dStrs x) && PyData.canLayAll0 (dTups r)) = true
    rw [lay_tups fun y hy => h y (.tail _ hy), lay_strs (h x (.head _))]; rfl
theorem dep_tups : ∀ xss : List (List Str), PyData.depthAll (dTups xss) ≤ 1
  | [] => Nat.zero_le _
  | x :: r => by
    show max (PyData.depth (.tuple (dStrs x))) (PyData.depthAll (dTups r)) ≤ 1
    refine Nat.max_le.mpr ⟨?_, dep_tups r⟩
    simp [PyData.depth, dep_strs]
theorem sh_strs {xs : List Str} (h : AllOk xs) : PySem.SeqAt.shaped (.list (dStrs xs)) = true := by
  simp [SeqAt.shaped, PyData.canLay0, PyData.depth, lay_strs h, dep_strs]
theorem sh_tstrs {xs : List Str} (h : AllOk xs) : PySem.SeqAt.shaped (.tuple (dStrs xs)) = true := by
  simp [SeqAt.shaped, PyData.canLay0, PyData.depth, lay_strs h, dep_strs]
theorem sh_tups {xss : List (List Str)} (h : ∀ xs ∈ xss, AllOk xs) : PySem.SeqAt.shaped (.list (dTups xss)) = true := by
  simp [SeqAt.shaped, PyData.canLay0, PyData.depth, lay_tups h]
  have := dep_tups xss; omega
theorem eqv_strs : ∀ xs ys : List Str, PyData.eqvAll (dStrs xs) (dStrs ys) = decide (xs = ys)
  | [], [] => by simp [PyData.eqvAll]
  | [], _ :: _ => by simp [PyData.eqvAll]
  | _ :: _, [] => by simp [PyData.eqvAll]
  | x :: xs, y :: ys => by
    show (PyData.eqv (.str x) (.str y) && PyData.eqvAll (dStrs xs) (dStrs ys)) = _
    rw [eqv_strs xs ys]
    by_cases h : x = y <;> by_cases h' : xs = ys <;> simp [PyData.eqv, h, h']
theorem eqv_tups : ∀ xs ys : List (List Str), PyData.eqvAll (dTups xs) (dTups ys) = decide (xs = ys)
  | [], [] => by simp [PyData.eqvAll]
  | [], _ :: _ => by simp [PyData.eqvAll]
  | _ :: _, [] => by simp [PyData.eqvAll]
  | x :: xs, y :: ys => by
    show (PyData.eqv (.tuple (dStrs x)) (.tuple (dStrs y)) && PyData.eqvAll (dTups xs) (dTups ys)) = _
    rw [eqv_tups xs ys]
    by_cases h : x = y <;> by_cases h' : xs = ys <;> simp [PyData.eqv, eqv_strs, h, h']
theorem eqv_lstrs (xs ys : List Str) : PyData.eqv (.list (dStrs xs)) (.list (dStrs ys)) = decide (xs = ys) := by
  simp only [PyData.eqv]; exact eqv_strs xs ys
theorem eqv_tstrs (xs ys : List Str) : PyData.eqv (.tuple (dStrs xs)) (.tuple (dStrs ys)) = decide (xs = ys) := by
  simp only [PyData.eqv]; exact eqv_strs xs ys
theorem eqv_ltups (xs ys : List (List Str)) : PyData.eqv (.list (dTups xs)) (.list (dTups ys)) = decide (xs = ys) := by
  simp only [PyData.eqv]; exact eqv_tups xs ys

theorem strs_vals {φ : List Addr} : ∀ {ys : List Str} {vs : List Value}, All2 (VRel φ) (ys.map .str) vs → ∃ l : List (Str × Tok), l.map (·.1) = ys ∧ vs = strValues l
  | [], [], _ => ⟨[], rfl, rfl⟩
  | y :: ys, _ :: _, ⟨⟨t, rfl⟩, h⟩ => let ⟨l, h1, h2⟩ := strs_vals h; ⟨(y, t) :: l, by simp [h1], by simp [h2, strValues]⟩
  | [], _ :: _, h => h.elim
  | _ :: _, [], h => h.elim

theorem WCV.join {x : Str} {l : Nat} {ys : List Str} (hl : cs[l]? = some (.list (ys.map .str))) (hok : JoinOk x ys = true) (q : Q (.str (Txt.join x ys)) cs) : WCV X d cm (.val (.builtin "str.join")) [.str x, .ref l] cs Q := by
  intro A φ s fv vals hA R hf hv
  cases (hf : fv = _)
  obtain ⟨_, _, rfl, ⟨t, rfl⟩, ⟨a, ha, rfl⟩⟩ := all2_two hv
  obtain ⟨vs, n, e, hr⟩ := list_at R hl ha
  obtain ⟨ws, h1, h2⟩ := strs_vals hr
  exact SC.join (l := ws) ⟨_, e, rfl, n, by rw [← h2]⟩ h1 hok fun t' k => TriC.ret R (VRel.str _ _ _) q
end

abbrev dots : Str := "..."
def emLoop (got : Str) (e : Nat) : List Str → Nat → Bool
  | [], _ => true
  | w :: ws, p => if find4 got w p e < 0 then false else emLoop got e ws ((find4 got w p e).toNat + w.length)
theorem emLoop_cons (got : Str) (e : Nat) (w : Str) (ws : List Str) (p : Nat) : emLoop got e (w :: ws) p = if find4 got w p e < 0 then false else emLoop got e ws ((find4 got w p e).toNat + w.length) := rfl
def emEnd (got : Str) (p : Nat) (ws : List Str) : Bool :=
  if ((ws.getLast?).getD Str.empty).length ≠ 0 then
    if Txt.endswith got ((ws.getLast?).getD Str.empty) then (if p + ((ws.getLast?).getD Str.empty).length > got.length then false else emLoop got (got.length - ((ws.getLast?).getD Str.empty).length) ws.dropLast p) else false
  else if p > got.length then false else emLoop got got.length ws p
def ematch (want got : Str) : Bool :=
  if Txt.contains want dots = false then want == got
  else if ((Txt.split want dots).headD Str.empty).length ≠ 0 then
    if Txt.startswith got ((Txt.split want dots).headD Str.empty) then emEnd got ((Txt.split want dots).headD Str.empty).length (Txt.split want dots).tail else false
  else emEnd got 0 (Txt.split want dots)

theorem kind_pos (x : Str) : 1 ≤ Builtin.Str.strKind x := by unfold Builtin.Str.strKind; split; exact Nat.le_refl _; split <;> decide
theorem kind_dots : Builtin.Str.strKind dots = 1 := by decide +kernel
theorem split_two {x : Str} (h : Txt.contains x dots = true) : 2 ≤ (Txt.split x dots).length := by
  obtain ⟨i, h1, h2⟩ := (StrLaws.found_iff x dots).mp h
  unfold Txt.split
  rw [if_neg, if_neg]
  · rcases StrLaws.occ_head x dots (x.length + 1) (by omega) with ⟨_, hn⟩ | ⟨k, r, e, _⟩
    · exact absurd ⟨h1, h2⟩ (hn i)
    · rw [e]
      unfold Builtin.Str.partsBetween
      simp
  · rcases StrLaws.occ_head x dots (x.length + 1) (by omega) with ⟨_, hn⟩ | ⟨k, r, e, _⟩
    · exact absurd ⟨h1, h2⟩ (hn i)
    · rw [e]; simp
  · have := kind_pos x
    rw [kind_dots]
    simp; omega
theorem parts_few (x y : Str) : (Builtin.Str.partsBetween x (Builtin.Str.occurrences x y 0 x.length (x.length + 1)) y.length).length ≤ x.length + 2 := by
  have := StrLaws.occ_length_le x y 0 x.length (x.length + 1)
  unfold Builtin.Str.partsBetween
  simp; omega
theorem split_few (x y : Str) : (Txt.split x y).length ≤ x.length + 2 := by
  unfold Txt.split
  split
  · simp
  · split
    · simp
    · exact parts_few x y


/-- texts as lists of code points -/
def wd (l : List Nat) : Str := ⟨l.toArray⟩
abbrev ch (c : Nat) : Str := wd [c]
theorem wd_list (l : List Nat) : (wd l).cps.toList = l := rfl
theorem wd_len (l : List Nat) : (wd l).length = l.length := by simp [wd, Str.length]
theorem wd_app (a b : List Nat) : wd a ++ wd b = wd (a ++ b) := by
  apply Str.ext'; rw [Str.cps_append]; simp [wd]
theorem wd_inj {a b : List Nat} : wd a = wd b ↔ a = b := by
  constructor
  · intro h; have := congrArg (fun x : Str => x.cps.toList) h; exact this
  · rintro rfl; rfl
theorem wd_beq (a b : List Nat) : (wd a == wd b) = decide (a = b) := by
  by_cases h : a = b
  · subst h; simp
  · simp [h, wd_inj]
theorem wd_bne (a b : List Nat) : (wd a != wd b) = !decide (a = b) := by
  show (!(wd a == wd b)) = _
  rw [wd_beq]
theorem dots_wd : dots = wd [46, 46, 46] := by decide +kernel
theorem empty_wd : Str.empty = wd [] := rfl

theorem idx_clamp (a b n : Nat) : Builtin.Str.strSliceIndices (some (a : Int)) (some (b : Int)) 1 n = Builtin.Str.strSliceIndices (some ((min a n : Nat) : Int)) (some ((min b n : Nat) : Int)) 1 n := by
  have key : ∀ k : Nat, (if (1 : Int) > 0 then max 0 (min (if (k : Int) < 0 then (k : Int) + n else k) (n : Int)) else max (-1) (min (if (k : Int) < 0 then (k : Int) + n else k) ((n : Int) - 1))) = ((min k n : Nat) : Int) := fun k => by
    rw [if_pos (by decide), if_neg (by omega)]; omega
  show sliceRange (if (1 : Int) > 0 then max 0 (min (if (a : Int) < 0 then (a : Int) + n else a) (n : Int)) else _) (if (1 : Int) > 0 then max 0 (min (if (b : Int) < 0 then (b : Int) + n else b) (n : Int)) else _) 1 = sliceRange (if (1 : Int) > 0 then max 0 (min (if ((min a n : Nat) : Int) < 0 then ((min a n : Nat) : Int) + n else ((min a n : Nat) : Int)) (n : Int)) else _) (if (1 : Int) > 0 then max 0 (min (if ((min b n : Nat) : Int) < 0 then ((min b n : Nat) : Int) + n else ((min b n : Nat) : Int)) (n : Int)) else _) 1
  rw [key, key, key, key, Nat.min_assoc, Nat.min_self, Nat.min_assoc, Nat.min_self]

theorem wd_mid (l : List Nat) (a b : Nat) (hab : a ≤ b) : Txt.slice (wd l) (some (a : Int)) (some (b : Int)) = wd ((l.drop a).take (b - a)) := by
  have e : Txt.slice (wd l) (some (a : Int)) (some (b : Int)) = StrLaws.sliceText (wd l) (some ((min a (wd l).length : Nat) : Int)) (some ((min b (wd l).length : Nat) : Int)) := by
    unfold Txt.slice StrLaws.sliceText
    rw [idx_clamp]
  rw [e, StrLaws.sliceText_nat _ (by omega) (by omega), wd_list, wd_len]
  show wd _ = wd _
  rw [wd_inj]
  by_cases ha : a ≤ l.length
  · rw [Nat.min_eq_left ha]
    by_cases hb : b ≤ l.length
    · rw [Nat.min_eq_left hb]
    · rw [Nat.min_eq_right (by omega), List.take_of_length_le (by simp), List.take_of_length_le (by simp; omega)]
  · rw [Nat.min_eq_right (by omega), Nat.min_eq_right (by omega), List.drop_eq_nil_of_le (by omega : l.length ≤ a)]
    simp
theorem wd_from (l : List Nat) (a : Nat) : Txt.slice (wd l) (some (a : Int)) none = wd (l.drop a) := by
  by_cases ha : a ≤ l.length
  · have e : Txt.slice (wd l) (some (a : Int)) none = Txt.slice (wd l) (some (a : Int)) (some ((wd l).length : Int)) := by unfold Txt.slice; rw [StrLaws.sliceIdx_none_hi]
    rw [e, wd_len, wd_mid _ _ _ ha, List.take_of_length_le (by simp)]
  · have e : Txt.slice (wd l) (some (a : Int)) none = Txt.slice (wd l) (some (a : Int)) (some ((a : Nat) : Int)) := by
      unfold Txt.slice
      rw [StrLaws.sliceIdx_none_hi, idx_clamp, idx_clamp a a, wd_len]
      rw [Nat.min_eq_right (by omega : l.length ≤ a), Nat.min_self]
    rw [e, wd_mid _ _ _ (Nat.le_refl _), List.drop_eq_nil_of_le (by omega)]
    simp
theorem wd_to (l : List Nat) (b : Nat) : Txt.slice (wd l) none (some (b : Int)) = wd (l.take b) := by
  have e : Txt.slice (wd l) none (some (b : Int)) = Txt.slice (wd l) (some ((0 : Nat) : Int)) (some (b : Int)) := by unfold Txt.slice; rw [StrLaws.sliceIdx_none_lo]; rfl
  rw [e, wd_mid _ _ _ (Nat.zero_le _)]; simp
theorem wd_to_neg (l : List Nat) (h : l ≠ []) : Txt.slice (wd l) none (some (-1)) = wd l.dropLast := by
  have hl : 0 < l.length := List.length_pos_iff.mpr h
  have e : Txt.slice (wd l) none (some (-1)) = Txt.slice (wd l) none (some ((l.length - 1 : Nat) : Int)) := by
    have := StrLaws.sliceText_neg_hi (wd l) none (j := -1) (by omega) (by rw [wd_len]; omega)
    rw [wd_len, show (-1 + (l.length : Int)) = ((l.length - 1 : Nat) : Int) by omega] at this
    exact this
  rw [e, wd_to, List.dropLast_eq_take]
theorem wd_to_neg0 : Txt.slice (wd []) none (some (-1)) = wd [] := by decide +kernel
theorem wd_from_neg (l : List Nat) (h : l ≠ []) : Txt.slice (wd l) (some (-1)) none = wd (l.drop (l.length - 1)) := by
  have hl : 0 < l.length := List.length_pos_iff.mpr h
  have e : Txt.slice (wd l) (some (-1)) none = Txt.slice (wd l) (some ((l.length - 1 : Nat) : Int)) none := by
    have := StrLaws.sliceText_neg_lo (wd l) none (i := -1) (by omega) (by rw [wd_len]; omega)
    rw [wd_len, show (-1 + (l.length : Int)) = ((l.length - 1 : Nat) : Int) by omega] at this
    exact this
  rw [e, wd_from]
theorem wd_from_neg0 : Txt.slice (wd []) (some (-1)) none = wd [] := by decide +kernel
theorem wd_item (l : List Nat) (i : Nat) (c : Nat) (h : l[i]? = some c) : Txt.item (wd l) (i : Int) = ch c ∧ (Txt.charAt (wd l) (i : Int)).isSome = true := by
  have hi := (List.getElem?_eq_some_iff.mp h).1
  have e : Txt.charAt (wd l) (i : Int) = some c := StrLaws.at_nonneg (by omega) (by simp [wd, h])
  unfold Txt.item
  rw [e]; exact ⟨rfl, rfl⟩
theorem wd_has (l : List Nat) (c : Nat) : Txt.contains (wd l) (ch c) = decide (c ∈ l) := by
  unfold Txt.contains
  have := StrLaws.found_one (wd l) c
  rw [wd_list] at this
  exact this
theorem wd_at (l p : List Nat) (n i : Nat) (hn : n ≤ l.length) : StrLaws.At (wd l) (wd p) n i ↔ ∃ u v, l.take n = u ++ p ++ v ∧ u.length = i := by
  unfold StrLaws.At
  rw [StrLaws.subAt_eq, wd_list, wd_list, wd_len]
  constructor
  · rintro ⟨h1, h2⟩
    have h2 : (l.drop i).take p.length = p := by simpa using h2
    refine ⟨l.take i, (l.take n).drop (i + p.length), ?_, by simp; omega⟩
    have e : l.take n = l.take i ++ ((l.take n).drop i) := by
      conv => lhs; rw [← List.take_append_drop i (l.take n)]
      rw [List.take_take, Nat.min_eq_left (by omega)]
    have e2 : ((l.take n).drop i).take p.length = p := by
      rw [List.drop_take, List.take_take, Nat.min_eq_left (by omega), h2]
    have d : (l.take n).drop i = p ++ (l.take n).drop (i + p.length) := by
      have := List.take_append_drop p.length ((l.take n).drop i)
      rw [e2, List.drop_drop] at this; exact this.symm
    rw [List.append_assoc, ← d]; exact e
  · rintro ⟨u, v, h, rfl⟩
    have hl : (l.take n).length = n := by simp; omega
    have h3 : u.length + p.length ≤ n := by rw [← hl, h]; simp
    refine ⟨h3, ?_⟩
    have : (l.drop u.length).take p.length = p := by
      have e : ((l.take n).drop u.length).take p.length = (l.drop u.length).take p.length := by
        rw [List.drop_take, List.take_take, Nat.min_eq_left (by omega)]
      rw [← e, h]; simp
    simp [this]

theorem occ_gen (x y : Str) (lo hi : Nat) (hhi : hi ≤ x.length) :
    (Builtin.Str.occurrences x y lo hi 1 = [] ∧ ∀ i, lo ≤ i → ¬ StrLaws.At x y hi i) ∨ ∃ i r, Builtin.Str.occurrences x y lo hi 1 = i :: r ∧ lo ≤ i ∧ StrLaws.At x y hi i ∧ ∀ k, lo ≤ k → k < i → ¬ StrLaws.At x y hi k := by
  rw [StrLaws.occ_eq]
  rcases StrLaws.occ_first x y hi 1 (Nat.le_refl _) (List.range' lo (hi + 1 - lo)) lo (fun i hi' => by have := List.mem_range'_1.mp hi'; omega) with ⟨h0, hn⟩ | ⟨pre, a, post, e, h0, ha, hn⟩
  · refine .inl ⟨by rw [h0], fun i hlo hi' => ?_⟩
    exact hn i (by have := hi'.1; rw [List.mem_range'_1]; omega) hi'
  · have hs := StrLaws.range'_split_from e
    refine .inr ⟨a, ((forIn (List.range' lo (hi + 1 - lo)) ((#[] : Array Nat), lo) (StrLaws.occBody x y hi 1)).run.fst.toList).tail, ?_, hs.1, ha, fun k hk0 hk => hn k (hs.2 k hk0 hk)⟩
    generalize (forIn (List.range' lo (hi + 1 - lo)) ((#[] : Array Nat), lo) (StrLaws.occBody x y hi 1)).run.fst = arr at h0
    have h1 : arr.toList[0]? = some a := by simpa using h0
    cases hL : arr.toList with
    | nil => rw [hL] at h1; cases h1
    | cons b t => rw [hL] at h1; simp at h1; rw [h1]; rfl

theorem find4_wd (l p : List Nat) (i e : Nat) (he : e ≤ l.length) :
    (find4 (wd l) (wd p) i e < 0 ∧ ∀ u v, l.take e = u ++ p ++ v → i ≤ u.length → False) ∨
    ∃ u v, l.take e = u ++ p ++ v ∧ i ≤ u.length ∧ find4 (wd l) (wd p) i e = (u.length : Int) ∧ ∀ u' v', l.take e = u' ++ p ++ v' → i ≤ u'.length → u.length ≤ u'.length := by
  unfold find4
  rw [wd_len, Nat.min_eq_left he]
  rcases occ_gen (wd l) (wd p) i e (by rw [wd_len]; exact he) with ⟨h, hn⟩ | ⟨k, r, h, hk, ha, hn⟩
  · rw [h]
    exact .inl ⟨by decide, fun u v hu hi => hn u.length hi ((wd_at l p e _ he).mpr ⟨u, v, hu, rfl⟩)⟩
  · rw [h]
    obtain ⟨u, v, hu, rfl⟩ := (wd_at l p e k he).mp ha
    refine .inr ⟨u, v, hu, hk, rfl, fun u' v' hu' hi => ?_⟩
    refine Nat.le_of_not_lt fun hlt => hn u'.length hi hlt ((wd_at l p e _ he).mpr ⟨u', v', hu', rfl⟩)

/-- the pieces stand in the text, one behind the other -/
def Fit : List (List Nat) → List Nat → Prop
  | [], _ => True
  | w :: ws, g => ∃ u v, g = u ++ w ++ v ∧ Fit ws v
theorem Fit.wider : ∀ {ws : List (List Nat)} {g : List Nat} (u : List Nat), Fit ws g → Fit ws (u ++ g)
  | [], _, _, _ => trivial
  | w :: ws, _, u, ⟨a, b, e, h⟩ => ⟨u ++ a, b, by rw [e]; simp, h⟩

theorem emLoop_iff (l : List Nat) (e : Nat) (he : e ≤ l.length) : ∀ (ws : List (List Nat)) (p : Nat), p ≤ e → (emLoop (wd l) e (ws.map wd) p = true ↔ Fit ws ((l.take e).drop p))
  | [], p, _ => by simp [emLoop, Fit]
  | w :: ws, p, hp => by
    rw [List.map_cons, emLoop_cons]
    have hle : (l.take e).length = e := by simp; omega
    rcases find4_wd l w p e he with ⟨hneg, hno⟩ | ⟨u, v, hu, hpu, hf, hmin⟩
    · rw [if_pos hneg]
      constructor
      · intro h; cases h
      · rintro ⟨a, b, hab, _⟩
        exfalso
        refine hno ((l.take e).take p ++ a) b ?_ (by simp; omega)
        rw [List.append_assoc, List.append_assoc, ← List.append_assoc a, ← hab, List.take_append_drop]
    · rw [if_neg (by rw [hf]; omega), hf, wd_len]
      have h1 : ((u.length : Int)).toNat + w.length = u.length + w.length := by omega
      have hlen : u.length + w.length + v.length = e := by rw [← hle, hu]; simp; omega
      rw [h1, emLoop_iff l e he ws (u.length + w.length) (by omega)]
      have hd : (l.take e).drop (u.length + w.length) = v := by rw [hu, List.drop_append_of_le_length (by simp)]; simp
      rw [hd]
      constructor
      · intro h
        refine ⟨u.drop p, v, ?_, h⟩
        rw [hu, List.append_assoc, List.drop_append_of_le_length hpu, List.append_assoc]
      · rintro ⟨a, b, hab, h⟩
        have hu' : l.take e = ((l.take e).take p ++ a) ++ w ++ b := by
          rw [List.append_assoc, List.append_assoc, ← List.append_assoc a, ← hab, List.take_append_drop]
        have hm := hmin _ _ hu' (by simp; omega)
        have hlens : ((l.take e).take p ++ a).length + w.length + b.length = e := by
          have := congrArg List.length hu'
          simp only [List.length_append] at this ⊢
          omega
        have hlb : b.length ≤ v.length := by omega
        have hb : v.drop (v.length - b.length) = b := by
          have e1 : (l.take e).drop (e - b.length) = b := by
            conv => lhs; rw [hu']
            have : e - b.length = (((l.take e).take p ++ a) ++ w).length := by
              rw [List.length_append]; omega
            rw [this, List.drop_append_of_le_length (Nat.le_refl _), List.drop_length, List.nil_append]
          have e2 : (l.take e).drop (e - b.length) = v.drop (v.length - b.length) := by
            have hd' := hd
            rw [← hd', List.drop_drop, hd']
            congr 1; omega
          rw [← e2, e1]
        have := Fit.wider (v.take (v.length - b.length)) h
        have e3 : v.take (v.length - b.length) ++ b = v := by
          have e4 := List.take_append_drop (v.length - b.length) v
          rw [hb] at e4; exact e4
        rw [e3] at this
        exact this

/-- parts glued by three dots -/
def jn : List (List Nat) → List Nat
  | [] => []
  | [p] => p
  | p :: q :: r => p ++ [46, 46, 46] ++ jn (q :: r)
theorem jn_cons (p : List Nat) {r : List (List Nat)} (h : r ≠ []) : jn (p :: r) = p ++ [46, 46, 46] ++ jn r := by
  cases r with
  | nil => exact absurd rfl h
  | cons q r => rfl

theorem no_at {l p : List Nat} {a k : Nat} {rest : List Nat} (h : l.drop a = p ++ rest) (hp : 46 ∉ p) (hk : a ≤ k) (hk2 : k < a + p.length) : ¬ StrLaws.At (wd l) (wd [46, 46, 46]) (wd l).length k := by
  rw [wd_len]
  intro hat
  obtain ⟨u, v, hu, rfl⟩ := (wd_at l _ _ _ (Nat.le_refl _)).mp hat
  rw [List.take_length] at hu
  have h1 : l[u.length]? = some 46 := by rw [hu]; simp
  have h2 : (l.drop a)[u.length - a]? = some 46 := by rw [List.getElem?_drop, show a + (u.length - a) = u.length by omega]; exact h1
  rw [h, List.getElem?_append_left (by omega)] at h2
  exact hp (List.mem_of_getElem? h2)

theorem parts_of (l : List Nat) : ∀ (ps : List (List Nat)) (cuts : List Nat) (a f : Nat), StrLaws.ChainG (wd l) (wd [46, 46, 46]) (wd l).length a cuts f → (∀ k, f ≤ k → ¬ StrLaws.At (wd l) (wd [46, 46, 46]) (wd l).length k) → l.drop a = jn ps → (∀ p ∈ ps, 46 ∉ p) → ps ≠ [] → a ≤ l.length →
    StrLaws.partsFrom (wd l) 3 a cuts = ps.map wd
  | [], _, _, _, _, _, _, _, h, _ => absurd rfl h
  | [p], cuts, a, f, hc, hf, hl, hps, _, hal => by
    have hl' : l.drop a = p ++ [] := by rw [hl]; simp [jn]
    have hlen : l.length = a + p.length := by
      have := congrArg List.length hl'
      simp at this; omega
    have hno : ∀ k, a ≤ k → ¬ StrLaws.At (wd l) (wd [46, 46, 46]) (wd l).length k := fun k hk hat => by
      by_cases h : k < a + p.length
      · exact no_at hl' (hps p (.head _)) hk h hat
      · have := hat.1
        rw [wd_len, wd_len] at this
        simp at this; omega
    cases cuts with
    | nil =>
      show [Builtin.Str.strSub (wd l) a (wd l).length] = [wd p]
      congr 1
      apply Str.ext'
      apply Array.ext'
      rw [StrLaws.strSub_toList, wd_list, wd_list, wd_len, List.take_of_length_le (by simp), hl]; rfl
    | cons c r => exact absurd hc.2.1 (hno c hc.1)
  | p :: q :: r, cuts, a, f, hc, hf, hl, hps, _, hal => by
    have hl' : l.drop a = p ++ ([46, 46, 46] ++ jn (q :: r)) := by rw [hl]; simp [jn]
    have hla : l = l.take a ++ p ++ [46, 46, 46] ++ jn (q :: r) := by
      conv => lhs; rw [← List.take_append_drop a l, hl']
      simp
    have hta : (l.take a).length = a := by simp; omega
    have hat : StrLaws.At (wd l) (wd [46, 46, 46]) (wd l).length (a + p.length) := by
      rw [wd_len]
      refine (wd_at l _ _ _ (Nat.le_refl _)).mpr ⟨l.take a ++ p, jn (q :: r), ?_, by simp; omega⟩
      rw [List.take_length]; exact hla
    have hp46 := hps p (.head _)
    cases cuts with
    | nil =>
      have e : f = a := hc
      subst e
      exact absurd hat (hf _ (by omega))
    | cons c cs =>
      obtain ⟨h1, h2, h3, h4⟩ := hc
      have hca : c = a + p.length := by
        rcases Nat.lt_trichotomy c (a + p.length) with h | h | h
        · exact absurd h2 (no_at hl' hp46 h1 h)
        · exact h
        · exact absurd hat (h3 _ (by omega) h)
      subst hca
      have hal2 : a + p.length + 3 ≤ l.length := by
        have := h2.1
        rw [wd_len, wd_len] at this
        simpa using this
      show Builtin.Str.strSub (wd l) a (a + p.length) :: StrLaws.partsFrom (wd l) 3 (a + p.length + 3) cs = wd p :: (q :: r).map wd
      rw [parts_of l (q :: r) cs (a + p.length + 3) f (by rw [wd_len [46, 46, 46]] at h4; exact h4) hf ?_ (fun x hx => hps x (.tail _ hx)) (by simp) hal2]
      · congr 1
        apply Str.ext'
        apply Array.ext'
        rw [StrLaws.strSub_toList, wd_list, wd_list, hl', show a + p.length - a = p.length by omega]
        simp
      · have : l.drop (a + p.length + 3) = ((l.drop a).drop p.length).drop 3 := by rw [List.drop_drop, List.drop_drop, Nat.add_assoc]
        rw [this, hl']
        simp

theorem split_jn (ps : List (List Nat)) (h : ∀ p ∈ ps, 46 ∉ p) (hne : ps ≠ []) : Txt.split (wd (jn ps)) dots = ps.map wd := by
  rw [dots_wd]
  obtain ⟨f, hc, hf⟩ := StrLaws.occ_tight (wd (jn ps)) (wd [46, 46, 46]) (by rw [wd_len]; decide)
  have key := parts_of (jn ps) ps _ 0 f hc hf (by simp) h hne (Nat.zero_le _)
  unfold Txt.split
  have hk1 : ¬ (Builtin.Str.strKind (wd (jn ps)) < Builtin.Str.strKind (wd [46, 46, 46])) := by
    have := kind_pos (wd (jn ps))
    have h2 : Builtin.Str.strKind (wd [46, 46, 46]) = 1 := by decide +kernel
    omega
  by_cases hocc : (Builtin.Str.occurrences (wd (jn ps)) (wd [46, 46, 46]) 0 (wd (jn ps)).length ((wd (jn ps)).length + 1)).isEmpty = true
  · have e : Builtin.Str.occurrences (wd (jn ps)) (wd [46, 46, 46]) 0 (wd (jn ps)).length ((wd (jn ps)).length + 1) = [] := List.isEmpty_iff.mp hocc
    rw [e] at key
    have key' : [wd (jn ps)] = ps.map wd := by
      rw [← key]
      show [wd (jn ps)] = [Builtin.Str.strSub (wd (jn ps)) 0 (wd (jn ps)).length]
      rw [StrLaws.sub_whole]
    rw [hocc]
    simp only [if_true]
    split <;> exact key'
  · rw [if_neg hocc, StrLaws.partsBetween_eq, wd_len [46, 46, 46]]
    rw [if_neg]
    · exact key
    · have h2 : ¬ ((wd (jn ps)).length < (wd [46, 46, 46]).length) := by
        rcases StrLaws.occ_head (wd (jn ps)) (wd [46, 46, 46]) ((wd (jn ps)).length + 1) (by omega) with ⟨h0, _⟩ | ⟨i, r, _, hat, _⟩
        · rw [h0] at hocc; exact absurd rfl hocc
        · have := hat.1; omega
      simp only [Bool.or_eq_true, decide_eq_true_eq, not_or]
      exact ⟨h2, hk1⟩

theorem has_dots (ps : List (List Nat)) (h : ∀ p ∈ ps, 46 ∉ p) (hne : ps ≠ []) : Txt.contains (wd (jn ps)) dots = decide (2 ≤ ps.length) := by
  rw [Bool.eq_iff_iff, decide_eq_true_iff]
  constructor
  · intro hc
    have := split_two hc
    rw [split_jn ps h hne] at this
    simpa using this
  · intro h2
    match ps, h2 with
    | p :: q :: r, _ =>
      rw [dots_wd]
      refine (StrLaws.found_iff _ _).mpr ⟨p.length, ?_⟩
      have := (wd_at (jn (p :: q :: r)) [46, 46, 46] (jn (p :: q :: r)).length p.length (Nat.le_refl _)).mpr ⟨p, jn (q :: r), by rw [List.take_length]; rfl, rfl⟩
      rw [← wd_len] at this
      exact this

/-- what a pattern of parts lets through -/
def MatchP : List (List Nat) → List Nat → Prop
  | [], _ => False
  | [p], l => p = l
  | p :: q :: r, l => ∃ m, l = p ++ m ++ (q :: r).getLast (by simp) ∧ Fit (q :: r).dropLast m

theorem starts_wd (l p : List Nat) : Txt.startswith (wd l) (wd p) = true ↔ ∃ m, l = p ++ m := by
  unfold Txt.startswith
  rw [Bool.and_eq_true, decide_eq_true_iff, StrLaws.subAt_eq, wd_list, wd_list, wd_len, wd_len, List.drop_zero]
  constructor
  · rintro ⟨h1, h2⟩
    have h2 : l.take p.length = p := by simpa using h2
    exact ⟨l.drop p.length, by conv => lhs; rw [← List.take_append_drop p.length l, h2]⟩
  · rintro ⟨m, rfl⟩; simp
theorem ends_wd (l p : List Nat) : Txt.endswith (wd l) (wd p) = true ↔ ∃ m, l = m ++ p := by
  unfold Txt.endswith
  rw [Bool.and_eq_true, decide_eq_true_iff, StrLaws.subAt_eq, wd_list, wd_list, wd_len, wd_len]
  constructor
  · rintro ⟨h1, h2⟩
    have h2 : (l.drop (l.length - p.length)).take p.length = p := by simpa using h2
    rw [List.take_of_length_le (by simp; omega)] at h2
    exact ⟨l.take (l.length - p.length), by conv => lhs; rw [← List.take_append_drop (l.length - p.length) l, h2]⟩
  · rintro ⟨m, rfl⟩; simp

theorem fit_nil_cons {ws : List (List Nat)} {m : List Nat} : Fit ([] :: ws) m ↔ Fit ws m := by
  constructor
  · rintro ⟨u, v, rfl, h⟩; simpa using Fit.wider u h
  · intro h; exact ⟨[], m, by simp, h⟩
theorem fit_snoc_nil : ∀ {ws : List (List Nat)} {m : List Nat}, Fit (ws ++ [[]]) m ↔ Fit ws m
  | [], m => by
    constructor
    · intro _; trivial
    · intro _; exact ⟨[], m, by simp, trivial⟩
  | w :: ws, m => by
    constructor
    · rintro ⟨u, v, rfl, h⟩; exact ⟨u, v, rfl, fit_snoc_nil.mp h⟩
    · rintro ⟨u, v, rfl, h⟩; exact ⟨u, v, rfl, fit_snoc_nil.mpr h⟩

theorem emEnd_iff (l p : List Nat) (wi : List (List Nat)) (wl : List Nat) (hp : ∃ m, l = p ++ m) : emEnd (wd l) p.length ((wi ++ [wl]).map wd) = true ↔ ∃ m, l = p ++ m ++ wl ∧ Fit wi m := by
  have hlast : (((wi ++ [wl]).map wd).getLast?).getD Str.empty = wd wl := by simp
  obtain ⟨m0, hm0⟩ := hp
  unfold emEnd
  rw [hlast, wd_len, wd_len]
  by_cases hz : wl.length = 0
  · have hz' : wl = [] := List.length_eq_zero_iff.mp hz
    subst hz'
    have h0 : ¬ (p.length > l.length) := by rw [hm0]; simp
    rw [if_neg (by simp), if_neg h0, emLoop_iff l l.length (Nat.le_refl _) _ _ (by omega), List.take_length, hm0]
    have e : (p ++ m0).drop p.length = m0 := by simp
    rw [e, fit_snoc_nil]
    constructor
    · intro h; exact ⟨m0, by simp, h⟩
    · rintro ⟨m, hm, h⟩
      have : m0 = m := by simpa using hm
      rw [this]; exact h
  · rw [if_pos hz]
    by_cases he : Txt.endswith (wd l) (wd wl) = true
    · rw [if_pos he]
      obtain ⟨m1, hm1⟩ := (ends_wd l wl).mp he
      have hl1 : l.length = m1.length + wl.length := by rw [hm1]; simp
      by_cases hgt : p.length + wl.length > l.length
      · rw [if_pos hgt]
        constructor
        · intro h; cases h
        · rintro ⟨m, hm, _⟩
          rw [hm] at hgt; simp at hgt; omega
      · rw [if_neg hgt]
        have e1 : ((wi ++ [wl]).map wd).dropLast = wi.map wd := by simp
        rw [e1, emLoop_iff l _ (by omega) _ _ (by omega)]
        have e2 : l.take (l.length - wl.length) = m1 := by
          rw [show l.length - wl.length = m1.length by omega]
          conv => lhs; rw [hm1]
          simp
        rw [e2]
        constructor
        · intro h
          refine ⟨m1.drop p.length, ?_, h⟩
          have hpm : m1.take p.length = p := by
            have h1 : l.take p.length = p := by rw [hm0]; simp
            rw [hm1, List.take_append_of_le_length (by omega)] at h1
            exact h1
          conv => lhs; rw [hm1, ← List.take_append_drop p.length m1, hpm]
        · rintro ⟨m, hm, h⟩
          have : m1 = p ++ m := by
            have := hm1.symm.trans hm
            exact List.append_inj_left' this rfl
          rw [this]; simpa using h
    · rw [if_neg he]
      constructor
      · intro h; cases h
      · rintro ⟨m, hm, _⟩
        exact absurd ((ends_wd l wl).mpr ⟨p ++ m, hm⟩) he

theorem ematch_jn (ps : List (List Nat)) (l : List Nat) (h : ∀ p ∈ ps, 46 ∉ p) (hne : ps ≠ []) : ematch (wd (jn ps)) (wd l) = true ↔ MatchP ps l := by
  unfold ematch
  rw [has_dots ps h hne, split_jn ps h hne]
  match ps, hne with
  | [p], _ =>
    rw [if_pos (by simp), wd_beq]
    exact decide_eq_true_iff
  | p :: q :: r, _ =>
    rw [if_neg (by simp)]
    have hdl : (q :: r).dropLast ++ [(q :: r).getLast (by simp)] = q :: r := List.dropLast_concat_getLast _
    show (if (wd p).length ≠ 0 then if Txt.startswith (wd l) (wd p) then emEnd (wd l) (wd p).length ((q :: r).map wd) else false else emEnd (wd l) 0 ((p :: q :: r).map wd)) = true ↔ ∃ m, l = p ++ m ++ (q :: r).getLast (by simp) ∧ Fit (q :: r).dropLast m
    rw [wd_len]
    by_cases hz : p.length = 0
    · have hz' : p = [] := List.length_eq_zero_iff.mp hz
      subst hz'
      rw [if_neg (by simp)]
      have e : ([] :: q :: r : List (List Nat)) = ([] :: (q :: r).dropLast) ++ [(q :: r).getLast (by simp)] := by rw [List.cons_append, hdl]
      rw [e]
      have := emEnd_iff l [] ([] :: (q :: r).dropLast) ((q :: r).getLast (by simp)) ⟨l, rfl⟩
      rw [List.length_nil] at this
      rw [this]
      simp only [fit_nil_cons]
    · rw [if_pos hz]
      by_cases hs : Txt.startswith (wd l) (wd p) = true
      · rw [if_pos hs]
        have := emEnd_iff l p (q :: r).dropLast ((q :: r).getLast (by simp)) ((starts_wd l p).mp hs)
        rw [hdl] at this
        exact this
      · rw [if_neg hs]
        constructor
        · intro h; cases h
        · rintro ⟨m, hm, _⟩
          exact absurd ((starts_wd l p).mpr ⟨m ++ (q :: r).getLast (by simp), by rw [hm]; simp⟩) hs

/-- a list that stands as it stood, to the object -/
def fixList (ns : List Int) (o₀ : Obj) : Cell := .pred fun _ o => o = o₀ ∧ o₀.cls = .type "list" ∧ ∃ vs n, o₀.data = .seq vs n ∧ IntsAre vs.toList ns
theorem ints_rel {φ : List Addr} : ∀ {vs : List Value} {ns : List Int}, IntsAre vs ns → All2 (VRel φ) (ns.map .int) vs
  | _, _, .nil => trivial
  | _, _, .cons _ t r => ⟨⟨t, rfl⟩, ints_rel r⟩
section
variable {X : Cx} {d : Nat} {cm : Bool} {cs : List Cell} {Q : V → List Cell → Prop} {ns : List Int} {o₀ : Obj}
theorem fix_at {φ : List Addr} {h : Heap} {l : Nat} {a : Addr} (R : RelC X φ cs h) (hl : cs[l]? = some (fixList ns o₀)) (ha : φ[l]? = some a) : h.get? a = some o₀ ∧ ∃ vs, h.IsList a vs ∧ All2 (VRel φ) (ns.map .int) vs.toList := by
  obtain ⟨a', o, e1, e2, φ₀, hp, rfl, hc, vs, n, hd, hi⟩ := R.cell l _ hl
  rw [ha] at e1; cases e1
  exact ⟨e2, vs, ⟨_, e2, hc, n, hd⟩, ints_rel hi⟩
theorem WCV.sumIntsF {l : Nat} (hcm : cm = true) (hl : cs[l]? = some (fixList ns o₀)) (q : Q (.int ns.sum) cs) : WCV X d cm (.val (.builtin "sum")) [.ref l] cs Q := by
  intro A φ s fv vals hA R hf hv
  cases (hf : fv = _)
  obtain ⟨_, rfl, a, ha, rfl⟩ := all2_one hv
  obtain ⟨_, vs, e, hr⟩ := fix_at R hl ha
  obtain ⟨xs, hx1, hx2⟩ := ints_are hr
  have hvs : vs = PySem.intItems xs.toArray := by
    apply Array.ext'
    rw [hx2]; simp [PySem.intItems]
  subst hvs
  refine sum_intListG (hA.calm hcm) e fun h' tk t' k => ?_
  rw [ints_pre, hx1]
  exact ⟨φ, .int ns.sum, cs, Step.ext ⟨rfl, rfl, rfl⟩ k, R.ext k, ⟨_, rfl⟩, q⟩
theorem WSL.listF {value slice : Expr} {m : Nat} {l u : V} (hm : cs[m]? = some (fixList ns o₀)) (hl : l.isPart = true) (hu : u.isPart = true) (hz : ns.length < 1000000) (q : Q (.ref cs.length) (cs ++ [.list (pick (ns.map .int) l.part u.part)]))
    (hs : ∀ b a, subscripted slice false (.ref b) (.ref a) = operate [.ref a, .ref b] (getItem (.ref b) (.ref a)) := by intro _ _; with_unfolding_all rfl) : WSL X d cm value slice (.ref m) l u .none cs Q := by
  rintro A φ s ov a lv uv kv hA R ⟨b, hb, rfl⟩ hlv huv hkv hsl
  cases (hkv : kv = .none)
  obtain ⟨_, vs, e, hr⟩ := fix_at R hm hb
  have hsz := hr.size
  rw [List.length_map] at hsz
  refine tail_any (Heap.IsList.typeIs e) slot_list_getitem.lookup (wpAny_getItem_list_slice e hsl (part_of hlv hl) (part_of huv hu) .none (by simp) ?_ (by rw [sizeLine_eq]; omega)) (hs b a)
  refine TriC.new (α := Unit) (tk := s.toks) (c := .list (pick (ns.map .int) l.part u.part)) (o := lstOf (slicePick vs l.part u.part none) 0) R rfl (Cell.isList (all2_mono_snoc ?_)) q
  rw [kms_pick_eq]
  unfold pick kms_pick
  rw [← hr.length]
  exact (hr.drop _).take _
end

abbrev pw : Program := PySem.Challenge.pw_mq0347_01
/-- the text's statements by their places -/
def nth : List Stmt → Nat → Stmt
  | s :: _, 0 => s
  | _ :: r, n + 1 => nth r n
  | [], _ => default
def within : Stmt → List Stmt
  | .ClassDef _ _ _ body .. => body
  | _ => []
/-- the object that a def makes -/
def fnO (s : Stmt) (qual : Str) (dflt md : Value) (code : Addr) : Obj := match s with
  | .FunctionDef name args body _ _ _ scope _ _ _ => { cls := .type "function", data := .func { name := name, qualname := qual, params := args, body := .stmts body, scope := scope, globals := 3, closure := [], defaults := dflt, kwdefaults := .none, pyModule := md, code := .ref code } }
  | _ => default
abbrev kv (P : Params) (x : Str) (t : Nat) (v : Value) : DictEntry := { hash := PyData.keyHash P x, key := .str x t, val := v }
abbrev vS (x : Str) (t : Nat) : Value := .str x t
/-- what stands behind the top (written by GenK) -/
noncomputable def kF0 (P : Params) : Frag := [
  (2, { cls := Value.none, data := Data.dict #[] }),
  (3, { cls := Value.type "dict", data := Data.dict #[kv P "__name__" 165 (vS ("law_mq0347_01") 392),
     kv P "__doc__" 166 (Value.none),
     kv P "__package__" 167 (Value.none),
     kv P "__loader__" 168 (Value.builtin "__main__.__loader__#opaque"),
     kv P "__spec__" 169 (Value.none),
     kv P "__annotations__" 170 (Value.ref 6),
     kv P "__builtins__" 171 (Value.ref 4),
     kv P "__file__" 173 (vS ("/claim/cut.py") 172),
     kv P "__cached__" 174 (Value.none),
     kv P "_wall" 193 (Value.ref 21),
     kv P "_NODE_OUT" 198 (Value.int (-1) 197),
     kv P "_NODE_DONE" 201 (Value.int (-2) 200),
     kv P "_NodeInfo" 238 (Value.ref 40),
     kv P "CycleError" 256 (Value.ref 55),
     kv P "TopologicalSorter" 375 (Value.ref 137),
     kv P "ELLIPSIS_MARKER" 379 (vS ("...") 378),
     kv P "_ellipsis_match" 391 (Value.ref 148),
     kv P "_law_refused" 400 (Value.ref 155),
     kv P "_law_run" 409 (Value.ref 162),
     kv P "_law_word" 420 (Value.ref 169),
     kv P "_law_peeled" 430 (Value.ref 176),
     kv P "_law_due" 436 (Value.ref 181),
     kv P "_law_is_ring" 446 (Value.ref 188),
     kv P "law" 464 (Value.ref 195)] 24 }),
  (20, { cls := Value.type "code", data := Data.fields #[vS ("_wall") 187, vS ("_wall") 188, vS ("/claim/cut.py") 189, Value.int 1 0, Value.int 1 0, Value.int 0 0, Value.int 0 0, Value.int 3 0, Value.ref 15, Value.bool true, Value.int 181 0, Value.ref 16, Value.none, Value.ref 17, Value.ref 18, Value.ref 19, Value.int 191 0, Value.int 1 0, vS ("/claim/cut.py") 192] }),
  (21, fnO (nth pw.main.body 0) "_wall" (Value.none) (vS ("__main__") 164) 20),
  (35, { cls := Value.type "code", data := Data.fields #[vS ("__init__") 218, vS ("_NodeInfo.__init__") 219, vS ("/claim/cut.py") 220, Value.int 10 0, Value.int 2 0, Value.int 0 0, Value.int 0 0, Value.int 3 0, Value.ref 30, Value.bool true, Value.int 181 0, Value.ref 31, Value.none, Value.ref 32, Value.ref 33, Value.ref 34, Value.int 223 0, Value.int 10 0, vS ("/claim/cut.py") 224] }),
  (36, fnO (nth (within (nth pw.main.body 4)) 1) "_NodeInfo.__init__" (Value.none) (vS ("cpy313.graphlib") 194) 35),
  (39, { cls := Value.type "dict", data := Data.dict #[kv P "__module__" 209 (vS ("cpy313.graphlib") 194),
     kv P "__firstlineno__" 213 (Value.int 7 212),
     kv P "__slots__" 217 (Value.ref 29),
     kv P "__init__" 225 (Value.ref 36),
     kv P "__static_attributes__" 229 (Value.ref 37),
     kv P "node" 231 (Value.ref 41),
     kv P "npredecessors" 233 (Value.ref 42),
     kv P "successors" 235 (Value.ref 43),
     kv P "__doc__" 236 (Value.none)] 5 })]
noncomputable def kF1 (P : Params) : Frag := [
  (40, { cls := Value.type "type", data := Data.cls { name := "_NodeInfo", bases := [Value.type "object"], mro := [Value.ref 40, Value.type "object"], ns := 39, qualname := "_NodeInfo", hasDict := false, slotNames := ["node", "npredecessors", "successors"] }, slots := #[none, none, some (vS ("_NodeInfo") 202), some (vS ("_NodeInfo") 210), some (Value.builtin "object.__new__"), some (Value.bool false)] }),
  (41, { cls := Value.type "member_descriptor", data := Data.fields #[vS ("node") 230, Value.ref 40, Value.builtin "proto.slot", Value.builtin "proto.slot#set", Value.int 2 0] }),
  (42, { cls := Value.type "member_descriptor", data := Data.fields #[vS ("npredecessors") 232, Value.ref 40, Value.builtin "proto.slot", Value.builtin "proto.slot#set", Value.int 1 0] }),
  (43, { cls := Value.type "member_descriptor", data := Data.fields #[vS ("successors") 234, Value.ref 40, Value.builtin "proto.slot", Value.builtin "proto.slot#set", Value.int 0 0] }),
  (54, { cls := Value.type "dict", data := Data.dict #[kv P "__module__" 246 (vS ("cpy313.graphlib") 194),
     kv P "__firstlineno__" 250 (Value.int 14 249),
     kv P "__static_attributes__" 251 (Value.ref 53),
     kv P "__weakref__" 253 (Value.ref 56),
     kv P "__doc__" 254 (Value.none)] 3 }),
  (55, { cls := Value.type "type", data := Data.cls { name := "CycleError", bases := [Value.type "ValueError"], mro := [Value.ref 55, Value.type "ValueError", Value.type "Exception", Value.type "BaseException", Value.type "object"], ns := 54, qualname := "CycleError" }, slots := #[some (Value.ref 46), none, some (vS ("CycleError") 239), some (vS ("CycleError") 247), some (Value.builtin "ValueError.__new__"), some (Value.bool true)] }),
  (66, { cls := Value.type "tuple", data := Data.seq #[Value.none] })]
noncomputable def kF2 (P : Params) : Frag := [
  (72, { cls := Value.type "code", data := Data.fields #[vS ("__init__") 269, vS ("TopologicalSorter.__init__") 270, vS ("/claim/cut.py") 271, Value.int 18 0, Value.int 2 0, Value.int 0 0, Value.int 0 0, Value.int 3 0, Value.ref 67, Value.bool true, Value.int 181 0, Value.ref 68, Value.none, Value.ref 69, Value.ref 70, Value.ref 71, Value.int 276 0, Value.int 18 0, vS ("/claim/cut.py") 277] }),
  (73, fnO (nth (within (nth pw.main.body 6)) 0) "TopologicalSorter.__init__" (Value.ref 66) (vS ("cpy313.graphlib") 194) 72),
  (79, { cls := Value.type "code", data := Data.fields #[vS ("_get_nodeinfo") 279, vS ("TopologicalSorter._get_nodeinfo") 280, vS ("/claim/cut.py") 281, Value.int 27 0, Value.int 2 0, Value.int 0 0, Value.int 0 0, Value.int 3 0, Value.ref 74, Value.bool true, Value.int 181 0, Value.ref 75, Value.none, Value.ref 76, Value.ref 77, Value.ref 78, Value.int 285 0, Value.int 27 0, vS ("/claim/cut.py") 286] }),
  (80, fnO (nth (within (nth pw.main.body 6)) 1) "TopologicalSorter._get_nodeinfo" (Value.none) (vS ("cpy313.graphlib") 194) 79),
  (86, { cls := Value.type "code", data := Data.fields #[vS ("add") 288, vS ("TopologicalSorter.add") 289, vS ("/claim/cut.py") 290, Value.int 32 0, Value.int 2 0, Value.int 0 0, Value.int 0 0, Value.int 7 0, Value.ref 81, Value.bool true, Value.int 181 0, Value.ref 82, Value.none, Value.ref 83, Value.ref 84, Value.ref 85, Value.int 297 0, Value.int 32 0, vS ("/claim/cut.py") 298] }),
  (87, fnO (nth (within (nth pw.main.body 6)) 2) "TopologicalSorter.add" (Value.none) (vS ("cpy313.graphlib") 194) 86),
  (91, { cls := Value.type "code", data := Data.fields #[vS ("prepare") 300, vS ("TopologicalSorter.prepare") 301, vS ("/claim/cut.py") 302, Value.int 41 0, Value.int 1 0, Value.int 0 0, Value.int 0 0, Value.int 3 0, Value.ref 88, Value.bool true, Value.int 181 0, Value.ref 89, Value.none, Value.none, Value.none, Value.ref 90, Value.int 303 0, Value.int 41 0, vS ("/claim/cut.py") 304] })]
noncomputable def kF3 (P : Params) : Frag := [
  (92, fnO (nth (within (nth pw.main.body 6)) 3) "TopologicalSorter.prepare" (Value.none) (vS ("cpy313.graphlib") 194) 91),
  (98, { cls := Value.type "code", data := Data.fields #[vS ("get_ready") 306, vS ("TopologicalSorter.get_ready") 307, vS ("/claim/cut.py") 308, Value.int 49 0, Value.int 1 0, Value.int 0 0, Value.int 0 0, Value.int 3 0, Value.ref 93, Value.bool true, Value.int 181 0, Value.ref 94, Value.none, Value.ref 95, Value.ref 96, Value.ref 97, Value.int 313 0, Value.int 49 0, vS ("/claim/cut.py") 314] }),
  (99, fnO (nth (within (nth pw.main.body 6)) 4) "TopologicalSorter.get_ready" (Value.none) (vS ("cpy313.graphlib") 194) 98),
  (105, { cls := Value.type "code", data := Data.fields #[vS ("is_active") 316, vS ("TopologicalSorter.is_active") 317, vS ("/claim/cut.py") 318, Value.int 60 0, Value.int 1 0, Value.int 0 0, Value.int 0 0, Value.int 3 0, Value.ref 100, Value.bool true, Value.int 181 0, Value.ref 101, Value.none, Value.ref 102, Value.ref 103, Value.ref 104, Value.int 320 0, Value.int 60 0, vS ("/claim/cut.py") 321] }),
  (106, fnO (nth (within (nth pw.main.body 6)) 5) "TopologicalSorter.is_active" (Value.none) (vS ("cpy313.graphlib") 194) 105),
  (112, { cls := Value.type "code", data := Data.fields #[vS ("__bool__") 323, vS ("TopologicalSorter.__bool__") 324, vS ("/claim/cut.py") 325, Value.int 65 0, Value.int 1 0, Value.int 0 0, Value.int 0 0, Value.int 3 0, Value.ref 107, Value.bool true, Value.int 181 0, Value.ref 108, Value.none, Value.ref 109, Value.ref 110, Value.ref 111, Value.int 327 0, Value.int 65 0, vS ("/claim/cut.py") 328] }),
  (113, fnO (nth (within (nth pw.main.body 6)) 6) "TopologicalSorter.__bool__" (Value.none) (vS ("cpy313.graphlib") 194) 112)]
noncomputable def kF4 (P : Params) : Frag := [
  (119, { cls := Value.type "code", data := Data.fields #[vS ("done") 330, vS ("TopologicalSorter.done") 331, vS ("/claim/cut.py") 332, Value.int 68 0, Value.int 1 0, Value.int 0 0, Value.int 0 0, Value.int 7 0, Value.ref 114, Value.bool true, Value.int 181 0, Value.ref 115, Value.none, Value.ref 116, Value.ref 117, Value.ref 118, Value.int 341 0, Value.int 68 0, vS ("/claim/cut.py") 342] }),
  (120, fnO (nth (within (nth pw.main.body 6)) 7) "TopologicalSorter.done" (Value.none) (vS ("cpy313.graphlib") 194) 119),
  (126, { cls := Value.type "code", data := Data.fields #[vS ("_find_cycle") 344, vS ("TopologicalSorter._find_cycle") 345, vS ("/claim/cut.py") 346, Value.int 91 0, Value.int 1 0, Value.int 0 0, Value.int 0 0, Value.int 3 0, Value.ref 121, Value.bool true, Value.int 181 0, Value.ref 122, Value.none, Value.ref 123, Value.ref 124, Value.ref 125, Value.int 354 0, Value.int 91 0, vS ("/claim/cut.py") 355] }),
  (127, fnO (nth (within (nth pw.main.body 6)) 8) "TopologicalSorter._find_cycle" (Value.none) (vS ("cpy313.graphlib") 194) 126),
  (133, { cls := Value.type "code", data := Data.fields #[vS ("static_order") 357, vS ("TopologicalSorter.static_order") 358, vS ("/claim/cut.py") 359, Value.int 120 0, Value.int 1 0, Value.int 0 0, Value.int 0 0, Value.int 3 0, Value.ref 128, Value.bool true, Value.int 181 0, Value.ref 129, Value.none, Value.ref 130, Value.ref 131, Value.ref 132, Value.int 361 0, Value.int 120 0, vS ("/claim/cut.py") 362] }),
  (134, fnO (nth (within (nth pw.main.body 6)) 9) "TopologicalSorter.static_order" (Value.none) (vS ("cpy313.graphlib") 194) 133),
  (136, { cls := Value.type "dict", data := Data.dict #[kv P "__module__" 264 (vS ("cpy313.graphlib") 194),
     kv P "__firstlineno__" 268 (Value.int 16 267),
     kv P "__init__" 278 (Value.ref 73),
     kv P "_get_nodeinfo" 287 (Value.ref 80),
     kv P "add" 299 (Value.ref 87),
     kv P "prepare" 305 (Value.ref 92),
     kv P "get_ready" 315 (Value.ref 99),
     kv P "is_active" 322 (Value.ref 106),
     kv P "__bool__" 329 (Value.ref 113),
     kv P "done" 343 (Value.ref 120),
     kv P "_find_cycle" 356 (Value.ref 127),
     kv P "static_order" 363 (Value.ref 134),
     kv P "__static_attributes__" 368 (Value.ref 135),
     kv P "__dict__" 370 (Value.ref 138),
     kv P "__weakref__" 372 (Value.ref 139),
     kv P "__doc__" 373 (Value.none)] 4 })]
noncomputable def kF5 (P : Params) : Frag := [
  (137, { cls := Value.type "type", data := Data.cls { name := "TopologicalSorter", bases := [Value.type "object"], mro := [Value.ref 137, Value.type "object"], ns := 136, qualname := "TopologicalSorter" }, slots := #[none, none, some (vS ("TopologicalSorter") 257), some (vS ("TopologicalSorter") 265), some (Value.builtin "object.__new__"), some (Value.bool true)] }),
  (147, { cls := Value.type "code", data := Data.fields #[vS ("_ellipsis_match") 380, vS ("_ellipsis_match") 381, vS ("/claim/cut.py") 382, Value.int 124 0, Value.int 2 0, Value.int 0 0, Value.int 0 0, Value.int 3 0, Value.ref 142, Value.bool true, Value.int 181 0, Value.ref 143, Value.none, Value.ref 144, Value.ref 145, Value.ref 146, Value.int 389 0, Value.int 124 0, vS ("/claim/cut.py") 390] }),
  (148, fnO (nth pw.main.body 9) "_ellipsis_match" (Value.none) (vS ("cpy313.doctest") 376) 147),
  (154, { cls := Value.type "code", data := Data.fields #[vS ("_law_refused") 394, vS ("_law_refused") 395, vS ("/claim/cut.py") 396, Value.int 153 0, Value.int 1 0, Value.int 0 0, Value.int 0 0, Value.int 3 0, Value.ref 149, Value.bool true, Value.int 181 0, Value.ref 150, Value.none, Value.ref 151, Value.ref 152, Value.ref 153, Value.int 398 0, Value.int 153 0, vS ("/claim/cut.py") 399] }),
  (155, fnO (nth pw.main.body 11) "_law_refused" (Value.none) (vS ("law_mq0347_01") 392) 154),
  (161, { cls := Value.type "code", data := Data.fields #[vS ("_law_run") 401, vS ("_law_run") 402, vS ("/claim/cut.py") 403, Value.int 159 0, Value.int 1 0, Value.int 0 0, Value.int 0 0, Value.int 3 0, Value.ref 156, Value.bool true, Value.int 181 0, Value.ref 157, Value.none, Value.ref 158, Value.ref 159, Value.ref 160, Value.int 407 0, Value.int 159 0, vS ("/claim/cut.py") 408] }),
  (162, fnO (nth pw.main.body 12) "_law_run" (Value.none) (vS ("law_mq0347_01") 392) 161)]
noncomputable def kF6 (P : Params) : Frag := [
  (168, { cls := Value.type "code", data := Data.fields #[vS ("_law_word") 410, vS ("_law_word") 411, vS ("/claim/cut.py") 412, Value.int 166 0, Value.int 1 0, Value.int 0 0, Value.int 0 0, Value.int 3 0, Value.ref 163, Value.bool true, Value.int 181 0, Value.ref 164, Value.none, Value.ref 165, Value.ref 166, Value.ref 167, Value.int 418 0, Value.int 166 0, vS ("/claim/cut.py") 419] }),
  (169, fnO (nth pw.main.body 13) "_law_word" (Value.none) (vS ("law_mq0347_01") 392) 168),
  (175, { cls := Value.type "code", data := Data.fields #[vS ("_law_peeled") 421, vS ("_law_peeled") 422, vS ("/claim/cut.py") 423, Value.int 177 0, Value.int 1 0, Value.int 0 0, Value.int 0 0, Value.int 3 0, Value.ref 170, Value.bool true, Value.int 181 0, Value.ref 171, Value.none, Value.ref 172, Value.ref 173, Value.ref 174, Value.int 428 0, Value.int 177 0, vS ("/claim/cut.py") 429] }),
  (176, fnO (nth pw.main.body 14) "_law_peeled" (Value.none) (vS ("law_mq0347_01") 392) 175),
  (180, { cls := Value.type "code", data := Data.fields #[vS ("_law_due") 431, vS ("_law_due") 432, vS ("/claim/cut.py") 433, Value.int 189 0, Value.int 3 0, Value.int 0 0, Value.int 0 0, Value.int 3 0, Value.ref 177, Value.bool true, Value.int 181 0, Value.ref 178, Value.none, Value.none, Value.none, Value.ref 179, Value.int 434 0, Value.int 189 0, vS ("/claim/cut.py") 435] }),
  (181, fnO (nth pw.main.body 15) "_law_due" (Value.none) (vS ("law_mq0347_01") 392) 180),
  (187, { cls := Value.type "code", data := Data.fields #[vS ("_law_is_ring") 437, vS ("_law_is_ring") 438, vS ("/claim/cut.py") 439, Value.int 194 0, Value.int 3 0, Value.int 0 0, Value.int 0 0, Value.int 3 0, Value.ref 182, Value.bool true, Value.int 181 0, Value.ref 183, Value.none, Value.ref 184, Value.ref 185, Value.ref 186, Value.int 444 0, Value.int 194 0, vS ("/claim/cut.py") 445] })]
noncomputable def kF7 (P : Params) : Frag := [
  (188, fnO (nth pw.main.body 16) "_law_is_ring" (Value.none) (vS ("law_mq0347_01") 392) 187),
  (194, { cls := Value.type "code", data := Data.fields #[vS ("law") 447, vS ("law") 448, vS ("/claim/cut.py") 449, Value.int 203 0, Value.int 1 0, Value.int 0 0, Value.int 0 0, Value.int 3 0, Value.ref 189, Value.bool true, Value.int 181 0, Value.ref 190, Value.none, Value.ref 191, Value.ref 192, Value.ref 193, Value.int 462 0, Value.int 203 0, vS ("/claim/cut.py") 463] }),
  (195, fnO (nth pw.main.body 17) "law" (Value.none) (vS ("law_mq0347_01") 392) 194)]
noncomputable def kFrag (P : Params) : Frag := kF0 P ++ (kF1 P ++ (kF2 P ++ (kF3 P ++ (kF4 P ++ (kF5 P ++ (kF6 P ++ (kF7 P)))))))
def kAs : List Addr := [2, 3, 20, 21, 35, 36, 39, 40, 41, 42, 43, 54, 55, 66, 72, 73, 79, 80, 86, 87, 91, 92, 98, 99, 105, 106, 112, 113, 119, 120, 126, 127, 133, 134, 136, 137, 147, 148, 154, 155, 161, 162, 168, 169, 175, 176, 180, 181, 187, 188, 194, 195]
theorem kAs_eq (P : Params) : kAs = (kFrag P).map (·.1) := rfl
noncomputable def kH : Hook := kHook kFrag kAs kAs_eq
noncomputable def viewQ : Program := view pw [17]
def looseQ : List Str := ["_wall", "_NODE_OUT", "_NODE_DONE", "_NodeInfo", "CycleError", "TopologicalSorter", "ELLIPSIS_MARKER", "_ellipsis_match", "_law_refused", "_law_run", "_law_word", "_law_peeled", "_law_due", "_law_is_ring"]
def kXt (_ : Shared) : Bool := true
noncomputable def lhs (w : World) := (openEnds treeTable pw w 2778).map fun s => (openSeen viewQ looseQ (importedModules pw.main.body) kXt true s, kAs.map s.heap.get?)
noncomputable def rhs (K : Params → Frag) (w : World) := some (openGood viewQ looseQ, (K w.params).map fun p => some p.2)

lay_quick Mine.lhs Mine.rhs
theorem topCore (w : World) : PySem.W.Fast.tw14720033549999066060 w = PySem.W.Fast.tw1938990355778164159 kFrag w := by kernel_rfl
theorem topLeft : LeftO pw viewQ looseQ kXt kH.obs kH.val 2778 := fun w => (congrFun PySem.W.Fast.te14720033549999066060 w).trans ((topCore w).trans (congrFun (congrFun PySem.W.Fast.te1938990355778164159 kFrag) w).symm)

noncomputable def cx (w : World) (ext : Frag) (fr : List Env) : Cx := ⟨Challenge.rw_mq0347_01.row.toRowW.prog, w, kFrag w.params ++ ext, fr⟩
theorem cx_push (w : World) (ext : Frag) (fr : List Env) (env : Env) : (cx w ext fr).push env = cx w ext (env :: fr) := rfl

section facts
variable (w : World) (ext : Frag) {fr : List Env}
theorem k40_ga : findIn (cx w ext fr).K (.ref 40) "__getattribute__" = some (some (.builtin "object.__getattribute__")) := by kernel_rfl
theorem k40_gn : findIn (cx w ext fr).K (.ref 40) "__getattr__" = some none := by kernel_rfl
theorem k40_sa : findIn (cx w ext fr).K (.ref 40) "__setattr__" = some (some (.builtin "object.__setattr__")) := by kernel_rfl
theorem k40_po : plainOver (cx w ext fr).K 40 = true := by kernel_rfl
theorem k40_mk : makesIn (cx w ext fr).K 40 = true := by kernel_rfl
theorem k40_in : findIn (cx w ext fr).K (.ref 40) "__init__" = some (some (.ref 36)) := by kernel_rfl
theorem k36_fn : typeIn (cx w ext fr).K (.ref 36) = some (.type "function") := by kernel_rfl
theorem k40_t0 : takerIn (cx w ext fr).K 40 "node" = some (some (.ref 41)) := by kernel_rfl
theorem k40_t1 : takerIn (cx w ext fr).K 40 "npredecessors" = some (some (.ref 42)) := by kernel_rfl
theorem k40_t2 : takerIn (cx w ext fr).K 40 "successors" = some (some (.ref 43)) := by kernel_rfl
theorem k41_ty : typeIn (cx w ext fr).K (.ref 41) = some (.type "member_descriptor") := by kernel_rfl
theorem k42_ty : typeIn (cx w ext fr).K (.ref 42) = some (.type "member_descriptor") := by kernel_rfl
theorem k43_ty : typeIn (cx w ext fr).K (.ref 43) = some (.type "member_descriptor") := by kernel_rfl
theorem k41_sl : slotIn (cx w ext fr).K 41 40 = some 0 := by kernel_rfl
theorem k42_sl : slotIn (cx w ext fr).K 42 40 = some 1 := by kernel_rfl
theorem k43_sl : slotIn (cx w ext fr).K 43 40 = some 2 := by kernel_rfl
theorem k40_f0 (od : Option Obj) : findObj (cx w ext fr).K 40 od "node" = some (.bind (.builtin "member_descriptor.__get__") (.ref 41)) := by kernel_rfl
theorem k40_f1 (od : Option Obj) : findObj (cx w ext fr).K 40 od "npredecessors" = some (.bind (.builtin "member_descriptor.__get__") (.ref 42)) := by kernel_rfl
theorem k40_f2 (od : Option Obj) : findObj (cx w ext fr).K 40 od "successors" = some (.bind (.builtin "member_descriptor.__get__") (.ref 43)) := by kernel_rfl
theorem k137_ga : findIn (cx w ext fr).K (.ref 137) "__getattribute__" = some (some (.builtin "object.__getattribute__")) := by kernel_rfl
theorem k137_gn : findIn (cx w ext fr).K (.ref 137) "__getattr__" = some none := by kernel_rfl
theorem k137_sa : findIn (cx w ext fr).K (.ref 137) "__setattr__" = some (some (.builtin "object.__setattr__")) := by kernel_rfl
theorem k137_po : plainOver (cx w ext fr).K 137 = true := by kernel_rfl
theorem k137_mk : makesIn (cx w ext fr).K 137 = true := by kernel_rfl
theorem k137_hd : (clsIn (cx w ext fr).K 137).any (·.hasDict) = true := by kernel_rfl
theorem k137_a0 : findIn (cx w ext fr).K (.ref 137) "_node2info" = some none := by kernel_rfl
theorem k137_a1 : findIn (cx w ext fr).K (.ref 137) "_ready_nodes" = some none := by kernel_rfl
theorem k137_a2 : findIn (cx w ext fr).K (.ref 137) "_npassedout" = some none := by kernel_rfl
theorem k137_a3 : findIn (cx w ext fr).K (.ref 137) "_nfinished" = some none := by kernel_rfl
theorem k137_t0 : takerIn (cx w ext fr).K 137 "_node2info" = some none := by kernel_rfl
theorem k137_t1 : takerIn (cx w ext fr).K 137 "_ready_nodes" = some none := by kernel_rfl
theorem k137_t2 : takerIn (cx w ext fr).K 137 "_npassedout" = some none := by kernel_rfl
theorem k137_t3 : takerIn (cx w ext fr).K 137 "_nfinished" = some none := by kernel_rfl
theorem k137_m0 : findIn (cx w ext fr).K (.ref 137) "_get_nodeinfo" = some (some (.ref 80)) := by kernel_rfl
theorem k137_m1 : findIn (cx w ext fr).K (.ref 137) "add" = some (some (.ref 87)) := by kernel_rfl
theorem k137_m2 : findIn (cx w ext fr).K (.ref 137) "prepare" = some (some (.ref 92)) := by kernel_rfl
theorem k137_m3 : findIn (cx w ext fr).K (.ref 137) "get_ready" = some (some (.ref 99)) := by kernel_rfl
theorem k137_m4 : findIn (cx w ext fr).K (.ref 137) "is_active" = some (some (.ref 106)) := by kernel_rfl
theorem k137_m5 : findIn (cx w ext fr).K (.ref 137) "done" = some (some (.ref 120)) := by kernel_rfl
theorem k137_m6 : findIn (cx w ext fr).K (.ref 137) "_find_cycle" = some (some (.ref 127)) := by kernel_rfl
theorem k80_fn : typeIn (cx w ext fr).K (.ref 80) = some (.type "function") := by kernel_rfl
theorem k87_fn : typeIn (cx w ext fr).K (.ref 87) = some (.type "function") := by kernel_rfl
theorem k92_fn : typeIn (cx w ext fr).K (.ref 92) = some (.type "function") := by kernel_rfl
theorem k99_fn : typeIn (cx w ext fr).K (.ref 99) = some (.type "function") := by kernel_rfl
theorem k106_fn : typeIn (cx w ext fr).K (.ref 106) = some (.type "function") := by kernel_rfl
theorem k120_fn : typeIn (cx w ext fr).K (.ref 120) = some (.type "function") := by kernel_rfl
theorem k127_fn : typeIn (cx w ext fr).K (.ref 127) = some (.type "function") := by kernel_rfl
theorem keep_40 : keepIn (cx w ext fr).K (.ref 40) = true := by kernel_rfl
theorem keep_137 : keepIn (cx w ext fr).K (.ref 137) = true := by kernel_rfl
theorem keep_80 : keepIn (cx w ext fr).K (.ref 80) = true := by kernel_rfl
theorem keep_87 : keepIn (cx w ext fr).K (.ref 87) = true := by kernel_rfl
theorem keep_92 : keepIn (cx w ext fr).K (.ref 92) = true := by kernel_rfl
theorem keep_99 : keepIn (cx w ext fr).K (.ref 99) = true := by kernel_rfl
theorem keep_106 : keepIn (cx w ext fr).K (.ref 106) = true := by kernel_rfl
theorem keep_120 : keepIn (cx w ext fr).K (.ref 120) = true := by kernel_rfl
theorem keep_127 : keepIn (cx w ext fr).K (.ref 127) = true := by kernel_rfl
theorem k137_in : findIn (cx w ext fr).K (.ref 137) "__init__" = some (some (.ref 73)) := by kernel_rfl
theorem k73_fn : typeIn (cx w ext fr).K (.ref 73) = some (.type "function") := by kernel_rfl
theorem g_NodeInfo : nsIn (cx w ext fr).K mainGlobals "_NodeInfo" = some (some (.ref 40)) := by kernel_rfl
theorem g_Sorter : nsIn (cx w ext fr).K mainGlobals "TopologicalSorter" = some (some (.ref 137)) := by kernel_rfl
theorem g_OUT : nsIn (cx w ext fr).K mainGlobals "_NODE_OUT" = some (some (.int (-1) 197)) := by kernel_rfl
theorem g_DONE : nsIn (cx w ext fr).K mainGlobals "_NODE_DONE" = some (some (.int (-2) 200)) := by kernel_rfl
theorem g_len : nsIn (cx w ext fr).K mainGlobals "len" = some none := by kernel_rfl
theorem g_tuple : nsIn (cx w ext fr).K mainGlobals "tuple" = some none := by kernel_rfl
theorem g_bool : nsIn (cx w ext fr).K mainGlobals "bool" = some none := by kernel_rfl
theorem g_set : nsIn (cx w ext fr).K mainGlobals "set" = some none := by kernel_rfl
theorem g_Stop : nsIn (cx w ext fr).K mainGlobals "StopIteration" = some none := by kernel_rfl
theorem g_iter : nsIn (cx w ext fr).K mainGlobals "iter" = some none := by kernel_rfl
end facts
theorem b_len : bootBuiltins "len" = some (.builtin "len") := by kernel_rfl
theorem b_tuple : bootBuiltins "tuple" = some (.type "tuple") := by kernel_rfl
theorem b_bool : bootBuiltins "bool" = some (.type "bool") := by kernel_rfl
theorem b_set : bootBuiltins "set" = some (.type "set") := by kernel_rfl
theorem b_iter : bootBuiltins "iter" = some (.builtin "iter") := by kernel_rfl

local macro_rules | `(tactic| walk_at "loc") => `(tactic| with_unfolding_all first | exact Or.inl rfl | exact Or.inr rfl)
local macro_rules | `(tactic| walk_at "lk") => `(tactic| with_unfolding_all first | rfl | assumption | (rw [lookup_setv, if_neg (by decide)]; walk_at "lk") | (rw [lookup_setv, if_pos rfl]; done))
local macro_rules | `(tactic| walk_at "e1") => `(tactic| with_reducible first
  | refine WE.name (by walk_at "loc") (by walk_at "lk") ?_
  | refine WE.constStr ?_
  | refine WE.constInt ?_
  | refine WE.constNone ?_
  | refine WE.constBool ?_
  | refine WE.attr ?_
  | refine WE.binop ?_
  | refine WE.compare ?_
  | refine WE.list ?_
  | refine WE.tuple ?_
  | refine WE.dict0 ?_
  | refine WE.named ?_
  | refine WE.boolOne ?_
  | refine WE.slice ?_
  | refine WE.sub ?_
  | refine WE.neg ?_
  | refine WE.or2 ?_
  | refine WE.not ?_)
local macro_rules | `(tactic| walk_at "t1") => `(tactic| with_reducible first
  | refine WT.compare ?_
  | refine WT.not ?_
  | refine WT.and_nil ?_
  | refine WT.or_nil ?_
  | refine WT.and ?_
  | refine WT.or ?_
  | refine WT.plain ?_)
local macro_rules | `(tactic| walk_at "s1") => `(tactic| with_reducible first
  | refine WS.assign (by walk_at "loc") ?_
  | refine WS.assignAttr ?_
  | refine WS.assignSub ?_
  | refine WS.assign2 ?_
  | refine WS.ret ?_
  | refine WS.ite ?_
  | refine WS.pass ?_
  | refine WS.break ?_
  | refine WS.continue ?_
  | refine WS.augName (by with_unfolding_all rfl) (by walk_at "lk") ?_
  | refine WS.augAttr ?_
  | refine WS.expr ?_
  | refine WS.assert ?_
  | refine WS.del ?_)
local macro_rules | `(tactic| walk_at "o1") => `(tactic| with_reducible first
  | refine WB.cons ?_
  | refine WB.nil ?_
  | refine WEs.nil ?_
  | refine WP.none ?_
  | refine WP.some ?_
  | refine W2.addInt ?_
  | refine W2.subInt ?_
  | refine W2.eqInt ?_
  | refine W2.neInt ?_
  | refine W2.ltInt ?_
  | refine W2.gtInt ?_
  | refine W2.geInt ?_
  | refine W2.eqStr ?_
  | refine W2.neStr ?_
  | refine W2.inStr ?_
  | refine W2.notInStr ?_
  | refine W2.iaddInt ?_
  | refine W2.isubInt ?_
  | refine W2.isNone ?_
  | refine W2.neBool ?_
  | refine WB1.truthyBool ?_
  | refine WB1.truthyNone ?_)
local macro_rules | `(tactic| walk_at "v") => `(tactic| (first | walk_at "o1" | ((with_reducible show WEs _ _ _ _ _ _ _ _); refine WEs.cons ?_) | ((with_reducible show W2 _ _ _ (compareOp CmpOp.IsNot) _ _ _ _); refine W2.isNotNone ?_) | ((with_reducible show WS _ _ _ _ _ _ _); walk_at "s1") | ((with_reducible show WE _ _ _ _ _ _ _); walk_at "e1") | ((with_reducible show WT _ _ _ _ _ _ _); walk_at "t1") | refine WA.name (by walk_at "loc") ?_ | refine WA.sub ?_); try dsimp only)
local macro_rules | `(tactic| walk_at "a1") => `(tactic| first
  | ((with_reducible show ∃ t, V.bool _ = V.bool t ∧ _); refine ⟨_, rfl, ?_⟩)
  | ((with_reducible show (∀ l, V.none ≠ V.ref l) ∧ (∀ u, V.none ≠ V.val u) ∧ _); refine ⟨(by intro l z; cases z), (by intro u z; cases z), ?_⟩)
  | ((with_reducible show List.length [] ≤ sizeLine ∧ _); refine ⟨Nat.zero_le _, ?_⟩)
  | ((with_reducible show List.length [_] ≤ sizeLine ∧ _); refine ⟨Nat.le_trans (Nat.le_of_ble_eq_true (rfl : (1 : Nat).ble 1000 = true)) (by rw [sizeLine_eq]; omega), ?_⟩)
  | ((with_reducible show List.length [_, _] ≤ sizeLine ∧ _); refine ⟨Nat.le_trans (Nat.le_of_ble_eq_true (rfl : (2 : Nat).ble 1000 = true)) (by rw [sizeLine_eq]; omega), ?_⟩))
local macro_rules | `(tactic| walk_at "vv") => `(tactic| repeat (first | walk_at "v" | (walk_at "a1"; try dsimp only)))

abbrev lkv (vars : List (Str × V)) (x : Str) : Option V := vars.lookup x

structure Nd where
  key : Str
  i : Nat
  di : Nat
  si : Nat
  np : Int
  su : List Str

def NdOk (cs : List Cell) (n : Nd) : Prop :=
  cs[n.i]? = some (.inst 40 n.di [some (.str n.key), some (.int n.np), some (.ref n.si)]) ∧ cs[n.di]? = some (.attrs []) ∧ cs[n.si]? = some (.list (n.su.map .str))

structure Sg where
  dl : Nat
  n2i : Nat
  ep : Nat
  rd : Option (Nat × List Str)
  po : Int
  fi : Int
  ns : List Nd
  bd : Nat

def Sg.rdV (σ : Sg) : V := match σ.rd with
  | none => .none
  | some (r, _) => .ref r

structure Srt (cs : List Cell) (a : Nat) (σ : Sg) : Prop where
  inst : cs[a]? = some (.inst 137 σ.dl [])
  attrs : cs[σ.dl]? = some (.attrs [("_node2info", .ref σ.n2i), ("_ready_nodes", σ.rdV), ("_npassedout", .int σ.po), ("_nfinished", .int σ.fi)])
  dict : cs[σ.n2i]? = some (.dict (σ.ns.map fun n => (n.key, .ref n.i)) σ.ep)
  node : ∀ n ∈ σ.ns, NdOk cs n
  keys : (σ.ns.map (·.key)).Nodup
  sis : (σ.ns.map (·.si)).Nodup
  ready : ∀ r xs, σ.rd = some (r, xs) → cs[r]? = some (.list (xs.map .str)) ∧ r ∉ σ.ns.map (·.si)
  few : σ.ns.length < 1000
  sub : ∀ n ∈ σ.ns, n.su.length ≤ σ.bd

def Sg.foot (σ : Sg) : List Nat := σ.dl :: σ.n2i :: ((σ.rd.toList.map (·.1)) ++ (σ.ns.map (·.i) ++ σ.ns.map (·.si)))

/-- the sorter was turned, and nothing else -/
structure Turned (a : Nat) (σ : Sg) (cs : List Cell) (σ' : Sg) (cs' : List Cell) : Prop where
  srt : Srt cs' a σ'
  keep : ∀ (k : Nat) (c : Cell), cs[k]? = some c → k ∉ σ.foot → cs'[k]? = some c
  grow : ∀ k ∈ σ'.foot, k ∈ σ.foot ∨ cs.length ≤ k
  len : cs.length ≤ cs'.length

theorem Turned.trans {a : Nat} {σ σ' σ'' : Sg} {cs cs' cs'' : List Cell} (h : Turned a σ cs σ' cs') (h' : Turned a σ' cs' σ'' cs'') : Turned a σ cs σ'' cs'' where
  srt := h'.srt
  keep k c e hk := h'.keep k c (h.keep k c e hk) fun hm => (h.grow k hm).elim hk fun hl => absurd (List.getElem?_eq_some_iff.mp e).1 (Nat.not_lt.mpr hl)
  grow k hk := (h'.grow k hk).elim (fun hm => h.grow k hm) fun hl => .inr (Nat.le_trans h.len hl)
  len := Nat.le_trans h.len h'.len

theorem Turned.refl {a : Nat} {σ : Sg} {cs : List Cell} (h : Srt cs a σ) : Turned a σ cs σ cs := ⟨h, fun _ _ e _ => e, fun _ h => .inl h, Nat.le_refl _⟩

/-- another cell's place -/
theorem set_other {cs : List Cell} {j k : Nat} {c c' c₂ : Cell} (h1 : cs[j]? = some c) (h2 : cs[k]? = some c₂) (hne : c ≠ c₂) : (cs.set j c')[k]? = some c₂ := by
  rw [List.getElem?_set_ne]
  · exact h2
  · rintro rfl; rw [h1] at h2; cases h2; exact hne rfl
theorem set_self {cs : List Cell} {j : Nat} {c c' : Cell} (h1 : cs[j]? = some c) : (cs.set j c')[j]? = some c' := by
  rw [List.getElem?_set_self]; exact (List.getElem?_eq_some_iff.mp h1).1
theorem get_more {cs more : List Cell} {k : Nat} {c : Cell} (h : cs[k]? = some c) : (cs ++ more)[k]? = some c := by
  rw [List.getElem?_append_left (List.getElem?_eq_some_iff.mp h).1]; exact h

section
variable {w : World} {ext : Frag} {fr : List Env} {d : Nat} {cm : Bool} {cs : List Cell} {Q : V → List Cell → Prop}

theorem get_a0 {a b : Cell} : (cs ++ [a, b])[cs.length]? = some a := by simp
theorem get_a1 {a b : Cell} : (cs ++ [a, b])[cs.length + 1]? = some b := by simp
theorem set_a1 {a b c : Cell} : (cs ++ [a, b]).set (cs.length + 1) c = cs ++ [a, c] := by simp
theorem get_b0 {a b e : Cell} : (cs ++ [a, b, e])[cs.length]? = some a := by simp
theorem get_b1 {a b e : Cell} : (cs ++ [a, b, e])[cs.length + 1]? = some b := by simp
theorem get_b2 {a b e : Cell} : (cs ++ [a, b, e])[cs.length + 2]? = some e := by simp
theorem set_b1 {a b c e : Cell} : (cs ++ [a, b, e]).set (cs.length + 1) c = cs ++ [a, c, e] := by simp

theorem nodeInit {x : Str} : WCC (cx w ext fr) (d + 1) cm (.val (.ref 36)) [.ref (cs.length + 1), .str x] (cs ++ [.attrs [], .inst 40 cs.length []])
    fun r cs' => r = .none ∧ cs' = cs ++ [.attrs [], .inst 40 cs.length [some (.str x), some (.int 0), some (.ref (cs.length + 2))], .list []] := by
  refine WCC.fn (f := 36) (ps := ["self", "node"]) (by rfl) rfl rfl rfl rfl ⟨rfl, rfl, rfl⟩ (by rfl) (fun vals h => ?_) (by decide) (by decide) (by decide) ⟨rfl, rfl, rfl⟩ ?_
  · refine len2 (F := fun vals => bindArgs _ ⟨vals, []⟩) (G := fun vals => pure (List.zip _ vals)) ?_ h; exact fun _ _ => rfl
  intro env
  rw [cx_push]
  dsimp only [List.zip_cons_cons, List.zip_nil_right]
  iterate 4 walk_at "v"
  refine WSA.slot get_a1 get_a0 (k40_sa w ext) (k40_po w ext) (k40_t0 w ext) (k41_ty w ext) (k41_sl w ext) (by decide) ?_
  try dsimp only
  rw [set_a1]
  iterate 4 walk_at "v"
  refine WSA.slot get_a1 get_a0 (k40_sa w ext) (k40_po w ext) (k40_t1 w ext) (k42_ty w ext) (k42_sl w ext) (by decide) ?_
  try dsimp only
  rw [set_a1]
  iterate 4 walk_at "v"
  refine ⟨Nat.zero_le _, ?_⟩
  walk_at "v"
  rw [List.append_assoc]
  dsimp only [List.cons_append, List.nil_append]
  refine WSA.slot get_b1 get_b0 (k40_sa w ext) (k40_po w ext) (k40_t2 w ext) (k43_ty w ext) (k43_sl w ext) (by decide) ?_
  try dsimp only
  rw [set_b1]
  walk_at "v"
  refine ⟨rfl, ?_⟩
  simp [putSlot]

theorem makeNode {x : Str} (q : Q (.ref (cs.length + 1)) (cs ++ [.attrs [], .inst 40 cs.length [some (.str x), some (.int 0), some (.ref (cs.length + 2))], .list []])) : WCC (cx w ext fr) (d + 2) cm (.val (.ref 40)) [.str x] cs Q :=
  WCC.make (k40_mk w ext) (k40_in w ext) (k36_fn w ext) (nodeInit.mono fun r cs' h => ⟨h.1, by rw [h.2]; exact q⟩)
end

section
variable {w : World} {ext : Frag} {fr : List Env} {d : Nat} {cm : Bool} {cs : List Cell} {Q : V → List Cell → Prop} {a : Nat} {σ : Sg}

theorem sN2i (h : Srt cs a σ) (q : Q (.ref σ.n2i) cs) : W1 (cx w ext fr) d cm (fun v => getAttr v "_node2info" true) (.ref a) cs Q :=
  W1.attr h.inst h.attrs rfl (by intro u h; cases h) (k137_ga w ext) (k137_hd w ext) (k137_a0 w ext) q
theorem rdV_ne (σ : Sg) : ∀ u, σ.rdV ≠ .val u := by
  intro u h; unfold Sg.rdV at h; split at h <;> cases h
theorem sRd (h : Srt cs a σ) (q : Q σ.rdV cs) : W1 (cx w ext fr) d cm (fun v => getAttr v "_ready_nodes" true) (.ref a) cs Q :=
  W1.attr h.inst h.attrs rfl (rdV_ne σ) (k137_ga w ext) (k137_hd w ext) (k137_a1 w ext) q
theorem sPo (h : Srt cs a σ) (q : Q (.int σ.po) cs) : W1 (cx w ext fr) d cm (fun v => getAttr v "_npassedout" true) (.ref a) cs Q :=
  W1.attr h.inst h.attrs rfl (by intro u h; cases h) (k137_ga w ext) (k137_hd w ext) (k137_a2 w ext) q
theorem sFi (h : Srt cs a σ) (q : Q (.int σ.fi) cs) : W1 (cx w ext fr) d cm (fun v => getAttr v "_nfinished" true) (.ref a) cs Q :=
  W1.attr h.inst h.attrs rfl (by intro u h; cases h) (k137_ga w ext) (k137_hd w ext) (k137_a3 w ext) q

theorem lookup_ns {ns : List Nd} {x : Str} : (ns.map fun n => (n.key, V.ref n.i)).lookup x = (ns.find? fun n => n.key = x).map fun n => V.ref n.i := by
  induction ns with
  | nil => rfl
  | cons n r ih =>
    by_cases e : x = n.key
    · subst e; simp
    · have e' : ¬ n.key = x := fun z => e z.symm
      simp only [List.map_cons, List.lookup, beq_eq_false_iff_ne.mpr e, List.find?_cons, e', decide_false, ih]

def newNd (cs : List Cell) (x : Str) : Nd := ⟨x, cs.length + 1, cs.length, cs.length + 2, 0, []⟩

theorem setv_new {x : Str} {v : V} : ∀ {l : List (Str × V)}, l.lookup x = none → setv x v l = l ++ [(x, v)]
  | [], _ => rfl
  | (y, u) :: r, h => by
    by_cases e : x = y
    · subst e; simp at h
    · have e' : ¬ y = x := fun z => e z.symm
      simp only [List.lookup, beq_eq_false_iff_ne.mpr e] at h
      unfold setv
      rw [if_neg e', setv_new h]; rfl

abbrev ndCells (cs : List Cell) (x : Str) : List Cell := [.attrs [], .inst 40 cs.length [some (.str x), some (.int 0), some (.ref (cs.length + 2))], .list []]
abbrev n2iOf (ns : List Nd) : List (Str × V) := ns.map fun n => (n.key, V.ref n.i)
abbrev addCells (cs : List Cell) (σ : Sg) (x : Str) (ep' : Nat) : List Cell := (cs ++ ndCells cs x).set σ.n2i (.dict (setv x (.ref (cs.length + 1)) (n2iOf σ.ns)) ep')

theorem addNode (h : Srt cs a σ) {x : Str} {ep' : Nat} (hx : (σ.ns.find? fun n => n.key = x) = none) (hf : σ.ns.length < 999) :
    Turned a σ cs { σ with ep := ep', ns := σ.ns ++ [newNd cs x] } (addCells cs σ x ep') := by
  have hd := h.dict
  have hd' := get_more (more := ndCells cs x) hd
  have hlt : ∀ {k : Nat} {c : Cell}, cs[k]? = some c → k < cs.length := fun e => (List.getElem?_eq_some_iff.mp e).1
  have n0 := hlt hd
  have hkx : x ∉ σ.ns.map (·.key) := fun hm => by
    obtain ⟨n, hn, rfl⟩ := List.mem_map.mp hm
    have := List.find?_eq_none.mp hx n hn
    simp at this
  have up : ∀ {k : Nat} {c : Cell}, cs[k]? = some c → (∀ kvs e, c ≠ .dict kvs e) → (addCells cs σ x ep')[k]? = some c :=
    fun e hne => set_other hd' (get_more e) (fun z => hne _ _ z.symm)
  refine ⟨⟨up h.inst (by intro _ _ z; cases z), up h.attrs (by intro _ _ z; cases z), ?_, fun n hn => ?_, ?_, ?_, fun r xs hr => ?_, by simp; omega, fun n hn => ?_⟩, fun k c e hk => ?_, fun k hk => ?_, by simp⟩
  · rw [set_self hd', setv_new (by rw [lookup_ns, hx]; rfl)]
    simp [newNd]
  · rcases List.mem_append.mp hn with hn | hn
    · obtain ⟨h1, h2, h3⟩ := h.node n hn
      exact ⟨up h1 (by intro _ _ z; cases z), up h2 (by intro _ _ z; cases z), up h3 (by intro _ _ z; cases z)⟩
    · rw [List.mem_singleton.mp hn]
      refine ⟨?_, ?_, ?_⟩
      · exact set_other hd' get_b1 (by intro z; cases z)
      · exact set_other hd' get_b0 (by intro z; cases z)
      · exact set_other hd' get_b2 (by intro z; cases z)
  · rw [List.map_append]
    refine List.nodup_append.mpr ⟨h.keys, by simp, ?_⟩
    intro y hy z hz
    simp [newNd] at hz
    rw [hz]; rintro rfl; exact hkx hy
  · rw [List.map_append]
    refine List.nodup_append.mpr ⟨h.sis, by simp, ?_⟩
    intro y hy z hz
    simp [newNd] at hz
    obtain ⟨n, hn, rfl⟩ := List.mem_map.mp hy
    have := hlt (h.node n hn).2.2
    rw [hz]; omega
  · obtain ⟨h1, h2⟩ := h.ready r xs hr
    refine ⟨up h1 (by intro _ _ z; cases z), fun hm => ?_⟩
    rw [List.map_append] at hm
    rcases List.mem_append.mp hm with hm | hm
    · exact h2 hm
    · simp [newNd] at hm; have := hlt h1; omega
  · rcases List.mem_append.mp hn with hn | hn
    · exact h.sub n hn
    · rw [List.mem_singleton.mp hn]; exact Nat.zero_le _
  · rw [List.getElem?_set_ne]
    · exact get_more e
    · rintro rfl; exact hk (by simp [Sg.foot])
  · simp [Sg.foot, newNd] at hk ⊢
    rcases hk with hk | hk | hk | hk | hk | hk | hk
    · exact .inl (.inl hk)
    · exact .inl (.inr (.inl hk))
    · exact .inl (.inr (.inr (.inl hk)))
    · exact .inl (.inr (.inr (.inr (.inl hk))))
    · exact .inr (by omega)
    · exact .inl (.inr (.inr (.inr (.inr hk))))
    · exact .inr (by omega)

/-- the node of a key: it stands, or it comes behind -/
def Got (σ : Sg) (cs : List Cell) (x : Str) (σ' : Sg) (n : Nd) : Prop :=
  n ∈ σ'.ns ∧ n.key = x ∧ σ'.dl = σ.dl ∧ σ'.n2i = σ.n2i ∧ σ'.rd = σ.rd ∧ σ'.po = σ.po ∧ σ'.fi = σ.fi ∧ σ'.bd = σ.bd ∧ ((σ' = σ) ∨ (x ∉ σ.ns.map (·.key) ∧ n = newNd cs x ∧ σ'.ns = σ.ns ++ [n]))

theorem getInfo (h : Srt cs a σ) {x : Str} (hf : σ.ns.length < 999) (q : ∀ cs' σ' n, Turned a σ cs σ' cs' → Got σ cs x σ' n → Q (.ref n.i) cs') : WCC (cx w ext fr) (d + 3) cm (.val (.ref 80)) [.ref a, .str x] cs Q := by
  refine WCC.fn (f := 80) (ps := ["self", "node"]) (by rfl) rfl rfl rfl rfl ⟨rfl, rfl, rfl⟩ (by rfl) (fun vals h => ?_) (by decide) (by decide) (by decide) ⟨rfl, rfl, rfl⟩ ?_
  · refine len2 (F := fun vals => bindArgs _ ⟨vals, []⟩) (G := fun vals => pure (List.zip _ vals)) ?_ h; exact fun _ _ => rfl
  intro env
  rw [cx_push]
  dsimp only [List.zip_cons_cons, List.zip_nil_right]
  iterate 4 walk_at "v"
  refine WE.methB ?_
  iterate 2 walk_at "v"
  refine sN2i h ?_
  refine ⟨_, MethB.dict h.dict F.slot_dict_get F.type_dict_get, ?_⟩
  iterate 3 walk_at "v"
  refine WCV.dictGet h.dict ?_
  rw [lookup_ns]
  cases hx : σ.ns.find? (fun n => n.key = x) with
  | some n =>
    have hn := List.mem_of_find?_eq_some hx
    have hk : n.key = x := by simpa using List.find?_some hx
    dsimp only [Option.map_some, Option.getD_some]
    iterate 3 walk_at "v"
    refine ⟨_, rfl, ?_⟩
    simp only [V.isNone, if_false, Bool.false_eq_true]
    iterate 4 walk_at "v"
    exact q cs σ n (Turned.refl h) ⟨hn, hk, rfl, rfl, rfl, rfl, rfl, rfl, .inl rfl⟩
  | none =>
    dsimp only [Option.map_none, Option.getD_none]
    iterate 3 walk_at "v"
    refine ⟨_, rfl, ?_⟩
    simp only [V.isNone, if_true]
    iterate 2 walk_at "v"
    refine WE.callK ?_
    refine WE.global rfl (g_NodeInfo w ext) (fun _ => VRel.val _ _) ?_
    refine ⟨_, rfl, keep_40 w ext, ?_⟩
    iterate 3 walk_at "v"
    refine (makeNode ?_).wcv
    iterate 3 walk_at "v"
    refine W1.attr (get_more h.inst) (get_more h.attrs) rfl (by intro u h; cases h) (k137_ga w ext) (k137_hd w ext) (k137_a0 w ext) ?_
    walk_at "v"
    refine WSI.dict (get_more h.dict) (by rw [sizeLine_eq]; simp; omega) fun ep' => ?_
    iterate 5 walk_at "v"
    have hkx : x ∉ σ.ns.map (·.key) := fun hm => by
      obtain ⟨n, hn, rfl⟩ := List.mem_map.mp hm
      have := List.find?_eq_none.mp hx n hn
      simp at this
    exact q _ _ (newNd cs x) (addNode h hx hf) ⟨by simp, rfl, rfl, rfl, rfl, rfl, rfl, rfl, .inr ⟨hkx, rfl, rfl⟩⟩

/-- a node turned: its count and its list -/
def Sg.turn (σ : Sg) (x : Str) (np : Int) (su : List Str) : Sg := { σ with bd := max σ.bd su.length, ns := σ.ns.map fun n => if n.key = x then { n with np := np, su := su } else n }

theorem key_inj {ns : List Nd} (h : (ns.map (·.key)).Nodup) : ∀ {n m : Nd}, n ∈ ns → m ∈ ns → n.key = m.key → n = m := by
  induction ns with
  | nil => intro n m hn; cases hn
  | cons a r ih =>
    intro n m hn hm e
    have h' := List.nodup_cons.mp h
    rcases List.mem_cons.mp hn with rfl | hn' <;> rcases List.mem_cons.mp hm with rfl | hm'
    · rfl
    · exact absurd (List.mem_map.mpr ⟨m, hm', e.symm⟩) h'.1
    · exact absurd (List.mem_map.mpr ⟨n, hn', e⟩) h'.1
    · exact ih h'.2 hn' hm' e
theorem si_inj {ns : List Nd} (h : (ns.map (·.si)).Nodup) : ∀ {n m : Nd}, n ∈ ns → m ∈ ns → n.si = m.si → n = m := by
  induction ns with
  | nil => intro n m hn; cases hn
  | cons a r ih =>
    intro n m hn hm e
    have h' := List.nodup_cons.mp h
    rcases List.mem_cons.mp hn with rfl | hn' <;> rcases List.mem_cons.mp hm with rfl | hm'
    · rfl
    · exact absurd (List.mem_map.mpr ⟨m, hm', e.symm⟩) h'.1
    · exact absurd (List.mem_map.mpr ⟨n, hn', e⟩) h'.1
    · exact ih h'.2 hn' hm' e

theorem turn_is (σ : Sg) (x : Str) (np : Int) (su : List Str) : (σ.turn x np su).ns.map (fun n => (n.key, V.ref n.i)) = σ.ns.map (fun n => (n.key, V.ref n.i)) ∧ (σ.turn x np su).ns.map (·.key) = σ.ns.map (·.key) ∧ (σ.turn x np su).ns.map (·.si) = σ.ns.map (·.si) ∧ (σ.turn x np su).ns.map (·.i) = σ.ns.map (·.i) := by
  unfold Sg.turn
  refine ⟨?_, ?_, ?_, ?_⟩ <;> (rw [List.map_map]; apply List.map_congr_left; intro n _; simp only [Function.comp]; split <;> rfl)

theorem foot_turn (σ : Sg) (x : Str) (np : Int) (su : List Str) : (σ.turn x np su).foot = σ.foot := by
  have := turn_is σ x np su
  unfold Sg.foot
  rw [this.2.2.1, this.2.2.2]
  rfl

/-- the count of a node is stored -/
theorem setNp (h : Srt cs a σ) {n : Nd} (hn : n ∈ σ.ns) (np : Int) : Turned a σ cs (σ.turn n.key np n.su) (cs.set n.i (.inst 40 n.di [some (.str n.key), some (.int np), some (.ref n.si)])) := by
  obtain ⟨h1, h2, h3⟩ := h.node n hn
  have ht := turn_is σ n.key np n.su
  have up : ∀ {k : Nat} {c : Cell}, cs[k]? = some c → (c ≠ .inst 40 n.di [some (.str n.key), some (.int n.np), some (.ref n.si)]) → (cs.set n.i (.inst 40 n.di [some (.str n.key), some (.int np), some (.ref n.si)]))[k]? = some c :=
    fun e hne => set_other h1 e (fun z => hne z.symm)
  refine ⟨⟨up h.inst (by intro z; cases z), up h.attrs (by intro z; cases z), ?_, fun m hm => ?_, by rw [ht.2.1]; exact h.keys, by rw [ht.2.2.1]; exact h.sis, fun r xs hr => ?_, ?_, fun m hm => ?_⟩, fun k c e hk => ?_, fun k hk => .inl (by rw [foot_turn] at hk; exact hk), by simp⟩
  · rw [ht.1]; exact up h.dict (by intro z; cases z)
  · obtain ⟨m', hm', rfl⟩ := List.mem_map.mp hm
    by_cases e : m'.key = n.key
    · have := key_inj h.keys hm' hn e
      subst this
      simp only [if_true]
      exact ⟨set_self h1, up h2 (by intro z; cases z), up h3 (by intro z; cases z)⟩
    · rw [if_neg e]
      obtain ⟨g1, g2, g3⟩ := h.node m' hm'
      refine ⟨up g1 (fun z => ?_), up g2 (by intro z; cases z), up g3 (by intro z; cases z)⟩
      injection z with _ _ z
      injection z with z _
      injection z with z
      injection z with z
      exact e z
  · obtain ⟨g1, g2⟩ := h.ready r xs hr
    exact ⟨up g1 (by intro z; cases z), by rw [ht.2.2.1]; exact g2⟩
  · show (σ.ns.map _).length < 1000; rw [List.length_map]; exact h.few
  · obtain ⟨m', hm', rfl⟩ := List.mem_map.mp hm
    split
    · exact Nat.le_max_right _ _
    · exact Nat.le_trans (h.sub m' hm') (Nat.le_max_left _ _)
  · rw [List.getElem?_set_ne]
    · exact e
    · rintro rfl; exact hk (by simp only [Sg.foot, List.mem_cons, List.mem_append, List.mem_map]; exact .inr (.inr (.inr (.inl ⟨n, hn, rfl⟩))))

/-- a node's list is turned -/
theorem setSu (h : Srt cs a σ) {n : Nd} (hn : n ∈ σ.ns) (su : List Str) : Turned a σ cs (σ.turn n.key n.np su) (cs.set n.si (.list (su.map .str))) := by
  obtain ⟨h1, h2, h3⟩ := h.node n hn
  have ht := turn_is σ n.key n.np su
  have up : ∀ {k : Nat} {c : Cell}, cs[k]? = some c → (∀ xs, c ≠ .list xs) → (cs.set n.si (.list (su.map .str)))[k]? = some c :=
    fun e hne => set_other h3 e (fun z => hne _ z.symm)
  refine ⟨⟨up h.inst (by intro _ z; cases z), up h.attrs (by intro _ z; cases z), ?_, fun m hm => ?_, by rw [ht.2.1]; exact h.keys, by rw [ht.2.2.1]; exact h.sis, fun r xs hr => ?_, ?_, fun m hm => ?_⟩, fun k c e hk => ?_, fun k hk => .inl (by rw [foot_turn] at hk; exact hk), by simp⟩
  · rw [ht.1]; exact up h.dict (by intro _ z; cases z)
  · obtain ⟨m', hm', rfl⟩ := List.mem_map.mp hm
    by_cases e : m'.key = n.key
    · have := key_inj h.keys hm' hn e
      subst this
      simp only [if_true]
      exact ⟨up h1 (by intro _ z; cases z), up h2 (by intro _ z; cases z), set_self h3⟩
    · rw [if_neg e]
      obtain ⟨g1, g2, g3⟩ := h.node m' hm'
      refine ⟨up g1 (by intro _ z; cases z), up g2 (by intro _ z; cases z), ?_⟩
      rw [List.getElem?_set_ne]
      · exact g3
      · intro z; exact e (by rw [si_inj h.sis hn hm' z])
  · obtain ⟨g1, g2⟩ := h.ready r xs hr
    refine ⟨?_, by rw [ht.2.2.1]; exact g2⟩
    rw [List.getElem?_set_ne]
    · exact g1
    · intro z; exact g2 (z ▸ List.mem_map.mpr ⟨n, hn, rfl⟩)
  · show (σ.ns.map _).length < 1000; rw [List.length_map]; exact h.few
  · obtain ⟨m', hm', rfl⟩ := List.mem_map.mp hm
    split
    · exact Nat.le_max_right _ _
    · exact Nat.le_trans (h.sub m' hm') (Nat.le_max_left _ _)
  · rw [List.getElem?_set_ne]
    · exact e
    · rintro rfl; exact hk (by simp only [Sg.foot, List.mem_cons, List.mem_append, List.mem_map]; exact .inr (.inr (.inr (.inr ⟨n, hn, rfl⟩))))
end

abbrev GE := Str × Int × List Str
def gIns (x : Str) (g : List GE) : List GE := if g.any (fun e => decide (e.1 = x)) then g else g ++ [(x, 0, [])]
def gNp (x : Str) (k : Int) (g : List GE) : List GE := g.map fun e => if e.1 = x then (e.1, e.2.1 + k, e.2.2) else e
def gSu (p x : Str) (g : List GE) : List GE := g.map fun e => if e.1 = p then (e.1, e.2.1, e.2.2 ++ [x]) else e
def gAdd (x : Str) (ps : List Str) (g : List GE) : List GE := ps.foldl (fun g p => gSu p x (gIns p g)) (gNp x ps.length (gIns x g))
def Sg.g (σ : Sg) : List GE := σ.ns.map fun n => (n.key, n.np, n.su)

section
variable {w : World} {ext : Frag} {fr : List Env} {d : Nat} {cs : List Cell} {Q : V → List Cell → Prop} {a : Nat} {σ : Sg}

theorem got_g {σ' : Sg} {n : Nd} {x : Str} (h : Got σ cs x σ' n) : σ'.g = gIns x σ.g := by
  obtain ⟨h1, h2, _, _, _, _, _, _, h3⟩ := h
  unfold gIns
  rcases h3 with rfl | ⟨h4, rfl, h5⟩
  · rw [if_pos]
    rw [List.any_eq_true]
    exact ⟨(n.key, n.np, n.su), List.mem_map.mpr ⟨n, h1, rfl⟩, by simp [h2]⟩
  · rw [if_neg]
    · simp [Sg.g, h5, newNd]
    · rw [List.any_eq_true]
      rintro ⟨e, he, hx⟩
      obtain ⟨m, hm, rfl⟩ := List.mem_map.mp he
      exact h4 (List.mem_map.mpr ⟨m, hm, by simpa using hx⟩)

theorem turn_np (h : Srt cs a σ) {n : Nd} (hn : n ∈ σ.ns) (k : Int) : (σ.turn n.key (n.np + k) n.su).g = gNp n.key k σ.g := by
  simp only [Sg.g, Sg.turn, gNp, List.map_map]
  apply List.map_congr_left
  intro m hm
  simp only [Function.comp]
  by_cases e : m.key = n.key
  · have := key_inj h.keys hm hn e; subst this; simp
  · simp [e]
theorem turn_su (h : Srt cs a σ) {n : Nd} (hn : n ∈ σ.ns) (x : Str) : (σ.turn n.key n.np (n.su ++ [x])).g = gSu n.key x σ.g := by
  simp only [Sg.g, Sg.turn, gSu, List.map_map]
  apply List.map_congr_left
  intro m hm
  simp only [Function.comp]
  by_cases e : m.key = n.key
  · have := key_inj h.keys hm hn e; subst this; simp
  · simp [e]

theorem Srt.lt (h : Srt cs a σ) : ∀ k ∈ σ.foot, k < cs.length := by
  have hlt : ∀ {k : Nat} {c : Cell}, cs[k]? = some c → k < cs.length := fun e => (List.getElem?_eq_some_iff.mp e).1
  intro k hk
  simp only [Sg.foot, List.mem_cons, List.mem_append, List.mem_map] at hk
  rcases hk with rfl | rfl | ⟨⟨r, xs⟩, hr, rfl⟩ | ⟨n, hn, rfl⟩ | ⟨n, hn, rfl⟩
  · exact hlt h.attrs
  · exact hlt h.dict
  · exact hlt (h.ready r xs (by cases hq : σ.rd with | none => rw [hq] at hr; cases hr | some p => rw [hq] at hr; simp at hr; rw [hr])).1
  · exact hlt (h.node n hn).1
  · exact hlt (h.node n hn).2.2

theorem Srt.more (h : Srt cs a σ) (more : List Cell) : Srt (cs ++ more) a σ :=
  ⟨get_more h.inst, get_more h.attrs, get_more h.dict, fun n hn => let ⟨h1, h2, h3⟩ := h.node n hn; ⟨get_more h1, get_more h2, get_more h3⟩, h.keys, h.sis, fun r xs hr => let ⟨h1, h2⟩ := h.ready r xs hr; ⟨get_more h1, h2⟩, h.few, h.sub⟩

theorem Turned.less {σ' : Sg} {cs' more : List Cell} (h : Turned a σ (cs ++ more) σ' cs') : Turned a σ cs σ' cs' :=
  ⟨h.srt, fun k c e hk => h.keep k c (get_more e) hk, fun k hk => (h.grow k hk).imp id fun hl => by simp at hl; omega, by have := h.len; simp at this; omega⟩

theorem mGet (h : Srt cs a σ) : MethF (cx w ext fr) (.ref a) "_get_nodeinfo" cs 80 := MethF.inst h.inst h.attrs rfl (k137_ga w ext) (k137_gn w ext) (k137_m0 w ext) (k80_fn w ext)

theorem nNp {n : Nd} {cm : Bool} (hn : NdOk cs n) (q : Q (.int n.np) cs) : W1 (cx w ext fr) d cm (fun v => getAttr v "npredecessors" true) (.ref n.i) cs Q :=
  W1.slot hn.1 hn.2.1 rfl (by intro u h; cases h) (k40_ga w ext) (k40_gn w ext) (k40_f1 w ext) (k42_sl w ext) q
theorem nSu {n : Nd} {cm : Bool} (hn : NdOk cs n) (q : Q (.ref n.si) cs) : W1 (cx w ext fr) d cm (fun v => getAttr v "successors" true) (.ref n.i) cs Q :=
  W1.slot hn.1 hn.2.1 rfl (by intro u h; cases h) (k40_ga w ext) (k40_gn w ext) (k40_f2 w ext) (k43_sl w ext) q
theorem nKey {n : Nd} {cm : Bool} (hn : NdOk cs n) (q : Q (.str n.key) cs) : W1 (cx w ext fr) d cm (fun v => getAttr v "node" true) (.ref n.i) cs Q :=
  W1.slot hn.1 hn.2.1 rfl (by intro u h; cases h) (k40_ga w ext) (k40_gn w ext) (k40_f0 w ext) (k41_sl w ext) q
theorem nNpSet {n : Nd} {cm : Bool} {vars : List (Str × V)} {np : Int} {Q : St → Prop} (hn : NdOk cs n) (q : Q ⟨cs.set n.i (.inst 40 n.di [some (.str n.key), some (.int np), some (.ref n.si)]), vars⟩) : WSA (cx w ext fr) d cm (.ref n.i) "npredecessors" (.int np) ⟨cs, vars⟩ Q :=
  WSA.slot hn.1 hn.2.1 (k40_sa w ext) (k40_po w ext) (k40_t1 w ext) (k42_ty w ext) (k42_sl w ext) (by decide) q

theorem add_spec (h : Srt cs a σ) (hrd : σ.rd = none) {x : Str} {ps : List Str} (hf : σ.ns.length + ps.length < 900) (hb : σ.bd + ps.length < 100000)
    (q : ∀ cs' σ', Turned a σ cs σ' cs' → σ'.g = gAdd x ps σ.g → σ'.rd = none → σ'.po = σ.po → σ'.fi = σ.fi → σ'.bd ≤ σ.bd + ps.length → Q .none cs') : WCC (cx w ext fr) (d + 4) true (.val (.ref 87)) ([.ref a, .str x] ++ ps.map .str) cs Q := by
  refine WCC.fnStar (f := 87) (ps := ["self", "node", "predecessors"]) (by rfl) rfl rfl rfl ⟨rfl, rfl, rfl⟩ (by rfl) (by rw [sizeLine_eq]; simp; omega) (fun vals more h => ?_) (by decide) (by decide) (by decide) ⟨rfl, rfl, rfl⟩ ?_
  · match vals, more, h with
    | [a, b], [], _ => rfl
    | [a, b], c :: r, _ => rfl
  intro env
  rw [cx_push]
  dsimp only [List.zip_cons_cons, List.zip_nil_right, List.cons_append, List.nil_append]
  have h0 := h.more [.tuple (ps.map .str)]
  iterate 5 walk_at "v"
  refine sRd h0 ?_
  walk_at "v"
  rw [show σ.rdV = .none by simp [Sg.rdV, hrd]]
  walk_at "v"
  refine ⟨_, rfl, ?_⟩
  simp only [V.isNone, Bool.not_true, Bool.false_eq_true, if_false]
  iterate 3 walk_at "v"
  refine WE.methF ?_
  walk_at "v"
  refine ⟨80, mGet h0, keep_80 w ext, ?_⟩
  iterate 3 walk_at "v"
  refine (getInfo h0 (by omega) ?_).wcv
  intro cs1 σ1 n T1 G1
  try dsimp only
  iterate 3 walk_at "v"
  have hn1 := T1.srt.node n G1.1
  refine nNp hn1 ?_
  refine WE.callB ?_
  refine WE.builtin rfl (g_len w ext) b_len (by decide) (fun _ => VRel.val _ _) ?_
  refine ⟨_, rfl, ?_⟩
  iterate 3 walk_at "v"
  have htup : cs1[cs.length]? = some (.tuple (ps.map .str)) := T1.keep _ _ (get_snoc _ _) fun hm => Nat.lt_irrefl _ (h.lt _ hm)
  refine WCV.lenTuple htup (by simp; omega) ?_
  walk_at "v"
  refine nNpSet hn1 ?_
  rw [List.length_map]
  have T2 := T1.trans (setNp T1.srt G1.1 (n.np + ps.length))
  have g2 := (turn_np T1.srt G1.1 ps.length).trans (by rw [got_g G1, G1.2.1])
  have r2 : (σ1.turn n.key (n.np + ps.length) n.su).rd = none := G1.2.2.2.2.1.trans hrd
  have p2 : (σ1.turn n.key (n.np + ps.length) n.su).po = σ.po := G1.2.2.2.2.2.1
  have f2 : (σ1.turn n.key (n.np + ps.length) n.su).fi = σ.fi := G1.2.2.2.2.2.2.1
  have b2 : (σ1.turn n.key (n.np + ps.length) n.su).bd ≤ σ.bd := Nat.max_le.mpr ⟨Nat.le_of_eq G1.2.2.2.2.2.2.2.1, Nat.le_trans (T1.srt.sub n G1.1) (Nat.le_of_eq G1.2.2.2.2.2.2.2.1)⟩
  have l2 : (σ1.turn n.key (n.np + ps.length) n.su).ns.length ≤ σ.ns.length + 1 := by
    have : (σ1.turn n.key (n.np + ps.length) n.su).ns.length = σ1.ns.length := by simp [Sg.turn]
    rw [this]
    rcases G1.2.2.2.2.2.2.2.2 with e | ⟨_, _, e⟩
    · rw [e]; omega
    · rw [e]; simp
  revert T2 g2 r2 p2 f2 b2 l2
  generalize σ1.turn n.key (n.np + ps.length) n.su = σ2
  generalize (cs1.set n.i _) = cs2
  intro T2 g2 r2 p2 f2 b2 l2
  try dsimp only
  walk_at "v"
  refine WS.for (Iter.tuple _ cs.length (ps.map .str)) (fun i st => ∃ σ', Turned a σ (cs ++ [.tuple (ps.map .str)]) σ' st.cells ∧ σ'.g = (ps.take i).foldl (fun g p => gSu p x (gIns p g)) (gNp x ps.length (gIns x σ.g)) ∧ σ'.rd = none ∧ σ'.po = σ.po ∧ σ'.fi = σ.fi ∧ σ'.ns.length ≤ σ.ns.length + 1 + i ∧ σ'.bd ≤ σ.bd + i ∧ lkv st.vars "self" = some (.ref a) ∧ lkv st.vars "node" = some (.str x)) rfl (by walk_at "loc") ?_ ?_ ?_
  · walk_at "v"
    refine ⟨rfl, ?_, σ2, T2, by simpa using g2, r2, p2, f2, by omega, by omega, rfl, rfl⟩
    exact T2.keep _ _ (get_snoc _ _) fun hm => Nat.lt_irrefl _ (h.lt _ hm)
  · intro i r st hr hok hJ K kN kC kB kR
    obtain ⟨σ', T', g', r', p', f', l', b', hv1, hv2⟩ := hJ
    rw [List.getElem?_map] at hr
    obtain ⟨p, hp, rfl⟩ := Option.map_eq_some_iff.mp hr
    have hip : i < ps.length := (List.getElem?_eq_some_iff.mp hp).1
    iterate 2 walk_at "v"
    refine WE.methF ?_
    walk_at "v"
    refine ⟨80, mGet T'.srt, keep_80 w ext, ?_⟩
    iterate 3 walk_at "v"
    refine (getInfo T'.srt (by omega) ?_).wcv
    intro cs3 σ3 m T3 G3
    try dsimp only
    iterate 2 walk_at "v"
    refine WE.methB ?_
    iterate 2 walk_at "v"
    have hm3 := T3.srt.node m G3.1
    refine nSu hm3 ?_
    refine ⟨_, MethB.list hm3.2.2 F.slot_list_append F.type_list_append, ?_⟩
    iterate 3 walk_at "v"
    refine WCV.append hm3.2.2 (by have := T3.srt.sub m G3.1; have := G3.2.2.2.2.2.2.2.1; rw [sizeLine_eq, List.length_map]; omega) ?_
    refine ⟨(by intro l z; cases z), (by intro u z; cases z), ?_⟩
    walk_at "v"
    have hsu : m.su.map V.str ++ [V.str x] = (m.su ++ [x]).map V.str := by simp
    rw [hsu]
    have T4 := T'.trans (T3.trans (setSu T3.srt G3.1 (m.su ++ [x])))
    have htup' : ∀ {σ'' : Sg} {cs'' : List Cell}, Turned a σ (cs ++ [.tuple (ps.map .str)]) σ'' cs'' → cs''[cs.length]? = some (.tuple (ps.map .str)) := fun T => T.keep _ _ (get_snoc _ _) fun hm => Nat.lt_irrefl _ (h.lt _ hm)
    refine kN _ ⟨htup' T4, _, T4, ?_, G3.2.2.2.2.1.trans r', G3.2.2.2.2.2.1.trans p', G3.2.2.2.2.2.2.1.trans f', ?_, ?_, by (dsimp only [lkv]; walk_at "lk"), by (dsimp only [lkv]; walk_at "lk")⟩
    · rw [turn_su T3.srt G3.1, got_g G3, G3.2.1, g', List.take_add_one, hp]
      simp
    · have : (σ3.turn m.key m.np (m.su ++ [x])).ns.length = σ3.ns.length := by simp [Sg.turn]
      rw [this]
      rcases G3.2.2.2.2.2.2.2.2 with e | ⟨_, _, e⟩
      · rw [e]; omega
      · rw [e]; simp; omega
    · have h1 := T3.srt.sub m G3.1
      have h2 := G3.2.2.2.2.2.2.2.1
      refine Nat.max_le.mpr ⟨by omega, ?_⟩
      simp; omega
  · rintro st hok ⟨σ', T', g', r', p', f', l', b', hv1, hv2⟩
    walk_at "v"
    refine q _ _ T'.less ?_ r' p' f' (by simpa using b')
    rw [g', List.length_map, List.take_length]; rfl
end

section
variable {w : World} {ext : Frag} {fr : List Env} {d : Nat} {cs : List Cell} {Q : V → List Cell → Prop} {a : Nat} {σ : Sg}

theorem sorterInit : WCC (cx w ext fr) (d + 1) true (.val (.ref 73)) [.ref (cs.length + 1)] (cs ++ [.attrs [], .inst 137 cs.length []])
    fun r cs' => r = .none ∧ ∃ σ, Srt cs' (cs.length + 1) σ ∧ σ.g = [] ∧ σ.rd = none ∧ σ.po = 0 ∧ σ.fi = 0 ∧ σ.bd = 0 ∧ (∀ (k : Nat) (c : Cell), cs[k]? = some c → cs'[k]? = some c) ∧ (∀ k ∈ σ.foot, cs.length ≤ k) ∧ cs.length < cs'.length := by
  refine WCC.fnD (f := 73) (ps := ["self", "graph"]) (dv := [.none]) (ex := [.none]) (by rfl) rfl rfl rfl ⟨rfl, rfl, rfl⟩ (by rfl) (fun vals S h => ?_) (fun φ => ⟨VRel.none _, trivial⟩) (by decide) (by decide) (by decide) ⟨rfl, rfl, rfl⟩ ?_
  · match vals, h with
    | [a], _ => rfl
  intro env
  rw [cx_push]
  dsimp only [List.zip_cons_cons, List.zip_nil_right, List.cons_append, List.nil_append]
  iterate 4 walk_at "v"
  rw [List.append_assoc]
  dsimp only [List.cons_append, List.nil_append]
  have set_b0 : ∀ {a b c e : Cell}, (cs ++ [a, b, e]).set cs.length c = cs ++ [c, b, e] := by intros; simp
  refine WSA.dict get_b1 get_b0 (Nat.le_of_ble_eq_true rfl) (k137_sa w ext) (k137_po w ext) (k137_t0 w ext) (k137_hd w ext) ?_
  try dsimp only
  rw [set_b0]
  iterate 4 walk_at "v"
  refine WSA.dict get_b1 get_b0 (Nat.le_of_ble_eq_true rfl) (k137_sa w ext) (k137_po w ext) (k137_t1 w ext) (k137_hd w ext) ?_
  try dsimp only
  rw [set_b0]
  iterate 4 walk_at "v"
  refine WSA.dict get_b1 get_b0 (Nat.le_of_ble_eq_true rfl) (k137_sa w ext) (k137_po w ext) (k137_t2 w ext) (k137_hd w ext) ?_
  try dsimp only
  rw [set_b0]
  iterate 4 walk_at "v"
  refine WSA.dict get_b1 get_b0 (Nat.le_of_ble_eq_true rfl) (k137_sa w ext) (k137_po w ext) (k137_t3 w ext) (k137_hd w ext) ?_
  try dsimp only
  rw [set_b0]
  iterate 6 walk_at "v"
  refine ⟨_, rfl, ?_⟩
  simp only [V.isNone, Bool.not_true, Bool.false_eq_true, if_false]
  iterate 2 walk_at "v"
  refine ⟨rfl, ⟨cs.length, cs.length + 2, 0, none, 0, 0, [], 0⟩, ⟨get_b1, ?_, get_b2, fun n hn => (nomatch hn), List.nodup_nil, List.nodup_nil, fun r xs hr => (nomatch hr), Nat.le_of_ble_eq_true rfl, fun n hn => (nomatch hn)⟩, rfl, rfl, rfl, rfl, rfl, fun k c e => get_more e, fun k hk => ?_, by simp⟩
  · rw [get_b0, List.length_append]; rfl
  · simp [Sg.foot] at hk; omega

/-- TopologicalSorter() -/
theorem newSorter (q : ∀ cs' σ, Srt cs' (cs.length + 1) σ → σ.g = [] → σ.rd = none → σ.po = 0 → σ.fi = 0 → σ.bd = 0 → (∀ (k : Nat) (c : Cell), cs[k]? = some c → cs'[k]? = some c) → (∀ k ∈ σ.foot, cs.length ≤ k) → cs.length < cs'.length → Q (.ref (cs.length + 1)) cs') : WCC (cx w ext fr) (d + 2) true (.val (.ref 137)) [] cs Q :=
  WCC.make (k137_mk w ext) (k137_in w ext) (k73_fn w ext) (sorterInit.mono fun r cs' ⟨h, σ, h1, h2, h3, h4, h5, h6, h7, h8, h9⟩ => ⟨h, q cs' σ h1 h2 h3 h4 h5 h6 h7 h8 h9⟩)

theorem isActive (h : Srt cs a σ) {r : Nat} {xs : List Str} (hrd : σ.rd = some (r, xs)) (hz : xs.length < 1000) (q : Q (.bool (decide (σ.fi < σ.po) || !xs.isEmpty)) cs) : WCC (cx w ext fr) (d + 1) true (.val (.ref 106)) [.ref a] cs Q := by
  refine WCC.fn (f := 106) (ps := ["self"]) (by rfl) rfl rfl rfl rfl ⟨rfl, rfl, rfl⟩ (by rfl) (fun vals h => ?_) (by decide) (by decide) (by decide) ⟨rfl, rfl, rfl⟩ ?_
  · refine len1 (F := fun vals => bindArgs _ ⟨vals, []⟩) (G := fun vals => pure (List.zip _ vals)) ?_ h; exact fun _ => rfl
  intro env
  rw [cx_push]
  dsimp only [List.zip_cons_cons, List.zip_nil_right]
  have hV : σ.rdV = .ref r := by simp [Sg.rdV, hrd]
  iterate 5 walk_at "v"
  refine sRd h ?_
  iterate 2 walk_at "v"
  refine ⟨_, rfl, ?_⟩
  simp only [hV, V.isNone, Bool.false_eq_true, if_false]
  iterate 7 walk_at "v"
  refine sFi h ?_
  iterate 2 walk_at "v"
  refine sPo h ?_
  iterate 2 walk_at "v"
  by_cases hlt : σ.fi < σ.po
  · simp only [hlt, decide_true, if_true]
    simpa [hlt, retOf] using q
  · simp only [hlt, decide_false, Bool.false_eq_true, if_false]
    walk_at "v"
    refine WE.callT ?_
    refine WE.builtin rfl (g_bool w ext) b_bool (by decide) (fun _ => VRel.val _ _) ?_
    refine ⟨_, rfl, ?_⟩
    iterate 3 walk_at "v"
    refine sRd h ?_
    rw [hV]
    walk_at "v"
    refine WCV.boolList (h.ready r xs hrd).1 (by simp; omega) ?_
    have : (xs.map V.str).isEmpty = xs.isEmpty := by cases xs <;> rfl
    rw [this]
    simpa [hlt, retOf] using q

/-- the attributes turned -/
theorem setAttrs (h : Srt cs a σ) (po fi : Int) (rd : Option (Nat × List Str)) (hrd : ∀ r xs, rd = some (r, xs) → cs[r]? = some (.list (xs.map .str)) ∧ r ∉ σ.ns.map (·.si)) (hg : ∀ r xs, rd = some (r, xs) → r ∈ σ.foot ∨ True) :
    Srt (cs.set σ.dl (.attrs [("_node2info", .ref σ.n2i), ("_ready_nodes", ({ σ with rd := rd, po := po, fi := fi } : Sg).rdV), ("_npassedout", .int po), ("_nfinished", .int fi)])) a { σ with rd := rd, po := po, fi := fi } := by
  have hd := h.attrs
  have up : ∀ {k : Nat} {c : Cell}, cs[k]? = some c → (∀ kvs, kvs ≠ [] → c ≠ .attrs kvs) → (cs.set σ.dl (.attrs [("_node2info", .ref σ.n2i), ("_ready_nodes", ({ σ with rd := rd, po := po, fi := fi } : Sg).rdV), ("_npassedout", .int po), ("_nfinished", .int fi)]))[k]? = some c :=
    fun e hne => set_other hd e (fun z => hne _ (by simp) z.symm)
  refine ⟨up h.inst (by intro _ _ z; cases z), set_self hd, up h.dict (by intro _ _ z; cases z), fun n hn => ?_, h.keys, h.sis, fun r xs hr => ⟨up (hrd r xs hr).1 (by intro _ _ z; cases z), (hrd r xs hr).2⟩, h.few, h.sub⟩
  obtain ⟨h1, h2, h3⟩ := h.node n hn
  exact ⟨up h1 (by intro _ _ z; cases z), up h2 (by intro kvs hk z; injection z with z; exact hk z.symm), up h3 (by intro _ _ z; cases z)⟩

theorem setAttrs_turned (h : Srt cs a σ) (po fi : Int) : Turned a σ cs { σ with po := po, fi := fi } (cs.set σ.dl (.attrs [("_node2info", .ref σ.n2i), ("_ready_nodes", σ.rdV), ("_npassedout", .int po), ("_nfinished", .int fi)])) :=
  ⟨setAttrs h po fi σ.rd h.ready (fun _ _ _ => .inr trivial), fun k c e hk => by
    rw [List.getElem?_set_ne]
    · exact e
    · rintro rfl; exact hk (by simp [Sg.foot]), fun k hk => .inl hk, by simp⟩

/-- the ready list turned in place -/
theorem setReady (h : Srt cs a σ) {r : Nat} {xs : List Str} (hrd : σ.rd = some (r, xs)) (ys : List Str) : Turned a σ cs { σ with rd := some (r, ys) } (cs.set r (.list (ys.map .str))) := by
  obtain ⟨h1, h2⟩ := h.ready r xs hrd
  have up : ∀ {k : Nat} {c : Cell}, cs[k]? = some c → (∀ xs, c ≠ .list xs) → (cs.set r (.list (ys.map .str)))[k]? = some c := fun e hne => set_other h1 e (fun z => hne _ z.symm)
  have hV : ({ σ with rd := some (r, ys) } : Sg).rdV = σ.rdV := by simp [Sg.rdV, hrd]
  refine ⟨⟨up h.inst (by intro _ z; cases z), ?_, up h.dict (by intro _ z; cases z), fun n hn => ?_, h.keys, h.sis, fun r' xs' hr => ?_, h.few, h.sub⟩, fun k c e hk => ?_, fun k hk => .inl ?_, by simp⟩
  · rw [hV]; exact up h.attrs (by intro _ z; cases z)
  · obtain ⟨g1, g2, g3⟩ := h.node n hn
    refine ⟨up g1 (by intro _ z; cases z), up g2 (by intro _ z; cases z), ?_⟩
    rw [List.getElem?_set_ne]
    · exact g3
    · rintro rfl; exact h2 (List.mem_map.mpr ⟨n, hn, rfl⟩)
  · cases hr; exact ⟨set_self h1, h2⟩
  · rw [List.getElem?_set_ne]
    · exact e
    · rintro rfl; exact hk (by simp [Sg.foot, hrd])
  · simpa [Sg.foot, hrd] using hk

theorem w1_nodeOf {vars : List (Str × V)} {x : Str} (h : Srt cs a σ) (hx : x ∈ σ.ns.map (·.key)) : ∃ n ∈ σ.ns, n.key = x ∧ (n2iOf σ.ns).lookup x = some (.ref n.i) := by
  obtain ⟨n, hn, rfl⟩ := List.mem_map.mp hx
  refine ⟨n, hn, rfl, ?_⟩
  rw [lookup_ns]
  cases hf : σ.ns.find? (fun m => m.key = n.key) with
  | none => have := List.find?_eq_none.mp hf n hn; simp at this
  | some m =>
    have hm := List.mem_of_find?_eq_some hf
    have hk : m.key = n.key := by simpa using List.find?_some hf
    rw [key_inj h.keys hm hn hk]; rfl

/-- counts set -/
def gSet (x : Str) (k : Int) (g : List GE) : List GE := g.map fun e => if e.1 = x then (e.1, k, e.2.2) else e
theorem turn_set (h : Srt cs a σ) {n : Nd} (hn : n ∈ σ.ns) (k : Int) : (σ.turn n.key k n.su).g = gSet n.key k σ.g := by
  simp only [Sg.g, Sg.turn, gSet, List.map_map]
  apply List.map_congr_left
  intro m hm
  simp only [Function.comp]
  by_cases e : m.key = n.key
  · have := key_inj h.keys hm hn e; subst this; simp
  · simp [e]
theorem keys_turn (σ : Sg) (x : Str) (np : Int) (su : List Str) : (σ.turn x np su).ns.map (·.key) = σ.ns.map (·.key) := (turn_is σ x np su).2.1

end

section
variable {w : World} {ext : Frag} {fr : List Env} {d : Nat} {cs : List Cell} {Q : V → List Cell → Prop} {a : Nat} {σ : Sg}

theorem w2_n2i {n : Nd} {value slice : Expr} {cm : Bool} (h : Srt cs a σ) {m : Nat} (hm : σ.n2i = m) {x : Str} (hx : (n2iOf σ.ns).lookup x = some (.ref n.i)) (q : Q (.ref n.i) cs)
    (hs : ∀ a t, subscripted slice false (.ref a) (.str x t) = operate [.ref a, .str x t] (getItem (.ref a) (.str x t)) := by intro _ _; with_unfolding_all rfl) : W2 (cx w ext fr) d cm (subscriptTail value slice) (.ref m) (.str x) cs Q := by
  subst hm; exact W2.dictItem h.dict hx q hs

theorem getReady (h : Srt cs a σ) {r : Nat} {xs : List Str} (hrd : σ.rd = some (r, xs)) (hz : xs.length < 1000) (hx : ∀ x ∈ xs, x ∈ σ.ns.map (·.key))
    (q : ∀ cs' σ', Turned a σ cs σ' cs' → σ'.g = xs.foldl (fun g x => gSet x (-1) g) σ.g → σ'.rd = some (r, []) → σ'.po = σ.po + xs.length → σ'.fi = σ.fi → σ'.bd ≤ σ.bd → cs'[cs.length]? = some (.tuple (xs.map .str)) → cs.length ∉ σ'.foot → Q (.ref cs.length) cs') :
    WCC (cx w ext fr) (d + 1) true (.val (.ref 99)) [.ref a] cs Q := by
  refine WCC.fn (f := 99) (ps := ["self"]) (by rfl) rfl rfl rfl rfl ⟨rfl, rfl, rfl⟩ (by rfl) (fun vals h => ?_) (by decide) (by decide) (by decide) ⟨rfl, rfl, rfl⟩ ?_
  · refine len1 (F := fun vals => bindArgs _ ⟨vals, []⟩) (G := fun vals => pure (List.zip _ vals)) ?_ h; exact fun _ => rfl
  intro env
  rw [cx_push]
  dsimp only [List.zip_cons_cons, List.zip_nil_right]
  have hV : σ.rdV = .ref r := by simp [Sg.rdV, hrd]
  iterate 5 walk_at "v"
  refine sRd h ?_
  iterate 2 walk_at "v"
  refine ⟨_, rfl, ?_⟩
  simp only [hV, V.isNone, Bool.false_eq_true, if_false]
  iterate 3 walk_at "v"
  refine WE.callT ?_
  refine WE.builtin rfl (g_tuple w ext) b_tuple (by decide) (fun _ => VRel.val _ _) ?_
  refine ⟨_, rfl, ?_⟩
  iterate 3 walk_at "v"
  refine sRd h ?_
  rw [hV]
  walk_at "v"
  refine WCV.tupleOf (h.ready r xs hrd).1 (by simp; omega) ?_
  iterate 4 walk_at "v"
  have h1 := h.more [.tuple (xs.map .str)]
  refine sN2i h1 ?_
  try dsimp only
  walk_at "v"
  have htup : ∀ {σ'' : Sg} {cs'' : List Cell}, Turned a σ (cs ++ [.tuple (xs.map .str)]) σ'' cs'' → cs''[cs.length]? = some (.tuple (xs.map .str)) := fun T => T.keep _ _ (get_snoc _ _) fun hm => Nat.lt_irrefl _ (h.lt _ hm)
  refine WS.for (Iter.tuple _ cs.length (xs.map .str)) (fun i st => ∃ σ', Turned a σ (cs ++ [.tuple (xs.map .str)]) σ' st.cells ∧ σ'.g = (xs.take i).foldl (fun g x => gSet x (-1) g) σ.g ∧ σ'.rd = σ.rd ∧ σ'.po = σ.po ∧ σ'.fi = σ.fi ∧ σ'.n2i = σ.n2i ∧ σ'.bd ≤ σ.bd ∧ σ'.ns.map (·.key) = σ.ns.map (·.key) ∧ lkv st.vars "self" = some (.ref a) ∧ lkv st.vars "n2i" = some (.ref σ.n2i) ∧ lkv st.vars "result" = some (.ref cs.length)) rfl (by walk_at "loc") ?_ ?_ ?_
  · walk_at "v"
    exact ⟨rfl, get_snoc _ _, σ, Turned.refl h1, rfl, rfl, rfl, rfl, rfl, Nat.le_refl _, rfl, rfl, rfl, rfl⟩
  · intro i v st hr hok hJ K kN kC kB kR
    obtain ⟨σ', T', g', r', p', f', n', b', k', hv1, hv2, hv3⟩ := hJ
    rw [List.getElem?_map] at hr
    obtain ⟨x, hp, rfl⟩ := Option.map_eq_some_iff.mp hr
    have hmem : x ∈ σ'.ns.map (·.key) := by rw [k']; exact hx x (List.mem_of_getElem? hp)
    obtain ⟨n, hn, hk, hl⟩ := w1_nodeOf (vars := []) T'.srt hmem
    iterate 2 walk_at "v"
    refine WE.global rfl (g_OUT w ext) (fun _ => VRel.int _ _ _) ?_
    iterate 3 walk_at "v"
    refine w2_n2i T'.srt n' hl ?_
    refine nNpSet (T'.srt.node n hn) ?_
    have T4 := T'.trans (setNp T'.srt hn (-1))
    walk_at "v"
    refine kN _ ⟨htup T4, _, T4, ?_, r', p', f', n', ?_, ?_, by (dsimp only [lkv]; walk_at "lk"), by (dsimp only [lkv]; walk_at "lk"), by (dsimp only [lkv]; walk_at "lk")⟩
    · rw [turn_set T'.srt hn, g', List.take_add_one, hp, hk]
      simp
    · exact Nat.max_le.mpr ⟨b', Nat.le_trans (T'.srt.sub n hn) b'⟩
    · rw [keys_turn]; exact k'
  · rintro st hok ⟨σ', T', g', r', p', f', n', b', k', hv1, hv2, hv3⟩
    have rV' : σ'.rdV = .ref r := by simp [Sg.rdV, r', hrd]
    try dsimp only
    iterate 2 walk_at "v"
    refine WE.methB0 ?_
    iterate 2 walk_at "v"
    refine sRd T'.srt ?_
    rw [rV']
    have hrd' := r'.trans hrd
    have hl' := (T'.srt.ready r xs hrd').1
    refine ⟨_, MethB.list hl' F.slot_list_clear F.type_list_clear, ?_⟩
    refine WCV.clear hl' (by simp; omega) ?_
    refine ⟨(by intro l z; cases z), (by intro u z; cases z), ?_⟩
    have T5 := setReady T'.srt hrd' []
    have T6 := T'.trans T5
    try dsimp only
    iterate 3 walk_at "v"
    refine sPo T5.srt ?_
    refine WE.callB ?_
    refine WE.builtin rfl (g_len w ext) b_len (by decide) (fun _ => VRel.val _ _) ?_
    refine ⟨_, rfl, ?_⟩
    iterate 3 walk_at "v"
    refine WCV.lenTuple (htup T6) (by simp; omega) ?_
    walk_at "v"
    refine WSA.dict T5.srt.inst T5.srt.attrs (Nat.le_of_ble_eq_true rfl) (k137_sa w ext) (k137_po w ext) (k137_t2 w ext) (k137_hd w ext) ?_
    have T7 := setAttrs_turned T5.srt (σ'.po + xs.length) σ'.fi
    have T8 := T6.trans T7
    rw [List.length_map]
    try dsimp only
    iterate 3 walk_at "v"
    refine q _ _ T8.less ?_ rfl ?_ f' b' ?_ ?_
    · show σ'.g = _
      rw [g', List.length_map, List.take_length]
    · show σ'.po + _ = _; rw [p']
    · exact htup T8
    · intro hm
      rcases T8.grow _ hm with hm | hm
      · exact Nat.lt_irrefl _ (h.lt _ hm)
      · simp at hm; omega
end

def gGet (g : List GE) (x : Str) : Option Int := (g.find? fun e => e.1 = x).map fun e => e.2.1
def gSuOf (g : List GE) (x : Str) : List Str := ((g.find? fun e => e.1 = x).map fun e => e.2.2).getD []
def decs (ys : List Str) (s : List GE × List Str) : List GE × List Str :=
  ys.foldl (fun s y => (gNp y (-1) s.1, if gGet (gNp y (-1) s.1) y = some 0 then s.2 ++ [y] else s.2)) s
def doneStep (s : List GE × List Str) (x : Str) : List GE × List Str := decs (gSuOf s.1 x) (gSet x (-2) s.1, s.2)

section
variable {w : World} {ext : Frag} {fr : List Env} {d : Nat} {cs : List Cell} {Q : V → List Cell → Prop} {a : Nat} {σ : Sg}

theorem find_node (h : Srt cs a σ) {n : Nd} (hn : n ∈ σ.ns) : σ.g.find? (fun e => e.1 = n.key) = some (n.key, n.np, n.su) := by
  have hk := h.keys
  revert hn hk
  unfold Sg.g
  generalize σ.ns = l
  induction l with
  | nil => intro hn; cases hn
  | cons m r ih =>
    intro hn hk
    have hk' := List.nodup_cons.mp hk
    rw [List.map_cons, List.find?_cons]
    rcases List.mem_cons.mp hn with rfl | hn'
    · simp
    · have : ¬ m.key = n.key := fun e => hk'.1 (List.mem_map.mpr ⟨n, hn', e.symm⟩)
      simp only [this, decide_false]
      exact ih hn' hk'.2
theorem gGet_node (h : Srt cs a σ) {n : Nd} (hn : n ∈ σ.ns) : gGet σ.g n.key = some n.np := by unfold gGet; rw [find_node h hn]; rfl
theorem gSuOf_node (h : Srt cs a σ) {n : Nd} (hn : n ∈ σ.ns) : gSuOf σ.g n.key = n.su := by unfold gSuOf; rw [find_node h hn]; rfl

/-- what stays of a sorter -/
structure Same (σ σ' : Sg) : Prop where
  dl : σ'.dl = σ.dl
  n2i : σ'.n2i = σ.n2i
  keys : σ'.ns.map (·.key) = σ.ns.map (·.key)
  sis : σ'.ns.map (·.si) = σ.ns.map (·.si)
  su : ∀ x, gSuOf σ'.g x = gSuOf σ.g x
  bd : σ'.bd ≤ σ.bd

theorem Same.refl : Same σ σ := ⟨rfl, rfl, rfl, rfl, fun _ => rfl, Nat.le_refl _⟩
theorem Same.trans {σ' σ'' : Sg} (h : Same σ σ') (h' : Same σ' σ'') : Same σ σ'' :=
  ⟨h'.dl.trans h.dl, h'.n2i.trans h.n2i, h'.keys.trans h.keys, h'.sis.trans h.sis, fun x => (h'.su x).trans (h.su x), Nat.le_trans h'.bd h.bd⟩

theorem Same.np (h : Srt cs a σ) {n : Nd} (hn : n ∈ σ.ns) (np : Int) : Same σ (σ.turn n.key np n.su) := by
  have ht := turn_is σ n.key np n.su
  refine ⟨rfl, rfl, ht.2.1, ht.2.2.1, fun x => ?_, Nat.max_le.mpr ⟨Nat.le_refl _, h.sub n hn⟩⟩
  unfold gSuOf Sg.g Sg.turn
  try dsimp only
  have hk := h.keys
  have hn' := hn
  have key : ∀ m ∈ σ.ns, m.key = n.key → m.su = n.su := fun m hm e => by rw [key_inj h.keys hm hn e]
  revert key
  generalize σ.ns = l
  intro key
  induction l with
  | nil => rfl
  | cons m r ih =>
    have ih := ih fun m' hm' => key m' (.tail _ hm')
    simp only [List.map_cons, List.find?_cons]
    by_cases e : m.key = n.key
    · simp only [e, if_true]
      by_cases ex : n.key = x
      · simp [ex, key m (.head _) e]
      · simp only [ex, decide_false]; exact ih
    · simp only [e, if_false]
      by_cases ex : m.key = x
      · simp [ex]
      · simp only [ex, decide_false]; exact ih

theorem done_spec (h : Srt cs a σ) {r : Nat} {ys : List Str} (hrd : σ.rd = some (r, ys)) {xs : List Str} (hz : ys.length + xs.length * σ.bd < 100000) (hzx : xs.length < 100000) (hx : ∀ i x, xs[i]? = some x → gGet ((xs.take i).foldl doneStep (σ.g, ys)).1 x = some (-1))
    (hc : ∀ x y, y ∈ gSuOf σ.g x → y ∈ σ.ns.map (·.key)) (hk : ∀ x ∈ xs, x ∈ σ.ns.map (·.key))
    (q : ∀ cs' σ' zs, Turned a σ cs σ' cs' → (σ'.g, zs) = xs.foldl doneStep (σ.g, ys) → σ'.rd = some (r, zs) → σ'.po = σ.po → σ'.fi = σ.fi + xs.length → Same σ σ' → Q .none cs') :
    WCC (cx w ext fr) (d + 1) true (.val (.ref 120)) ([.ref a] ++ xs.map .str) cs Q := by
  refine WCC.fnStar (f := 120) (ps := ["self", "nodes"]) (by rfl) rfl rfl rfl ⟨rfl, rfl, rfl⟩ (by rfl) (by rw [sizeLine_eq]; simp; omega) (fun vals more h => ?_) (by decide) (by decide) (by decide) ⟨rfl, rfl, rfl⟩ ?_
  · match vals, more, h with
    | [a], [], _ => rfl
    | [a], c :: r, _ => rfl
  intro env
  rw [cx_push]
  dsimp only [List.zip_cons_cons, List.zip_nil_right, List.cons_append, List.nil_append]
  have h0 := h.more [.tuple (xs.map .str)]
  have hV : σ.rdV = .ref r := by simp [Sg.rdV, hrd]
  iterate 5 walk_at "v"
  refine sRd h0 ?_
  iterate 2 walk_at "v"
  refine ⟨_, rfl, ?_⟩
  simp only [hV, V.isNone, Bool.false_eq_true, if_false]
  iterate 5 walk_at "v"
  refine sN2i h0 ?_
  try dsimp only
  walk_at "v"
  have htup : ∀ {σ'' : Sg} {cs'' : List Cell}, Turned a σ (cs ++ [.tuple (xs.map .str)]) σ'' cs'' → cs''[cs.length]? = some (.tuple (xs.map .str)) := fun T => T.keep _ _ (get_snoc _ _) fun hm => Nat.lt_irrefl _ (h.lt _ hm)
  refine WS.for (Iter.tuple _ cs.length (xs.map .str)) (fun i st => ∃ σ' zs, Turned a σ (cs ++ [.tuple (xs.map .str)]) σ' st.cells ∧ (σ'.g, zs) = (xs.take i).foldl doneStep (σ.g, ys) ∧ σ'.rd = some (r, zs) ∧ σ'.po = σ.po ∧ σ'.fi = σ.fi + i ∧ Same σ σ' ∧ zs.length ≤ ys.length + i * σ.bd ∧ lkv st.vars "self" = some (.ref a) ∧ lkv st.vars "n2i" = some (.ref σ.n2i)) rfl (by walk_at "loc") ?_ ?_ ?_
  · walk_at "v"
    exact ⟨rfl, get_snoc _ _, σ, ys, Turned.refl h0, rfl, hrd, rfl, by simp, Same.refl, by simp, rfl, rfl⟩
  · intro i v st hr hok hJ K kN kC kB kR
    obtain ⟨σ', zs, T', g', r', p', f', M', z', hv1, hv2⟩ := hJ
    rw [List.getElem?_map] at hr
    obtain ⟨x, hp, rfl⟩ := Option.map_eq_some_iff.mp hr
    have hi : i < xs.length := (List.getElem?_eq_some_iff.mp hp).1
    have hmem : x ∈ σ'.ns.map (·.key) := by rw [M'.keys]; exact hk x (List.mem_of_getElem? hp)
    obtain ⟨n, hn, hkn, hl⟩ := w1_nodeOf (vars := []) T'.srt hmem
    have hg := hx i x hp
    rw [← g'] at hg
    rw [← hkn, gGet_node T'.srt hn] at hg
    have hnp : n.np = -1 := by simpa using hg
    have hOk := T'.srt.node n hn
    iterate 4 walk_at "v"
    refine WE.methB ?_
    walk_at "v"
    refine ⟨_, MethB.dict (by rw [← M'.n2i]; exact T'.srt.dict) F.slot_dict_get F.type_dict_get, ?_⟩
    iterate 3 walk_at "v"
    refine WCV.dictGet (by rw [← M'.n2i]; exact T'.srt.dict) ?_
    rw [hl]
    dsimp only [Option.getD]
    iterate 3 walk_at "v"
    refine ⟨_, rfl, ?_⟩
    simp only [V.isNone, Bool.false_eq_true, if_false]
    iterate 5 walk_at "v"
    refine nNp hOk ?_
    rw [hnp]
    try dsimp only
    iterate 4 walk_at "v"
    refine WE.global rfl (g_OUT w ext) (fun _ => VRel.int _ _ _) ?_
    walk_at "v"
    refine ⟨_, rfl, ?_⟩
    simp only [bne_self_eq_false, Bool.false_eq_true, if_false]
    iterate 3 walk_at "v"
    refine WE.global rfl (g_DONE w ext) (fun _ => VRel.int _ _ _) ?_
    walk_at "v"
    refine nNpSet hOk ?_
    have T1 := T'.trans (setNp T'.srt hn (-2))
    have M1 := M'.trans (Same.np T'.srt hn (-2))
    have g1 : (σ'.turn n.key (-2) n.su).g = gSet x (-2) σ'.g := (turn_set T'.srt hn (-2)).trans (by rw [hkn])
    have hli : (st.cells.set n.i (.inst 40 n.di [some (.str n.key), some (.int (-2)), some (.ref n.si)]))[n.si]? = some (.list (n.su.map .str)) := set_other hOk.1 hOk.2.2 (by intro z; cases z)
    have hiOk : (st.cells.set n.i (.inst 40 n.di [some (.str n.key), some (.int (-2)), some (.ref n.si)]))[n.i]? = some (.inst 40 n.di [some (.str n.key), some (.int (-2)), some (.ref n.si)]) := set_self hOk.1
    have hsi : n.si ∈ σ.ns.map (·.si) := by rw [← M'.sis]; exact List.mem_map.mpr ⟨n, hn, rfl⟩
    have hsu : ∀ y ∈ n.su, y ∈ σ.ns.map (·.key) := fun y hy => hc n.key y (by rw [← M'.su, gSuOf_node T'.srt hn]; exact hy)
    have hbd : n.su.length ≤ σ.bd := Nat.le_trans (T'.srt.sub n hn) M'.bd
    have hg0 : gSuOf σ'.g x = n.su := by rw [← hkn]; exact gSuOf_node T'.srt hn
    have r1 : (σ'.turn n.key (-2) n.su).rd = some (r, zs) := r'
    have p1 : (σ'.turn n.key (-2) n.su).po = σ.po := p'
    have f1 : (σ'.turn n.key (-2) n.su).fi = σ.fi + i := f'
    have hnd : (st.cells.set n.i (.inst 40 n.di [some (.str n.key), some (.int (-2)), some (.ref n.si)]))[n.di]? = some (.attrs []) := set_other hOk.1 hOk.2.1 (by intro z; cases z)
    have hb : (i + 1) * σ.bd ≤ xs.length * σ.bd := Nat.mul_le_mul_right _ (by omega)
    rw [Nat.succ_mul] at hb
    revert T1 M1 g1 r1 p1 f1 hli hiOk hnd
    generalize σ'.turn n.key (-2) n.su = σ1
    generalize (st.cells.set n.i _) = cs1
    intro T1 M1 g1 hli hiOk r1 p1 f1 hnd
    try dsimp only
    iterate 1 walk_at "v"
    refine WS.for (Iter.list _ n.si (n.su.map .str)) (fun j st => ∃ σ' ws, Turned a σ (cs ++ [.tuple (xs.map .str)]) σ' st.cells ∧ (σ'.g, ws) = decs (n.su.take j) (σ1.g, zs) ∧ σ'.rd = some (r, ws) ∧ σ'.po = σ.po ∧ σ'.fi = σ.fi + i ∧ Same σ σ' ∧ ws.length ≤ zs.length + j ∧ lkv st.vars "self" = some (.ref a) ∧ lkv st.vars "n2i" = some (.ref σ.n2i)) rfl (by walk_at "loc") ?_ ?_ ?_
    · iterate 2 walk_at "v"
      refine nSu (n := { n with np := -2 }) ⟨hiOk, hnd, hli⟩ ?_
      exact ⟨rfl, hli, σ1, zs, T1, rfl, r1, p1, f1, M1, by simp, by (dsimp only [lkv]; walk_at "lk"), by (dsimp only [lkv]; walk_at "lk")⟩
    · intro j v st2 hr hok2 hJ K2 kN2 kC2 kB2 kR2
      obtain ⟨σ2, ws, T2, g2, r2, p2, f2, M2, z2, hv1, hv2⟩ := hJ
      rw [List.getElem?_map] at hr
      obtain ⟨y, hy, rfl⟩ := Option.map_eq_some_iff.mp hr
      have hj : j < n.su.length := (List.getElem?_eq_some_iff.mp hy).1
      have hmem2 : y ∈ σ2.ns.map (·.key) := by rw [M2.keys]; exact hsu y (List.mem_of_getElem? hy)
      obtain ⟨m, hm, hkm, hlm⟩ := w1_nodeOf (vars := []) T2.srt hmem2
      have hOm := T2.srt.node m hm
      iterate 5 walk_at "v"
      refine w2_n2i T2.srt M2.n2i hlm ?_
      try dsimp only
      iterate 3 walk_at "v"
      refine nNp hOm ?_
      iterate 2 walk_at "v"
      refine nNpSet hOm ?_
      have T3 := T2.trans (setNp T2.srt hm (m.np - 1))
      have M3 := M2.trans (Same.np T2.srt hm (m.np - 1))
      have g3 : (σ2.turn m.key (m.np - 1) m.su).g = gNp y (-1) σ2.g := by rw [← hkm, Int.sub_eq_add_neg]; exact turn_np T2.srt hm (-1)
      have r3 : (σ2.turn m.key (m.np - 1) m.su).rd = some (r, ws) := r2
      have p3 : (σ2.turn m.key (m.np - 1) m.su).po = σ.po := p2
      have f3 : (σ2.turn m.key (m.np - 1) m.su).fi = σ.fi + i := f2
      have hli3 : (st2.cells.set m.i (.inst 40 m.di [some (.str m.key), some (.int (m.np - 1)), some (.ref m.si)]))[n.si]? = some (.list (n.su.map .str)) := set_other hOm.1 hok2 (by intro z; cases z)
      have hOm3 : NdOk (st2.cells.set m.i (.inst 40 m.di [some (.str m.key), some (.int (m.np - 1)), some (.ref m.si)])) { m with np := m.np - 1 } := ⟨set_self hOm.1, set_other hOm.1 hOm.2.1 (by intro z; cases z), set_other hOm.1 hOm.2.2 (by intro z; cases z)⟩
      have hn3 : ({ m with np := m.np - 1 } : Nd) ∈ (σ2.turn m.key (m.np - 1) m.su).ns := by
        refine List.mem_map.mpr ⟨m, hm, ?_⟩
        rw [if_pos rfl]
      have hget : gGet (gNp y (-1) σ2.g) y = some (m.np - 1) := by
        have := gGet_node T3.srt hn3
        rw [g3] at this
        rw [← hkm]
        exact hkm ▸ this
      revert T3 M3 g3 r3 p3 f3 hli3 hOm3 hn3
      generalize σ2.turn m.key (m.np - 1) m.su = σ3
      generalize (st2.cells.set m.i _) = cs3
      intro T3 M3 g3 r3 p3 f3 hli3 hOm3 hn3
      try dsimp only
      iterate 5 walk_at "v"
      refine nNp (n := { m with np := m.np - 1 }) hOm3 ?_
      iterate 2 walk_at "v"
      refine ⟨_, rfl, ?_⟩
      have hstep : decs (n.su.take (j + 1)) (σ1.g, zs) = (gNp y (-1) σ2.g, if m.np - 1 = 0 then ws ++ [y] else ws) := by
        unfold decs at g2 ⊢
        rw [List.take_add_one, hy, List.foldl_append, ← g2]
        show (_, _) = _
        rw [hget]
        simp
      by_cases h0 : m.np - 1 = 0
      · have hb0 : (m.np - 1 == 0) = true := by simpa using h0
        simp only [hb0, if_true]
        iterate 2 walk_at "v"
        refine WE.methB ?_
        iterate 2 walk_at "v"
        refine sRd T3.srt ?_
        rw [show σ3.rdV = .ref r by simp [Sg.rdV, r3]]
        have hrl := T3.srt.ready r ws r3
        refine ⟨_, MethB.list hrl.1 F.slot_list_append F.type_list_append, ?_⟩
        iterate 3 walk_at "v"
        refine WCV.append hrl.1 (by rw [sizeLine_eq, List.length_map]; omega) ?_
        refine ⟨(by intro l z; cases z), (by intro u z; cases z), ?_⟩
        have T4 := setReady T3.srt r3 (ws ++ [y])
        have e : ws.map V.str ++ [V.str y] = (ws ++ [y]).map V.str := by simp
        rw [e]
        try dsimp only
        iterate 2 walk_at "v"
        refine kN2 _ ⟨?_, _, ws ++ [y], T3.trans T4, ?_, rfl, p3, f3, ?_, by simp; omega, by (dsimp only [lkv]; walk_at "lk"), by (dsimp only [lkv]; walk_at "lk")⟩
        · rw [List.getElem?_set_ne]
          · exact hli3
          · intro z; exact hrl.2 (by rw [M3.sis, z]; exact hsi)
        · rw [hstep, if_pos h0]; exact congrArg (·, _) g3
        · exact ⟨M3.dl, M3.n2i, M3.keys, M3.sis, M3.su, M3.bd⟩
      · have hb0 : (m.np - 1 == 0) = false := by simpa using h0
        simp only [hb0, Bool.false_eq_true, if_false]
        iterate 2 walk_at "v"
        refine kN2 _ ⟨hli3, σ3, ws, T3, ?_, r3, p3, f3, M3, by omega, by (dsimp only [lkv]; walk_at "lk"), by (dsimp only [lkv]; walk_at "lk")⟩
        rw [hstep, if_neg h0, g3]
    · rintro st2 hok2 ⟨σ2, ws, T2, g2, r2, p2, f2, M2, z2, hv1, hv2⟩
      rw [List.length_map] at z2
      rw [List.length_map, List.take_length] at g2
      try dsimp only
      iterate 3 walk_at "v"
      refine sFi T2.srt ?_
      iterate 2 walk_at "v"
      refine WSA.dict T2.srt.inst T2.srt.attrs (Nat.le_of_ble_eq_true rfl) (k137_sa w ext) (k137_po w ext) (k137_t3 w ext) (k137_hd w ext) ?_
      have T3 := setAttrs_turned T2.srt σ2.po (σ2.fi + 1)
      walk_at "v"
      have T4 := T2.trans T3
      refine kN _ ⟨htup T4, _, ws, T4, ?_, r2, p2, ?_, ⟨M2.dl, M2.n2i, M2.keys, M2.sis, M2.su, M2.bd⟩, ?_, by (dsimp only [lkv]; walk_at "lk"), by (dsimp only [lkv]; walk_at "lk")⟩
      · rw [List.take_add_one, hp, List.foldl_append, ← g']
        show (σ2.g, ws) = doneStep (σ'.g, zs) x
        unfold doneStep
        try dsimp only
        rw [hg0, ← g1]; exact g2
      · show σ2.fi + 1 = σ.fi + ((i + 1 : Nat) : Int); rw [f2]; omega
      · rw [Nat.succ_mul]; omega
  · rintro st hok ⟨σ', zs, T', g', r', p', f', M', z', hv1, hv2⟩
    walk_at "v"
    rw [List.length_map] at g' f'
    rw [List.take_length] at g'
    exact q _ _ zs T'.less g' r' p' f' M'
end

/-- an entry of the stack of _find_cycle -/
structure En where
  nd : Nd
  m : Nat
  it : Nat
  pos : Nat

/-- finished nodes, each behind all it leads to -/
inductive FinOk (su : Str → List Str) : List Str → Prop
  | nil : FinOk su []
  | snoc {l : List Str} {x : Str} : FinOk su l → (∀ y ∈ su x, y ∈ l) → x ∉ l → FinOk su (l ++ [x])

def Pend (fin : List Str) (e : En) (x : Str) : Prop := ∃ j, e.pos = j + 1 ∧ e.nd.su[j]? = some x ∧ ∀ y ∈ e.nd.su.take j, y ∈ fin

structure Chain (su : Str → List Str) (es : List En) (seen fin : List Str) : Prop where
  finOk : FinOk su fin
  seenIff : ∀ x, x ∈ seen ↔ x ∈ fin ∨ x ∈ es.map (·.nd.key)
  apart : ∀ x ∈ fin, x ∉ es.map (·.nd.key)
  nodup : (es.map (·.nd.key)).Nodup
  sus : ∀ e ∈ es, e.nd.su = su e.nd.key
  next : ∀ k e e', es[k]? = some e → es[k + 1]? = some e' → Pend fin e e'.nd.key

def TopOk (fin : List Str) (es : List En) : Prop := ∀ e, es.getLast? = some e → ∀ y ∈ e.nd.su.take e.pos, y ∈ fin

structure Ring (su : Str → List Str) (c : List Str) : Prop where
  ex : ∃ p x, c = p ++ [x] ∧ p.head? = some x ∧ p.Nodup
  step : ∀ (i : Nat) (u v : Str), c[i]? = some u → c[i + 1]? = some v → v ∈ su u

section
variable {su : Str → List Str} {es : List En} {seen fin : List Str}

theorem Pend.mono {fin' : List Str} {e : En} {x : Str} (h : Pend fin e x) (hs : ∀ y ∈ fin, y ∈ fin') : Pend fin' e x := let ⟨j, h1, h2, h3⟩ := h; ⟨j, h1, h2, fun y hy => hs y (h3 y hy)⟩

theorem Chain.push (h : Chain su es seen fin) {x : Str} (hx : x ∉ seen) {e : En} (hk : e.nd.key = x) (hs : e.nd.su = su x) (hp : e.pos = 0) (hpend : ∀ t, es.getLast? = some t → Pend fin t x) :
    Chain su (es ++ [e]) (seen ++ [x]) fin ∧ TopOk fin (es ++ [e]) := by
  have hx1 : x ∉ fin := fun hm => hx ((h.seenIff x).mpr (.inl hm))
  have hx2 : x ∉ es.map (·.nd.key) := fun hm => hx ((h.seenIff x).mpr (.inr hm))
  refine ⟨⟨h.finOk, fun y => ?_, fun y hy => ?_, ?_, fun t ht => ?_, fun k t t' h1 h2 => ?_⟩, fun t ht y hy => ?_⟩
  · simp only [List.mem_append, List.map_append, List.map_cons, List.map_nil, List.mem_singleton, h.seenIff y, hk, or_assoc]
  · simp only [List.map_append, List.mem_append, List.map_cons, List.map_nil, List.mem_singleton, hk]
    rintro (hm | rfl)
    · exact h.apart y hy hm
    · exact hx1 hy
  · rw [List.map_append, List.map_cons, List.map_nil, hk]
    refine List.nodup_append.mpr ⟨h.nodup, by simp, ?_⟩
    intro a ha b hb e
    rw [List.mem_singleton.mp hb] at e
    exact hx2 (e ▸ ha)
  · rcases List.mem_append.mp ht with ht | ht
    · exact h.sus t ht
    · rw [List.mem_singleton.mp ht, hk]; exact hs
  · rcases Nat.lt_trichotomy (k + 1) es.length with hlt | heq | hgt
    · rw [List.getElem?_append_left hlt] at h2
      rw [List.getElem?_append_left (by omega)] at h1
      exact h.next k t t' h1 h2
    · have e2 : (es ++ [e])[k + 1]? = some e := by rw [heq]; simp
      rw [e2] at h2; cases h2
      rw [List.getElem?_append_left (by omega)] at h1
      rw [hk]
      refine hpend t ?_
      rw [List.getLast?_eq_getElem?, ← h1]; congr 1; omega
    · rw [List.getElem?_eq_none (by simp; omega)] at h2; cases h2
  · rw [List.getLast?_append] at ht
    simp at ht
    subst ht
    rw [hp] at hy; simp at hy

/-- the node is finished already -/
theorem Chain.seenFin (h : Chain su es seen fin) {x : Str} (hx : x ∈ seen) (hn : x ∉ es.map (·.nd.key)) (hpend : ∀ t, es.getLast? = some t → Pend fin t x) : TopOk fin es := by
  have hf : x ∈ fin := ((h.seenIff x).mp hx).resolve_right hn
  intro t ht y hy
  obtain ⟨j, h1, h2, h3⟩ := hpend t ht
  rw [h1, List.take_add_one, h2] at hy
  rcases List.mem_append.mp hy with hy | hy
  · exact h3 y hy
  · simp at hy; exact hy ▸ hf

/-- the top is exhausted -/
theorem Chain.pop {e : En} (h : Chain su (es ++ [e]) seen fin) (ht : TopOk fin (es ++ [e])) (hd : e.nd.su.length ≤ e.pos) :
    Chain su es seen (fin ++ [e.nd.key]) ∧ TopOk (fin ++ [e.nd.key]) es := by
  have hall : ∀ y ∈ su e.nd.key, y ∈ fin := fun y hy => by
    refine ht e (by simp) y ?_
    rw [List.take_of_length_le hd, h.sus e (by simp)]; exact hy
  have hnot : e.nd.key ∉ fin := fun hm => h.apart _ hm (by simp)
  have hnd := h.nodup
  rw [List.map_append, List.map_cons, List.map_nil] at hnd
  have hnd' := List.nodup_append.mp hnd
  have hmono : ∀ y ∈ fin, y ∈ fin ++ [e.nd.key] := fun y hy => List.mem_append_left _ hy
  refine ⟨⟨.snoc h.finOk hall hnot, fun x => ?_, fun x hx => ?_, hnd'.1, fun t htm => h.sus t (List.mem_append_left _ htm), fun k t t' h1 h2 => ?_⟩, fun t htl y hy => ?_⟩
  · rw [h.seenIff x]
    simp only [List.map_append, List.mem_append, List.map_cons, List.map_nil, List.mem_singleton]
    constructor
    · rintro (h | h | h) <;> simp [h]
    · rintro ((h | h) | h) <;> simp [h]
  · rcases List.mem_append.mp hx with hx | hx
    · exact fun hm => h.apart x hx (by rw [List.map_append]; exact List.mem_append_left _ hm)
    · rw [List.mem_singleton.mp hx]; exact fun hm => hnd'.2.2 _ hm _ (by simp) rfl
  · have l1 := (List.getElem?_eq_some_iff.mp h1).1
    have l2 := (List.getElem?_eq_some_iff.mp h2).1
    exact (h.next k t t' (by rw [List.getElem?_append_left l1]; exact h1) (by rw [List.getElem?_append_left l2]; exact h2)).mono hmono
  · have hl : es[es.length - 1]? = some t := by rw [← List.getLast?_eq_getElem?]; exact htl
    have l1 := (List.getElem?_eq_some_iff.mp hl).1
    obtain ⟨j, p1, p2, p3⟩ := h.next (es.length - 1) t e (by rw [List.getElem?_append_left l1]; exact hl) (by rw [Nat.sub_add_cancel (by omega)]; simp)
    rw [p1, List.take_add_one, p2] at hy
    rcases List.mem_append.mp hy with hy | hy
    · exact hmono y (p3 y hy)
    · simp at hy; simp [hy]

/-- the top goes on -/
theorem Chain.go {e : En} (h : Chain su (es ++ [e]) seen fin) (ht : TopOk fin (es ++ [e])) {x : Str} (hx : e.nd.su[e.pos]? = some x) :
    Chain su (es ++ [{ e with pos := e.pos + 1 }]) seen fin ∧ ∀ t, (es ++ [{ e with pos := e.pos + 1 }]).getLast? = some t → Pend fin t x := by
  refine ⟨⟨h.finOk, fun y => by rw [h.seenIff y]; simp, fun y hy => by simpa using h.apart y hy, by simpa using h.nodup, fun t htm => ?_, fun k t t' h1 h2 => ?_⟩, fun t htl => ?_⟩
  · rcases List.mem_append.mp htm with htm | htm
    · exact h.sus t (List.mem_append_left _ htm)
    · rw [List.mem_singleton.mp htm]; exact h.sus e (by simp)
  · have l1 : k + 1 < (es ++ [{ e with pos := e.pos + 1 }]).length := (List.getElem?_eq_some_iff.mp h2).1
    simp at l1
    rw [List.getElem?_append_left l1] at h1
    rcases Nat.lt_or_ge (k + 1) es.length with hlt | hge
    · rw [List.getElem?_append_left hlt] at h2
      exact h.next k t t' (by rw [List.getElem?_append_left l1]; exact h1) (by rw [List.getElem?_append_left hlt]; exact h2)
    · have : k + 1 = es.length := by omega
      rw [this] at h2
      simp at h2
      subst h2
      exact h.next k t e (by rw [List.getElem?_append_left l1]; exact h1) (by rw [this]; simp)
  · simp at htl
    subst htl
    exact ⟨e.pos, rfl, hx, fun y hy => ht e (by simp) y hy⟩

/-- a node of the stack is met again -/
theorem Chain.ring (h : Chain su es seen fin) {x : Str} {i : Nat} {e : En} (hi : es[i]? = some e) (hk : e.nd.key = x) (hpend : ∀ t, es.getLast? = some t → Pend fin t x) : Ring su ((es.drop i).map (·.nd.key) ++ [x]) := by
  have hlt := (List.getElem?_eq_some_iff.mp hi).1
  have pin : ∀ {t : En} {y : Str}, t ∈ es → Pend fin t y → y ∈ su t.nd.key := fun htm ⟨j, _, p2, _⟩ => by rw [← h.sus _ htm]; exact List.mem_of_getElem? p2
  refine ⟨⟨_, x, rfl, ?_, ?_⟩, fun j u v h1 h2 => ?_⟩
  · rw [List.drop_eq_getElem_cons hlt]
    have : es[i] = e := by have := List.getElem?_eq_getElem hlt; rw [hi] at this; exact (Option.some.inj this).symm
    simp [this, hk]
  · exact h.nodup.sublist ((List.drop_sublist i es).map _)
  · have hlen : ((es.drop i).map (·.nd.key)).length = es.length - i := by simp
    rcases Nat.lt_or_ge (j + 1) (es.length - i) with hl | hl
    · rw [List.getElem?_append_left (by omega), List.getElem?_map, List.getElem?_drop] at h1 h2
      obtain ⟨t, ht1, rfl⟩ := Option.map_eq_some_iff.mp h1
      obtain ⟨t', ht2, rfl⟩ := Option.map_eq_some_iff.mp h2
      exact pin (List.mem_of_getElem? ht1) (h.next (i + j) t t' ht1 (by rw [← ht2]; congr 1))
    · have hj : j + 1 = es.length - i := by
        have := (List.getElem?_eq_some_iff.mp h2).1
        simp at this; omega
      rw [hj, ← hlen] at h2
      simp at h2
      subst h2
      rw [List.getElem?_append_left (by omega), List.getElem?_map, List.getElem?_drop] at h1
      obtain ⟨t, ht1, rfl⟩ := Option.map_eq_some_iff.mp h1
      exact pin (List.mem_of_getElem? ht1) (hpend t (by rw [List.getLast?_eq_getElem?, ← ht1]; congr 1; omega))
end

def dOf (es : List En) : List (Str × V) := es.zipIdx.map fun p => (p.1.nd.key, .int p.2)

theorem dOf_snoc (es : List En) (e : En) : dOf (es ++ [e]) = dOf es ++ [(e.nd.key, .int es.length)] := by
  unfold dOf; rw [List.zipIdx_append, List.map_append]; simp

theorem dOf_len (es : List En) : (dOf es).length = es.length := by simp [dOf]

theorem lookup_none_iff {l : List (Str × V)} {x : Str} : l.lookup x = none ↔ x ∉ l.map (·.1) := by
  induction l with
  | nil => simp
  | cons a r ih =>
    by_cases e : x = a.1
    · simp [List.lookup, e]
    · simp only [List.lookup, beq_eq_false_iff_ne.mpr e, List.map_cons, List.mem_cons, e, false_or]; exact ih

theorem dOf_keys (es : List En) : (dOf es).map (·.1) = es.map (·.nd.key) := by
  unfold dOf
  rw [List.map_map]
  have : ∀ (n : Nat), (es.zipIdx n).map ((fun p : Str × V => p.1) ∘ fun p : En × Nat => (p.1.nd.key, V.int p.2)) = es.map (·.nd.key) := by
    induction es with
    | nil => intro n; rfl
    | cons a r ih => intro n; simp [List.zipIdx_cons, Function.comp] at *; exact ih (n + 1)
  exact this 0

theorem dOf_none {es : List En} {x : Str} : (dOf es).lookup x = none ↔ x ∉ es.map (·.nd.key) := by rw [lookup_none_iff, dOf_keys]

theorem dOf_some {es : List En} {x : Str} (hx : x ∈ es.map (·.nd.key)) : ∃ (i : Nat) (e : En), es[i]? = some e ∧ e.nd.key = x ∧ (dOf es).lookup x = some (.int i) := by
  have key : ∀ (es : List En) (n : Nat), x ∈ es.map (·.nd.key) → ∃ (i : Nat) (e : En), es[i]? = some e ∧ e.nd.key = x ∧ ((es.zipIdx n).map fun p : En × Nat => (p.1.nd.key, V.int p.2)).lookup x = some (.int ((n + i : Nat) : Int)) := by
    intro es
    induction es with
    | nil => intro n h; cases h
    | cons a r ih =>
      intro n h
      by_cases e : a.nd.key = x
      · exact ⟨0, a, rfl, e, by simp [List.zipIdx_cons, List.lookup, e]⟩
      · have h' : x ∈ r.map (·.nd.key) := by
          rcases List.mem_cons.mp h with h | h
          · exact absurd h.symm e
          · exact h
        obtain ⟨i, t, h1, h2, h3⟩ := ih (n + 1) h'
        refine ⟨i + 1, t, by simpa using h1, h2, ?_⟩
        have e' : x ≠ a.nd.key := fun z => e z.symm
        simp only [List.zipIdx_cons, List.map_cons, List.lookup, beq_eq_false_iff_ne.mpr e']
        rw [h3]; congr 3; omega
  obtain ⟨i, e, h1, h2, h3⟩ := key es 0 hx
  exact ⟨i, e, h1, h2, by simpa [dOf] using h3⟩

theorem dOf_pop {es : List En} {e : En} (hn : ((es ++ [e]).map (·.nd.key)).Nodup) : delv e.nd.key (dOf (es ++ [e])) = dOf es := by
  rw [dOf_snoc]
  unfold delv
  rw [List.filter_append]
  have h1 : (dOf es).filter (fun p => decide (p.1 ≠ e.nd.key)) = dOf es := by
    rw [List.filter_eq_self]
    intro p hp
    have hm : p.1 ∈ es.map (·.nd.key) := by rw [← dOf_keys]; exact List.mem_map.mpr ⟨p, hp, rfl⟩
    rw [List.map_append] at hn
    have := (List.nodup_append.mp hn).2.2 p.1 hm e.nd.key (by simp)
    simpa using this
  rw [h1]; simp

/-- what is left to be done -/
def left (ns : List Nd) (seen : List Str) (es : List En) : Nat := ((ns.filter fun n => !seen.contains n.key).map fun n => n.su.length + 1).sum + (es.map fun e => e.nd.su.length - e.pos).sum

theorem left_push {ns : List Nd} {seen : List Str} {es : List En} {e : En} (hk : (ns.map (·.key)).Nodup) (hn : e.nd ∈ ns) (hs : e.nd.key ∉ seen) (hp : e.pos = 0) : left ns (seen ++ [e.nd.key]) (es ++ [e]) < left ns seen es := by
  unfold left
  have key : ∀ (ns : List Nd), (ns.map (·.key)).Nodup → e.nd ∈ ns → ((ns.filter fun n => !(seen ++ [e.nd.key]).contains n.key).map fun n => n.su.length + 1).sum + (e.nd.su.length + 1) = ((ns.filter fun n => !seen.contains n.key).map fun n => n.su.length + 1).sum := by
    intro ns
    induction ns with
    | nil => intro _ h; cases h
    | cons a r ih =>
      intro hk hm
      have hk' := List.nodup_cons.mp hk
      by_cases ea : a.key = e.nd.key
      · have hr : e.nd ∉ r := fun hr => hk'.1 (List.mem_map.mpr ⟨_, hr, ea.symm⟩)
        have e1 : e.nd = a := (List.mem_cons.mp hm).resolve_right hr
        have e2 : (r.filter fun n => !(seen ++ [e.nd.key]).contains n.key) = r.filter fun n => !seen.contains n.key := by
          apply List.filter_congr
          intro n hn'
          have : n.key ≠ e.nd.key := fun z => hk'.1 (List.mem_map.mpr ⟨n, hn', z.trans ea.symm⟩)
          simp [this]
        have c1 : (!(seen ++ [e.nd.key]).contains a.key) = false := by simp [ea]
        have c2 : (!seen.contains a.key) = true := by simpa [ea] using hs
        simp only [List.filter_cons, c1, c2, Bool.false_eq_true, if_false, if_true, List.map_cons, List.sum_cons, e2]
        rw [e1]; omega
      · have hm' : e.nd ∈ r := (List.mem_cons.mp hm).resolve_left fun z => ea (by rw [z])
        have := ih hk'.2 hm'
        have c1 : (seen ++ [e.nd.key]).contains a.key = seen.contains a.key := by simp [ea]
        simp only [List.filter_cons, c1]
        split
        · simp only [List.map_cons, List.sum_cons]; omega
        · exact this
  have := key ns hk hn
  simp only [List.map_append, List.map_cons, List.map_nil, List.sum_append, List.sum_cons, List.sum_nil, hp]
  omega

theorem left_go {ns : List Nd} {seen : List Str} {es : List En} {e : En} (h : e.pos < e.nd.su.length) : left ns seen (es ++ [{ e with pos := e.pos + 1 }]) < left ns seen (es ++ [e]) := by
  unfold left
  simp only [List.map_append, List.map_cons, List.map_nil, List.sum_append, List.sum_cons, List.sum_nil]
  omega
theorem left_pop {ns : List Nd} {seen : List Str} {es : List En} {e : En} : left ns seen es ≤ left ns seen (es ++ [e]) := by
  unfold left
  simp only [List.map_append, List.sum_append]
  omega

/-- the cells of _find_cycle -/
structure DfsC (cs0 cs : List Cell) (σ : Sg) (es : List En) (seen : List Str) : Prop where
  grown : Grown cs0 cs
  stk : cs[cs0.length]? = some (.list (es.map fun e => .str e.nd.key))
  its : cs[cs0.length + 1]? = some (.list (es.map fun e => .ref e.m))
  sn : cs[cs0.length + 2]? = some (.set seen)
  dct : ∃ ep, cs[cs0.length + 3]? = some (.dict (dOf es) ep)
  ent : ∀ e ∈ es, e.nd ∈ σ.ns ∧ cs[e.m]? = some (.nextOf e.it) ∧ cs[e.it]? = some (.liter e.nd.si e.pos) ∧ cs0.length ≤ e.m ∧ cs0.length ≤ e.it
  itn : (es.map (·.it)).Nodup

section
variable {cs0 cs : List Cell} {σ : Sg} {es : List En} {seen : List Str} {a : Nat}

theorem Srt.grown {cs' : List Cell} (h : Srt cs a σ) (g : Grown cs cs') : Srt cs' a σ :=
  ⟨g _ _ h.inst, g _ _ h.attrs, g _ _ h.dict, fun n hn => let ⟨h1, h2, h3⟩ := h.node n hn; ⟨g _ _ h1, g _ _ h2, g _ _ h3⟩, h.keys, h.sis, fun r xs hr => let ⟨h1, h2⟩ := h.ready r xs hr; ⟨g _ _ h1, h2⟩, h.few, h.sub⟩

/-- a cell above is set -/
theorem Grown.set (g : Grown cs0 cs) {k : Nat} {c : Cell} (hk : cs0.length ≤ k) : Grown cs0 (cs.set k c) := fun j c' e => by
  rw [List.getElem?_set_ne]
  · exact g j c' e
  · have := (List.getElem?_eq_some_iff.mp e).1; omega
theorem Grown.more (g : Grown cs0 cs) (more : List Cell) : Grown cs0 (cs ++ more) := fun j c' e => get_more (g j c' e)

theorem gset {l : List Cell} {j k : Nat} {c : Cell} (h : j ≠ k) : (l.set j c)[k]? = l[k]? := List.getElem?_set_ne h
theorem gself {l : List Cell} {k : Nat} {c : Cell} (h : k < l.length) : (l.set k c)[k]? = some c := by rw [List.getElem?_set_self h]
theorem glt {l : List Cell} {k : Nat} {c : Cell} (h : l[k]? = some c) : k < l.length := (List.getElem?_eq_some_iff.mp h).1

/-- a node is put on the stack -/
theorem DfsC.push (D : DfsC cs0 cs σ es seen) {nd : Nd} (hn : nd ∈ σ.ns) {x : Str} (hk : nd.key = x) (hx : x ∉ es.map (·.nd.key)) {ep : Nat} :
    DfsC cs0 ((((cs.set (cs0.length + 2) (Cell.set (seen ++ [x])) ++ [Cell.liter nd.si 0] ++ [Cell.nextOf cs.length]).set (cs0.length + 1) (Cell.list (es.map (fun e => V.ref e.m) ++ [V.ref (cs.length + 1)]))).set (cs0.length + 3) (Cell.dict (setv x (V.int es.length) (dOf es)) ep)).set cs0.length (Cell.list (es.map (fun e => V.str e.nd.key) ++ [V.str x]))) σ (es ++ [⟨nd, cs.length + 1, cs.length, 0⟩]) (seen ++ [x]) := by
  have l0 := glt D.stk
  have l1 := glt D.its
  have l2 := glt D.sn
  obtain ⟨ep0, hd⟩ := D.dct
  have l3 := glt hd
  have old : ∀ {k : Nat} {c : Cell}, cs[k]? = some c → k ≠ cs0.length → k ≠ cs0.length + 1 → k ≠ cs0.length + 2 → k ≠ cs0.length + 3 → ((((cs.set (cs0.length + 2) (Cell.set (seen ++ [x])) ++ [Cell.liter nd.si 0] ++ [Cell.nextOf cs.length]).set (cs0.length + 1) (Cell.list (es.map (fun e => V.ref e.m) ++ [V.ref (cs.length + 1)]))).set (cs0.length + 3) (Cell.dict (setv x (V.int es.length) (dOf es)) ep)).set cs0.length (Cell.list (es.map (fun e => V.str e.nd.key) ++ [V.str x])))[k]? = some c := by
    intro k c e h0 h1 h2 h3
    rw [gset (Ne.symm h0), gset (Ne.symm h3), gset (Ne.symm h1)]
    refine get_more (get_more ?_)
    rw [gset (Ne.symm h2)]; exact e
  refine ⟨fun k c e => ?_, ?_, ?_, ?_, ⟨ep, ?_⟩, fun e he => ?_, ?_⟩
  · have := (List.getElem?_eq_some_iff.mp e).1
    exact old (D.grown k c e) (by omega) (by omega) (by omega) (by omega)
  · rw [gself (by simp; omega)]; simp [hk]
  · rw [gset (by omega), gset (by omega), gself (by simp; omega)]; simp
  · rw [gset (by omega), gset (by omega), gset (by omega)]
    refine get_more (get_more ?_)
    rw [gself l2]
  · rw [gset (by omega), gself (by simp; omega), dOf_snoc, setv_new (dOf_none.mpr hx), hk]
  · rcases List.mem_append.mp he with he | he
    · obtain ⟨h1, h2, h3, h4, h5⟩ := D.ent e he
      refine ⟨h1, old h2 ?_ ?_ ?_ ?_, old h3 ?_ ?_ ?_ ?_, h4, h5⟩
      · intro z; rw [z, D.stk] at h2; cases h2
      · intro z; rw [z, D.its] at h2; cases h2
      · intro z; rw [z, D.sn] at h2; cases h2
      · intro z; rw [z, hd] at h2; cases h2
      · intro z; rw [z, D.stk] at h3; cases h3
      · intro z; rw [z, D.its] at h3; cases h3
      · intro z; rw [z, D.sn] at h3; cases h3
      · intro z; rw [z, hd] at h3; cases h3
    · rw [List.mem_singleton.mp he]
      have lc : (cs.set (cs0.length + 2) (Cell.set (seen ++ [x]))).length = cs.length := by simp
      refine ⟨hn, ?_, ?_, by simp; omega, by simp; omega⟩
      · rw [gset (by simp; omega), gset (by simp; omega), gset (by simp; omega)]
        have : (cs.set (cs0.length + 2) (Cell.set (seen ++ [x])) ++ [Cell.liter nd.si 0]).length = cs.length + 1 := by simp
        simp [this]
      · rw [gset (by simp; omega), gset (by simp; omega), gset (by simp; omega)]
        refine get_more ?_
        simp
  · rw [List.map_append]
    refine List.nodup_append.mpr ⟨D.itn, by simp, ?_⟩
    intro a ha b hb e
    obtain ⟨t, ht, rfl⟩ := List.mem_map.mp ha
    obtain ⟨_, _, h3, _⟩ := D.ent t ht
    have := glt h3
    simp at hb
    omega

theorem DfsC.itNe (D : DfsC cs0 cs σ es seen) {e : En} (he : e ∈ es) : e.it ≠ cs0.length ∧ e.it ≠ cs0.length + 1 ∧ e.it ≠ cs0.length + 2 ∧ e.it ≠ cs0.length + 3 := by
  obtain ⟨_, _, h3, _⟩ := D.ent e he
  obtain ⟨ep, hd⟩ := D.dct
  refine ⟨?_, ?_, ?_, ?_⟩ <;> (intro z; rw [z] at h3)
  · rw [D.stk] at h3; cases h3
  · rw [D.its] at h3; cases h3
  · rw [D.sn] at h3; cases h3
  · rw [hd] at h3; cases h3
theorem DfsC.mNe (D : DfsC cs0 cs σ es seen) {e : En} (he : e ∈ es) : e.m ≠ cs0.length ∧ e.m ≠ cs0.length + 1 ∧ e.m ≠ cs0.length + 2 ∧ e.m ≠ cs0.length + 3 := by
  obtain ⟨_, h3, _⟩ := D.ent e he
  obtain ⟨ep, hd⟩ := D.dct
  refine ⟨?_, ?_, ?_, ?_⟩ <;> (intro z; rw [z] at h3)
  · rw [D.stk] at h3; cases h3
  · rw [D.its] at h3; cases h3
  · rw [D.sn] at h3; cases h3
  · rw [hd] at h3; cases h3

/-- the top's iterator goes on -/
theorem DfsC.go {e : En} (D : DfsC cs0 cs σ (es ++ [e]) seen) : DfsC cs0 (cs.set e.it (.liter e.nd.si (e.pos + 1))) σ (es ++ [{ e with pos := e.pos + 1 }]) seen := by
  have he : e ∈ es ++ [e] := by simp
  obtain ⟨n0, n1, n2, n3⟩ := D.itNe he
  obtain ⟨g1, g2, g3, g4, g5⟩ := D.ent e he
  obtain ⟨ep, hd⟩ := D.dct
  have hitn := D.itn
  rw [List.map_append] at hitn
  have hn := (List.nodup_append.mp hitn).2.2
  refine ⟨D.grown.set g5, ?_, ?_, ?_, ⟨ep, ?_⟩, fun t ht => ?_, by simpa using D.itn⟩
  · rw [gset n0, D.stk]; simp
  · rw [gset n1, D.its]; simp
  · rw [gset n2]; exact D.sn
  · rw [gset n3, hd, dOf_snoc, dOf_snoc]
  · rcases List.mem_append.mp ht with ht | ht
    · obtain ⟨h1, h2, h3, h4, h5⟩ := D.ent t (List.mem_append_left _ ht)
      refine ⟨h1, ?_, ?_, h4, h5⟩
      · rw [gset]; exact h2
        intro z; rw [z, h2] at g3; cases g3
      · rw [gset]; exact h3
        intro z; exact hn t.it (List.mem_map.mpr ⟨t, ht, rfl⟩) e.it (by simp) z.symm
    · rw [List.mem_singleton.mp ht]
      refine ⟨g1, ?_, gself (glt g3), g4, g5⟩
      rw [gset]; exact g2
      intro z; rw [z, g2] at g3; cases g3

/-- the top is taken off -/
theorem DfsC.pop {e : En} (D : DfsC cs0 cs σ (es ++ [e]) seen) (hnd : ((es ++ [e]).map (·.nd.key)).Nodup) {ep : Nat} :
    DfsC cs0 ((((cs.set e.it .dead).set cs0.length (.list (es.map fun e => .str e.nd.key))).set (cs0.length + 3) (.dict (delv e.nd.key (dOf (es ++ [e]))) ep)).set (cs0.length + 1) (.list (es.map fun e => .ref e.m))) σ es seen := by
  have he : e ∈ es ++ [e] := by simp
  obtain ⟨n0, n1, n2, n3⟩ := D.itNe he
  obtain ⟨g1, g2, g3, g4, g5⟩ := D.ent e he
  obtain ⟨ep0, hd⟩ := D.dct
  have l0 := glt D.stk
  have l1 := glt D.its
  have l3 := glt hd
  have hitn := D.itn
  rw [List.map_append] at hitn
  have hn := (List.nodup_append.mp hitn).2.2
  refine ⟨((((D.grown.set g5).set (by omega)).set (by omega)).set (by omega)), ?_, ?_, ?_, ⟨ep, ?_⟩, fun t ht => ?_, (List.nodup_append.mp hitn).1⟩
  · rw [gset (by omega), gset (by omega), gself (by simp; omega)]
  · rw [gself (by simp; omega)]
  · rw [gset (by omega), gset (by omega), gset (by omega), gset n2]; exact D.sn
  · rw [gset (by omega), gself (by simp; omega), dOf_pop hnd]
  · obtain ⟨h1, h2, h3, h4, h5⟩ := D.ent t (List.mem_append_left _ ht)
    obtain ⟨m0, m1, m2, m3⟩ := D.mNe (List.mem_append_left [e] ht)
    obtain ⟨i0, i1, i2, i3⟩ := D.itNe (List.mem_append_left [e] ht)
    refine ⟨h1, ?_, ?_, h4, h5⟩
    · rw [gset (Ne.symm m1), gset (Ne.symm m3), gset (Ne.symm m0), gset]; exact h2
      intro z; rw [z, h2] at g3; cases g3
    · rw [gset (Ne.symm i1), gset (Ne.symm i3), gset (Ne.symm i0), gset]; exact h3
      intro z; exact hn t.it (List.mem_map.mpr ⟨t, ht, rfl⟩) e.it (by simp) z.symm
end

def VarsOk (vars : List (Str × V)) (b : Nat) (σ : Sg) : Prop :=
  lkv vars "n2i" = some (.ref σ.n2i) ∧ lkv vars "stack" = some (.ref b) ∧ lkv vars "itstack" = some (.ref (b + 1)) ∧ lkv vars "seen" = some (.ref (b + 2)) ∧ lkv vars "node2stacki" = some (.ref (b + 3))

theorem nodup_le : ∀ {l m : List Str}, l.Nodup → (∀ x ∈ l, x ∈ m) → l.length ≤ m.length
  | [], _, _, _ => Nat.zero_le _
  | a :: r, m, hn, hs => by
    have hn' := List.nodup_cons.mp hn
    have h1 : a ∈ m := hs a (.head _)
    have := nodup_le (m := m.erase a) hn'.2 fun x hx => (List.mem_erase_of_ne (fun (z : x = a) => hn'.1 (z ▸ hx))).mpr (hs x (.tail _ hx))
    rw [List.length_erase_of_mem h1] at this
    have h2 : 0 < m.length := List.length_pos_of_mem h1
    simp only [List.length_cons]; omega

def SeenOk (σ : Sg) (seen : List Str) : Prop := seen.Nodup ∧ ∀ x ∈ seen, x ∈ σ.ns.map (·.key)

section
variable {w : World} {ext : Frag} {fr : List Env} {d : Nat} {cs : List Cell} {Q : V → List Cell → Prop} {a : Nat} {σ : Sg}

theorem findCycle (h : Srt cs a σ) (hc : ∀ x y, y ∈ gSuOf σ.g x → y ∈ σ.ns.map (·.key)) (hb : σ.bd < 100000)
    (q1 : ∀ cs', Grown cs cs' → (∃ fin, FinOk (gSuOf σ.g) fin ∧ ∀ x ∈ σ.ns.map (·.key), x ∈ fin) → Q .none cs')
    (q2 : ∀ cs' r c, Grown cs cs' → cs'[r]? = some (.list (c.map .str)) → cs.length ≤ r → Ring (gSuOf σ.g) c → (∀ x ∈ c, x ∈ σ.ns.map (·.key)) → Q (.ref r) cs') :
    WCC (cx w ext fr) (d + 1) true (.val (.ref 127)) [.ref a] cs Q := by
  refine WCC.fn (f := 127) (ps := ["self"]) (by rfl) rfl rfl rfl rfl ⟨rfl, rfl, rfl⟩ (by rfl) (fun vals h => ?_) (by decide) (by decide) (by decide) ⟨rfl, rfl, rfl⟩ ?_
  · refine len1 (F := fun vals => bindArgs _ ⟨vals, []⟩) (G := fun vals => pure (List.zip _ vals)) ?_ h; exact fun _ => rfl
  intro env
  rw [cx_push]
  dsimp only [List.zip_cons_cons, List.zip_nil_right]
  iterate 4 walk_at "v"
  refine sN2i h ?_
  try dsimp only
  iterate 4 walk_at "v"
  refine ⟨Nat.zero_le _, ?_⟩
  try dsimp only
  iterate 4 walk_at "v"
  refine ⟨Nat.zero_le _, ?_⟩
  try dsimp only
  iterate 2 walk_at "v"
  refine WE.callT0 ?_
  refine WE.builtin rfl (g_set w ext) b_set (by decide) (fun _ => VRel.val _ _) ?_
  refine ⟨_, rfl, ?_⟩
  refine WCV.setNew ?_
  try dsimp only
  iterate 3 walk_at "v"
  have G0 : Grown cs (cs ++ [.list []] ++ [.list []] ++ [.set []] ++ [.dict [] 0]) := fun k c e => get_more (get_more (get_more (get_more e)))
  have D0 : DfsC cs (cs ++ [.list []] ++ [.list []] ++ [.set []] ++ [.dict [] 0]) σ [] [] := ⟨G0, by simp, by simp, by simp, ⟨0, by simp [dOf]⟩, fun e he => (nomatch he), List.nodup_nil⟩
  have C0 : Chain (gSuOf σ.g) [] [] [] := ⟨.nil, fun x => by simp, fun x hx => (nomatch hx), List.nodup_nil, fun e he => (nomatch he), fun k e e' h1 => by simp at h1⟩
  have hsz : ∀ {seen : List Str}, SeenOk σ seen → seen.length < 1000 := fun hs => by
    have h1 := nodup_le hs.1 hs.2
    have h2 := h.few
    rw [List.length_map] at h1
    omega
  have hez : ∀ {es : List En} {seen fin : List Str}, Chain (gSuOf σ.g) es seen fin → SeenOk σ seen → es.length < 1000 := fun {es seen fin} C hs => by
    have h1 := nodup_le C.nodup (m := seen) fun x hx => (C.seenIff x).mpr (.inr hx)
    have h2 := hsz hs
    simp at h1; omega
  walk_at "v"
  refine WS.for (Iter.keys _ σ.n2i (n2iOf σ.ns) σ.ep) (fun i st => ∃ seen fin, DfsC cs st.cells σ [] seen ∧ Chain (gSuOf σ.g) [] seen fin ∧ SeenOk σ seen ∧ (∀ (j : Nat) x, j < i → (σ.ns.map (·.key))[j]? = some x → x ∈ seen) ∧ VarsOk st.vars cs.length σ) rfl (by walk_at "loc") ?_ ?_ ?_
  · walk_at "v"
    refine ⟨rfl, G0 _ _ h.dict, [], [], D0, C0, ⟨List.nodup_nil, fun x hx => (nomatch hx)⟩, fun j x hj => absurd hj (Nat.not_lt_zero _), rfl, ?_, ?_, ?_, ?_⟩
    all_goals (simp only [List.length_append, List.length_cons, List.length_nil]; dsimp only [lkv]; walk_at "lk")
  · intro i v st hr hok hJ K kN kC kB kR
    obtain ⟨seen, fin, D, C, hS, hdone, V⟩ := hJ
    rw [List.map_map, List.getElem?_map] at hr
    obtain ⟨n, hni, rfl⟩ := Option.map_eq_some_iff.mp hr
    dsimp only [Function.comp]
    have hkey : (σ.ns.map (·.key))[i]? = some n.key := by rw [List.getElem?_map, hni]; rfl
    have hnm : n ∈ σ.ns := List.mem_of_getElem? hni
    obtain ⟨V1, V2, V3, V4, V5⟩ := V
    iterate 5 walk_at "v"
    refine W2.inSet D.sn (by have := hsz hS; omega) ?_
    refine ⟨_, rfl, ?_⟩
    have hok' : ∀ {cs' : List Cell}, Grown cs cs' → cs'[σ.n2i]? = some (.dict (n2iOf σ.ns) σ.ep) := fun g => g _ _ h.dict
    by_cases hseen : n.key ∈ seen
    · have e : seen.contains n.key = true := by simpa using hseen
      simp only [e, if_true]
      iterate 2 walk_at "v"
      refine kC _ ⟨hok, seen, fin, D, C, hS, fun j x hj e => ?_, by (dsimp only [lkv]; walk_at "lk"), by (dsimp only [lkv]; walk_at "lk"), by (dsimp only [lkv]; walk_at "lk"), by (dsimp only [lkv]; walk_at "lk"), by (dsimp only [lkv]; walk_at "lk")⟩
      rcases Nat.lt_or_ge j i with hlt | hge
      · exact hdone j x hlt e
      · have : j = i := by omega
        subst this
        rw [hkey] at e; cases e; exact hseen
    · have e : seen.contains n.key = false := by simpa using hseen
      simp only [e, Bool.false_eq_true, if_false]
      iterate 2 walk_at "v"
      refine WS.while (fun k st => ∃ es seen fin x, k = left σ.ns seen es ∧ DfsC cs st.cells σ es seen ∧ Chain (gSuOf σ.g) es seen fin ∧ SeenOk σ seen ∧ (∀ (j : Nat) x, j < i → (σ.ns.map (·.key))[j]? = some x → x ∈ seen) ∧ (n.key ∈ seen ∨ (es = [] ∧ x = n.key)) ∧ (es = [] → x ∉ seen) ∧ x ∈ σ.ns.map (·.key) ∧ (∀ t, es.getLast? = some t → Pend fin t x) ∧ VarsOk st.vars cs.length σ ∧ lkv st.vars "node" = some (.str x)) (left σ.ns seen []) ?_ ?_
      · exact ⟨[], seen, fin, n.key, rfl, D, C, hS, hdone, .inr ⟨rfl, rfl⟩, fun _ => hseen, List.mem_of_getElem? hkey, fun t ht => by simp at ht, ⟨by (dsimp only [lkv]; walk_at "lk"), by (dsimp only [lkv]; walk_at "lk"), by (dsimp only [lkv]; walk_at "lk"), by (dsimp only [lkv]; walk_at "lk"), by (dsimp only [lkv]; walk_at "lk")⟩, by (dsimp only [lkv]; walk_at "lk")⟩
      · intro k st2 hJ K2 kN2 kC2 kB2 kR2
        obtain ⟨es, seen, fin, x, rfl, D, C, hS, hdone, hroot, hempty, hxk, hpend, ⟨V1, V2, V3, V4, V5⟩, V6⟩ := hJ
        iterate 3 walk_at "v"
        simp only [if_true]
        refine WB.cons (WS.mid (fun f st => match f with
          | .next => ∃ es' seen' fin', left σ.ns seen' es' ≤ left σ.ns seen es ∧ DfsC cs st.cells σ es' seen' ∧ Chain (gSuOf σ.g) es' seen' fin' ∧ TopOk fin' es' ∧ SeenOk σ seen' ∧ (∀ (j : Nat) x, j < i → (σ.ns.map (·.key))[j]? = some x → x ∈ seen') ∧ n.key ∈ seen' ∧ VarsOk st.vars cs.length σ
          | .ret v => ∃ r c, v = .ref r ∧ Grown cs st.cells ∧ st.cells[r]? = some (.list (c.map .str)) ∧ cs.length ≤ r ∧ Ring (gSuOf σ.g) c ∧ (∀ x ∈ c, x ∈ σ.ns.map (·.key))
          | _ => False) ?_ ?_)
        · intro M hM
          iterate 4 walk_at "v"
          refine W2.inSet D.sn (by have := hsz hS; omega) ?_
          refine ⟨_, rfl, ?_⟩
          obtain ⟨ep, hd⟩ := D.dct
          by_cases hxs : x ∈ seen
          · have e : seen.contains x = true := by simpa using hxs
            simp only [e, if_true]
            iterate 5 walk_at "v"
            refine W2.inDict hd ?_
            refine ⟨_, rfl, ?_⟩
            by_cases hst : x ∈ es.map (·.nd.key)
            · obtain ⟨i', e', he1, he2, he3⟩ := dOf_some hst
              simp only [he3, Option.isSome_some, if_true]
              have hil : i' < es.length := (List.getElem?_eq_some_iff.mp he1).1
              have hze := hez C hS
              walk_at "vv"
              refine W2.dictItem hd he3 ?_
              walk_at "vv"
              refine WSL.list D.stk rfl rfl (by simp; omega) ?_
              dsimp only [V.part]
              walk_at "vv"
              have hpk : pick (es.map fun e => V.str e.nd.key) (some ((i' : Nat) : Int)) none = (es.drop i').map fun e => V.str e.nd.key := by
                unfold pick kms_lo kms_hi
                simp only [List.length_map]
                rw [if_neg (by omega), Int.toNat_natCast, Nat.min_eq_left (by omega), List.map_drop, List.take_of_length_le (by simp)]
              rw [hpk]
              refine W2.addList (get_more (get_snoc _ _)) (get_snoc _ _) (by simp; omega) ?_
              try dsimp only
              refine hM _ _ ⟨_, (es.drop i').map (·.nd.key) ++ [x], rfl, D.grown.more _ |>.more _ |>.more _, ?_, ?_, C.ring he1 he2 hpend, ?_⟩
              · rw [get_snoc]; simp; rfl
              · have := glt D.stk; simp; omega
              · intro y hy
                rcases List.mem_append.mp hy with hy | hy
                · obtain ⟨t, ht, rfl⟩ := List.mem_map.mp hy
                  exact List.mem_map.mpr ⟨t.nd, (D.ent t (List.mem_of_mem_drop ht)).1, rfl⟩
                · rw [List.mem_singleton.mp hy]; exact hxk
            · have e2 : (dOf es).lookup x = none := dOf_none.mpr hst
              simp only [e2, Option.isSome_none, Bool.false_eq_true, if_false]
              iterate 2 walk_at "v"
              refine hM _ _ ⟨es, seen, fin, Nat.le_refl _, D, C, C.seenFin hxs hst hpend, hS, hdone, hroot.resolve_right fun hh => hempty hh.1 hxs, V1, V2, V3, V4, V5⟩
          · have e : seen.contains x = false := by simpa using hxs
            simp only [e, Bool.false_eq_true, if_false]
            have hze := hez C hS
            have hzs := hsz hS
            obtain ⟨nd, hnd, hkn, hln⟩ := w1_nodeOf (vars := []) h hxk
            walk_at "vv"
            refine WE.methB ?_
            walk_at "vv"
            refine ⟨_, MethB.set D.sn (by omega), ?_⟩
            walk_at "vv"
            refine WCV.setAdd D.sn (by omega) hxs ?_
            walk_at "vv"
            refine WE.methB ?_
            walk_at "vv"
            have hl2 := glt D.sn
            have hl1 := glt D.its
            have hl0 := glt D.stk
            have hl3 := glt hd
            have hits : (st2.cells.set (cs.length + 2) (Cell.set (seen ++ [x])))[cs.length + 1]? = some (.list (es.map fun e => .ref e.m)) := by rw [gset (by omega)]; exact D.its
            refine ⟨_, MethB.list hits F.slot_list_append F.type_list_append, ?_⟩
            walk_at "vv"
            refine WE.callB ?_
            refine WE.builtin rfl (g_iter w ext) b_iter (by decide) (fun _ => VRel.val _ _) ?_
            refine ⟨_, rfl, ?_⟩
            walk_at "vv"
            have G1 : Grown cs (st2.cells.set (cs.length + 2) (Cell.set (seen ++ [x]))) := D.grown.set (by omega)
            refine w2_n2i (h.grown G1) rfl hln ?_
            have hnok := (h.grown G1).node nd hnd
            refine nSu hnok ?_
            walk_at "vv"
            refine WCV.iterList hnok.2.2 ?_
            refine W1.nextAttr (get_snoc _ _) ?_
            walk_at "vv"
            refine WCV.append (get_more (get_more hits)) (by rw [sizeLine_eq]; simp; omega) ?_
            walk_at "vv"
            refine WE.callB ?_
            refine WE.builtin rfl (g_len w ext) b_len (by decide) (fun _ => VRel.val _ _) ?_
            refine ⟨_, rfl, ?_⟩
            walk_at "vv"
            simp only [List.length_append, List.length_set, List.length_cons, List.length_nil, Nat.zero_add]
            have hstk : ∀ {c1 c2 c3 : Cell}, ((st2.cells.set (cs.length + 2) (Cell.set (seen ++ [x])) ++ [c1] ++ [c2]).set (cs.length + 1) c3)[cs.length]? = some (.list (es.map fun e => .str e.nd.key)) := by
              intro c1 c2 c3
              rw [gset (by omega)]
              refine get_more (get_more ?_)
              rw [gset (by omega)]; exact D.stk
            refine WCV.lenList hstk (by simp; omega) ?_
            rw [List.length_map]
            walk_at "vv"
            have hdc : ∀ {c1 c2 c3 : Cell}, ((st2.cells.set (cs.length + 2) (Cell.set (seen ++ [x])) ++ [c1] ++ [c2]).set (cs.length + 1) c3)[cs.length + 3]? = some (.dict (dOf es) ep) := by
              intro c1 c2 c3
              rw [gset (by omega)]
              refine get_more (get_more ?_)
              rw [gset (by omega)]; exact hd
            refine WSI.dict hdc (by rw [sizeLine_eq, dOf_len]; omega) fun ep' => ?_
            walk_at "vv"
            refine WE.methB ?_
            walk_at "vv"
            have hstk2 : ∀ {c1 c2 c3 c4 : Cell}, (((st2.cells.set (cs.length + 2) (Cell.set (seen ++ [x])) ++ [c1] ++ [c2]).set (cs.length + 1) c3).set (cs.length + 3) c4)[cs.length]? = some (.list (es.map fun e => .str e.nd.key)) := by
              intro c1 c2 c3 c4
              rw [gset (by omega)]; exact hstk
            refine ⟨_, MethB.list hstk2 F.slot_list_append F.type_list_append, ?_⟩
            walk_at "vv"
            refine WCV.append hstk2 (by rw [sizeLine_eq]; simp; omega) ?_
            walk_at "vv"
            have hxe : x ∉ es.map (·.nd.key) := fun hm => hxs ((C.seenIff x).mpr (.inr hm))
            have hC' := C.push hxs (e := ⟨nd, st2.cells.length + 1, st2.cells.length, 0⟩) hkn (by show nd.su = _; rw [← gSuOf_node h hnd, hkn]) rfl hpend
            refine hM _ _ ⟨es ++ [⟨nd, st2.cells.length + 1, st2.cells.length, 0⟩], seen ++ [x], fin, ?_, D.push hnd hkn hxe, hC'.1, hC'.2, ⟨?_, ?_⟩, fun j y hj e => List.mem_append_left _ (hdone j y hj e), ?_, V1, V2, V3, V4, V5⟩
            · have := left_push (seen := seen) (es := es) (e := ⟨nd, st2.cells.length + 1, st2.cells.length, 0⟩) h.keys hnd (by show nd.key ∉ seen; rw [hkn]; exact hxs) rfl
              rw [← hkn]; exact Nat.le_of_lt this
            · refine List.nodup_append.mpr ⟨hS.1, by simp, ?_⟩
              intro a ha b hb e
              rw [List.mem_singleton.mp hb] at e
              exact hxs (e ▸ ha)
            · intro y hy
              rcases List.mem_append.mp hy with hy | hy
              · exact hS.2 y hy
              · rw [List.mem_singleton.mp hy]; exact hxk
            · rcases hroot with hr | ⟨_, hr⟩
              · exact List.mem_append_left _ hr
              · simp [hr]
        · rintro f st3 hq
          cases f with
          | cont => exact hq.elim
          | brk => exact hq.elim
          | ret v =>
            obtain ⟨r, c, rfl, hg, hrl, hrb, hring, hmem⟩ := hq
            exact kR2 _ _ (kR _ _ (q2 _ r c hg hrl hrb hring hmem))
          | next =>
            obtain ⟨es1, seen1, fin1, hle, D, C, hT, hS, hdone, hn1, VV⟩ := hq
            try dsimp only
            walk_at "v"
            refine WS.while (fun k st => ∃ es' fin', k = es'.length ∧ left σ.ns seen1 es' ≤ left σ.ns seen es ∧ DfsC cs st.cells σ es' seen1 ∧ Chain (gSuOf σ.g) es' seen1 fin' ∧ TopOk fin' es' ∧ VarsOk st.vars cs.length σ) es1.length ⟨es1, fin1, rfl, hle, D, C, hT, VV⟩ ?_
            intro k st4 hJ K3 kN3 kC3 kB3 kR3
            obtain ⟨es2, fin2, rfl, hle, D, C, hT, V1, V2, V3, V4, V5⟩ := hJ
            have hze := hez C hS
            walk_at "vv"
            refine WB1.truthyList D.stk (by simp; omega) ?_
            rcases List.eq_nil_or_concat es2 with rfl | ⟨es3, e, hcc⟩
            · simp only [List.map_nil, List.isEmpty_nil, Bool.not_true, Bool.false_eq_true, if_false]
              walk_at "vv"
              refine kB2 _ ?_
              walk_at "vv"
              refine kN _ ⟨hok' D.grown, seen1, fin2, D, C, hS, fun j y hj ej => ?_, V1, V2, V3, V4, V5⟩
              rcases Nat.lt_or_ge j i with hlt | hge
              · exact hdone j y hlt ej
              · have : j = i := by omega
                subst this
                rw [hkey] at ej; cases ej; exact hn1
            · rw [List.concat_eq_append] at hcc
              subst hcc
              have hze' : es3.length + 1 < 1000 := by simpa using hze
              have hne : (!(List.map (fun e => V.str e.nd.key) (es3 ++ [e])).isEmpty) = true := by simp
              simp only [hne, if_true]
              walk_at "v"
              refine WS.tryNext rfl (by walk_at "loc") rfl rfl (g_Stop w ext) ?_
              walk_at "vv"
              have hem : e ∈ es3 ++ [e] := by simp
              obtain ⟨b1, b2, b3, b4, b5⟩ := D.ent e hem
              have hnk := (h.grown D.grown).node e.nd b1
              refine W2.listItemNeg D.its (by decide) (by simp; omega) (r := .ref e.m) ?_ (by simp; omega) ?_
              · rw [List.length_map, List.getElem?_map, List.length_append, List.length_singleton]
                have : ((-1 : Int) + ((es3.length + 1 : Nat) : Int)).toNat = es3.length := by omega
                rw [this]; simp
              refine ⟨e.m, e.it, e.nd.si, e.pos, e.nd.su.map .str, rfl, b2, b3, hnk.2.2, fun v hv => ?_, fun hv => ?_⟩
              · rw [List.getElem?_map] at hv
                obtain ⟨y, hy, rfl⟩ := Option.map_eq_some_iff.mp hv
                try dsimp only
                have hgo := C.go hT hy
                have hlt : e.pos < e.nd.su.length := (List.getElem?_eq_some_iff.mp hy).1
                walk_at "vv"
                refine kB3 _ ?_
                walk_at "vv"
                refine kN2 _ ⟨_, Nat.lt_of_lt_of_le (left_go hlt) hle, es3 ++ [{ e with pos := e.pos + 1 }], seen1, fin2, y, rfl, D.go, hgo.1, hS, hdone, .inl hn1, fun z => by simp at z, ?_, hgo.2, ⟨by (dsimp only [lkv]; walk_at "lk"), by (dsimp only [lkv]; walk_at "lk"), by (dsimp only [lkv]; walk_at "lk"), by (dsimp only [lkv]; walk_at "lk"), by (dsimp only [lkv]; walk_at "lk")⟩, by (dsimp only [lkv]; walk_at "lk")⟩
                exact hc e.nd.key y (by rw [gSuOf_node h b1]; exact List.mem_of_getElem? hy)
              · have hlen : e.nd.su.length ≤ e.pos := by
                  have := List.getElem?_eq_none_iff.mp hv
                  simpa using this
                obtain ⟨n0, n1, n2, n3⟩ := D.itNe hem
                obtain ⟨ep, hd⟩ := D.dct
                have hl0 := glt D.stk
                have hl1 := glt D.its
                have hl3 := glt hd
                walk_at "v"
                refine WS.del ?_
                walk_at "vv"
                refine WE.methB0 ?_
                walk_at "vv"
                have hstk : (st4.cells.set e.it .dead)[cs.length]? = some (.list (es3.map (fun e => V.str e.nd.key) ++ [.str e.nd.key])) := by rw [gset n0, D.stk]; simp
                refine ⟨_, MethB.list hstk F.slot_list_pop F.type_list_pop, ?_⟩
                refine WCV.pop hstk (by simp; omega) ?_
                have hdc : ((st4.cells.set e.it .dead).set cs.length (.list (es3.map (fun e => V.str e.nd.key))))[cs.length + 3]? = some (.dict (dOf (es3 ++ [e])) ep) := by rw [gset (by omega), gset n3]; exact hd
                refine WDI.dict hdc (by rw [dOf_len]; omega) ?_ fun ep' => ?_
                · cases hq : (dOf (es3 ++ [e])).lookup e.nd.key with
                  | some _ => rfl
                  | none => exact absurd (List.mem_map.mpr ⟨e, hem, rfl⟩) (dOf_none.mp hq)
                walk_at "v"
                refine WS.exprR ?_
                refine WE.methB0 ?_
                walk_at "vv"
                have hits : (((st4.cells.set e.it .dead).set cs.length (.list (es3.map (fun e => V.str e.nd.key)))).set (cs.length + 3) (.dict (delv e.nd.key (dOf (es3 ++ [e]))) ep'))[cs.length + 1]? = some (.list (es3.map (fun e => V.ref e.m) ++ [.ref e.m])) := by
                  rw [gset (by omega), gset (by omega), gset n1, D.its]; simp
                refine ⟨_, MethB.list hits F.slot_list_pop F.type_list_pop, ?_⟩
                refine WCV.pop hits (by simp; omega) ?_
                walk_at "vv"
                have hpop := C.pop hT hlen
                refine kN3 _ ⟨es3.length, by simp, es3, _, rfl, Nat.le_trans left_pop hle, D.pop C.nodup, hpop.1, hpop.2, V1, V2, V3, V4, V5⟩
  · rintro st hok ⟨seen, fin, D, C, hS, hdone, V⟩
    iterate 3 walk_at "v"
    refine q1 _ D.grown ⟨fin, C.finOk, fun x hx => ?_⟩
    obtain ⟨j, hj, e⟩ := List.mem_iff_getElem.mp hx
    have hj' : j < σ.ns.length := by simpa using hj
    have := hdone j x (by simpa using hj') (by rw [List.getElem?_eq_getElem hj, e])
    rw [C.seenIff] at this
    simpa using this
end

abbrev bmVE : List Value := [.type "ValueError", .type "Exception", .type "BaseException", .type "object"]
section facts
variable (w : World) (ext : Frag) {fr : List Env}
theorem g_CycleError : nsIn (cx w ext fr).K mainGlobals "CycleError" = some (some (.ref 55)) := by kernel_rfl
theorem k55_exc : excIn (cx w ext fr).K 55 bmVE "ValueError.__new__" = true := by kernel_rfl
end facts
theorem WB1.truthyListL {X : Cx} {d : Nat} {cm : Bool} {cs : List Cell} {l : Nat} {xs : List V} {Q : Bool → List Cell → Prop} (hl : cs[l]? = some (.list xs)) (hz : xs.length < 1000000) (q : Q (!xs.isEmpty) cs) : WB1 X d cm truthy (.ref l) cs Q := by
  rintro A φ s va hA R ⟨a, e, rfl⟩
  obtain ⟨a', o, e1, e2, vs, n, rfl, h2⟩ := R.cell l _ hl
  rw [e] at e1; cases e1
  have hlen := h2.length
  refine wpAny_truthy_list ⟨_, e2, rfl, n, rfl⟩ (by rw [← Array.length_toList]; omega) (TriC.ret R ?_ q)
  cases xs <;> cases vs with | mk l => cases l <;> first | rfl | cases hlen
def readyOf (g : List GE) : List Str := (g.filter fun e => e.2.1 == 0).map (·.1)
section
variable {w : World} {ext : Frag} {fr : List Env} {d : Nat} {cs : List Cell} {Q : V → List Cell → Prop} {Qe : List Cell → Prop} {a : Nat} {σ : Sg}

theorem Turned.grownR (h : Srt cs a σ) (hrd : σ.rd = none) {cs1 : List Cell} (g : Grown cs cs1) {r : Nat} {xs : List Str} (hr : cs1[r]? = some (.list (xs.map .str))) (hrl : cs.length ≤ r) :
    Turned a σ cs { σ with rd := some (r, xs) } (cs1.set σ.dl (.attrs [("_node2info", .ref σ.n2i), ("_ready_nodes", .ref r), ("_npassedout", .int σ.po), ("_nfinished", .int σ.fi)])) := by
  have h1 := h.grown g
  have hrn : r ∉ σ.ns.map (·.si) := fun hm => by
    have : r ∈ σ.foot := by simp only [Sg.foot, List.mem_cons, List.mem_append]; exact .inr (.inr (.inr (.inr hm)))
    have := h.lt _ this; omega
  refine ⟨setAttrs h1 σ.po σ.fi (some (r, xs)) (fun r' xs' e => by cases e; exact ⟨hr, hrn⟩) (fun _ _ _ => .inr trivial), fun k c e hk => ?_, fun k hk => ?_, by simpa using g.len⟩
  · rw [List.getElem?_set_ne]
    · exact g k c e
    · rintro rfl; exact hk (by simp [Sg.foot])
  · simp only [Sg.foot, hrd, Option.toList, List.map_cons, List.map_nil, List.mem_cons, List.mem_append, List.not_mem_nil, or_false, false_or] at hk ⊢
    rcases hk with hk | hk | hk | hk | hk
    · exact .inl (.inl hk)
    · exact .inl (.inr (.inl hk))
    · exact .inr (hk ▸ hrl)
    · exact .inl (.inr (.inr (.inl hk)))
    · exact .inl (.inr (.inr (.inr hk)))

theorem ready_out (σ : Sg) : ((σ.ns.map fun n => if n.np = 0 then some (V.str n.key) else none).filterMap id) = (readyOf σ.g).map V.str := by
  unfold readyOf Sg.g
  induction σ.ns with
  | nil => rfl
  | cons n r ih =>
    by_cases e : n.np = 0
    · simp [e] at ih ⊢; exact ih
    · simp [e] at ih ⊢; exact ih

theorem mFind (h : Srt cs a σ) : MethF (cx w ext fr) (.ref a) "_find_cycle" cs 127 := MethF.inst h.inst h.attrs rfl (k137_ga w ext) (k137_gn w ext) (k137_m6 w ext) (k127_fn w ext)
theorem Turned.grown {σ' : Sg} {cs' cs'' : List Cell} (T : Turned a σ cs σ' cs') (g : Grown cs' cs'') : Turned a σ cs σ' cs'' :=
  ⟨T.srt.grown g, fun k c e hk => g _ _ (T.keep k c e hk), T.grow, Nat.le_trans T.len g.len⟩

theorem prepare_spec (h : Srt cs a σ) (hrd : σ.rd = none) (hc : ∀ x y, y ∈ gSuOf σ.g x → y ∈ σ.ns.map (·.key)) (hb : σ.bd < 100000)
    (q1 : ∀ cs' r, Turned a σ cs { σ with rd := some (r, readyOf σ.g) } cs' → (∃ fin, FinOk (gSuOf σ.g) fin ∧ ∀ x ∈ σ.ns.map (·.key), x ∈ fin) → Q .none cs')
    (q2 : ∀ cs' r c, Turned a σ cs { σ with rd := some (r, readyOf σ.g) } cs' → Ring (gSuOf σ.g) c → (∀ x ∈ c, x ∈ σ.ns.map (·.key)) → Qe cs') :
    WCX (cx w ext fr) (d + 2) (.val (.ref 92)) [.ref a] cs 55 Q Qe := by
  refine WCX.fn (f := 92) (ps := ["self"]) (by rfl) rfl rfl rfl rfl ⟨rfl, rfl, rfl⟩ (by rfl) (fun vals h => ?_) (by decide) (by decide) (by decide) ⟨rfl, rfl, rfl⟩ rfl ?_
  · refine len1 (F := fun vals => bindArgs _ ⟨vals, []⟩) (G := fun vals => pure (List.zip _ vals)) ?_ h; exact fun _ => rfl
  intro env
  rw [cx_push]
  dsimp only [List.zip_cons_cons, List.zip_nil_right]
  refine WBX.cons ?_
  iterate 4 walk_at "v"
  refine sRd h ?_
  rw [show σ.rdV = .none by simp [Sg.rdV, hrd]]
  iterate 2 walk_at "v"
  refine ⟨_, rfl, ?_⟩
  simp only [V.isNone, Bool.not_true, Bool.false_eq_true, if_false]
  walk_at "v"
  refine WBX.cons ?_
  walk_at "v"
  refine WE.comp rfl (by rfl) ?_
  refine WE.methB0 ?_
  iterate 2 walk_at "v"
  refine sN2i h ?_
  refine ⟨_, MethB.dict h.dict F.slot_dict_values F.type_dict_values, ?_⟩
  refine WCV.dictValues h.dict ?_
  have hd0 : (cs ++ [valsOf σ.n2i])[σ.n2i]? = some (.dict (n2iOf σ.ns) σ.ep) := get_more h.dict
  refine CompGo.plain (Iter.vals _ cs.length σ.n2i (n2iOf σ.ns) σ.ep) (σ.ns.map fun n => if n.np = 0 then some (V.str n.key) else none) rfl rfl (by simp; have := h.few; omega) (by simp) (fun cs' g => ⟨g _ _ (get_snoc _ _), g _ _ hd0⟩) (fun i r o cs' hr ho g => ?_) (fun cs' g hl => ?_)
  · rw [List.getElem?_map, List.getElem?_map] at hr
    rw [List.getElem?_map] at ho
    cases hn : σ.ns[i]? with
    | none => rw [hn] at hr; cases hr
    | some n =>
      rw [hn] at hr ho
      cases hr
      cases ho
      have hm := List.mem_of_getElem? hn
      have hOk : NdOk cs' n := ((h.more [valsOf σ.n2i]).grown g).node n hm
      refine WIF.one ?_
      iterate 3 walk_at "v"
      refine nNp hOk ?_
      iterate 2 walk_at "v"
      refine ⟨_, rfl, rfl, Grown.refl _, ?_, fun u hu => ?_⟩
      · by_cases e : n.np = 0 <;> simp [e]
      · have hu' : u = .str n.key := by
          by_cases e : n.np = 0
          · simp [e] at hu; exact hu.symm
          · simp [e] at hu
        subst hu'
        iterate 2 walk_at "v"
        refine nKey hOk ?_
        exact ⟨rfl, Grown.refl _, rfl⟩
  rw [ready_out] at hl
  try dsimp only
  walk_at "v"
  have hl' : cs'[cs.length + 1]? = some (.list ((readyOf σ.g).map .str)) := by simpa using hl
  have G : Grown cs cs' := (Grown.app _ _).trans g
  have T1 := Turned.grownR h hrd G (r := cs.length + 1) (xs := readyOf σ.g) hl' (by omega)
  have h1 := h.grown G
  rw [show (cs ++ [valsOf σ.n2i]).length = cs.length + 1 by simp]
  refine WSA.dict h1.inst h1.attrs (Nat.le_of_ble_eq_true rfl) (k137_sa w ext) (k137_po w ext) (k137_t1 w ext) (k137_hd w ext) ?_
  dsimp only [List.zip_cons_cons, List.zip_nil_right]
  have eset : setv "_ready_nodes" (V.ref (cs.length + 1)) [("_node2info", V.ref σ.n2i), ("_ready_nodes", σ.rdV), ("_npassedout", V.int σ.po), ("_nfinished", V.int σ.fi)] = ([("_node2info", V.ref σ.n2i), ("_ready_nodes", V.ref (cs.length + 1)), ("_npassedout", V.int σ.po), ("_nfinished", V.int σ.fi)] : List (Str × V)) := rfl
  rw [eset]
  generalize (cs'.set σ.dl _) = cs2 at T1 ⊢
  refine WBX.cons ?_
  walk_at "v"
  refine WE.methF0 ?_
  walk_at "v"
  refine ⟨127, mFind T1.srt, keep_127 w ext, ?_⟩
  refine (findCycle T1.srt hc hb (fun cs3 g3 fin => ?_) (fun cs3 r c g3 hr hrl hR hcK => ?_)).wcv
  · try dsimp only
    refine WBX.last (WSX.ite ?_)
    iterate 3 walk_at "v"
    try simp only [Bool.false_eq_true, if_false]
    refine WBX.nil ?_
    exact q1 _ _ (T1.grown g3) fin
  · try dsimp only
    have hpos : (c.map V.str).isEmpty = false := by
      obtain ⟨p, x, rfl, _, _⟩ := hR.ex
      simp
    have hlen : c.length < 1000000 := by
      obtain ⟨p, x, rfl, _, hp⟩ := hR.ex
      have := nodup_le hp (m := σ.ns.map (·.key)) (fun y hy => hcK y (List.mem_append_left _ hy))
      rw [List.length_map] at this
      have := h.few
      simp; omega
    refine WBX.last (WSX.ite ?_)
    iterate 2 walk_at "v"
    refine WB1.truthyListL hr (by simp; omega) ?_
    rw [hpos]
    try simp only [Bool.not_false, if_true]
    refine WBX.last (WSX.raise F.excBase_ValueError rfl (g_CycleError w ext) (k55_exc w ext) ?_)
    iterate 1 walk_at "v"
    refine WE.joined1 ?_
    iterate 4 walk_at "v"
    exact ⟨by rw [sizeLine_eq]; simp, q2 _ _ _ (T1.grown g3) hR hcK⟩
end

section facts
variable (w : World) (ext : Frag) {fr : List Env}
end facts
section
variable {w : World} {ext : Frag} {fr : List Env} {d : Nat} {cs : List Cell} {Q : V → List Cell → Prop} {a : Nat} {σ : Sg}

theorem mPrep (h : Srt cs a σ) : MethF (cx w ext fr) (.ref a) "prepare" cs 92 := MethF.inst h.inst h.attrs rfl (k137_ga w ext) (k137_gn w ext) (k137_m2 w ext) (k92_fn w ext)
theorem mAct (h : Srt cs a σ) : MethF (cx w ext fr) (.ref a) "is_active" cs 106 := MethF.inst h.inst h.attrs rfl (k137_ga w ext) (k137_gn w ext) (k137_m4 w ext) (k106_fn w ext)
theorem mReady (h : Srt cs a σ) : MethF (cx w ext fr) (.ref a) "get_ready" cs 99 := MethF.inst h.inst h.attrs rfl (k137_ga w ext) (k137_gn w ext) (k137_m3 w ext) (k99_fn w ext)
theorem mDone (h : Srt cs a σ) : MethF (cx w ext fr) (.ref a) "done" cs 120 := MethF.inst h.inst h.attrs rfl (k137_ga w ext) (k137_gn w ext) (k137_m5 w ext) (k120_fn w ext)
theorem mAdd (h : Srt cs a σ) : MethF (cx w ext fr) (.ref a) "add" cs 87 := MethF.inst h.inst h.attrs rfl (k137_ga w ext) (k137_gn w ext) (k137_m1 w ext) (k87_fn w ext)

theorem refused_spec (h : Srt cs a σ) (hrd : σ.rd = none) (hc : ∀ x y, y ∈ gSuOf σ.g x → y ∈ σ.ns.map (·.key)) (hb : σ.bd < 100000)
    (q1 : ∀ cs' r, Turned a σ cs { σ with rd := some (r, readyOf σ.g) } cs' → (∃ fin, FinOk (gSuOf σ.g) fin ∧ ∀ x ∈ σ.ns.map (·.key), x ∈ fin) → Q (.bool false) cs')
    (q2 : ∀ cs' r c, Turned a σ cs { σ with rd := some (r, readyOf σ.g) } cs' → Ring (gSuOf σ.g) c → (∀ x ∈ c, x ∈ σ.ns.map (·.key)) → Q (.bool true) cs') :
    WCC (cx w ext fr) (d + 3) true (.val (.ref 155)) [.ref a] cs Q := by
  refine WCC.fn (f := 155) (ps := ["sorter"]) (by rfl) rfl rfl rfl rfl ⟨rfl, rfl, rfl⟩ (by rfl) (fun vals h => ?_) (by decide) (by decide) (by decide) ⟨rfl, rfl, rfl⟩ ?_
  · refine len1 (F := fun vals => bindArgs _ ⟨vals, []⟩) (G := fun vals => pure (List.zip _ vals)) ?_ h; exact fun _ => rfl
  intro env
  rw [cx_push]
  dsimp only [List.zip_cons_cons, List.zip_nil_right]
  walk_at "v"
  refine WS.tryMeth (C := 55) (bmB := bmVE) (newId := "ValueError.__new__") rfl rfl (g_CycleError w ext) (k55_exc w ext) (by decide) ?_
  walk_at "v"
  refine ⟨92, mPrep h, keep_92 w ext, ?_⟩
  refine prepare_spec h hrd hc hb (fun cs' r T fin => ?_) (fun cs' r c T hR hcK => ?_)
  · try dsimp only
    iterate 3 walk_at "v"
    exact q1 _ _ T fin
  · iterate 3 walk_at "v"
    exact q2 _ _ _ T hR hcK
end

/-- the sorter's table: keys, counts, successors -/
def GG (N : List Str) (E : Str → Str → Bool) (f : Str → Int) : List GE := N.map fun y => (y, f y, N.filter (E y))

section
variable {N : List Str} {E : Str → Str → Bool} {f : Str → Int}

theorem gg_congr {f' : Str → Int} (h : ∀ y ∈ N, f y = f' y) : GG N E f = GG N E f' := by
  unfold GG
  exact List.map_congr_left fun y hy => by rw [h y hy]
theorem gg_set (x : Str) (k : Int) : gSet x k (GG N E f) = GG N E (fun y => if y = x then k else f y) := by
  unfold gSet GG
  rw [List.map_map]
  apply List.map_congr_left
  intro y _
  simp only [Function.comp]
  split <;> rfl
theorem gg_np (x : Str) (k : Int) : gNp x k (GG N E f) = GG N E (fun y => if y = x then f y + k else f y) := by
  unfold gNp GG
  rw [List.map_map]
  apply List.map_congr_left
  intro y _
  simp only [Function.comp]
  split <;> rfl
theorem find_map {su : Str → List Str} {x : Str} : ∀ {N : List Str}, x ∈ N → (N.map fun y => (y, f y, su y)).find? (fun e => e.1 = x) = some (x, f x, su x)
  | y :: r, hx => by
    rw [List.map_cons, List.find?_cons]
    by_cases e : y = x
    · subst e; simp
    · simp only [e, decide_false]
      exact find_map ((List.mem_cons.mp hx).resolve_left fun z => e z.symm)
theorem gg_find {x : Str} (hx : x ∈ N) : (GG N E f).find? (fun e => e.1 = x) = some (x, f x, N.filter (E x)) := find_map hx
theorem gg_get {x : Str} (hx : x ∈ N) : gGet (GG N E f) x = some (f x) := by unfold gGet; rw [gg_find hx]; rfl
theorem gg_su {x : Str} (hx : x ∈ N) : gSuOf (GG N E f) x = N.filter (E x) := by unfold gSuOf; rw [gg_find hx]; rfl
theorem gg_su_none {x : Str} (hx : x ∉ N) : gSuOf (GG N E f) x = [] := by
  unfold gSuOf
  have : (GG N E f).find? (fun e => e.1 = x) = none := by
    rw [List.find?_eq_none]
    intro e he
    obtain ⟨y, hy, rfl⟩ := List.mem_map.mp he
    intro z
    exact hx (by simpa using (of_decide_eq_true z) ▸ hy)
  rw [this]; rfl

theorem gg_decs : ∀ {ys : List Str} {f : Str → Int} {zs : List Str}, ys.Nodup → (∀ y ∈ ys, y ∈ N) → decs ys (GG N E f, zs) = (GG N E (fun z => if z ∈ ys then f z - 1 else f z), zs ++ ys.filter fun y => f y - 1 == 0)
  | [], f, zs, _, _ => by simp [decs]
  | y :: ys, f, zs, hn, hm => by
    have hn' := List.nodup_cons.mp hn
    have hy := hm y (.head _)
    have h1 : decs (y :: ys) (GG N E f, zs) = decs ys (gNp y (-1) (GG N E f), if gGet (gNp y (-1) (GG N E f)) y = some 0 then zs ++ [y] else zs) := rfl
    rw [h1, gg_np, gg_get hy, gg_decs hn'.2 fun z hz => hm z (.tail _ hz)]
    refine Prod.ext (gg_congr fun z hz => ?_) ?_
    · by_cases e : z = y
      · subst e; simp [hn'.1]; omega
      · simp [e]
    · have h2 : ys.filter (fun z => (if z = y then f z + -1 else f z) - 1 == 0) = ys.filter fun z => f z - 1 == 0 := by
        apply List.filter_congr
        intro z hz
        have : z ≠ y := fun e => hn'.1 (e ▸ hz)
        simp [this]
      rw [h2]
      by_cases e : f y + -1 = 0
      · have e' : f y - 1 = 0 := by omega
        simp [e, e']
      · have e' : ¬ f y - 1 = 0 := by omega
        simp [e, e']

/-- how many that are not in D stand ahead of y -/
def npOf (N : List Str) (E : Str → Str → Bool) (D : List Str) (y : Str) : Int := (N.countP fun x => E x y && !D.contains x : Nat)
theorem npOf_zero {D : List Str} {y : Str} : npOf N E D y = 0 ↔ ∀ x ∈ N, E x y = true → x ∈ D := by
  unfold npOf
  rw [Int.natCast_eq_zero, List.countP_eq_zero]
  constructor
  · intro h x hx he
    have := h x hx
    simpa [he] using this
  · intro h x hx
    simp only [Bool.and_eq_true, Bool.not_eq_true', not_and]
    intro he
    simpa using h x hx he

theorem npOf_snoc {D : List Str} {x y : Str} (hN : N.Nodup) (hx : x ∈ N) (hxD : x ∉ D) : npOf N E (D ++ [x]) y = if E x y = true then npOf N E D y - 1 else npOf N E D y := by
  unfold npOf
  have key : ∀ (l : List Str), l.Nodup → ((l.countP fun z => E z y && !(D ++ [x]).contains z : Nat) : Int) = (l.countP fun z => E z y && !D.contains z : Nat) - (if x ∈ l ∧ E x y = true then 1 else 0) := by
    intro l
    induction l with
    | nil => intro _; simp
    | cons z l ih =>
      intro hl
      have hl' := List.nodup_cons.mp hl
      rw [List.countP_cons, List.countP_cons]
      have := ih hl'.2
      by_cases e : z = x
      · subst e
        have h1 : ¬ (z ∈ l ∧ E z y = true) := fun h => hl'.1 h.1
        rw [if_neg h1] at this
        by_cases hE : E z y = true
        · have c1 : (D ++ [z]).contains z = true := by simp
          have c2 : D.contains z = false := by simpa using hxD
          simp only [hE, c1, c2, Bool.not_true, Bool.not_false, Bool.and_true, Bool.and_false, if_true, List.mem_cons, true_or, true_and, Bool.false_eq_true, if_false]
          push_cast; omega
        · have hE' : E z y = false := by simpa using hE
          simp only [hE', Bool.false_and, Bool.false_eq_true, if_false, and_false]
          push_cast; omega
      · have c1 : (D ++ [x]).contains z = D.contains z := by
          rw [Bool.eq_iff_iff]; simp [e]
        rw [c1]
        have h2 : (x ∈ z :: l ∧ E x y = true) ↔ (x ∈ l ∧ E x y = true) := by
          simp only [List.mem_cons]
          constructor
          · rintro ⟨h | h, h'⟩
            · exact absurd h.symm e
            · exact ⟨h, h'⟩
          · rintro ⟨h, h'⟩; exact ⟨.inr h, h'⟩
        simp only [h2]
        push_cast; omega
  rw [key N hN]
  by_cases h : E x y = true
  · simp [h, hx]
  · simp [h]

/-- the table when D is done and O is handed out -/
def kst (N : List Str) (E : Str → Str → Bool) (D O : List Str) : List GE := GG N E fun y => if y ∈ D then -2 else if y ∈ O then -1 else npOf N E D y

theorem kst_out {D : List Str} : ∀ {R O : List Str}, (∀ x ∈ R, x ∉ D) → R.foldl (fun g x => gSet x (-1) g) (kst N E D O) = kst N E D (O ++ R)
  | [], O, _ => by simp
  | x :: R, O, h => by
    rw [List.foldl_cons]
    have : gSet x (-1) (kst N E D O) = kst N E D (O ++ [x]) := by
      unfold kst
      rw [gg_set]
      refine gg_congr fun y _ => ?_
      by_cases e : y = x
      · subst e; simp [h y (.head _)]
      · simp [e]
    rw [this, kst_out fun y hy => h y (.tail _ hy)]
    simp

/-- what comes up when the handed out are done, one by one -/
def knext (N : List Str) (E : Str → Str → Bool) : List Str → List Str → List Str
  | _, [] => []
  | D, x :: R => N.filter (fun y => E x y && npOf N E (D ++ [x]) y == 0) ++ knext N E (D ++ [x]) R

/-- D is done, O handed out: what stands then -/
structure KInv (N : List Str) (E : Str → Str → Bool) (D R : List Str) : Prop where
  nd : (D ++ R).Nodup
  sub : ∀ y ∈ D ++ R, y ∈ N
  pre : ∀ y ∈ D ++ R, npOf N E D y = 0
  all : ∀ y ∈ N, npOf N E D y = 0 → y ∈ D ++ R

theorem kdone1 (hN : N.Nodup) (irr : ∀ x, E x x = false) {D O zs : List Str} {x : Str} (hx : x ∈ N) (hxD : x ∉ D) (hO : ∀ y ∈ O, npOf N E D y = 0) (hD : ∀ y ∈ D, npOf N E D y = 0) :
    doneStep (kst N E D O, zs) x = (kst N E (D ++ [x]) O, zs ++ N.filter fun y => E x y && npOf N E (D ++ [x]) y == 0) := by
  unfold doneStep
  have h1 : gSuOf (kst N E D O) x = N.filter (E x) := gg_su hx
  rw [h1]
  have hfree : ∀ y, E x y = true → y ∉ D ∧ y ∉ O ∧ y ≠ x := fun y he =>
    ⟨fun hm => hxD (npOf_zero.mp (hD y hm) x hx he), fun hm => hxD (npOf_zero.mp (hO y hm) x hx he), fun e => by rw [e, irr] at he; cases he⟩
  have h2 : gSet x (-2) (kst N E D O) = GG N E (fun y => if y = x then -2 else if y ∈ D then -2 else if y ∈ O then -1 else npOf N E D y) := gg_set x (-2)
  rw [h2, gg_decs (hN.filter _) fun y hy => (List.mem_filter.mp hy).1]
  refine Prod.ext (gg_congr fun y hy => ?_) ?_
  · by_cases he : E x y = true
    · obtain ⟨g1, g2, g3⟩ := hfree y he
      have hm : y ∈ N.filter (E x) := List.mem_filter.mpr ⟨hy, he⟩
      rw [if_pos hm, if_neg g3, if_neg g1, if_neg g2, if_neg (by simp [g1, g3]), if_neg g2, npOf_snoc hN hx hxD, if_pos he]
    · have hm : y ∉ N.filter (E x) := fun h => he (List.mem_filter.mp h).2
      rw [if_neg hm]
      by_cases e : y = x
      · subst e; simp
      · by_cases g1 : y ∈ D
        · simp [g1, e]
        · have g1' : y ∉ D ++ [x] := by simp [g1, e]
          rw [if_neg e, if_neg g1, if_neg g1', npOf_snoc hN hx hxD, if_neg he]
  · show zs ++ _ = zs ++ _
    rw [List.filter_filter]
    congr 1
    apply List.filter_congr
    intro y hy
    by_cases he : E x y = true
    · obtain ⟨g1, g2, g3⟩ := hfree y he
      simp only [he, Bool.and_true, Bool.true_and]
      rw [if_neg g3, if_neg g1, if_neg g2, npOf_snoc hN hx hxD, if_pos he]
    · simp [he]

theorem npOf_mono {D D' : List Str} {y : Str} (h : npOf N E D y = 0) (hs : ∀ x ∈ D, x ∈ D') : npOf N E D' y = 0 :=
  npOf_zero.mpr fun x hx he => hs x (npOf_zero.mp h x hx he)

theorem kdone (hN : N.Nodup) (irr : ∀ x, E x x = false) : ∀ {R D O zs : List Str}, (∀ x ∈ R, x ∈ N) → (D ++ R).Nodup → (∀ y ∈ O, npOf N E D y = 0) → (∀ y ∈ D, npOf N E D y = 0) → (∀ y ∈ R, npOf N E D y = 0) →
    R.foldl doneStep (kst N E D O, zs) = (kst N E (D ++ R) O, zs ++ knext N E D R)
  | [], D, O, zs, _, _, _, _, _ => by simp [knext]
  | x :: R, D, O, zs, hR, hn, hO, hD, hR0 => by
    have hxD : x ∉ D := fun hm => by
      have := (List.nodup_append.mp hn).2.2 x hm x (.head _)
      exact this rfl
    rw [List.foldl_cons, kdone1 hN irr (hR x (.head _)) hxD hO hD]
    have hs : ∀ z ∈ D, z ∈ D ++ [x] := fun z hz => List.mem_append_left _ hz
    rw [kdone hN irr (fun y hy => hR y (.tail _ hy)) (by simpa using hn) (fun y hy => npOf_mono (hO y hy) hs) (fun y hy => ?_) (fun y hy => npOf_mono (hR0 y (.tail _ hy)) hs)]
    · simp [knext]
    · rcases List.mem_append.mp hy with hy | hy
      · exact npOf_mono (hD y hy) hs
      · rw [List.mem_singleton.mp hy]; exact npOf_mono (hR0 x (.head _)) hs

theorem knext_mem (hN : N.Nodup) : ∀ {R D : List Str} {y : Str}, y ∈ knext N E D R → y ∈ N ∧ npOf N E (D ++ R) y = 0 ∧ ∃ x ∈ R, E x y = true
  | [], _, _, h => by simp [knext] at h
  | x :: R, D, y, h => by
    unfold knext at h
    rcases List.mem_append.mp h with h | h
    · obtain ⟨h1, h2⟩ := List.mem_filter.mp h
      simp only [Bool.and_eq_true, beq_iff_eq] at h2
      refine ⟨h1, npOf_mono h2.2 fun z hz => ?_, x, .head _, h2.1⟩
      rcases List.mem_append.mp hz with hz | hz
      · exact List.mem_append_left _ hz
      · exact List.mem_append_right _ (by rw [List.mem_singleton.mp hz]; exact .head _)
    · obtain ⟨h1, h2, z, hz, h3⟩ := knext_mem hN h
      exact ⟨h1, by simpa using h2, z, .tail _ hz, h3⟩

theorem knext_nodup (hN : N.Nodup) : ∀ {R D : List Str}, (∀ x ∈ R, x ∈ N) → (D ++ R).Nodup → (knext N E D R).Nodup
  | [], _, _, _ => by simp [knext]
  | x :: R, D, hR, hn => by
    unfold knext
    have hn1 : ((D ++ [x]) ++ R).Nodup := by simpa using hn
    refine List.nodup_append.mpr ⟨hN.filter _, knext_nodup hN (fun y hy => hR y (.tail _ hy)) hn1, fun y hy z hz e => ?_⟩
    subst e
    obtain ⟨h1, h2⟩ := List.mem_filter.mp hy
    simp only [Bool.and_eq_true, beq_iff_eq] at h2
    obtain ⟨_, _, w, hw, h3⟩ := knext_mem hN hz
    have hm := npOf_zero.mp h2.2 w (hR w (.tail _ hw)) h3
    exact (List.nodup_append.mp hn1).2.2 w hm w hw rfl

theorem knext_all (hN : N.Nodup) : ∀ {R D : List Str} {y : Str}, y ∈ N → npOf N E (D ++ R) y = 0 → npOf N E D y ≠ 0 → (∀ x ∈ R, x ∈ N) → y ∈ knext N E D R
  | [], D, y, hy, h, h0, _ => absurd (by simpa using h) h0
  | x :: R, D, y, hy, h, h0, hR => by
    unfold knext
    by_cases e : npOf N E (D ++ [x]) y = 0
    · refine List.mem_append_left _ (List.mem_filter.mpr ⟨hy, ?_⟩)
      simp only [Bool.and_eq_true, beq_iff_eq]
      refine ⟨?_, e⟩
      cases he : E x y with
      | true => rfl
      | false =>
        exfalso
        apply h0
        refine npOf_zero.mpr fun z hz hez => ?_
        rcases List.mem_append.mp (npOf_zero.mp e z hz hez) with hm | hm
        · exact hm
        · rw [List.mem_singleton.mp hm, he] at hez; cases hez
    · exact List.mem_append_right _ (knext_all hN hy (by simpa using h) e fun z hz => hR z (.tail _ hz))

theorem KInv.next (hN : N.Nodup) {D R : List Str} (K : KInv N E D R) : KInv N E (D ++ R) (knext N E D R) := by
  have hRN : ∀ x ∈ R, x ∈ N := fun x hx => K.sub x (List.mem_append_right _ hx)
  refine ⟨List.nodup_append.mpr ⟨K.nd, knext_nodup hN hRN K.nd, fun y hy z hz e => ?_⟩, fun y hy => ?_, fun y hy => ?_, fun y hy h => ?_⟩
  · subst e
    obtain ⟨_, _, w, hw, h3⟩ := knext_mem hN hz
    have := npOf_zero.mp (K.pre y hy) w (hRN w hw) h3
    exact (List.nodup_append.mp K.nd).2.2 w this w hw rfl
  · rcases List.mem_append.mp hy with hy | hy
    · exact K.sub y hy
    · exact (knext_mem hN hy).1
  · rcases List.mem_append.mp hy with hy | hy
    · exact npOf_mono (K.pre y hy) fun x hx => List.mem_append_left _ hx
    · exact (knext_mem hN hy).2.1
  · by_cases e : npOf N E D y = 0
    · exact List.mem_append_left _ (K.all y hy e)
    · exact List.mem_append_right _ (knext_all hN hy h e hRN)

/-- the rounds -/
def krun (N : List Str) (E : Str → Str → Bool) : Nat → List Str → List Str → List (List Str)
  | 0, _, _ => []
  | n + 1, D, R => if R.isEmpty then [] else R :: krun N E n (D ++ R) (knext N E D R)
def kfirst (N : List Str) (E : Str → Str → Bool) : List Str := N.filter fun y => npOf N E [] y == 0
def krounds (N : List Str) (E : Str → Str → Bool) : List (List Str) := krun N E (N.length + 1) [] (kfirst N E)

theorem KInv.first (hN : N.Nodup) : KInv N E [] (kfirst N E) := by
  unfold kfirst
  refine ⟨by rw [List.nil_append]; exact hN.filter _, fun y hy => ?_, fun y hy => ?_, fun y hy h => ?_⟩
  · simp only [List.nil_append] at hy; exact (List.mem_filter.mp hy).1
  · simp only [List.nil_append] at hy; simpa using (List.mem_filter.mp hy).2
  · simp only [List.nil_append]; exact List.mem_filter.mpr ⟨hy, by simpa using h⟩


theorem len_le : ∀ {l m : List Str}, l.Nodup → (∀ x ∈ l, x ∈ m) → l.length ≤ m.length
  | [], _, _, _ => Nat.zero_le _
  | x :: l, m, hn, h => by
    have hn' := List.nodup_cons.mp hn
    have hx := h x (.head _)
    have h1 : ∀ y ∈ l, y ∈ m.erase x := fun y hy => (List.mem_erase_of_ne (show y ≠ x from fun e => hn'.1 (e ▸ hy))).mpr (h y (.tail _ hy))
    have h2 := len_le hn'.2 h1
    rw [List.length_erase_of_mem hx] at h2
    have : 0 < m.length := List.length_pos_of_mem hx
    simp; omega

theorem krun_more (hN : N.Nodup) : ∀ {n : Nat} {D R : List Str}, KInv N E D R → N.length + 1 ≤ n + D.length → krun N E (n + 1) D R = krun N E n D R
  | 0, D, R, K, h => by
    have := len_le K.nd K.sub
    simp at this; omega
  | n + 1, D, R, K, h => by
    show (if R.isEmpty then [] else R :: krun N E (n + 1) (D ++ R) (knext N E D R)) = if R.isEmpty then [] else R :: krun N E n (D ++ R) (knext N E D R)
    cases hR : R.isEmpty with
    | true => rfl
    | false =>
      have hl : 0 < R.length := List.length_pos_iff.mpr (by rintro rfl; cases hR)
      simp only [Bool.false_eq_true, if_false]
      rw [krun_more hN (K.next hN) (by simp; omega)]
theorem krun_fuel (hN : N.Nodup) {n m : Nat} {D R : List Str} (K : KInv N E D R) (h : N.length + 1 ≤ n + D.length) (hm : n ≤ m) : krun N E m D R = krun N E n D R := by
  obtain ⟨k, rfl⟩ := Nat.le.dest hm
  clear hm
  induction k with
  | zero => rfl
  | succ k ih => rw [← Nat.add_assoc, krun_more hN K (by omega), ih]
end

section facts
variable (w : World) (ext : Frag) {fr : List Env}
theorem k137_hdi : hasDictIn (cx w ext fr).K 137 = true := by kernel_rfl
theorem k120_get : specialIn (cx w ext fr).K (.ref 120) "__get__" = some (some (.builtin "function.__get__")) := by kernel_rfl
theorem k120_tk : takesIn (cx w ext fr).K (.ref 120) = some false := by kernel_rfl
theorem k120_fi : fnIn (cx w ext fr).K 120 = true := by kernel_rfl
end facts
section
variable {w : World} {ext : Frag} {fr : List Env} {d : Nat} {cs : List Cell} {Q : V → List Cell → Prop} {a : Nat} {σ : Sg}

theorem Srt.setList (h : Srt cs a σ) {k : Nat} {xs : List V} {c : Cell} (hk : cs[k]? = some (.list xs)) (hf : k ∉ σ.foot) : Srt (cs.set k c) a σ := by
  have up : ∀ {j : Nat} {c' : Cell}, cs[j]? = some c' → (∀ xs, c' ≠ .list xs) → (cs.set k c)[j]? = some c' := fun e hne => set_other hk e (fun z => hne _ z.symm)
  simp only [Sg.foot, List.mem_cons, List.mem_append, List.mem_map, not_or, not_exists, not_and] at hf
  obtain ⟨f1, f2, f3, f4, f5⟩ := hf
  refine ⟨up h.inst (by intro _ z; cases z), up h.attrs (by intro _ z; cases z), up h.dict (by intro _ z; cases z), fun n hn => ?_, h.keys, h.sis, fun r' xs' hr => ?_, h.few, h.sub⟩
  · obtain ⟨g1, g2, g3⟩ := h.node n hn
    refine ⟨up g1 (by intro _ z; cases z), up g2 (by intro _ z; cases z), ?_⟩
    rw [List.getElem?_set_ne]
    · exact g3
    · exact fun z => f5 n hn z.symm
  · obtain ⟨g1, g2⟩ := h.ready r' xs' hr
    refine ⟨?_, g2⟩
    rw [List.getElem?_set_ne]
    · exact g1
    · exact fun z => f3 (r', xs') (by rw [hr]; simp) z.symm

theorem Srt.noTuple (h : Srt cs a σ) {k : Nat} {xs : List V} (hk : cs[k]? = some (.tuple xs)) : k ∉ σ.foot := by
  intro hf
  simp only [Sg.foot, List.mem_cons, List.mem_append, List.mem_map] at hf
  rcases hf with rfl | rfl | ⟨p, hp, rfl⟩ | ⟨n, hn, rfl⟩ | ⟨n, hn, rfl⟩
  · rw [h.attrs] at hk; cases hk
  · rw [h.dict] at hk; cases hk
  · obtain ⟨r, ys⟩ := p
    have : σ.rd = some (r, ys) := by
      cases hr : σ.rd with
      | none => rw [hr] at hp; cases hp
      | some q => rw [hr] at hp; simp at hp; rw [hp]
    rw [(h.ready _ _ this).1] at hk; cases hk
  · rw [(h.node n hn).1] at hk; cases hk
  · rw [(h.node n hn).2.2] at hk; cases hk

theorem TupL.turned {σ' : Sg} {cs' : List Cell} {r : Nat} {xss : List (List Str)} (h : Srt cs a σ) (T : Turned a σ cs σ' cs') (hr : r ∉ σ.foot) (t : TupL cs r xss) : TupL cs' r xss :=
  let ⟨ls, h1, h2⟩ := t; ⟨ls, T.keep _ _ h1 hr, h2.mono fun _ _ e => T.keep _ _ e (h.noTuple e)⟩

theorem run_spec {N : List Str} {E : Str → Str → Bool} (hN : N.Nodup) (irr : ∀ x, E x x = false) (h : Srt cs a σ) (hg : σ.g = kst N E [] []) {r : Nat} (hrd : σ.rd = some (r, kfirst N E)) (hpo : σ.po = 0) (hfi : σ.fi = 0) (hNl : N.length < 100) (hb : σ.bd < 900)
    (q : ∀ cs' σ', Turned a σ cs σ' cs' → TupL cs' cs.length (krounds N E) → cs.length ∉ σ'.foot → Q (.ref cs.length) cs') :
    WCC (cx w ext fr) (d + 2) true (.val (.ref 162)) [.ref a] cs Q := by
  refine WCC.fn (f := 162) (ps := ["sorter"]) (by rfl) rfl rfl rfl rfl ⟨rfl, rfl, rfl⟩ (by rfl) (fun vals h => ?_) (by decide) (by decide) (by decide) ⟨rfl, rfl, rfl⟩ ?_
  · refine len1 (F := fun vals => bindArgs _ ⟨vals, []⟩) (G := fun vals => pure (List.zip _ vals)) ?_ h; exact fun _ => rfl
  intro env
  rw [cx_push]
  dsimp only [List.zip_cons_cons, List.zip_nil_right]
  iterate 4 walk_at "v"
  refine ⟨Nat.zero_le _, ?_⟩
  walk_at "v"
  refine WS.while (fun n st => ∃ σ' D R out, n = N.length + 1 - D.length ∧ Turned a σ cs σ' st.cells ∧ cs.length ∉ σ'.foot ∧ σ'.g = kst N E D [] ∧ (∃ r', σ'.rd = some (r', R)) ∧ σ'.po = σ'.fi ∧ σ'.bd ≤ σ.bd ∧ KInv N E D R ∧ TupL st.cells cs.length out ∧ out.length ≤ D.length ∧ out ++ krun N E (N.length + 1 - D.length) D R = krounds N E ∧ lkv st.vars "sorter" = some (.ref a) ∧ lkv st.vars "rounds" = some (.ref cs.length)) (N.length + 1) ?_ ?_
  · refine ⟨σ, [], kfirst N E, [], rfl, ⟨h.more _, fun k c e _ => get_more e, fun k hk => .inl hk, by simp⟩, fun hm => Nat.lt_irrefl _ (h.lt _ hm), hg, ⟨r, hrd⟩, by rw [hpo, hfi], Nat.le_refl _, KInv.first hN, ⟨[], get_snoc _ _, trivial⟩, Nat.le_refl _, rfl, by (dsimp only [lkv]; walk_at "lk"), by (dsimp only [lkv]; walk_at "lk")⟩
  · intro n st hJ K' kN kC kB kR
    obtain ⟨σ', D, R, out, rfl, T, hf, g', ⟨r', rd'⟩, po', bd', K, tl, ol, hout, hv1, hv2⟩ := hJ
    have hkeys : σ'.ns.map (·.key) = N := by
      have : σ'.g.map (·.1) = N := by rw [g']; unfold kst GG; simp [Function.comp_def]
      rw [← this]; simp [Sg.g, Function.comp_def]
    have hDR : D.length + R.length ≤ N.length := by
      have := nodup_le K.nd K.sub
      simpa using this
    walk_at "v"
    refine WE.methF0 ?_
    walk_at "v"
    refine ⟨106, mAct T.srt, keep_106 w ext, ?_⟩
    refine (isActive T.srt rd' (by omega) ?_).wcv
    rw [po']
    simp only [Int.lt_irrefl, decide_false, Bool.false_or]
    walk_at "v"
    cases hR : R.isEmpty with
    | true =>
      simp only [Bool.not_true, Bool.false_eq_true, if_false]
      iterate 4 walk_at "v"
      refine q _ _ T ?_ hf
      have : krun N E (N.length + 1 - D.length) D R = [] := by
        have e : N.length + 1 - D.length = (N.length - D.length) + 1 := by omega
        rw [e]; unfold krun; rw [hR]; rfl
      rw [this, List.append_nil] at hout
      rw [← hout]; exact tl
    | false =>
      simp only [Bool.not_false, if_true]
      iterate 2 walk_at "v"
      refine WE.methF0 ?_
      walk_at "v"
      refine ⟨99, mReady T.srt, keep_99 w ext, ?_⟩
      refine (getReady T.srt rd' (by omega) (fun x hx => by rw [hkeys]; exact K.sub x (List.mem_append_right _ hx)) fun cs1 σ1 T1 g1 rd1 po1 fi1 bd1 htup hnf => ?_).wcv
      try dsimp only
      iterate 2 walk_at "v"
      refine WE.methB ?_
      walk_at "v"
      have hcl : st.cells.length ≠ cs.length := by
        obtain ⟨ls, e, _⟩ := tl
        intro z
        have := (List.getElem?_eq_some_iff.mp e).1
        omega
      have tl1 := tl.turned T.srt T1 hf
      have hf1 : cs.length ∉ σ1.foot := fun hm => by
        rcases T1.grow _ hm with h1 | h1
        · exact hf h1
        · obtain ⟨ls, e, _⟩ := tl
          have := (List.getElem?_eq_some_iff.mp e).1
          omega
      obtain ⟨ls, hls, hall⟩ := tl1
      refine ⟨_, MethB.list hls F.slot_list_append F.type_list_append, ?_⟩
      iterate 3 walk_at "v"
      refine WCV.append hls (by rw [List.length_map, hall.length, sizeLine_eq]; omega) ?_
      refine ⟨(by intro l z; cases z), (by intro u z; cases z), ?_⟩
      try dsimp only
      walk_at "v"
      refine WS.exprR ?_
      refine WE.methFS ?_
      walk_at "v"
      have e2 : ls.map V.ref ++ [V.ref st.cells.length] = (ls ++ [st.cells.length]).map V.ref := by simp
      rw [e2]
      have S2 : Srt (cs1.set cs.length (.list ((ls ++ [st.cells.length]).map V.ref))) a σ1 := T1.srt.setList hls hf1
      have htup2 : (cs1.set cs.length (.list ((ls ++ [st.cells.length]).map V.ref)))[st.cells.length]? = some (.tuple (R.map .str)) := by
        rw [List.getElem?_set_ne (Ne.symm hcl)]; exact htup
      have tl2 : TupL (cs1.set cs.length (.list ((ls ++ [st.cells.length]).map V.ref))) cs.length (out ++ [R]) := by
        refine ⟨ls ++ [st.cells.length], gself (glt hls), (All2.mono (fun l xs (e : cs1[l]? = some (.tuple (xs.map .str))) => ?_) hall).append (l' := [_]) (m' := [_]) ⟨htup2, trivial⟩⟩
        rw [List.getElem?_set_ne]
        · exact e
        · rintro rfl; rw [hls] at e; cases e
      have T2 : Turned a σ cs σ1 (cs1.set cs.length (.list ((ls ++ [st.cells.length]).map V.ref))) := by
        have T12 := T.trans T1
        refine ⟨S2, fun k c e hk => ?_, T12.grow, by simpa using T12.len⟩
        rw [List.getElem?_set_ne]
        · exact T12.keep k c e hk
        · rintro rfl; exact Nat.lt_irrefl _ (glt e)
      clear tl hall hls
      generalize (cs1.set cs.length _) = cs2 at S2 htup2 tl2 T2 ⊢
      refine W1.bound S2.inst S2.attrs rfl (k137_ga w ext) (k137_gn w ext) (k137_hdi w ext) (k137_m5 w ext) (k120_fn w ext) (k120_get w ext) (k120_tk w ext) (by decide +kernel) ?_
      refine ⟨cs2.length, 120, a, rfl, k120_fi w ext, ?_⟩
      walk_at "v"
      refine ⟨_, _, rfl, get_more htup2, by simp; omega, get_snoc _ _, ?_⟩
      have G3 : Grown cs2 (cs2 ++ [methOf 120 a]) := Grown.app _ _
      have S2' := S2.grown G3
      have tl2' := tl2.grown G3
      have T2' := T2.grown G3
      clear tl2 T2
      have hlt2 : cs.length < (cs2 ++ [methOf 120 a]).length := by obtain ⟨ls2, e2, _⟩ := tl2'; exact glt e2
      clear S2 htup2 G3
      generalize (cs2 ++ [methOf 120 a]) = cs2 at S2' tl2' T2' hlt2 ⊢
      have S2 := S2'
      have tl2 := tl2'
      have T2 := T2'
      have gk : σ1.g = kst N E D R := by
        rw [g1, g', kst_out (fun x hx hD => (List.nodup_append.mp K.nd).2.2 x hD x hx rfl)]; simp
      have hkeys1 : σ1.ns.map (·.key) = N := by
        have : σ1.g.map (·.1) = N := by rw [gk]; unfold kst GG; simp [Function.comp_def]
        rw [← this]; simp [Sg.g, Function.comp_def]
      have hpre : ∀ i, (R.take i).foldl doneStep (σ1.g, ([] : List Str)) = (kst N E (D ++ R.take i) R, [] ++ knext N E D (R.take i)) := fun i => by
        rw [gk]
        refine kdone hN irr (fun x hx => K.sub x (List.mem_append_right _ (List.mem_of_mem_take hx))) ?_ (fun y hy => K.pre y (List.mem_append_right _ hy)) (fun y hy => K.pre y (List.mem_append_left _ hy)) (fun y hy => K.pre y (List.mem_append_right _ (List.mem_of_mem_take hy)))
        exact K.nd.sublist ((List.Sublist.refl _).append (List.take_sublist _ _))
      refine (done_spec S2 rd1 (xs := R) ?_ (by omega) (fun i x hx => ?_) (fun x y hy => ?_) (fun x hx => by rw [hkeys1]; exact K.sub x (List.mem_append_right _ hx)) fun cs3 σ3 zs T3 g3 rd3 po3 fi3 M3 => ?_)
      · have : R.length * σ1.bd ≤ 100 * 900 := Nat.mul_le_mul (by omega) (by omega)
        simp; omega
      · rw [hpre]
        have hxR := List.mem_of_getElem? hx
        have hxN := K.sub x (List.mem_append_right _ hxR)
        unfold kst
        rw [gg_get hxN]
        have : x ∉ D ++ R.take i := fun hm => by
          rcases List.mem_append.mp hm with hm | hm
          · exact (List.nodup_append.mp K.nd).2.2 x hm x hxR rfl
          · have hnd := (List.nodup_append.mp K.nd).2.1
            obtain ⟨j, hj, e⟩ := List.mem_iff_getElem.mp hm
            rw [List.getElem_take] at e
            obtain ⟨hi, e'⟩ := List.getElem?_eq_some_iff.mp hx
            have := (List.getElem_inj hnd).mp (e.trans e'.symm)
            rw [List.length_take] at hj
            omega
        rw [if_neg this, if_pos hxR]
      · rw [gk] at hy
        unfold kst at hy
        by_cases hx : x ∈ N
        · rw [gg_su hx] at hy; rw [hkeys1]; exact (List.mem_filter.mp hy).1
        · rw [gg_su_none hx] at hy; cases hy
      · have hR' := hpre R.length
        rw [List.take_length] at hR'
        rw [hR'] at g3
        obtain ⟨g3a, rfl⟩ := Prod.mk.inj g3
        try dsimp only
        walk_at "v"
        have hne : R ≠ [] := by rintro rfl; cases hR
        have hRl : 0 < R.length := List.length_pos_iff.mpr hne
        have hDl : (D ++ R).length = D.length + R.length := by simp
        refine kN _ ⟨N.length + 1 - (D ++ R).length, by omega, σ3, D ++ R, knext N E D R, out ++ [R], rfl, T2.trans T3, ?_, ?_, ⟨_, by simpa using rd3⟩, ?_, ?_, K.next hN, ?_, by simp; omega, ?_, by (dsimp only [lkv]; walk_at "lk"), by (dsimp only [lkv]; walk_at "lk")⟩
        · intro hm
          rcases T3.grow _ hm with h1 | h1
          · exact hf1 h1
          · omega
        · rw [g3a]
          unfold kst
          refine gg_congr fun y hy => ?_
          by_cases e : y ∈ D ++ R
          · simp [e]
          · have : y ∉ R := fun hm => e (List.mem_append_right _ hm)
            simp [e, this]
        · rw [po3, fi3, po1, fi1, po']
        · exact Nat.le_trans M3.bd (Nat.le_trans bd1 bd')
        · exact tl2.turned S2 T3 hf1
        · rw [← hout]
          have e : N.length + 1 - D.length = (N.length - D.length) + 1 := by omega
          rw [e]
          conv => rhs; unfold krun
          rw [hR]
          simp only [Bool.false_eq_true, if_false, List.append_assoc, List.cons_append, List.nil_append]
          congr 2
          exact (krun_fuel hN (K.next hN) (by omega) (by omega)).symm
end

section facts
variable (w : World) (ext : Frag) {fr : List Env}
theorem g_EM : ∃ t, nsIn (cx w ext fr).K mainGlobals "ELLIPSIS_MARKER" = some (some (.str "..." t)) := ⟨_, by with_unfolding_all rfl⟩
end facts

section
variable {w : World} {ext : Frag} {fr : List Env} {d : Nat} {cs : List Cell} {Q : V → List Cell → Prop}

theorem ematch_spec {want got : Str} (hw : want.length < 900) (hg : got.length < 900) (hparts : ∀ y ∈ Txt.split want dots, y.length < 900) (q : ∀ cs', Grown cs cs' → Q (.bool (ematch want got)) cs') :
    WCC (cx w ext fr) (d + 1) true (.val (.ref 148)) [.str want, .str got] cs Q := by
  refine WCC.fn (f := 148) (ps := ["want", "got"]) (by rfl) rfl rfl rfl rfl ⟨rfl, rfl, rfl⟩ (by rfl) (fun vals h => ?_) (by decide) (by decide) (by decide) ⟨rfl, rfl, rfl⟩ ?_
  · refine len2 (F := fun vals => bindArgs _ ⟨vals, []⟩) (G := fun vals => pure (List.zip _ vals)) ?_ h; exact fun _ _ => rfl
  intro env
  rw [cx_push]
  dsimp only [List.zip_cons_cons, List.zip_nil_right]
  obtain ⟨tem, hem⟩ := g_EM w ext (fr := env :: fr)
  iterate 3 walk_at "v"
  refine WE.global rfl hem (fun _ => VRel.str _ _ _) ?_
  iterate 2 walk_at "v"
  refine ⟨_, rfl, ?_⟩
  cases hcon : Txt.contains want dots with
  | false =>
    simp only [Bool.not_false, if_true]
    iterate 6 walk_at "v"
    have : ematch want got = (want == got) := by unfold ematch; rw [if_pos hcon]
    rw [← this]
    exact q _ (Grown.refl _)
  | true =>
    simp only [Bool.not_true, Bool.false_eq_true, if_false]
    have hlen2 := split_two hcon
    have hfew := split_few want dots
    iterate 3 walk_at "v"
    refine WE.methB ?_
    walk_at "v"
    refine ⟨_, MethB.str F.slot_str_split F.type_str_split, ?_⟩
    walk_at "v"
    refine WE.global rfl hem (fun _ => VRel.str _ _ _) ?_
    walk_at "v"
    refine WCV.split (by decide +kernel) (by omega) (by have := parts_few want "..."; omega) ?_
    obtain ⟨ws, hws⟩ : ∃ ws, ws = Txt.split want dots := ⟨_, rfl⟩
    rw [show Txt.split want "..." = ws from hws.symm]
    rw [← hws] at hlen2 hfew hparts
    try dsimp only
    iterate 3 walk_at "v"
    refine WE.callB ?_
    refine WE.builtin rfl (g_len w ext) b_len (by decide) (fun _ => VRel.val _ _) ?_
    refine ⟨_, rfl, ?_⟩
    iterate 3 walk_at "v"
    refine WCV.lenList (get_snoc _ _) (by simp; omega) ?_
    iterate 2 walk_at "v"
    refine ⟨_, rfl, by simp; omega, ?_⟩
    walk_at "v"
    refine WS.swap2 rfl (by walk_at "loc") (by walk_at "loc") (fun env he => by cases env; cases he; rfl) ?_
    iterate 4 walk_at "v"
    refine WE.callB ?_
    refine WE.builtin rfl (g_len w ext) b_len (by decide) (fun _ => VRel.val _ _) ?_
    refine ⟨_, rfl, ?_⟩
    iterate 3 walk_at "v"
    refine WCV.lenStr (by omega) ?_
    walk_at "v"
    refine ⟨by rw [sizeLine_eq]; simp, ?_⟩
    refine ⟨_, _, _, rfl, get_snoc _ _, ?_⟩
    try dsimp only
    obtain ⟨w0, wt, hw0⟩ : ∃ w0 wt, ws = w0 :: wt := by
      cases ws with
      | nil => simp at hlen2
      | cons a b => exact ⟨a, b, rfl⟩
    have hw0l : w0.length < 900 := hparts w0 (by rw [hw0]; exact .head _)
    have hcell : (cs ++ [Cell.list (ws.map V.str)] ++ [Cell.tuple [V.int 0, V.int got.length]])[cs.length]? = some (.list (ws.map .str)) := get_more (get_snoc _ _)
    have hgr : Grown cs (cs ++ [Cell.list (ws.map V.str)] ++ [Cell.tuple [V.int 0, V.int got.length]]) := (Grown.app _ _).trans (Grown.app _ _)
    iterate 5 walk_at "v"
    refine W2.listItem (r := .str w0) hcell (by decide) (by rw [hw0]; rfl) (by simp; omega) ?_
    walk_at "v"
    generalize (cs ++ [Cell.list (ws.map V.str)] ++ [Cell.tuple [V.int 0, V.int got.length]]) = cs1 at hcell hgr ⊢
    refine WS.mid (fun f st' => match f with
      | .next => ∃ p ws1, Grown cs st'.cells ∧ st'.cells[cs.length]? = some (.list (ws1.map .str)) ∧ lkv st'.vars "got" = some (.str got) ∧ lkv st'.vars "ws" = some (.ref cs.length) ∧ lkv st'.vars "startpos" = some (.int (p : Nat)) ∧ lkv st'.vars "endpos" = some (.int got.length) ∧ ws1 ≠ [] ∧ (∀ y ∈ ws1, y.length < 900) ∧ ws1.length < 1000 ∧ ematch want got = emEnd got p ws1
      | .ret v => v = .bool false ∧ Grown cs st'.cells ∧ ematch want got = false
      | _ => False) ?_ ?_
    · intro M hM
      iterate 3 walk_at "v"
      refine WB1.truthyStr (by omega) ?_
      by_cases hz : w0.length = 0
      · rw [hz]
        simp only [bne_self_eq_false, Bool.false_eq_true, if_false]
        walk_at "v"
        refine hM _ _ ⟨0, ws, hgr, hcell, by (dsimp only [lkv]; walk_at "lk"), by (dsimp only [lkv]; walk_at "lk"), by (dsimp only [lkv]; walk_at "lk"), by (dsimp only [lkv]; walk_at "lk"), by rw [hw0]; simp, hparts, by omega, ?_⟩
        unfold ematch
        rw [if_neg (by rw [hcon]; decide), ← hws, if_neg (by rw [hw0]; simpa using hz)]
      · have hzb : (w0.length != 0) = true := by simpa using hz
        rw [hzb, if_pos rfl]
        iterate 3 walk_at "v"
        refine WE.methB ?_
        walk_at "v"
        refine ⟨_, MethB.str F.slot_str_startswith F.type_str_startswith, ?_⟩
        iterate 3 walk_at "v"
        refine WCV.startswith ?_
        walk_at "v"
        cases hst : Txt.startswith got w0 with
        | true =>
          rw [if_pos rfl]
          iterate 2 walk_at "v"
          refine WE.callB ?_
          refine WE.builtin rfl (g_len w ext) b_len (by decide) (fun _ => VRel.val _ _) ?_
          refine ⟨_, rfl, ?_⟩
          iterate 3 walk_at "v"
          refine WCV.lenStr (by omega) ?_
          try dsimp only
          iterate 4 walk_at "v"
          refine WDI.list (k := 0) hcell (by simp; omega) (by decide) (StrLaws.seqIndex_nonneg (by decide) (by simp; omega)) ?_
          try dsimp only
          iterate 2 walk_at "v"
          refine hM _ _ ⟨w0.length, wt, hgr.setA (Nat.le_refl _), ?_, by (dsimp only [lkv]; walk_at "lk"), by (dsimp only [lkv]; walk_at "lk"), by (dsimp only [lkv]; walk_at "lk"), by (dsimp only [lkv]; walk_at "lk"), ?_, fun y hy => hparts y (by rw [hw0]; exact .tail _ hy), ?_, ?_⟩
          · rw [gself (glt hcell), hw0]; rfl
          · rintro rfl; rw [hw0] at hlen2; simp at hlen2
          · rw [hw0] at hfew; simp at hfew; omega
          · unfold ematch
            rw [if_neg (by rw [hcon]; decide), ← hws, if_pos (by rw [hw0]; simpa using hz)]
            rw [hw0]
            simp only [List.headD_cons, List.tail_cons, hst, if_true]
        | false =>
          rw [if_neg Bool.false_ne_true]
          iterate 3 walk_at "v"
          refine hM _ _ ⟨rfl, hgr, ?_⟩
          unfold ematch
          rw [if_neg (by rw [hcon]; decide), ← hws, if_pos (by rw [hw0]; simpa using hz)]
          rw [hw0]
          simp only [List.headD_cons, hst, Bool.false_eq_true, if_false]
    · rintro (_ | _ | _ | v) st2 hJ
      · obtain ⟨p, ws1, G1, hc1, hv1, hv2, hv3, hv4, hne, hls, hlen, hem1⟩ := hJ
        rw [hem1] at q
        clear hem1 hparts hws hw0 hcon hlen2 hfew
        obtain ⟨wi, wl, rfl⟩ : ∃ wi wl, ws1 = wi ++ [wl] := ⟨ws1.dropLast, ws1.getLast hne, (List.dropLast_concat_getLast hne).symm⟩
        have hwl : wl.length < 900 := hls wl (by simp)
        simp only [List.length_append, List.length_cons, List.length_nil] at hlen
        have hlm : ((wi ++ [wl]).map V.str).length = wi.length + 1 := by simp
        try dsimp only
        iterate 5 walk_at "v"
        refine W2.listItemNeg (r := .str wl) hc1 (by decide) (by rw [hlm]; omega) ?_ (by rw [hlm]; omega) ?_
        · rw [hlm, show (-1 + ((wi.length + 1 : Nat) : Int)).toNat = wi.length by omega]
          simp
        walk_at "v"
        refine WS.mid (fun f st' => match f with
          | .next => ∃ e ws2, Grown cs st'.cells ∧ st'.cells[cs.length]? = some (.list (ws2.map .str)) ∧ lkv st'.vars "got" = some (.str got) ∧ lkv st'.vars "ws" = some (.ref cs.length) ∧ lkv st'.vars "startpos" = some (.int (p : Nat)) ∧ lkv st'.vars "endpos" = some (.int (e : Nat)) ∧ (∀ y ∈ ws2, y.length < 900) ∧ ws2.length < 1000 ∧ e ≤ got.length ∧ emEnd got p (wi ++ [wl]) = if p > e then false else emLoop got e ws2 p
          | .ret v => v = .bool false ∧ Grown cs st'.cells ∧ emEnd got p (wi ++ [wl]) = false
          | _ => False) ?_ ?_
        · intro M hM
          have hgl : ((wi ++ [wl]).getLast?).getD Str.empty = wl := by simp
          iterate 3 walk_at "v"
          refine WB1.truthyStr (by omega) ?_
          by_cases hz : wl.length = 0
          · rw [hz]
            simp only [bne_self_eq_false, Bool.false_eq_true, if_false]
            walk_at "v"
            refine hM _ _ ⟨got.length, wi ++ [wl], G1, hc1, by (dsimp only [lkv]; walk_at "lk"), by (dsimp only [lkv]; walk_at "lk"), by (dsimp only [lkv]; walk_at "lk"), by (dsimp only [lkv]; walk_at "lk"), hls, by simp; omega, Nat.le_refl _, ?_⟩
            unfold emEnd
            rw [hgl, if_neg (by omega)]
          · have hzb : (wl.length != 0) = true := by simpa using hz
            rw [hzb, if_pos rfl]
            iterate 3 walk_at "v"
            refine WE.methB ?_
            walk_at "v"
            refine ⟨_, MethB.str F.slot_str_endswith F.type_str_endswith, ?_⟩
            iterate 3 walk_at "v"
            refine WCV.endswith ?_
            walk_at "v"
            cases hst : Txt.endswith got wl with
            | true =>
              have hwg : wl.length ≤ got.length := by
                unfold Txt.endswith at hst
                simp at hst; omega
              rw [if_pos rfl]
              iterate 2 walk_at "v"
              refine WE.callB ?_
              refine WE.builtin rfl (g_len w ext) b_len (by decide) (fun _ => VRel.val _ _) ?_
              refine ⟨_, rfl, ?_⟩
              iterate 3 walk_at "v"
              refine WCV.lenStr (by omega) ?_
              try dsimp only
              iterate 5 walk_at "v"
              refine WDI.list (k := wi.length) hc1 (by rw [hlm]; omega) (by decide) ?_ ?_
              · rw [StrLaws.seqIndex_neg (by decide) (by rw [hlm]; omega), hlm, show (-1 + ((wi.length + 1 : Nat) : Int)).toNat = wi.length by omega]
              try dsimp only
              iterate 2 walk_at "v"
              refine hM _ _ ⟨got.length - wl.length, wi, G1.setA (Nat.le_refl _), ?_, by (dsimp only [lkv]; walk_at "lk"), by (dsimp only [lkv]; walk_at "lk"), by (dsimp only [lkv]; walk_at "lk"), ?_, fun y hy => hls y (by simp [hy]), by omega, by omega, ?_⟩
              · rw [gself (glt hc1)]
                simp [List.eraseIdx_append_of_length_le]
              · dsimp only [lkv]
                rw [lookup_setv, if_pos rfl]
                have : ((got.length - wl.length : Nat) : Int) = (got.length : Int) - wl.length := by omega
                rw [this]
              · unfold emEnd
                rw [hgl, if_pos hz, hst]
                simp only [if_true, List.dropLast_concat]
                by_cases hp : p + wl.length > got.length
                · rw [if_pos hp, if_pos (by omega)]
                · rw [if_neg hp, if_neg (by omega)]
            | false =>
              rw [if_neg Bool.false_ne_true]
              iterate 3 walk_at "v"
              refine hM _ _ ⟨rfl, G1, ?_⟩
              unfold emEnd
              rw [hgl, if_pos hz, hst]
              rfl
        · rintro (_ | _ | _ | v) st3 hJ
          · obtain ⟨e, ws2, G2, hc2, hv1, hv2, hv3, hv4, hls2, hlen2, heg, hem2⟩ := hJ
            rw [hem2] at q
            clear hem2 hls hlen hlm hc1 hne
            try dsimp only
            walk_at "vv"
            by_cases hpe : p > e
            · have : decide ((p : Int) > (e : Int)) = true := by simpa using hpe
              rw [this, if_pos rfl]
              rw [if_pos hpe] at q
              iterate 3 walk_at "v"
              exact q _ G2
            · have : decide ((p : Int) > (e : Int)) = false := by simpa using hpe
              rw [this, if_neg Bool.false_ne_true]
              rw [if_neg hpe] at q
              iterate 2 walk_at "v"
              refine WS.for (Iter.list _ cs.length (ws2.map .str)) (fun i st => ∃ p' : Nat, Grown cs st.cells ∧ lkv st.vars "got" = some (.str got) ∧ lkv st.vars "startpos" = some (.int p') ∧ lkv st.vars "endpos" = some (.int (e : Nat)) ∧ emLoop got e (ws2.drop i) p' = emLoop got e ws2 p) rfl (by walk_at "loc") ?_ ?_ ?_
              · walk_at "v"
                exact ⟨rfl, hc2, p, G2, hv1, hv3, hv4, rfl⟩
              · intro i v st4 hr hok hJ K kN kC kB kR
                obtain ⟨p', G3, hu1, hu2, hu3, hem3⟩ := hJ
                rw [List.getElem?_map] at hr
                obtain ⟨x, hp, rfl⟩ := Option.map_eq_some_iff.mp hr
                have hx := hls2 x (List.mem_of_getElem? hp)
                have hdr : ws2.drop i = x :: ws2.drop (i + 1) := by
                  obtain ⟨hi, e⟩ := List.getElem?_eq_some_iff.mp hp
                  rw [List.drop_eq_getElem_cons hi, e]
                rw [hdr, emLoop_cons] at hem3
                iterate 2 walk_at "v"
                refine WE.methB ?_
                walk_at "v"
                refine ⟨_, MethB.str F.slot_str_find F.type_str_find, ?_⟩
                iterate 7 walk_at "v"
                refine WCV.find4 ?_
                try dsimp only
                walk_at "vv"
                by_cases hf : find4 got x p' e < 0
                · have : decide (find4 got x p' e < 0) = true := by simpa using hf
                  rw [this, if_pos rfl]
                  rw [if_pos hf] at hem3
                  iterate 3 walk_at "v"
                  rw [← hem3] at q
                  exact kR _ _ (q _ G3)
                · have : decide (find4 got x p' e < 0) = false := by simpa using hf
                  rw [this, if_neg Bool.false_ne_true]
                  rw [if_neg hf] at hem3
                  iterate 3 walk_at "v"
                  refine WE.callB ?_
                  refine WE.builtin rfl (g_len w ext) b_len (by decide) (fun _ => VRel.val _ _) ?_
                  refine ⟨_, rfl, ?_⟩
                  iterate 3 walk_at "v"
                  refine WCV.lenStr (by omega) ?_
                  try dsimp only
                  iterate 2 walk_at "v"
                  refine kN _ ⟨hok, (find4 got x p' e).toNat + x.length, G3, by (dsimp only [lkv]; walk_at "lk"), ?_, by (dsimp only [lkv]; walk_at "lk"), hem3⟩
                  dsimp only [lkv]
                  rw [lookup_setv, if_pos rfl]
                  have : (((find4 got x p' e).toNat + x.length : Nat) : Int) = find4 got x p' e + x.length := by omega
                  rw [this]
              · rintro st4 hok ⟨p', G3, hu1, hu2, hu3, hem3⟩
                try dsimp only
                iterate 3 walk_at "v"
                rw [List.length_map, List.drop_length] at hem3
                rw [← hem3] at q
                exact q _ G3
          · exact hJ.elim
          · exact hJ.elim
          · obtain ⟨rfl, g, e⟩ := hJ
            rw [← e]; exact q _ g
      · exact hJ.elim
      · exact hJ.elim
      · obtain ⟨rfl, g, e⟩ := hJ
        rw [← e]; exact q _ g
end

section facts
variable (w : World) (ext : Frag) {fr : List Env}
theorem g_sum : nsIn (cx w ext fr).K mainGlobals "sum" = some none := by kernel_rfl
theorem g_range : nsIn (cx w ext fr).K mainGlobals "range" = some none := by kernel_rfl
end facts
theorem b_sum : bootBuiltins "sum" = some (.builtin "sum") := by kernel_rfl
theorem b_range : bootBuiltins "range" = some (.type "range") := by kernel_rfl

/-- words of a to d -/
def Abcd (l : List Nat) : Prop := ∀ c ∈ l, 97 ≤ c ∧ c ≤ 100
theorem Abcd.snoc {l : List Nat} {c : Nat} (h : Abcd l) (hc : 97 ≤ c ∧ c ≤ 100) : Abcd (l ++ [c]) := fun x hx => by
  rcases List.mem_append.mp hx with hx | hx
  · exact h x hx
  · rw [List.mem_singleton.mp hx]; exact hc
theorem abcd_wd : ("abcd" : Str) = wd [97, 98, 99, 100] := by decide +kernel
theorem abcd_item {p : Int} (h0 : 0 ≤ p) (h4 : p < 4) : ∃ c, 97 ≤ c ∧ c ≤ 100 ∧ Txt.item "abcd" p = ch c ∧ (Txt.charAt "abcd" p).isSome = true := by
  rw [abcd_wd]
  obtain ⟨n, rfl⟩ := Int.eq_ofNat_of_zero_le h0
  match n, h4 with
  | 0, _ => exact ⟨97, by decide, by decide, (wd_item _ 0 97 rfl).1, (wd_item _ 0 97 rfl).2⟩
  | 1, _ => exact ⟨98, by decide, by decide, (wd_item _ 1 98 rfl).1, (wd_item _ 1 98 rfl).2⟩
  | 2, _ => exact ⟨99, by decide, by decide, (wd_item _ 2 99 rfl).1, (wd_item _ 2 99 rfl).2⟩
  | 3, _ => exact ⟨100, by decide, by decide, (wd_item _ 3 100 rfl).1, (wd_item _ 3 100 rfl).2⟩
  | n + 4, h => omega
theorem fmod4 (a : Int) : 0 ≤ a.fmod 4 ∧ a.fmod 4 < 4 := by
  rw [Int.fmod_eq_emod_of_nonneg _ (by decide)]; omega
theorem pick_map {α β : Type} (f : α → β) (l : List α) (lo hi : Option Int) : pick (l.map f) lo hi = (pick l lo hi).map f := by
  unfold pick; simp [List.map_take, List.map_drop]
theorem pick_len {α : Type} (l : List α) (lo hi : Option Int) : (pick l lo hi).length ≤ l.length := by
  unfold pick; simp; omega
section
variable {w : World} {ext : Frag} {fr : List Env} {d : Nat} {cs : List Cell} {Q : V → List Cell → Prop}

theorem word_spec {s : Nat} {ns : List Int} {o₀ : Obj} (hs : cs[s]? = some (fixList ns o₀)) (hn : ns.length < 100) (q : ∀ cs' l, Grown cs cs' → l ≠ [] → Abcd l → l.length < 150 → Q (.str (wd l)) cs') : WCC (cx w ext fr) (d + 1) true (.val (.ref 169)) [.ref s] cs Q := by
  refine WCC.fn (f := 169) (ps := ["script"]) (by rfl) rfl rfl rfl rfl ⟨rfl, rfl, rfl⟩ (by rfl) (fun vals h => ?_) (by decide) (by decide) (by decide) ⟨rfl, rfl, rfl⟩ ?_
  · refine len1 (F := fun vals => bindArgs _ ⟨vals, []⟩) (G := fun vals => pure (List.zip _ vals)) ?_ h; exact fun _ => rfl
  intro env
  rw [cx_push]
  dsimp only [List.zip_cons_cons, List.zip_nil_right]
  iterate 6 walk_at "v"
  refine WE.callB ?_
  refine WE.builtin rfl (g_sum w ext) b_sum (by decide) (fun _ => VRel.val _ _) ?_
  refine ⟨_, rfl, ?_⟩
  iterate 3 walk_at "v"
  refine WCV.sumIntsF rfl hs ?_
  walk_at "v"
  refine W2.modInt (by decide) ?_
  obtain ⟨h0, h4⟩ := fmod4 ns.sum
  revert h0 h4
  generalize ns.sum.fmod 4 = p
  intro h0 h4
  walk_at "vv"
  obtain ⟨c, hc1, hc2, hit, hat⟩ := abcd_item h0 h4
  refine W2.strItem (by unfold fitsSsize; simp; omega) hat ?_
  rw [hit]
  walk_at "vv"
  refine WS.for (Iter.list _ (cs.length + 2) ((pick ns none (some 12) ++ [4]).map .int)) (fun i st => ∃ (p : Int) (l : List Nat), Grown cs st.cells ∧ 0 ≤ p ∧ p < 4 ∧ l ≠ [] ∧ Abcd l ∧ l.length ≤ 1 + i ∧ lkv st.vars "place" = some (.int p) ∧ lkv st.vars "word" = some (.str (wd l)) ∧ lkv st.vars "letters" = some (.str "abcd")) rfl (by walk_at "loc") ?_ ?_ ?_
  · walk_at "vv"
    refine WSL.listF hs rfl rfl (by omega) ?_
    walk_at "vv"
    have e1 : (cs ++ [Cell.list (pick (ns.map V.int) none (some 12))])[cs.length]? = some (.list ((pick ns none (some 12)).map .int)) := by rw [pick_map]; exact get_snoc _ _
    have hpl := pick_len ns none (some 12)
    refine W2.addList (xs := (pick ns none (some 12)).map .int) (ys := [V.int 4]) (get_more e1) (by simp) (by simp; omega) ?_
    refine ⟨by simp, ?_, p, [c], ?_, h0, h4, by simp, fun x hx => by rw [List.mem_singleton.mp hx]; exact ⟨hc1, hc2⟩, by simp, by (dsimp only [lkv]; walk_at "lk"), by (dsimp only [lkv]; walk_at "lk"), by (dsimp only [lkv]; walk_at "lk")⟩
    · simp
    · exact ((Grown.app _ _).trans (Grown.app _ _)).trans (Grown.app _ _)
  · intro i v st hr hok hJ K kN kC kB kR
    obtain ⟨p, l, G, h0, h4, hl, ha, hlen, hv1, hv2, hv3⟩ := hJ
    rw [List.getElem?_map] at hr
    obtain ⟨x, hp, rfl⟩ := Option.map_eq_some_iff.mp hr
    have hil : i < 101 := by
      have h1 := (List.getElem?_eq_some_iff.mp hp).1
      have h2 := pick_len ns none (some 12)
      simp at h1; omega
    walk_at "v"
    refine WS.mid (fun f st' => match f with
      | .next => ∃ p : Int, st'.cells = st.cells ∧ 0 ≤ p ∧ p < 4 ∧ lkv st'.vars "place" = some (.int p) ∧ lkv st'.vars "word" = some (.str (wd l)) ∧ lkv st'.vars "letters" = some (.str "abcd")
      | _ => False) ?_ ?_
    · intro M hM
      iterate 5 walk_at "v"
      refine W2.modInt (by decide) ?_
      walk_at "vv"
      cases hx7 : (x.fmod 8 == 7) with
      | true =>
        rw [if_pos rfl]
        iterate 6 walk_at "v"
        refine W2.floordivInt (by decide) (by decide) ?_
        walk_at "v"
        refine W2.modInt (by decide) ?_
        obtain ⟨g0, g4⟩ := fmod4 (x.fdiv 8)
        try dsimp only
        walk_at "v"
        exact hM _ _ ⟨_, rfl, g0, g4, by (dsimp only [lkv]; walk_at "lk"), by (dsimp only [lkv]; walk_at "lk"), by (dsimp only [lkv]; walk_at "lk")⟩
      | false =>
        rw [if_neg Bool.false_ne_true]
        iterate 6 walk_at "v"
        refine W2.modInt (by decide) ?_
        walk_at "vv"
        by_cases hx3 : x.fmod 8 > 3
        · rw [decide_eq_true hx3, if_pos rfl]
          iterate 8 walk_at "v"
          refine W2.modInt (by decide) ?_
          obtain ⟨g0, g4⟩ := fmod4 (p + 1)
          try dsimp only
          iterate 2 walk_at "v"
          exact hM _ _ ⟨_, rfl, g0, g4, by (dsimp only [lkv]; walk_at "lk"), by (dsimp only [lkv]; walk_at "lk"), by (dsimp only [lkv]; walk_at "lk")⟩
        · rw [decide_eq_false hx3, if_neg Bool.false_ne_true]
          iterate 2 walk_at "v"
          exact hM _ _ ⟨p, rfl, h0, h4, by (dsimp only [lkv]; walk_at "lk"), by (dsimp only [lkv]; walk_at "lk"), by (dsimp only [lkv]; walk_at "lk")⟩
    · rintro (_ | _ | _ | v) st2 hJ
      · obtain ⟨p2, hc2, h0, h4, hu1, hu2, hu3⟩ := hJ
        obtain ⟨c, hc1, hc2', hit, hat⟩ := abcd_item h0 h4
        try dsimp only
        iterate 7 walk_at "v"
        refine W2.strItem (by unfold fitsSsize; simp; omega) hat ?_
        rw [hit]
        try dsimp only
        refine W2.addStr ?_ (by rw [wd_len, wd_len, sizeLine_eq]; simp; omega)
        rw [wd_app]
        try dsimp only
        walk_at "v"
        exact kN _ ⟨by rw [hc2]; exact hok, p2, l ++ [c], by rw [hc2]; exact G, h0, h4, by simp, ha.snoc ⟨hc1, hc2'⟩, by simp; omega, by (dsimp only [lkv]; walk_at "lk"), by (dsimp only [lkv]; walk_at "lk"), by (dsimp only [lkv]; walk_at "lk")⟩
      · exact hJ.elim
      · exact hJ.elim
      · exact hJ.elim
  · rintro st hok ⟨p, l, G, h0, h4, hl, ha, hlen, hv1, hv2, hv3⟩
    try dsimp only
    iterate 3 walk_at "v"
    refine q _ l G hl ha ?_
    have := pick_len ns none (some 12)
    simp at hlen; omega
end

/-- blocks peeled off a word -/
inductive Peel : List Nat → List Nat → List Nat → Prop
  | nil : Peel [] [] []
  | stop (n c : Nat) (rest : List Nat) : rest.head? ≠ some c → c ∈ rest → Peel (List.replicate (n + 1) c ++ rest) [] (List.replicate (n + 1) c ++ rest)
  | go (n c : Nat) (rest h l : List Nat) : rest.head? ≠ some c → c ∉ rest → Peel rest h l → Peel (List.replicate (n + 1) c ++ rest) (c :: h) l
theorem pick_from {α : Type} (l : List α) (a : Nat) : pick l (some (a : Int)) none = l.drop a := by
  unfold pick kms_lo kms_hi
  simp only
  rw [if_neg (by omega), show ((a : Int)).toNat = a by omega, List.take_of_length_le (by simp)]
  by_cases h : a ≤ l.length
  · rw [Nat.min_eq_left h]
  · rw [Nat.min_eq_right (by omega), List.drop_length, List.drop_eq_nil_of_le (by omega)]
theorem pick_to {α : Type} (l : List α) (a : Nat) : pick l none (some (a : Int)) = l.take a := by
  unfold pick kms_lo kms_hi
  simp only
  rw [if_neg (by omega), show ((a : Int)).toNat = a by omega, List.drop_zero, Nat.sub_zero]
  by_cases h : a ≤ l.length
  · rw [Nat.min_eq_left h]
  · rw [Nat.min_eq_right (by omega), List.take_length, List.take_of_length_le (by omega)]
def dueS (word : Str) (names heads : List Str) : List (List Str) :=
  if names.filter (fun one => !Txt.contains word one || (pick heads none (some 1)).contains one) = [] then []
  else names.filter (fun one => !Txt.contains word one || (pick heads none (some 1)).contains one) :: (pick heads (some 1) none).map fun x => [x]

structure RingOk (word left : Str) (c : List Str) : Prop where
  len : 3 ≤ c.length
  ends : c[0]? = c[c.length - 1]?
  inLeft : ∀ (k : Nat) (x : Str), 1 ≤ k → c[k]? = some x → Txt.contains left x = true
  once : ∀ (k : Nat) (x : Str), 1 ≤ k → c[k]? = some x → x ∉ c.drop (k + 1)
  behind : ∀ (k : Nat) (x y : Str), c[k]? = some x → c[k + 1]? = some y → Txt.contains (Txt.slice word none (some (Txt.rfind word y))) x = true
theorem emp_wd : ("" : Str) = wd [] := by decide +kernel

section
variable {w : World} {ext : Frag} {fr : List Env} {d : Nat} {cs : List Cell} {Q : V → List Cell → Prop}

theorem peeled_spec {l0 : List Nat} (hl0 : l0.length < 900) (q : ∀ cs' t h l, Grown cs cs' → cs'[t]? = some (.tuple [.ref cs.length, .str (wd l)]) → cs'[cs.length]? = some (.list (h.map fun c => .str (ch c))) → Peel l0 h l → Q (.ref t) cs') : WCC (cx w ext fr) (d + 1) true (.val (.ref 176)) [.str (wd l0)] cs Q := by
  refine WCC.fn (f := 176) (ps := ["word"]) (by rfl) rfl rfl rfl rfl ⟨rfl, rfl, rfl⟩ (by rfl) (fun vals h => ?_) (by decide) (by decide) (by decide) ⟨rfl, rfl, rfl⟩ ?_
  · refine len1 (F := fun vals => bindArgs _ ⟨vals, []⟩) (G := fun vals => pure (List.zip _ vals)) ?_ h; exact fun _ => rfl
  intro env
  rw [cx_push]
  dsimp only [List.zip_cons_cons, List.zip_nil_right]
  walk_at "vv"
  refine WS.while (fun n st => ∃ hs lf : List Nat, n = lf.length ∧ Grown cs st.cells ∧ st.cells[cs.length]? = some (.list (hs.map fun c => .str (ch c))) ∧ hs.length + lf.length ≤ l0.length ∧ (∀ h l, Peel lf h l → Peel l0 (hs ++ h) l) ∧ lkv st.vars "heads" = some (.ref cs.length) ∧ lkv st.vars "left" = some (.str (wd lf))) l0.length ?_ ?_
  · exact ⟨[], l0, rfl, Grown.app _ _, get_snoc _ _, by simp, fun h l hp => hp, by (dsimp only [lkv]; walk_at "lk"), by (dsimp only [lkv]; walk_at "lk")⟩
  · intro n st hJ K kN kC kB kR
    obtain ⟨hs, lf, rfl, G, hc, hlen, hP, hv1, hv2⟩ := hJ
    iterate 4 walk_at "v"
    rw [emp_wd, wd_bne]
    walk_at "vv"
    cases lf with
    | nil =>
      simp only [decide_true, Bool.not_true, Bool.false_eq_true, if_false]
      walk_at "vv"
      refine q _ _ (hs ++ []) [] (G.trans (Grown.app _ _)) (get_snoc _ _) ?_ (hP [] [] .nil)
      rw [List.append_nil]; exact get_more hc
    | cons c r =>
      simp only [reduceCtorEq, decide_false, Bool.not_false, if_true]
      have hlf : (c :: r).length < 900 := by omega
      iterate 4 walk_at "v"
      refine WS.while (fun m st' => ∃ s : Nat, m = (c :: r).length + 1 - s ∧ 1 ≤ s ∧ s ≤ (c :: r).length ∧ (c :: r).take s = List.replicate s c ∧ st'.cells = st.cells ∧ lkv st'.vars "size" = some (.int (s : Nat)) ∧ lkv st'.vars "heads" = some (.ref cs.length) ∧ lkv st'.vars "left" = some (.str (wd (c :: r)))) ((c :: r).length) ?_ ?_
      · exact ⟨1, by simp, Nat.le_refl _, by simp, by simp, rfl, by (dsimp only [lkv]; rw [lookup_setv, if_pos rfl]; rfl), by (dsimp only [lkv]; walk_at "lk"), by (dsimp only [lkv]; walk_at "lk")⟩
      · intro m st' hJ K2 kN2 kC2 kB2 kR2
        obtain ⟨s, rfl, hs1, hs2, htk, hcells, hu1, hu2, hu3⟩ := hJ
        walk_at "vv"
        refine WSL.str rfl rfl (by rw [wd_len]; omega) ?_
        have e1 : Txt.slice (wd (c :: r)) (V.int (s : Nat)).part (V.int ((s : Nat) + 1 : Int)).part = wd (((c :: r).drop s).take 1) := by
          have := wd_mid (c :: r) s (s + 1) (by omega)
          rw [show s + 1 - s = 1 by omega] at this
          exact this
        rw [e1]
        walk_at "vv"
        have hit := wd_item (c :: r) 0 c rfl
        refine W2.strItem (by decide) hit.2 ?_
        rw [show Txt.item (wd (c :: r)) (0 : Int) = ch c from hit.1]
        try dsimp only
        walk_at "v"
        rw [wd_beq]
        refine ⟨_, rfl, ?_⟩
        by_cases hd : ((c :: r).drop s).take 1 = [c]
        · rw [decide_eq_true hd, if_pos rfl]
          have hs : (c :: r)[s]? = some c := by
            have := congrArg (·[0]?) hd
            simpa using this
          have hslt := (List.getElem?_eq_some_iff.mp hs).1
          walk_at "vv"
          refine kN2 _ ⟨(c :: r).length + 1 - (s + 1), by omega, s + 1, rfl, by omega, by omega, ?_, hcells, by (dsimp only [lkv]; rw [lookup_setv, if_pos rfl]; rfl), by (dsimp only [lkv]; walk_at "lk"), by (dsimp only [lkv]; walk_at "lk")⟩
          rw [List.take_add_one, htk, hs]
          simp [List.replicate_succ']
        · rw [decide_eq_false hd, if_neg Bool.false_ne_true]
          have hsplit : c :: r = List.replicate s c ++ (c :: r).drop s := by rw [← htk, List.take_append_drop]
          have hhead : ((c :: r).drop s).head? ≠ some c := by
            intro h
            apply hd
            cases hq : (c :: r).drop s with
            | nil => rw [hq] at h; cases h
            | cons x y => rw [hq] at h; cases h; rfl
          obtain ⟨n', rfl⟩ : ∃ n', s = n' + 1 := ⟨s - 1, by omega⟩
          revert hsplit hhead
          generalize hrest : (c :: r).drop (n' + 1) = rest
          intro hsplit hhead
          have hfrom : Txt.slice (wd (c :: r)) (V.int ((n' + 1 : Nat) : Int)).part V.none.part = wd rest := by
            rw [← hrest]; exact wd_from (c :: r) (n' + 1)
          iterate 7 walk_at "v"
          refine W2.strItem (by decide) hit.2 ?_
          rw [show Txt.item (wd (c :: r)) (0 : Int) = ch c from hit.1]
          walk_at "vv"
          refine WSL.str rfl rfl (by rw [wd_len]; omega) ?_
          rw [hfrom]
          try dsimp only
          walk_at "v"
          rw [wd_has]
          refine ⟨_, rfl, ?_⟩
          by_cases hm : c ∈ rest
          · rw [decide_eq_true hm, if_pos rfl]
            walk_at "vv"
            refine kR _ _ (q _ _ (hs ++ []) (c :: r) ?_ (get_snoc _ _) ?_ (hP [] (c :: r) ?_))
            · rw [hcells]; exact G.trans (Grown.app _ _)
            · rw [List.append_nil, hcells]; exact get_more hc
            · rw [hsplit]; exact .stop n' c rest hhead hm
          · rw [decide_eq_false hm, if_neg Bool.false_ne_true]
            iterate 2 walk_at "v"
            walk_at "v"
            refine WE.methB ?_
            walk_at "v"
            have hc' : st'.cells[cs.length]? = some (.list (hs.map fun c => .str (ch c))) := by rw [hcells]; exact hc
            refine ⟨_, MethB.list hc' F.slot_list_append F.type_list_append, ?_⟩
            iterate 4 walk_at "v"
            refine W2.strItem (by decide) hit.2 ?_
            rw [show Txt.item (wd (c :: r)) (0 : Int) = ch c from hit.1]
            try dsimp only
            walk_at "v"
            refine WCV.append hc' (by rw [sizeLine_eq]; simp; omega) ?_
            refine ⟨(by intro l z; cases z), (by intro u z; cases z), ?_⟩
            walk_at "vv"
            refine WSL.str rfl rfl (by rw [wd_len]; omega) ?_
            rw [hfrom]
            walk_at "vv"
            have hrl : rest.length < (c :: r).length := by rw [hsplit]; simp
            refine kN _ ⟨rest.length, hrl, hs ++ [c], rest, rfl, ?_, ?_, by simp at hlen hrl ⊢; omega, fun h l hp => ?_, by (dsimp only [lkv]; walk_at "lk"), by (dsimp only [lkv]; walk_at "lk")⟩
            · rw [hcells]; exact G.setA (Nat.le_refl _)
            · rw [gself (glt hc')]; simp
            · have := hP (c :: h) l (by rw [hsplit]; exact .go n' c rest h l hhead hm hp)
              simpa using this
end

theorem filter_out {p : Str → Bool} (l : List Str) : (l.map fun x => if p x = true then some (V.str x) else none).filterMap id = (l.filter p).map V.str := by
  induction l with
  | nil => rfl
  | cons x r ih =>
    rw [List.map_cons, List.filterMap_cons, List.filter_cons]
    by_cases h : p x = true
    · simp only [h, if_true, id, List.map_cons, ih]
    · simp only [h, if_false, id, ih, Bool.false_eq_true]
theorem all2_map {α β γ : Type} {R : α → β → Prop} {R' : α → γ → Prop} {f : β → γ} (h : ∀ a b, R a b → R' a (f b)) : ∀ {l : List α} {m : List β}, All2 R l m → All2 R' l (m.map f)
  | [], [], _ => trivial
  | _ :: _, _ :: _, ⟨h1, h2⟩ => ⟨h _ _ h1, all2_map h h2⟩
  | [], _ :: _, h => h.elim
  | _ :: _, [], h => h.elim
section
variable {w : World} {ext : Frag} {fr : List Env} {d : Nat} {cs : List Cell} {Q : V → List Cell → Prop}

theorem due_spec {n h : Nat} {word : Str} {names heads : List Str} (hn : cs[n]? = some (.list (names.map .str))) (hh : cs[h]? = some (.list (heads.map .str))) (hnl : names.length < 900) (hhl : heads.length < 900) (hok : AllOk names)
    (q : ∀ cs' r, Grown cs cs' → TupL cs' r (dueS word names heads) → Q (.ref r) cs') : WCC (cx w ext fr) (d + 1) true (.val (.ref 181)) [.str word, .ref n, .ref h] cs Q := by
  refine WCC.fn (f := 181) (ps := ["word", "names", "heads"]) (by rfl) rfl rfl rfl rfl ⟨rfl, rfl, rfl⟩ (by rfl) (fun vals h => ?_) (by decide) (by decide) (by decide) ⟨rfl, rfl, rfl⟩ ?_
  · refine len3 (F := fun vals => bindArgs _ ⟨vals, []⟩) (G := fun vals => pure (List.zip _ vals)) ?_ h; exact fun _ _ _ => rfl
  intro env
  rw [cx_push]
  dsimp only [List.zip_cons_cons, List.zip_nil_right]
  iterate 2 walk_at "v"
  refine WE.callT ?_
  refine WE.builtin rfl (g_tuple w ext) b_tuple (by decide) (fun _ => VRel.val _ _) ?_
  refine ⟨_, rfl, ?_⟩
  walk_at "v"
  refine WE.comp rfl (by rfl) ?_
  walk_at "v"
  obtain ⟨p, hp⟩ : ∃ p : Str → Bool, p = fun one => !Txt.contains word one || (pick heads none (some 1)).contains one := ⟨_, rfl⟩
  refine CompGo.plain (Iter.list _ n (names.map .str)) (names.map fun x => if p x = true then some (V.str x) else none) rfl rfl (by simp; omega) (by simp) (fun cs' g => g _ _ hn) (fun i r o cs' hr ho g => ?_) (fun cs' g hl => ?_)
  · rw [List.getElem?_map] at hr ho
    cases hx : names[i]? with
    | none => rw [hx] at hr; cases hr
    | some x =>
      rw [hx] at hr ho
      cases hr
      cases ho
      refine WIF.one ?_
      walk_at "vv"
      cases hc : Txt.contains word x with
      | false =>
        rw [show (!false) = true from rfl, if_pos rfl]
        have hpx : p x = true := by rw [hp]; simp [hc]
        rw [if_pos hpx]
        refine ⟨rfl, Grown.refl _, rfl, fun u hu => ?_⟩
        cases hu
        walk_at "v"
        exact ⟨rfl, Grown.refl _, rfl⟩
      | true =>
        rw [show (!true) = false from rfl, if_neg Bool.false_ne_true]
        walk_at "vv"
        refine WSL.list (g _ _ hh) rfl rfl (by simp; omega) ?_
        try dsimp only
        have e1 : pick (heads.map V.str) V.none.part (V.int 1).part = (pick heads none (some 1)).map V.str := pick_map _ _ _ _
        rw [e1]
        refine W2.inList (get_snoc _ _) ?_
        try dsimp only
        refine ⟨_, rfl, ?_⟩
        have hpx : p x = (pick heads none (some 1)).contains x := by rw [hp]; simp [hc]
        rw [← hpx]
        cases hpc : p x with
        | true =>
          rw [if_pos rfl]
          refine ⟨rfl, Grown.app _ _, rfl, fun u hu => ?_⟩
          cases hu
          walk_at "v"
          exact ⟨rfl, Grown.refl _, rfl⟩
        | false =>
          rw [if_neg Bool.false_ne_true, if_neg Bool.false_ne_true]
          walk_at "v"
          exact ⟨rfl, Grown.app _ _, rfl, fun u hu => by cases hu⟩
  rw [filter_out] at hl
  try dsimp only
  walk_at "v"
  refine WCV.tupleOf hl (by have := List.length_filter_le p names; simp; omega) ?_
  have hpd : ∀ x, p x = (!Txt.contains word x || (pick heads none (some 1)).contains x) := fun x => by rw [hp]
  have hdue : dueS word names heads = if names.filter p = [] then [] else names.filter p :: (pick heads (some 1) none).map fun x => [x] := by rw [hp]; rfl
  have hfl := List.length_filter_le p names
  have hfok : AllOk (names.filter p) := fun x hx => hok x (List.mem_filter.mp hx).1
  rw [hdue] at q
  clear hdue hpd
  revert q hl hfl hfok
  generalize names.filter p = first
  intro q hl hfl hfok
  have G1 : Grown cs (cs' ++ [.tuple (first.map .str)]) := g.trans (Grown.app _ _)
  have hft : (cs' ++ [Cell.tuple (first.map .str)])[cs'.length]? = some (.tuple (first.map .str)) := get_snoc _ _
  generalize cs'.length = tf at hft ⊢
  generalize (cs' ++ [Cell.tuple (first.map .str)]) = cs1 at G1 hft ⊢
  clear hl g
  try dsimp only
  iterate 6 walk_at "v"
  refine ⟨Nat.zero_le _, ?_⟩
  refine W2.eqData (.tstrs (get_more hft)) (.tstrs (xs := []) (get_snoc _ _)) (sh_tstrs hfok) (sh_tstrs (fun x hx => nomatch hx)) ?_
  rw [eqv_tstrs]
  refine ⟨_, rfl, ?_⟩
  by_cases he : first = []
  · rw [decide_eq_true he, if_pos rfl]
    rw [if_pos he] at q
    walk_at "vv"
    exact q _ _ ((G1.trans (Grown.app _ _)).trans (Grown.app _ _)) ⟨[], get_snoc _ _, trivial⟩
  · rw [decide_eq_false he, if_neg Bool.false_ne_true]
    rw [if_neg he] at q
    walk_at "vv"
    refine WE.comp rfl (by rfl) ?_
    walk_at "vv"
    have hcs : (cs1 ++ [Cell.tuple []] ++ [Cell.list [V.ref tf]])[h]? = some (.list (heads.map .str)) := get_more (get_more (G1 _ _ hh))
    refine WSL.list hcs rfl rfl (by simp; omega) ?_
    have e1 : pick (heads.map V.str) (V.int 1).part V.none.part = (pick heads (some 1) none).map V.str := pick_map _ _ _ _
    rw [e1]
    have htl := pick_len heads (some 1) none
    revert q htl
    generalize pick heads (some 1) none = tl
    intro q htl
    have hfirst : (cs1 ++ [Cell.tuple []] ++ [Cell.list [V.ref tf]] ++ [Cell.list (tl.map V.str)])[(cs1 ++ [Cell.tuple []]).length]? = some (.list [.ref tf]) := get_more (get_snoc _ _)
    have hft2 : (cs1 ++ [Cell.tuple []] ++ [Cell.list [V.ref tf]] ++ [Cell.list (tl.map V.str)])[tf]? = some (.tuple (first.map .str)) := get_more (get_more (get_more hft))
    have hL : (cs1 ++ [Cell.tuple []] ++ [Cell.list [V.ref tf]] ++ [Cell.list (tl.map V.str)])[(cs1 ++ [Cell.tuple []] ++ [Cell.list [V.ref tf]]).length]? = some (.list (tl.map .str)) := get_snoc _ _
    have G2 : Grown cs (cs1 ++ [Cell.tuple []] ++ [Cell.list [V.ref tf]] ++ [Cell.list (tl.map V.str)]) := ((G1.trans (Grown.app _ _)).trans (Grown.app _ _)).trans (Grown.app _ _)
    generalize (cs1 ++ [Cell.tuple []] ++ [Cell.list [V.ref tf]]).length = L at hL ⊢
    generalize (cs1 ++ [Cell.tuple []]).length = F at hfirst ⊢
    generalize (cs1 ++ [Cell.tuple []] ++ [Cell.list [V.ref tf]] ++ [Cell.list (tl.map V.str)]) = cs2 at hfirst hft2 hL G2 ⊢
    clear hcs
    try dsimp only
    refine ⟨_, _, _, Iter.list _ L (tl.map .str), (fun i acc cs' => Grown cs2 cs' ∧ ∃ ls : List Nat, acc = ls.map V.ref ∧ All2 (fun l x => cs'[l]? = some (.tuple [.str x])) ls (tl.take i)), rfl, rfl, by simp; omega, hL, get_more hL, ⟨Grown.app _ _, [], rfl, trivial⟩, fun i r acc cs' hr hok hacc hJ => ?_, fun acc cs' hok hacc hJ => ?_⟩
    · obtain ⟨g, ls, rfl, hall⟩ := hJ
      rw [List.getElem?_map] at hr
      obtain ⟨x, hx, rfl⟩ := Option.map_eq_some_iff.mp hr
      refine WIF.nil ⟨rfl, ?_⟩
      rw [if_pos rfl]
      walk_at "vv"
      have hne : L ≠ cs2.length := fun z => by have := glt hL; omega
      have g' : Grown cs2 ((cs' ++ [Cell.tuple [V.str x]]).set cs2.length (.list (ls.map V.ref ++ [V.ref cs'.length]))) := (g.trans (Grown.app _ _)).setA (Nat.le_refl _)
      refine ⟨rfl, get_more hacc, g' _ _ hL, g', ls ++ [cs'.length], by simp, ?_⟩
      rw [List.take_add_one, hx]
      refine (hall.mono fun l y e => ?_).append (l' := [cs'.length]) (m' := [x]) ⟨?_, trivial⟩
      · rw [List.getElem?_set_ne]
        · exact get_more e
        · rintro rfl; rw [hacc] at e; cases e
      · have hla := glt hacc
        show ((cs' ++ [Cell.tuple [V.str x]]).set cs2.length (Cell.list (List.map V.ref ls ++ [V.ref cs'.length])))[cs'.length]? = _
        rw [List.getElem?_set_ne]
        · exact get_snoc _ _
        · exact Nat.ne_of_lt hla
    · obtain ⟨g, ls, rfl, hall⟩ := hJ
      rw [List.length_map, List.take_length] at hall
      try dsimp only
      refine W2.addList (xs := [V.ref tf]) (ys := ls.map V.ref) (g _ _ hfirst) hacc (by rw [List.length_map, hall.length]; simp; omega) ?_
      refine q _ _ ((G2.trans g).trans (Grown.app _ _)) ⟨tf :: ls, get_snoc _ _, get_more (g _ _ hft2), ?_⟩
      exact all2_map (R := fun l x => cs'[l]? = some (.tuple [.str x])) (R' := fun l (xs : List Str) => (cs' ++ [Cell.list ([V.ref tf] ++ ls.map V.ref)])[l]? = some (.tuple (xs.map .str))) (f := fun x => [x]) (fun l x e => get_more e) hall
end

local macro_rules | `(tactic| walk_at "a1") => `(tactic| first
  | ((with_reducible show ite (false = true) _ _); rw [if_neg Bool.false_ne_true])
  | ((with_reducible show ite (true = true) _ _); rw [if_pos rfl])
  | ((with_reducible show ite ((!true) = true) _ _); rw [show (!true) = false from rfl, if_neg Bool.false_ne_true])
  | ((with_reducible show ite ((!false) = true) _ _); rw [show (!false) = true from rfl, if_pos rfl]))
section
variable {w : World} {ext : Frag} {fr : List Env} {d : Nat} {cs : List Cell} {Q : V → List Cell → Prop}

theorem ring_spec {r : Nat} {word left : Str} {c : List Str} (hr : cs[r]? = some (.list (c.map .str))) (hl : c.length < 900) (hw : word.length < 900) (ok : RingOk word left c)
    (q : ∀ cs', Grown cs cs' → Q (.bool true) cs') : WCC (cx w ext fr) (d + 1) true (.val (.ref 188)) [.ref r, .str word, .str left] cs Q := by
  refine WCC.fn (f := 188) (ps := ["ring", "word", "left"]) (by rfl) rfl rfl rfl rfl ⟨rfl, rfl, rfl⟩ (by rfl) (fun vals h => ?_) (by decide) (by decide) (by decide) ⟨rfl, rfl, rfl⟩ ?_
  · refine len3 (F := fun vals => bindArgs _ ⟨vals, []⟩) (G := fun vals => pure (List.zip _ vals)) ?_ h; exact fun _ _ _ => rfl
  intro env
  rw [cx_push]
  dsimp only [List.zip_cons_cons, List.zip_nil_right]
  obtain ⟨hlen, hends, hin, honce, hbehind⟩ := ok
  obtain ⟨x0, hx0⟩ : ∃ x, c[0]? = some x := ⟨c[0], by simp⟩
  walk_at "vv"
  rw [show (V.ref r).isNone = false from rfl]
  walk_at "vv"
  refine WE.callB ?_
  refine WE.builtin rfl (g_len w ext) b_len (by decide) (fun _ => VRel.val _ _) ?_
  refine ⟨_, rfl, ?_⟩
  iterate 3 walk_at "v"
  refine WCV.lenList hr (by simp; omega) ?_
  walk_at "vv"
  rw [decide_eq_false (by simp; omega)]
  walk_at "vv"
  refine W2.listItem (r := .str x0) hr (by decide) (by rw [List.getElem?_map, show (0 : Int).toNat = 0 from rfl, hx0]; rfl) (by simp; omega) ?_
  walk_at "vv"
  refine W2.listItemNeg (r := .str x0) hr (by decide) (by simp; omega) (by rw [List.length_map, show (-1 + (c.length : Int)).toNat = c.length - 1 by omega, List.getElem?_map, ← hends, hx0]; rfl) (by simp; omega) ?_
  walk_at "vv"
  rw [bne_self_eq_false]
  walk_at "vv"
  refine WS.for (Iter.range _ cs.length 1 c.length (by omega) (by omega) (by omega) (by omega)) (fun i st => Grown cs st.cells ∧ lkv st.vars "ring" = some (.ref r) ∧ lkv st.vars "word" = some (.str word) ∧ lkv st.vars "left" = some (.str left)) rfl (by walk_at "loc") ?_ ?_ ?_
  · refine WE.callT ?_
    refine WE.builtin rfl (g_range w ext) b_range (by decide) (fun _ => VRel.val _ _) ?_
    refine ⟨_, rfl, ?_⟩
    walk_at "vv"
    refine WE.callB ?_
    refine WE.builtin rfl (g_len w ext) b_len (by decide) (fun _ => VRel.val _ _) ?_
    refine ⟨_, rfl, ?_⟩
    iterate 3 walk_at "v"
    refine WCV.lenList hr (by simp; omega) ?_
    walk_at "v"
    rw [List.length_map]
    refine WCV.range2 ?_
    exact ⟨rfl, get_snoc _ _, Grown.app _ _, by (dsimp only [lkv]; walk_at "lk"), by (dsimp only [lkv]; walk_at "lk"), by (dsimp only [lkv]; walk_at "lk")⟩
  · intro i v st hi hok hJ K kN kC kB kR
    obtain ⟨G, hv1, hv2, hv3⟩ := hJ
    have hil : i < ((c.length : Int) - 1).toNat := by have := (List.getElem?_eq_some_iff.mp hi).1; simpa [rangeList] using this
    have hv : v = .int (1 + i) := by
      unfold rangeList at hi
      rw [List.getElem?_map, List.getElem?_range hil] at hi
      simpa using hi.symm
    subst hv
    obtain ⟨x, hx⟩ : ∃ x, c[i]? = some x := ⟨c[i]'(by omega), by simp⟩
    obtain ⟨y, hy⟩ : ∃ y, c[i + 1]? = some y := ⟨c[i + 1]'(by omega), by simp⟩
    have hr' := G _ _ hr
    have e1 : ((1 : Int) + (i : Int)).toNat = i + 1 := by omega
    walk_at "vv"
    refine W2.listItem (r := .str y) hr' (by omega) (by rw [e1, List.getElem?_map, hy]; rfl) (by simp; omega) ?_
    walk_at "vv"
    rw [hin (i + 1) y (by omega) hy]
    rw [show (!true) = false from rfl]
    walk_at "vv"
    refine W2.listItem (r := .str y) hr' (by omega) (by rw [e1, List.getElem?_map, hy]; rfl) (by simp; omega) ?_
    walk_at "vv"
    refine WSL.list hr' rfl rfl (by simp; omega) ?_
    have e2 : pick (c.map V.str) (V.int (1 + (i : Int) + 1)).part V.none.part = (c.drop (i + 2)).map V.str := by
      have := pick_from (c.map V.str) (i + 2)
      rw [show (V.int (1 + (i : Int) + 1)).part = some (((i + 2 : Nat)) : Int) by show some _ = some _; congr 1; omega, show V.none.part = none from rfl, this, List.map_drop]
    rw [e2]
    try dsimp only
    refine W2.inList (get_snoc _ _) ?_
    rw [show (c.drop (i + 2)).contains y = false by simpa using honce (i + 1) y (by omega) hy]
    walk_at "vv"
    refine W2.listItem (r := .str x) (get_more hr') (by omega) (by rw [show ((1 : Int) + (i : Int) - 1).toNat = i by omega, List.getElem?_map, hx]; rfl) (by simp; omega) ?_
    walk_at "vv"
    refine WE.methB ?_
    walk_at "v"
    refine ⟨_, MethB.str F.slot_str_rfind F.type_str_rfind, ?_⟩
    walk_at "vv"
    refine W2.listItem (r := .str y) (get_more hr') (by omega) (by rw [e1, List.getElem?_map, hy]; rfl) (by simp; omega) ?_
    walk_at "vv"
    refine WCV.rfind ?_
    walk_at "vv"
    refine WSL.str rfl rfl (by omega) ?_
    walk_at "vv"
    have hb := hbehind i x y hx hy
    rw [show (V.none).part = none from rfl, show (V.int (Txt.rfind word y)).part = some (Txt.rfind word y) from rfl, hb]
    rw [show (!true) = false from rfl]
    walk_at "vv"
    exact kN _ ⟨get_more hok, G.trans (Grown.app _ _), by (dsimp only [lkv]; walk_at "lk"), by (dsimp only [lkv]; walk_at "lk"), by (dsimp only [lkv]; walk_at "lk")⟩
  · rintro st hok ⟨G, hv1, hv2, hv3⟩
    walk_at "vv"
    exact q _ G
end

/-- x stands somewhere ahead of y -/
def Bef : List Nat → Nat → Nat → Prop
  | [], _, _ => False
  | c :: l, x, y => (c = x ∧ y ∈ l) ∨ Bef l x y
theorem bef_app {x y : Nat} : ∀ {a b : List Nat}, Bef (a ++ b) x y ↔ Bef a x y ∨ Bef b x y ∨ (x ∈ a ∧ y ∈ b)
  | [], b => by simp [Bef]
  | c :: a, b => by
    rw [List.cons_append, Bef, Bef, bef_app]
    simp only [List.mem_append, List.mem_cons]
    constructor
    · rintro (⟨h1, h2 | h2⟩ | h | h | ⟨h1, h2⟩)
      · exact .inl (.inl ⟨h1, h2⟩)
      · exact .inr (.inr ⟨.inl h1.symm, h2⟩)
      · exact .inl (.inr h)
      · exact .inr (.inl h)
      · exact .inr (.inr ⟨.inr h1, h2⟩)
    · rintro ((⟨h1, h2⟩ | h) | h | ⟨h1 | h1, h2⟩)
      · exact .inl ⟨h1, .inl h2⟩
      · exact .inr (.inl h)
      · exact .inr (.inr (.inl h))
      · exact .inl ⟨h1.symm, .inr h2⟩
      · exact .inr (.inr (.inr ⟨h1, h2⟩))
theorem bef_rep {n c x y : Nat} (h : Bef (List.replicate n c) x y) : x = c ∧ y = c := by
  induction n with
  | zero => exact h.elim
  | succ n ih =>
    rw [List.replicate_succ, Bef] at h
    rcases h with ⟨h1, h2⟩ | h
    · exact ⟨h1.symm, (List.mem_replicate.mp h2).2⟩
    · exact ih h
theorem bef_mem {x y : Nat} : ∀ {l : List Nat}, Bef l x y → x ∈ l ∧ y ∈ l
  | c :: l, h => by
    rcases h with ⟨rfl, h2⟩ | h
    · exact ⟨.head _, .tail _ h2⟩
    · exact ⟨.tail _ (bef_mem h).1, .tail _ (bef_mem h).2⟩
theorem fit1 {y : Nat} {l : List Nat} : Fit [[y]] l ↔ y ∈ l := by
  constructor
  · rintro ⟨u, v, rfl, _⟩; simp
  · intro h
    obtain ⟨u, v, rfl⟩ := List.append_of_mem h
    exact ⟨u, v, by simp, trivial⟩
theorem fit2 {x y : Nat} {l : List Nat} : Fit [[x], [y]] l ↔ Bef l x y := by
  constructor
  · rintro ⟨u, v, rfl, h⟩
    rw [fit1] at h
    rw [List.append_assoc, bef_app]
    exact .inr (.inl (.inl ⟨rfl, h⟩))
  · intro h
    induction l with
    | nil => exact h.elim
    | cons c l ih =>
      rcases h with ⟨rfl, h2⟩ | h
      · exact ⟨[], l, rfl, fit1.mpr h2⟩
      · obtain ⟨u, v, rfl, h3⟩ := ih h
        exact ⟨c :: u, v, by simp, h3⟩

section
variable {l h lf : List Nat}
theorem peel_mem (P : Peel l h lf) : (∀ x, x ∈ l ↔ x ∈ h ∨ x ∈ lf) ∧ (∀ x ∈ h, x ∉ lf) ∧ h.Nodup := by
  induction P with
  | nil => exact ⟨fun x => by simp, by (intro x hx; cases hx), List.nodup_nil⟩
  | stop n c rest h1 h2 => exact ⟨fun x => by simp, by (intro x hx; cases hx), List.nodup_nil⟩
  | go n c rest h l h1 h2 P ih =>
    obtain ⟨i1, i2, i3⟩ := ih
    refine ⟨fun x => ?_, fun x hx => ?_, List.nodup_cons.mpr ⟨fun hm => h2 ((i1 c).mpr (.inl hm)), i3⟩⟩
    · rw [List.mem_append, List.mem_replicate, i1 x, List.mem_cons]
      constructor
      · rintro (⟨_, h⟩ | h | h)
        · exact .inl (.inl h)
        · exact .inl (.inr h)
        · exact .inr h
      · rintro ((h | h) | h)
        · exact .inl ⟨by omega, h⟩
        · exact .inr (.inl h)
        · exact .inr (.inr h)
    · rcases List.mem_cons.mp hx with rfl | hx
      · exact fun hm => h2 ((i1 x).mpr (.inr hm))
      · exact i2 x hx

theorem peel_pred (P : Peel l h lf) : ∀ (n x y : Nat), h[n]? = some y → x ≠ y → Bef l x y → x ∈ h.take n := by
  induction P with
  | nil => intro n x y h; simp at h
  | stop n c rest h1 h2 => intro n x y h; simp at h
  | go k c rest h l h1 h2 P ih =>
    obtain ⟨i1, i2, i3⟩ := peel_mem P
    intro n x y hy hne hb
    rw [bef_app] at hb
    cases n with
    | zero =>
      simp at hy
      subst hy
      rcases hb with hb | hb | ⟨_, hb⟩
      · exact absurd (bef_rep hb).1 hne
      · exact absurd (bef_mem hb).2 h2
      · exact absurd hb h2
    | succ n =>
      have hy' : h[n]? = some y := by simpa using hy
      have hyr : y ∈ rest := (i1 y).mpr (.inl (List.mem_of_getElem? hy'))
      rw [List.take_succ_cons]
      rcases hb with hb | hb | ⟨hb, _⟩
      · exact absurd hyr ((bef_rep hb).2 ▸ h2)
      · exact .tail _ (ih n x y hy' hne hb)
      · rw [(List.mem_replicate.mp hb).2]; exact .head _

theorem peel_order (P : Peel l h lf) : ∀ (i j x y : Nat), h[i]? = some x → h[j]? = some y → i < j → Bef l x y := by
  induction P with
  | nil => intro i j x y h; simp at h
  | stop n c rest h1 h2 => intro i j x y h; simp at h
  | go k c rest h l h1 h2 P ih =>
    obtain ⟨i1, i2, i3⟩ := peel_mem P
    intro i j x y hx hy hij
    cases j with
    | zero => omega
    | succ j =>
      have hy' : h[j]? = some y := by simpa using hy
      rw [bef_app]
      cases i with
      | zero =>
        simp at hx
        subst hx
        exact .inr (.inr ⟨by simp, (i1 y).mpr (.inl (List.mem_of_getElem? hy'))⟩)
      | succ i => exact .inr (.inl (ih i j x y (by simpa using hx) hy' (by omega)))
theorem peel_left (P : Peel l h lf) : ∀ (x y : Nat), x ∈ h → y ∈ lf → Bef l x y := by
  induction P with
  | nil => intro x y h; cases h
  | stop n c rest h1 h2 => intro x y h; cases h
  | go k c rest h l h1 h2 P ih =>
    obtain ⟨i1, i2, i3⟩ := peel_mem P
    intro x y hx hy
    rw [bef_app]
    rcases List.mem_cons.mp hx with rfl | hx
    · exact .inr (.inr ⟨by simp, (i1 y).mpr (.inr hy)⟩)
    · exact .inr (.inl (ih x y hx hy))
theorem peel_in (P : Peel l h lf) : ∀ (x y : Nat), Bef lf x y → Bef l x y := by
  induction P with
  | nil => intro x y h; exact h
  | stop n c rest h1 h2 => intro x y h; exact h
  | go k c rest h l h1 h2 P ih => intro x y hb; rw [bef_app]; exact .inr (.inl (ih x y hb))
theorem peel_stop (P : Peel l h lf) : lf ≠ [] → ∃ n c d r, lf = List.replicate (n + 1) c ++ d :: r ∧ d ≠ c ∧ c ∈ r := by
  induction P with
  | nil => intro h; exact absurd rfl h
  | stop n c rest h1 h2 =>
    intro _
    cases rest with
    | nil => cases h2
    | cons d r =>
      have hd : d ≠ c := fun e => h1 (by rw [e]; rfl)
      exact ⟨n, c, d, r, rfl, hd, (List.mem_cons.mp h2).resolve_left fun e => hd e.symm⟩
  | go k c rest h l h1 h2 P ih => exact ih
theorem peel_two (P : Peel l h lf) (hne : lf ≠ []) : ∃ c d, c ≠ d ∧ Bef l c d ∧ Bef l d c ∧ c ∈ lf ∧ d ∈ lf := by
  obtain ⟨n, c, d, r, e, hd, hc⟩ := peel_stop P hne
  refine ⟨c, d, fun e => hd e.symm, peel_in P _ _ ?_, peel_in P _ _ ?_, ?_, ?_⟩
  · rw [e, bef_app]; exact .inr (.inr ⟨by simp, .head _⟩)
  · rw [e, bef_app]; exact .inr (.inl (.inl ⟨rfl, hc⟩))
  · rw [e]; simp
  · rw [e]; simp

/-- the next that is peeled off -/
theorem peel_next (P : Peel l h lf) (k y : Nat) (hy : y ∈ l) : (y ∉ h.take k ∧ ∀ x, x ≠ y → Bef l x y → x ∈ h.take k) ↔ h[k]? = some y := by
  obtain ⟨i1, i2, i3⟩ := peel_mem P
  constructor
  · rintro ⟨h1, h2⟩
    have hmem : ∀ (j x : Nat), h[j]? = some x → x ∈ h.take k → j < k := fun j x hj hm => by
      obtain ⟨i, hi, e⟩ := List.mem_iff_getElem.mp hm
      rw [List.getElem_take] at e
      rw [List.length_take] at hi
      obtain ⟨hj', e'⟩ := List.getElem?_eq_some_iff.mp hj
      have := (List.getElem_inj i3).mp (e.trans e'.symm)
      omega
    rcases (i1 y).mp hy with hyh | hyl
    · obtain ⟨j, hj, e⟩ := List.mem_iff_getElem.mp hyh
      have hj' : h[j]? = some y := by rw [← e]; simp [hj]
      have hjk : k ≤ j := by
        refine Nat.le_of_not_lt fun hlt => h1 ?_
        rw [← e]
        exact List.mem_iff_getElem.mpr ⟨j, by rw [List.length_take]; omega, by rw [List.getElem_take]⟩
      rcases Nat.lt_or_eq_of_le hjk with hlt | rfl
      · exfalso
        have hk : h[k]? = some h[k] := by simp
        have hne : h[k] ≠ y := fun e' => by
          have := (List.getElem_inj i3).mp (e'.trans e.symm)
          omega
        have := hmem k _ hk (h2 _ hne (peel_order P k j _ _ hk hj' hlt))
        omega
      · exact hj'
    · exfalso
      by_cases hk : k < h.length
      · have hk' : h[k]? = some h[k] := by simp [hk]
        have hkm : h[k] ∈ h := by simp
        have hne : h[k] ≠ y := fun e => i2 _ hkm (e ▸ hyl)
        have := hmem k _ hk' (h2 _ hne (peel_left P _ _ hkm hyl))
        omega
      · obtain ⟨n, c, d, r, e, hd, hc⟩ := peel_stop P (by rintro rfl; cases hyl)
        have htk : h.take k = h := List.take_of_length_le (by omega)
        rw [htk] at h2
        have hnl : ∀ x, x ∈ lf → x ≠ y → Bef lf x y → False := fun x hx hne hb => i2 x (h2 x hne (peel_in P _ _ hb)) hx
        by_cases hyc : y = c
        · subst hyc
          refine hnl d (by rw [e]; simp) hd ?_
          rw [e, bef_app]; exact .inr (.inl (.inl ⟨rfl, hc⟩))
        · refine hnl c (by rw [e]; simp) (fun e' => hyc e'.symm) ?_
          rw [e, bef_app]
          rw [e] at hyl
          rcases List.mem_append.mp hyl with hm | hm
          · exact absurd (List.mem_replicate.mp hm).2 hyc
          · exact .inr (.inr ⟨by simp, hm⟩)
  · intro hk
    refine ⟨fun hm => ?_, fun x hne hb => peel_pred P k x y hk hne hb⟩
    obtain ⟨i, hi, e⟩ := List.mem_iff_getElem.mp hm
    rw [List.getElem_take] at e
    rw [List.length_take] at hi
    obtain ⟨hk', e'⟩ := List.getElem?_eq_some_iff.mp hk
    have := (List.getElem_inj i3).mp (e.trans e'.symm)
    omega

theorem peel_fit (P : Peel l h lf) : Fit (h.map fun c => [c]) l := by
  induction P with
  | nil => trivial
  | stop n c rest h1 h2 => trivial
  | go k c rest h l h1 h2 P ih =>
    refine ⟨[], List.replicate k c ++ rest, by simp [List.replicate_succ], ih.wider _⟩
theorem peel_head (P : Peel l h lf) {c : Nat} {t : List Nat} (e : h = c :: t) : ∃ m, l = c :: m ∧ Fit (t.map fun c => [c]) m := by
  cases P with
  | nil => cases e
  | stop => cases e
  | go k c' rest h' l' h1 h2 P =>
    cases e
    exact ⟨List.replicate k c ++ rest, by simp [List.replicate_succ], (peel_fit P).wider _⟩
theorem heads_match (P : Peel l h lf) (hne : h ≠ []) : MatchP (h.map (fun c => [c]) ++ [[]]) l := by
  obtain ⟨c, t, e⟩ : ∃ c t, h = c :: t := by cases h with | nil => exact absurd rfl hne | cons a b => exact ⟨a, b, rfl⟩
  obtain ⟨m, rfl, hf⟩ := peel_head P e
  rw [e]
  cases t with
  | nil => exact ⟨m, by simp, trivial⟩
  | cons a t =>
    refine ⟨m, ?_, ?_⟩
    · have hl : ∀ (L : List (List Nat)) (h : L ++ [[]] ≠ []), (L ++ [[]]).getLast h = [] := fun L h => by simp
      have := hl ([a] :: t.map fun c => [c]) (by simp)
      show c :: m = [c] ++ m ++ (([a] :: t.map fun c => [c]) ++ [[]]).getLast _
      rw [this]; simp
    · have : ([a] :: (t.map (fun c => [c]) ++ [[]])).dropLast = (a :: t).map fun c => [c] := by
        rw [show ([a] :: (t.map (fun c => [c]) ++ [[]])) = ((a :: t).map fun c => [c]) ++ [[]] by simp, List.dropLast_concat]
      exact this ▸ hf
theorem heads_turned (P : Peel l h lf) (h2 : 2 ≤ h.length) : ¬ MatchP (h.reverse.map (fun c => [c]) ++ [[]]) l := by
  obtain ⟨i1, i2, i3⟩ := peel_mem P
  obtain ⟨c, t, e⟩ : ∃ c t, h = c :: t := by cases h with | nil => simp at h2 | cons a b => exact ⟨a, b, rfl⟩
  obtain ⟨m, rfl, hf⟩ := peel_head P e
  obtain ⟨a, t', et⟩ : ∃ a t', h.reverse = a :: t' := by
    cases hr : h.reverse with
    | nil => have := congrArg List.length hr; simp at this; rw [this] at h2; simp at h2
    | cons a b => exact ⟨a, b, rfl⟩
  have hac : a ≠ c := by
    intro hac
    subst hac
    have hrev : h = t'.reverse ++ [a] := by have := congrArg List.reverse et; simpa using this
    have : a ∈ t := by
      rw [e] at hrev
      cases ht : t'.reverse with
      | nil => rw [ht] at hrev; simp at hrev; rw [e, hrev] at h2; simp at h2
      | cons b u => rw [ht] at hrev; simp at hrev; rw [hrev.2]; simp
    rw [e] at i3
    exact (List.nodup_cons.mp i3).1 this
  rw [et]
  intro hM
  have hM' : MatchP ([a] :: (t'.map (fun c => [c]) ++ [[]])) (c :: m) := hM
  cases ht : t'.map (fun c => [c]) ++ [[]] with
  | nil => simp at ht
  | cons q r =>
    rw [ht] at hM'
    obtain ⟨m', h1, _⟩ := hM'
    simp at h1
    exact hac h1.1.symm
end

/-- what an add gives, the keys known -/
def gP (N : List Str) (L : List (Str × Str)) : List GE := N.map fun z => (z, ((L.countP fun p => p.2 == z : Nat) : Int), (L.filter fun p => p.1 == z).map (·.2))
theorem gP_ins {N : List Str} {L : List (Str × Str)} {x : Str} (hx : x ∈ N) : gIns x (gP N L) = gP N L := by
  unfold gIns
  rw [if_pos]
  rw [List.any_eq_true]
  exact ⟨_, List.mem_map.mpr ⟨x, hx, rfl⟩, by simp⟩
theorem gP_add {N : List Str} {L : List (Str × Str)} {x y : Str} (hx : x ∈ N) (hy : y ∈ N) : gAdd y [x] (gP N L) = gP N (L ++ [(x, y)]) := by
  have h1 : gAdd y [x] (gP N L) = gSu x y (gIns x (gNp y 1 (gIns y (gP N L)))) := rfl
  rw [h1, gP_ins hy]
  have h2 : gIns x (gNp y 1 (gP N L)) = gNp y 1 (gP N L) := by
    unfold gIns
    rw [if_pos]
    rw [List.any_eq_true]
    unfold gNp gP
    rw [List.map_map]
    refine ⟨_, List.mem_map.mpr ⟨x, hx, rfl⟩, ?_⟩
    simp only [Function.comp]
    split <;> simp
  rw [h2]
  unfold gSu gNp gP
  rw [List.map_map, List.map_map]
  apply List.map_congr_left
  intro z hz
  simp only [Function.comp]
  rw [List.countP_append, List.filter_append, List.map_append]
  by_cases e1 : z = y
  · subst e1
    by_cases e2 : z = x
    · subst e2; simp
    · have e2' : x ≠ z := fun h => e2 h.symm
      simp [e2, e2']
  · have e1' : y ≠ z := fun h => e1 h.symm
    by_cases e2 : z = x
    · subst e2; simp [e1, e1']
    · have e2' : x ≠ z := fun h => e2 h.symm
      simp [e1, e1', e2, e2']
theorem gAdd_new {x : Str} {g : List GE} (h : ∀ e ∈ g, e.1 ≠ x) : gAdd x [] g = g ++ [(x, 0, [])] := by
  have h1 : gAdd x [] g = gNp x 0 (gIns x g) := rfl
  rw [h1]
  unfold gIns
  rw [if_neg]
  · unfold gNp
    have : ∀ l : List GE, l.map (fun e => if e.1 = x then (e.1, e.2.1 + 0, e.2.2) else e) = l := fun l => by
      induction l with
      | nil => rfl
      | cons a r ih => rw [List.map_cons, ih]; congr 1; split <;> simp
    exact this _
  · rw [List.any_eq_true]
    rintro ⟨e, he, hx⟩
    exact h e he (of_decide_eq_true hx)
theorem gP_nil (N : List Str) : gP N [] = N.map fun z => (z, 0, []) := by
  unfold gP; simp

/-- all pairs, by the one ahead -/
def pairs1 (N M : List Str) (E : Str → Str → Bool) : List (Str × Str) := M.flatMap fun x => (N.filter (E x)).map fun y => (x, y)
theorem count_mem {z : Str} : ∀ {l : List Str}, l.Nodup → z ∈ l → l.count z = 1
  | x :: l, hn, hz => by
    have hn' := List.nodup_cons.mp hn
    rw [List.count_cons]
    by_cases e : x = z
    · subst e
      rw [List.count_eq_zero.mpr hn'.1]; simp
    · rw [count_mem hn'.2 ((List.mem_cons.mp hz).resolve_left fun h => e h.symm)]
      simp [e]
theorem count_one {N : List Str} (hN : N.Nodup) {z : Str} (hz : z ∈ N) (p : Str → Bool) : (N.filter p).countP (fun y => y == z) = if p z = true then 1 else 0 := by
  have : (N.filter p).countP (fun y => y == z) = (N.filter p).count z := rfl
  rw [this]
  by_cases h : p z = true
  · rw [if_pos h]
    exact count_mem (hN.filter _) (List.mem_filter.mpr ⟨hz, h⟩)
  · rw [if_neg h]
    exact List.count_eq_zero.mpr fun hm => h (List.mem_filter.mp hm).2
theorem pairs1_np {N : List Str} {E : Str → Str → Bool} (hN : N.Nodup) {z : Str} (hz : z ∈ N) : ∀ M : List Str, (pairs1 N M E).countP (fun p => p.2 == z) = M.countP fun x => E x z
  | [] => rfl
  | x :: M => by
    unfold pairs1
    rw [List.flatMap_cons, List.countP_append, List.countP_map, List.countP_cons]
    have := pairs1_np (E := E) hN hz M
    unfold pairs1 at this
    rw [this]
    have h2 := count_one hN hz (E x)
    rw [show ((fun p : Str × Str => p.2 == z) ∘ fun y => (x, y)) = fun y => y == z from rfl, h2]
    omega
theorem pairs1_su {N : List Str} {E : Str → Str → Bool} {z : Str} : ∀ M : List Str, M.Nodup → ((pairs1 N M E).filter fun p => p.1 == z).map (·.2) = if z ∈ M then N.filter (E z) else []
  | [], _ => rfl
  | x :: M, hM => by
    have hM' := List.nodup_cons.mp hM
    unfold pairs1
    rw [List.flatMap_cons, List.filter_append, List.map_append]
    have := pairs1_su (N := N) (E := E) (z := z) M hM'.2
    unfold pairs1 at this
    rw [this]
    by_cases e : x = z
    · subst e
      rw [if_neg hM'.1, if_pos (.head _), List.append_nil]
      rw [List.filter_map, List.map_map]
      have : (N.filter (E x)).filter ((fun p : Str × Str => p.1 == x) ∘ fun y => (x, y)) = N.filter (E x) := by
        apply List.filter_eq_self.mpr
        intro a _; simp
      rw [this]
      simp [Function.comp_def]
    · have h0 : (((N.filter (E x)).map fun y => (x, y)).filter fun p => p.1 == z) = [] := by
        rw [List.filter_eq_nil_iff]
        intro p hp
        obtain ⟨y, _, rfl⟩ := List.mem_map.mp hp
        simp [e]
      rw [h0]
      simp only [List.map_nil, List.nil_append, List.mem_cons]
      have : (z = x ∨ z ∈ M) ↔ z ∈ M := ⟨fun h => h.resolve_left fun h' => e h'.symm, .inr⟩
      simp only [this]
theorem gP_full {N : List Str} {E : Str → Str → Bool} (hN : N.Nodup) : gP N (pairs1 N N E) = kst N E [] [] := by
  unfold gP kst GG
  apply List.map_congr_left
  intro z hz
  rw [pairs1_np hN hz, pairs1_su N hN, if_pos hz]
  simp [npOf]

/-- ring against order -/
theorem finOk_before {su : Str → List Str} {fin : List Str} (F : FinOk su fin) : ∀ {i : Nat} {x y : Str}, fin[i]? = some x → y ∈ su x → ∃ j, j < i ∧ fin[j]? = some y := by
  induction F with
  | nil => intro i x y h; simp at h
  | snoc F hs hx ih =>
    rename_i l z
    intro i x y hi hy
    rcases Nat.lt_trichotomy i l.length with hlt | heq | hgt
    · rw [List.getElem?_append_left hlt] at hi
      obtain ⟨j, hj, e⟩ := ih hi hy
      exact ⟨j, hj, by rw [List.getElem?_append_left (by omega)]; exact e⟩
    · subst heq
      simp at hi
      subst hi
      obtain ⟨j, hj, e⟩ := List.mem_iff_getElem.mp (hs y hy)
      exact ⟨j, hj, by rw [List.getElem?_append_left hj, ← e]; simp [hj]⟩
    · rw [List.getElem?_eq_none (by simp; omega)] at hi; cases hi
theorem finOk_nodup {su : Str → List Str} {fin : List Str} (F : FinOk su fin) : fin.Nodup := by
  induction F with
  | nil => exact List.nodup_nil
  | snoc F hs hx ih => exact List.nodup_append.mpr ⟨ih, by simp, fun a ha b hb e => hx (by rw [List.mem_singleton] at hb; rw [← hb, ← e]; exact ha)⟩
theorem finOk_no_two {su : Str → List Str} {fin : List Str} (F : FinOk su fin) {x y : Str} (hx : x ∈ fin) (h1 : y ∈ su x) (h2 : x ∈ su y) : False := by
  obtain ⟨i, hi, e⟩ := List.mem_iff_getElem.mp hx
  have hi' : fin[i]? = some x := by rw [← e]; simp [hi]
  obtain ⟨j, hj, ej⟩ := finOk_before F hi' h1
  obtain ⟨k, hk, ek⟩ := finOk_before F ej h2
  obtain ⟨hk', ek'⟩ := List.getElem?_eq_some_iff.mp ek
  have := (List.getElem_inj (finOk_nodup F)).mp (ek'.trans e.symm)
  omega

/-- each of a ring's has one ahead of it in the ring -/
theorem ring_pred {su : Str → List Str} {c : List Str} (R : Ring su c) {y : Str} (hy : y ∈ c) : ∃ x ∈ c, y ∈ su x := by
  obtain ⟨p, x, rfl, hh, hn⟩ := R.ex
  have hlast : ∃ z ∈ p ++ [x], x ∈ su z := by
    cases hp : p.reverse with
    | nil => have : p = [] := by simpa using congrArg List.reverse hp
             rw [this] at hh; cases hh
    | cons z t =>
      have hpe : p = t.reverse ++ [z] := by have := congrArg List.reverse hp; simpa using this
      refine ⟨z, by rw [hpe]; simp, R.step t.length z x ?_ ?_⟩
      · rw [hpe]; simp
      · rw [hpe]; simp
  obtain ⟨i, hi, e⟩ := List.mem_iff_getElem.mp hy
  cases i with
  | zero =>
    have : y = x := by
      cases p with
      | nil => cases hh
      | cons a t => simp at hh e; rw [← e, hh]
    rw [this]; exact hlast
  | succ i =>
    exact ⟨(p ++ [x])[i]'(by omega), by simp, R.step i _ y (by simp) (by rw [← e]; simp [hi])⟩
theorem ring_tail {su : Str → List Str} {c : List Str} (R : Ring su c) : c.tail.Nodup := by
  obtain ⟨p, x, rfl, hh, hn⟩ := R.ex
  cases p with
  | nil => cases hh
  | cons a t =>
    simp at hh; subst hh
    have hn' := List.nodup_cons.mp hn
    simp only [List.cons_append, List.tail_cons]
    exact List.nodup_append.mpr ⟨hn'.2, by simp, fun z hz b hb e => hn'.1 (by rw [List.mem_singleton] at hb; rw [← hb, ← e]; exact hz)⟩
theorem ring_ends {su : Str → List Str} {c : List Str} (R : Ring su c) : c[0]? = c[c.length - 1]? := by
  obtain ⟨p, x, rfl, hh, hn⟩ := R.ex
  cases p with
  | nil => cases hh
  | cons a t => simp at hh; subst hh; simp
theorem ring_len {su : Str → List Str} {c : List Str} (R : Ring su c) (irr : ∀ x, x ∉ su x) : 3 ≤ c.length := by
  have he := ring_ends R
  obtain ⟨p, x, rfl, hh, hn⟩ := R.ex
  match p, hh with
  | [a], hh =>
    simp at hh; subst hh
    exact absurd (R.step 0 a a rfl rfl) (irr a)
  | a :: b :: t, _ => simp
theorem ring_once {su : Str → List Str} {c : List Str} (R : Ring su c) : ∀ (k : Nat) (x : Str), 1 ≤ k → c[k]? = some x → x ∉ c.drop (k + 1) := by
  intro k x hk hx hm
  have ht := ring_tail R
  obtain ⟨i, hi, e⟩ := List.mem_iff_getElem.mp hm
  rw [List.getElem_drop] at e
  rw [List.length_drop] at hi
  obtain ⟨k', rfl⟩ : ∃ k', k = k' + 1 := ⟨k - 1, by omega⟩
  have h1 : c.tail[k']? = some x := by rw [List.getElem?_tail]; exact hx
  have h2 : c.tail[k' + 1 + i]? = some x := by
    rw [List.getElem?_tail, ← e]
    rw [List.getElem?_eq_getElem (by omega)]
    congr 2; omega
  obtain ⟨g1, e1⟩ := List.getElem?_eq_some_iff.mp h1
  obtain ⟨g2, e2⟩ := List.getElem?_eq_some_iff.mp h2
  have := (List.getElem_inj ht).mp (e1.trans e2.symm)
  omega

def N4 : List Nat := [99, 97, 100, 98]
def NS : List Str := N4.map ch
def pat (X Y : Str) : Str := dots ++ X ++ dots ++ Y ++ dots
def E1 (l : List Nat) (X Y : Str) : Bool := decide (X ≠ Y) && ematch (pat X Y) (wd l)
theorem n4_iff {c : Nat} : c ∈ N4 ↔ 97 ≤ c ∧ c ≤ 100 := by
  unfold N4; simp only [List.mem_cons, List.not_mem_nil, or_false]; omega
theorem ns_nodup : NS.Nodup := by decide +kernel
theorem ns_mem {y : Str} : y ∈ NS ↔ ∃ c, (97 ≤ c ∧ c ≤ 100) ∧ y = ch c := by
  unfold NS
  rw [List.mem_map]
  constructor
  · rintro ⟨c, hc, rfl⟩; exact ⟨c, n4_iff.mp hc, rfl⟩
  · rintro ⟨c, hc, rfl⟩; exact ⟨c, n4_iff.mpr hc, rfl⟩
theorem pat_wd (x y : Nat) : pat (ch x) (ch y) = wd (jn [[], [x], [y], []]) := by
  unfold pat
  rw [dots_wd]
  simp only [ch, wd_app, jn]
  rfl
theorem ch_inj {x y : Nat} : ch x = ch y ↔ x = y := by
  rw [ch, wd_inj]; simp
theorem e1_irr (l : List Nat) (X : Str) : E1 l X X = false := by unfold E1; simp
theorem e1_iff {l : List Nat} {x y : Nat} (hx : 97 ≤ x ∧ x ≤ 100) (hy : 97 ≤ y ∧ y ≤ 100) : E1 l (ch x) (ch y) = true ↔ x ≠ y ∧ Bef l x y := by
  unfold E1
  rw [Bool.and_eq_true, decide_eq_true_iff, pat_wd, ematch_jn]
  · have h1 : (ch x ≠ ch y) ↔ x ≠ y := not_congr ch_inj
    rw [h1]
    have h2 : MatchP [[], [x], [y], []] l ↔ Bef l x y := by
      constructor
      · rintro ⟨m, hm, hf⟩
        have : l = m := by simpa using hm
        rw [this]; exact fit2.mp hf
      · intro h; exact ⟨l, by simp, fit2.mpr h⟩
    rw [h2]
  · intro p hp
    simp only [List.mem_cons, List.not_mem_nil, or_false] at hp
    rcases hp with rfl | rfl | rfl | rfl <;> simp <;> omega
  · simp

def Abcd' (l : List Nat) : Prop := ∀ c ∈ l, 97 ≤ c ∧ c ≤ 100
section
variable {l h lf : List Nat}
theorem e1_pre (ha : Abcd' l) {y : Nat} (hy : 97 ≤ y ∧ y ≤ 100) {D : List Str} : npOf NS (E1 l) D (ch y) = 0 ↔ ∀ x, x ≠ y → Bef l x y → ch x ∈ D := by
  rw [npOf_zero]
  constructor
  · intro h x hne hb
    have hx := ha x (bef_mem hb).1
    exact h (ch x) (ns_mem.mpr ⟨x, hx, rfl⟩) ((e1_iff hx hy).mpr ⟨hne, hb⟩)
  · intro h X hX he
    obtain ⟨x, hx, rfl⟩ := ns_mem.mp hX
    obtain ⟨h1, h2⟩ := (e1_iff hx hy).mp he
    exact h x h1 h2

/-- what is done when k are peeled off -/
def Sk (l h : List Nat) (k : Nat) (S : List Str) : Prop := ∀ y, 97 ≤ y ∧ y ≤ 100 → (ch y ∈ S ↔ y ∉ l ∨ y ∈ h.take k)

theorem sk_next (P : Peel l h lf) (ha : Abcd' l) {k : Nat} {S : List Str} (hS : Sk l h k S) {y : Nat} (hy : 97 ≤ y ∧ y ≤ 100) : (npOf NS (E1 l) S (ch y) = 0 ∧ ch y ∉ S) ↔ h[k]? = some y := by
  rw [e1_pre ha hy, hS y hy]
  constructor
  · rintro ⟨h1, h2⟩
    have h3 : y ∈ l ∧ y ∉ h.take k := by
      constructor
      · exact Classical.byContradiction fun hn => h2 (.inl hn)
      · exact fun hm => h2 (.inr hm)
    refine (peel_next P k y h3.1).mp ⟨h3.2, fun x hne hb => ?_⟩
    have hx := (bef_mem hb).1
    exact ((hS x (ha x hx)).mp (h1 x hne hb)).resolve_left fun hn => hn hx
  · intro hk
    have hyl : y ∈ l := ((peel_mem P).1 y).mpr (.inl (List.mem_of_getElem? hk))
    obtain ⟨h1, h2⟩ := (peel_next P k y hyl).mpr hk
    refine ⟨fun x hne hb => (hS x (ha x (bef_mem hb).1)).mpr (.inr (h2 x hne hb)), ?_⟩
    rintro (hn | hm)
    · exact hn hyl
    · exact h1 hm

theorem one_of {L : List Str} (hn : L.Nodup) {a : Str} (h : ∀ y, y ∈ L ↔ y = a) : L = [a] := by
  match L, hn with
  | [], _ => exact absurd ((h a).mpr rfl) (by simp)
  | [b], _ => rw [(h b).mp (.head _)]
  | b :: c :: r, hn =>
    have h1 := (h b).mp (.head _)
    have h2 := (h c).mp (.tail _ (.head _))
    subst h1
    exact absurd (List.nodup_cons.mp hn).1 (by rw [h2]; simp)
theorem none_of {L : List Str} (h : ∀ y, y ∉ L) : L = [] := by
  cases L with
  | nil => rfl
  | cons a r => exact absurd (List.mem_cons_self) (h a)

theorem next_one (P : Peel l h lf) (ha : Abcd' l) {k : Nat} {D R : List Str} (K : KInv NS (E1 l) D R) (hS : Sk l h k (D ++ R)) : knext NS (E1 l) D R = (h[k]?.toList).map ch := by
  have K' := K.next ns_nodup
  have hnd := (List.nodup_append.mp K'.nd).2.1
  have hmem : ∀ y, y ∈ knext NS (E1 l) D R ↔ ∃ c, (97 ≤ c ∧ c ≤ 100) ∧ y = ch c ∧ h[k]? = some c := by
    intro y
    constructor
    · intro hy
      obtain ⟨c, hc, rfl⟩ := ns_mem.mp (K'.sub y (List.mem_append_right _ hy))
      refine ⟨c, hc, rfl, (sk_next P ha hS hc).mp ⟨K'.pre _ (List.mem_append_right _ hy), fun hm => (List.nodup_append.mp K'.nd).2.2 _ hm _ hy rfl⟩⟩
    · rintro ⟨c, hc, rfl, hk⟩
      obtain ⟨h1, h2⟩ := (sk_next P ha hS hc).mpr hk
      exact (List.mem_append.mp (K'.all _ (ns_mem.mpr ⟨c, hc, rfl⟩) h1)).resolve_left h2
  cases hk : h[k]? with
  | none => exact none_of fun y hy => by obtain ⟨c, _, _, e⟩ := (hmem y).mp hy; rw [hk] at e; cases e
  | some c =>
    refine one_of hnd fun y => ?_
    rw [hmem]
    constructor
    · rintro ⟨c', _, rfl, e⟩; rw [hk] at e; cases e; rfl
    · rintro rfl
      exact ⟨c, ha c (((peel_mem P).1 c).mpr (.inl (List.mem_of_getElem? hk))), rfl, hk⟩

theorem run_rest (P : Peel l h lf) (ha : Abcd' l) : ∀ (n : Nat) {k : Nat} {D R : List Str}, KInv NS (E1 l) D R → Sk l h k (D ++ R) → (h.drop k).length ≤ n → krun NS (E1 l) n (D ++ R) (knext NS (E1 l) D R) = (h.drop k).map fun c => [ch c]
  | 0, k, D, R, K, hS, hn => by
    have : h.drop k = [] := List.length_eq_zero_iff.mp (by omega)
    rw [this]; rfl
  | n + 1, k, D, R, K, hS, hn => by
    have K' := K.next ns_nodup
    have hx := next_one P ha K hS
    show (if (knext NS (E1 l) D R).isEmpty then [] else knext NS (E1 l) D R :: krun NS (E1 l) n (D ++ R ++ knext NS (E1 l) D R) (knext NS (E1 l) (D ++ R) (knext NS (E1 l) D R))) = _
    cases hk : h[k]? with
    | none =>
      rw [hk] at hx
      rw [hx]
      have : h.drop k = [] := List.drop_eq_nil_of_le (by
        rcases Nat.lt_or_ge k h.length with hl | hl
        · rw [List.getElem?_eq_getElem hl] at hk; cases hk
        · exact hl)
      rw [this]; rfl
    | some c =>
      rw [hk] at hx
      have hd : h.drop k = c :: h.drop (k + 1) := by
        obtain ⟨hl, e⟩ := List.getElem?_eq_some_iff.mp hk
        rw [List.drop_eq_getElem_cons hl, e]
      have hS' : Sk l h (k + 1) ((D ++ R) ++ knext NS (E1 l) D R) := by
        intro y hy
        rw [hx, List.mem_append, hS y hy, List.take_add_one, hk]
        simp only [Option.toList, List.map_cons, List.map_nil, List.mem_singleton, ch_inj, List.mem_append]
        rw [or_assoc]
      rw [run_rest P ha n K' hS' (by rw [hd] at hn; simpa using hn)]
      rw [hx, hd]
      rfl

theorem first_is (P : Peel l h lf) (ha : Abcd' l) {y : Nat} (hy : 97 ≤ y ∧ y ≤ 100) : npOf NS (E1 l) [] (ch y) = 0 ↔ y ∉ l ∨ y ∈ h.take 1 := by
  by_cases hl : y ∈ l
  · rw [e1_pre ha hy]
    have h0 := peel_next P 0 y hl
    simp only [List.take_zero, List.not_mem_nil, not_false_eq_true, true_and] at h0
    have h1 : y ∈ h.take 1 ↔ h[0]? = some y := by cases h <;> simp [eq_comm]
    rw [h1, ← h0]
    simp [hl]
  · have : npOf NS (E1 l) [] (ch y) = 0 := (e1_pre ha hy).mpr fun x _ hb => absurd (bef_mem hb).2 hl
    simp [this, hl]

theorem rounds_due (P : Peel l h lf) (ha : Abcd' l) : krounds NS (E1 l) = if kfirst NS (E1 l) = [] then [] else kfirst NS (E1 l) :: (h.drop 1).map fun c => [ch c] := by
  unfold krounds
  show (if (kfirst NS (E1 l)).isEmpty then [] else kfirst NS (E1 l) :: krun NS (E1 l) NS.length ([] ++ kfirst NS (E1 l)) (knext NS (E1 l) [] (kfirst NS (E1 l)))) = _
  cases hf : kfirst NS (E1 l) with
  | nil => rfl
  | cons a t =>
    rw [← hf, if_neg (by rw [hf]; simp), if_neg (by rw [hf]; simp)]
    congr 1
    refine run_rest P ha NS.length (KInv.first ns_nodup) (fun y hy => ?_) ?_
    · rw [List.nil_append]
      unfold kfirst
      rw [List.mem_filter, beq_iff_eq, first_is P ha hy]
      constructor
      · exact fun h => h.2
      · exact fun h => ⟨ns_mem.mpr ⟨y, hy, rfl⟩, h⟩
    · have h4 : h.length ≤ NS.length := by
        have h1 : (h.map ch).Nodup := by
          have := (peel_mem P).2.2
          rw [List.nodup_iff_pairwise_ne] at this ⊢
          exact List.pairwise_map.mpr (this.imp fun hne e => hne (ch_inj.mp e))
        have := len_le h1 (m := NS) fun x hx => by
          obtain ⟨c, hc, rfl⟩ := List.mem_map.mp hx
          exact ns_mem.mpr ⟨c, ha c (((peel_mem P).1 c).mpr (.inl hc)), rfl⟩
        simpa using this
      rw [List.length_drop]; omega
end

section
variable {l h lf : List Nat}
theorem dueS_is (P : Peel l h lf) (ha : Abcd' l) : dueS (wd l) NS (h.map ch) = krounds NS (E1 l) := by
  rw [rounds_due P ha]
  have e1 : pick (h.map ch) none (some (1 : Int)) = (h.take 1).map ch := (pick_to (h.map ch) 1).trans (by rw [List.map_take])
  have e2 : pick (h.map ch) (some (1 : Int)) none = (h.drop 1).map ch := (pick_from (h.map ch) 1).trans (by rw [List.map_drop])
  have e3 : NS.filter (fun one => !Txt.contains (wd l) one || (pick (h.map ch) none (some 1)).contains one) = kfirst NS (E1 l) := by
    unfold kfirst
    apply List.filter_congr
    intro y hy
    obtain ⟨c, hc, rfl⟩ := ns_mem.mp hy
    rw [wd_has, e1, Bool.eq_iff_iff, beq_iff_eq, first_is P ha hc]
    simp only [Bool.or_eq_true, Bool.not_eq_true', decide_eq_false_iff_not, List.contains_iff_mem, List.mem_map]
    constructor
    · rintro (h1 | ⟨c', h1, h2⟩)
      · exact .inl h1
      · exact .inr (by rw [← ch_inj.mp h2]; exact h1)
    · rintro (h1 | h1)
      · exact .inl h1
      · exact .inr ⟨c, h1, rfl⟩
  unfold dueS
  rw [e3, e2, List.map_map]
  rfl

theorem left_nil (P : Peel l h lf) (ha : Abcd' l) {fin : List Str} (F : FinOk (gSuOf (kst NS (E1 l) [] [])) fin) (hc : ∀ x ∈ NS, x ∈ fin) : lf = [] := by
  refine Classical.byContradiction fun hne => ?_
  obtain ⟨c, d, hcd, h1, h2, hc1, hd1⟩ := peel_two P hne
  have hcl := ha c (bef_mem h1).1
  have hdl := ha d (bef_mem h1).2
  have hcN : ch c ∈ NS := ns_mem.mpr ⟨c, hcl, rfl⟩
  have hdN : ch d ∈ NS := ns_mem.mpr ⟨d, hdl, rfl⟩
  have su : ∀ {x y : Nat}, ch x ∈ NS → ch y ∈ NS → E1 l (ch x) (ch y) = true → ch y ∈ gSuOf (kst NS (E1 l) [] []) (ch x) := fun hx hy he => by
    unfold kst
    rw [gg_su hx]; exact List.mem_filter.mpr ⟨hy, he⟩
  exact finOk_no_two F (hc _ hcN) (su hcN hdN ((e1_iff hcl hdl).mpr ⟨hcd, h1⟩)) (su hdN hcN ((e1_iff hdl hcl).mpr ⟨fun e => hcd e.symm, h2⟩))

theorem su_iff {X Y : Str} : Y ∈ gSuOf (kst NS (E1 l) [] []) X ↔ ∃ x y, X = ch x ∧ Y = ch y ∧ (97 ≤ x ∧ x ≤ 100) ∧ (97 ≤ y ∧ y ≤ 100) ∧ x ≠ y ∧ Bef l x y := by
  constructor
  · intro hY
    by_cases hX : X ∈ NS
    · unfold kst at hY
      rw [gg_su hX] at hY
      obtain ⟨h1, h2⟩ := List.mem_filter.mp hY
      obtain ⟨x, hx, rfl⟩ := ns_mem.mp hX
      obtain ⟨y, hy, rfl⟩ := ns_mem.mp h1
      obtain ⟨h3, h4⟩ := (e1_iff hx hy).mp h2
      exact ⟨x, y, rfl, rfl, hx, hy, h3, h4⟩
    · unfold kst at hY
      rw [gg_su_none hX] at hY; cases hY
  · rintro ⟨x, y, rfl, rfl, hx, hy, h1, h2⟩
    unfold kst
    rw [gg_su (ns_mem.mpr ⟨x, hx, rfl⟩)]
    exact List.mem_filter.mpr ⟨ns_mem.mpr ⟨y, hy, rfl⟩, (e1_iff hx hy).mpr ⟨h1, h2⟩⟩

theorem ring_out (P : Peel l h lf) {c : List Str} (R : Ring (gSuOf (kst NS (E1 l) [] [])) c) : ∀ (n : Nat) (x : Nat), ch x ∈ c → x ∉ h.take n
  | 0, x, _ => by simp
  | n + 1, x, hx => by
    intro hm
    obtain ⟨U, hU, hs⟩ := ring_pred R hx
    obtain ⟨u, x', rfl, e, _, _, hne, hb⟩ := su_iff.mp hs
    have := ch_inj.mp e
    subst this
    rw [List.take_add_one, List.mem_append] at hm
    rcases hm with hm | hm
    · exact ring_out P R n x hx hm
    · have hk : h[n]? = some x := by simpa using hm
      exact ring_out P R n u hU (peel_pred P n u x hk hne hb)

theorem rfind_has {x y : Nat} (hb : Bef l x y) : Txt.contains (Txt.slice (wd l) none (some (Txt.rfind (wd l) (ch y)))) (ch x) = true := by
  have hy := (bef_mem hb).2
  have key : ∃ i, Txt.rfind (wd l) (ch y) = ((i : Nat) : Int) ∧ x ∈ l.take i := by
    unfold Txt.rfind
    rcases StrLaws.last_spec (wd l) (ch y) with ⟨_, hn⟩ | ⟨i, h1, h2, h3⟩
    · exfalso
      obtain ⟨u, v, e⟩ := List.append_of_mem hy
      refine hn u.length ?_
      rw [wd_len]
      exact (wd_at l [y] _ _ (Nat.le_refl _)).mpr ⟨u, v, by rw [List.take_length, e]; simp, rfl⟩
    · rw [h1]
      refine ⟨i, rfl, ?_⟩
      rw [wd_len] at h2 h3
      obtain ⟨u, v, e, rfl⟩ := (wd_at l [y] _ _ (Nat.le_refl _)).mp h2
      rw [List.take_length] at e
      have hyv : y ∉ v := by
        intro hm
        obtain ⟨a, b, ev⟩ := List.append_of_mem hm
        refine h3 ((u ++ [y] ++ a).length) (by simp) ((wd_at l [y] _ _ (Nat.le_refl _)).mpr ⟨u ++ [y] ++ a, b, ?_, rfl⟩)
        rw [List.take_length, e, ev]; simp
      rw [e, bef_app] at hb
      have hxu : x ∈ u := by
        rw [bef_app] at hb
        rcases hb with (hb | hb | ⟨hb, _⟩) | hb | ⟨hb, hb2⟩
        · exact (bef_mem hb).1
        · rcases hb with ⟨_, h⟩ | h
          · cases h
          · exact h.elim
        · exact hb
        · exact absurd (bef_mem hb).2 hyv
        · exact absurd hb2 hyv
      rw [e]; simp [hxu]
  obtain ⟨i, e, hm⟩ := key
  rw [e, wd_to, wd_has]
  exact decide_eq_true hm

theorem ring_ok (P : Peel l h lf) (ha : Abcd' l) {c : List Str} (R : Ring (gSuOf (kst NS (E1 l) [] [])) c) : RingOk (wd l) (wd lf) c := by
  refine ⟨ring_len R fun x hx => ?_, ring_ends R, fun k X hk hX => ?_, ring_once R, fun k X Y hX hY => ?_⟩
  · obtain ⟨a, b, e1, e2, _, _, hne, _⟩ := su_iff.mp hx
    exact hne (ch_inj.mp (e1.symm.trans e2))
  · have hXc := List.mem_of_getElem? hX
    obtain ⟨U, hU, hs⟩ := ring_pred R hXc
    obtain ⟨u, x, rfl, rfl, _, hx, hne, hb⟩ := su_iff.mp hs
    rw [wd_has]
    refine decide_eq_true ?_
    have hxl := (bef_mem hb).2
    refine (((peel_mem P).1 x).mp hxl).resolve_left fun hxh => ?_
    refine ring_out P R h.length x hXc ?_
    rw [List.take_length]; exact hxh
  · obtain ⟨u, x, rfl, rfl, _, hx, hne, hb⟩ := su_iff.mp (R.step k X Y hX hY)
    exact rfind_has hb
theorem ring_left (P : Peel l h lf) {c : List Str} (R : Ring (gSuOf (kst NS (E1 l) [] [])) c) : lf ≠ [] := by
  intro e
  obtain ⟨p, x, hc, hh, _⟩ := R.ex
  have hxc : x ∈ c := by rw [hc]; simp
  obtain ⟨U, hU, hs⟩ := ring_pred R hxc
  obtain ⟨u, z, rfl, rfl, _, hx, hne, hb⟩ := su_iff.mp hs
  have hxl := (bef_mem hb).2
  rcases ((peel_mem P).1 z).mp hxl with hxh | hxl
  · refine ring_out P R h.length z hxc ?_
    rw [List.take_length]; exact hxh
  · rw [e] at hxl; cases hxl
end

theorem join_wd : ∀ (ps : List (List Nat)), Txt.join dots (ps.map wd) = wd (jn ps)
  | [] => by rw [Txt.join, StrLaws.glued_eq_join]; rfl
  | [p] => by rw [Txt.join, StrLaws.glued_eq_join]; rfl
  | p :: q :: r => by
    have ih := join_wd (q :: r)
    rw [Txt.join, StrLaws.glued_eq_join] at ih ⊢
    show wd p ++ dots ++ Str.join dots ((q :: r).map wd) = _
    rw [ih, dots_wd, wd_app, wd_app]
    rfl
theorem chs_ok {hs : List Nat} (h : ∀ c ∈ hs, 97 ≤ c ∧ c ≤ 100) : AllOk (hs.map ch) := fun x hx => by
  obtain ⟨c, hc, rfl⟩ := List.mem_map.mp hx
  have := h c hc
  unfold PyData.strOk
  simp [ch, wd]; omega
theorem join_fits {ys : List Str} (h1 : ∀ y ∈ ys, y.length ≤ 100) (h2 : ys.length ≤ 1000) : JoinOk dots ys = true := by
  unfold JoinOk
  rw [StrLaws.joinTotal]
  have h3 := StrLaws.sumLen_le ys h1
  have h4 : dots.length = 3 := by decide +kernel
  unfold Builtin.Str.tooLong
  rw [sizeLine_eq, h4]
  simp; omega
theorem ready_kst {N : List Str} {E : Str → Str → Bool} : (((kst N E [] []).filter fun e => e.2.1 == 0).map (·.1)) = kfirst N E := by
  unfold kst GG kfirst
  rw [List.filter_map, List.map_map]
  have : (N.filter ((fun e : GE => e.2.1 == 0) ∘ fun y => (y, (fun y => if y ∈ ([] : List Str) then (-2 : Int) else if y ∈ ([] : List Str) then -1 else npOf N E [] y) y, N.filter (E y)))) = N.filter fun y => npOf N E [] y == 0 := by
    apply List.filter_congr
    intro y hy
    simp
  rw [this]
  simp [Function.comp_def]
theorem su_keys {N : List Str} {E : Str → Str → Bool} {x y : Str} (h : y ∈ gSuOf (kst N E [] []) x) : y ∈ N := by
  unfold kst at h
  by_cases hx : x ∈ N
  · rw [gg_su hx] at h; exact (List.mem_filter.mp h).1
  · rw [gg_su_none hx] at h; cases h
theorem pairs1_take {N : List Str} {E : Str → Str → Bool} {i : Nat} {x : Str} (hx : N[i]? = some x) : pairs1 N (N.take (i + 1)) E = pairs1 N (N.take i) E ++ (N.filter (E x)).map fun y => (x, y) := by
  unfold pairs1
  rw [List.take_add_one, hx, List.flatMap_append]
  simp
def hpat (hs : List Nat) : List (List Nat) := hs.map (fun c => [c]) ++ [[]]
theorem hp_join (hs : List Nat) : Txt.join dots (hs.map ch ++ [wd []]) = wd (jn (hpat hs)) := by
  have : hs.map ch ++ [wd []] = (hpat hs).map wd := by unfold hpat; simp
  rw [this, join_wd]
theorem hp_len : ∀ hs : List Nat, (jn (hpat hs)).length = 4 * hs.length
  | [] => rfl
  | c :: t => by
    have ih := hp_len t
    have e : hpat (c :: t) = [c] :: hpat t := rfl
    have hne : hpat t ≠ [] := by unfold hpat; simp
    rw [e, jn_cons _ hne]
    simp [ih]; omega
theorem hp_dot {hs : List Nat} (h : ∀ c ∈ hs, 97 ≤ c ∧ c ≤ 100) : ∀ p ∈ hpat hs, 46 ∉ p := by
  intro p hp
  rcases List.mem_append.mp hp with hp | hp
  · obtain ⟨c, hc, rfl⟩ := List.mem_map.mp hp
    have := h c hc
    simp; omega
  · rw [List.mem_singleton.mp hp]; simp
theorem hp_parts {hs : List Nat} (h : ∀ c ∈ hs, 97 ≤ c ∧ c ≤ 100) : ∀ y ∈ Txt.split (wd (jn (hpat hs))) dots, y.length < 900 := by
  intro y hy
  rw [split_jn _ (hp_dot h) (by unfold hpat; simp)] at hy
  obtain ⟨p, hp, rfl⟩ := List.mem_map.mp hy
  rw [wd_len]
  rcases List.mem_append.mp hp with hp | hp
  · obtain ⟨c, _, rfl⟩ := List.mem_map.mp hp; simp
  · rw [List.mem_singleton.mp hp]; simp
theorem hp_match {l h lf : List Nat} (P : Peel l h lf) (ha : Abcd' l) (hne : h ≠ []) : ematch (wd (jn (hpat h))) (wd l) = true :=
  (ematch_jn _ _ (hp_dot fun c hc => ha c (((peel_mem P).1 c).mpr (.inl hc))) (by unfold hpat; simp)).mpr (heads_match P hne)
theorem hp_turned {l h lf : List Nat} (P : Peel l h lf) (ha : Abcd' l) (h2 : 2 ≤ h.length) : ematch (wd (jn (hpat h.reverse))) (wd l) = false := by
  cases e : ematch (wd (jn (hpat h.reverse))) (wd l) with
  | false => rfl
  | true => exact absurd ((ematch_jn _ _ (hp_dot fun c hc => ha c (((peel_mem P).1 c).mpr (.inl (List.mem_reverse.mp hc)))) (by unfold hpat; simp)).mp e) (heads_turned P h2)
theorem ns_ok : AllOk NS := chs_ok (hs := N4) (by intro c hc; exact n4_iff.mp hc)
theorem rounds_ok {l h lf : List Nat} (P : Peel l h lf) (ha : Abcd' l) : ∀ xs ∈ krounds NS (E1 l), AllOk xs := by
  rw [rounds_due P ha]
  intro xs hxs
  split at hxs
  · cases hxs
  · rcases List.mem_cons.mp hxs with rfl | hxs
    · intro x hx; exact ns_ok x (List.mem_filter.mp hx).1
    · obtain ⟨c, hc, rfl⟩ := List.mem_map.mp hxs
      have : c ∈ l := ((peel_mem P).1 c).mpr (.inl (List.mem_of_mem_drop hc))
      exact chs_ok (hs := [c]) (by intro x hx; rw [List.mem_singleton.mp hx]; exact ha c this)
theorem heads_few {l h lf : List Nat} (P : Peel l h lf) (ha : Abcd' l) : h.length ≤ 4 := by
  have h1 : (h.map ch).Nodup := by
    have := (peel_mem P).2.2
    rw [List.nodup_iff_pairwise_ne] at this ⊢
    exact List.pairwise_map.mpr (this.imp fun hne e => hne (ch_inj.mp e))
  have := len_le h1 (m := NS) fun x hx => by
    obtain ⟨c, hc, rfl⟩ := List.mem_map.mp hx
    exact ns_mem.mpr ⟨c, ha c (((peel_mem P).1 c).mpr (.inl hc)), rfl⟩
  rw [List.length_map] at this
  exact this

section facts
variable (w : World) (ext : Frag) {fr : List Env}
theorem g_match : nsIn (cx w ext fr).K mainGlobals "_ellipsis_match" = some (some (.ref 148)) := by kernel_rfl
theorem g_refused : nsIn (cx w ext fr).K mainGlobals "_law_refused" = some (some (.ref 155)) := by kernel_rfl
theorem g_run : nsIn (cx w ext fr).K mainGlobals "_law_run" = some (some (.ref 162)) := by kernel_rfl
theorem g_word : nsIn (cx w ext fr).K mainGlobals "_law_word" = some (some (.ref 169)) := by kernel_rfl
theorem g_peeled : nsIn (cx w ext fr).K mainGlobals "_law_peeled" = some (some (.ref 176)) := by kernel_rfl
theorem g_due : nsIn (cx w ext fr).K mainGlobals "_law_due" = some (some (.ref 181)) := by kernel_rfl
theorem g_isring : nsIn (cx w ext fr).K mainGlobals "_law_is_ring" = some (some (.ref 188)) := by kernel_rfl
theorem keep_148 : keepIn (cx w ext fr).K (.ref 148) = true := by kernel_rfl
theorem keep_155 : keepIn (cx w ext fr).K (.ref 155) = true := by kernel_rfl
theorem keep_162 : keepIn (cx w ext fr).K (.ref 162) = true := by kernel_rfl
theorem keep_169 : keepIn (cx w ext fr).K (.ref 169) = true := by kernel_rfl
theorem keep_176 : keepIn (cx w ext fr).K (.ref 176) = true := by kernel_rfl
theorem keep_181 : keepIn (cx w ext fr).K (.ref 181) = true := by kernel_rfl
theorem keep_188 : keepIn (cx w ext fr).K (.ref 188) = true := by kernel_rfl
end facts
section
variable {w : World} {ext : Frag} {fr : List Env} {d : Nat} {cs cs0 : List Cell} {Q : V → List Cell → Prop} {a : Nat} {σ : Sg}

/-- the sorter lies behind cs0, and that still stands -/
structure Behind (cs0 cs : List Cell) (a : Nat) (σ : Sg) : Prop where
  srt : Srt cs a σ
  old : Grown cs0 cs
  foot : ∀ k ∈ σ.foot, cs0.length ≤ k
theorem Behind.turned {σ' : Sg} {cs' : List Cell} (b : Behind cs0 cs a σ) (T : Turned a σ cs σ' cs') : Behind cs0 cs' a σ' :=
  ⟨T.srt, fun k c e => T.keep k c (b.old k c e) fun hm => by have := b.foot k hm; have := glt e; omega, fun k hk => (T.grow k hk).elim (b.foot k) fun h => by have := b.old.len; omega⟩
theorem Behind.grown {cs' : List Cell} (b : Behind cs0 cs a σ) (g : Grown cs cs') : Behind cs0 cs' a σ := ⟨b.srt.grown g, b.old.trans g, b.foot⟩
theorem keys_of {N : List Str} (h : σ.g.map (·.1) = N) : σ.ns.map (·.key) = N := by rw [← h]; simp [Sg.g, Function.comp_def]
theorem gP_keys (N : List Str) (L : List (Str × Str)) : (gP N L).map (·.1) = N := by unfold gP; simp [Function.comp_def]

set_option maxHeartbeats 4000000 in
theorem law_walk {s : Nat} {ns : List Int} {o₀ : Obj} (hs : cs[s]? = some (fixList ns o₀)) (hn : ns.length < 100) : WCC (cx w ext fr) (d + 5) true (.val (.ref 195)) [.ref s] cs fun r cs' => r = .bool true ∧ cs'[s]? = some (fixList ns o₀) := by
  refine WCC.fn (f := 195) (ps := ["script"]) (by rfl) rfl rfl rfl rfl ⟨rfl, rfl, rfl⟩ (by rfl) (fun vals h => ?_) (by decide) (by decide) (by decide) ⟨rfl, rfl, rfl⟩ ?_
  · refine len1 (F := fun vals => bindArgs _ ⟨vals, []⟩) (G := fun vals => pure (List.zip _ vals)) ?_ h; exact fun _ => rfl
  intro env
  rw [cx_push]
  dsimp only [List.zip_cons_cons, List.zip_nil_right]
  walk_at "vv"
  refine WE.callK ?_
  refine WE.global rfl (g_word w ext) (fun _ => VRel.val _ _) ?_
  refine ⟨_, rfl, keep_169 w ext, ?_⟩
  walk_at "vv"
  refine (word_spec hs hn fun cs1 l G1 hl ha hlen => ?_).wcv
  walk_at "vv"
  refine ⟨by rw [sizeLine_eq]; simp, ?_⟩
  walk_at "vv"
  have hNS : [V.str "c", V.str "a", V.str "d", V.str "b"] = NS.map V.str := by
    have : NS = ([Str.ofString "c", Str.ofString "a", Str.ofString "d", Str.ofString "b"] : List Str) := by decide +kernel
    rw [this]; rfl
  rw [hNS]
  have hnm : (cs1 ++ [Cell.list (NS.map V.str)])[cs1.length]? = some (.list (NS.map .str)) := get_snoc _ _
  have hs0 : (cs1 ++ [Cell.list (NS.map V.str)])[s]? = some (fixList ns o₀) := get_more (G1 _ _ hs)
  generalize hnmi : cs1.length = nm at hnm ⊢
  generalize (cs1 ++ [Cell.list (NS.map V.str)]) = cs0 at hnm hs0 ⊢
  clear G1 hnmi
  refine WE.callK0 ?_
  refine WE.global rfl (g_Sorter w ext) (fun _ => VRel.val _ _) ?_
  refine ⟨_, rfl, keep_137 w ext, ?_⟩
  refine (newSorter fun cs2 σ S hg hrd hpo hfi hbd hold hfoot hlt => ?_).wcv
  walk_at "vv"
  have B0 : Behind cs0 cs2 (cs0.length + 1) σ := ⟨S, hold, hfoot⟩
  generalize cs0.length + 1 = a at B0 S ⊢
  refine WS.mid (fun f st' => match f with
      | .next => ∃ σ', Behind cs0 st'.cells a σ' ∧ σ'.g = gP NS [] ∧ σ'.rd = none ∧ σ'.po = 0 ∧ σ'.fi = 0 ∧ σ'.bd ≤ 0 ∧ lkv st'.vars "word" = some (.str (wd l)) ∧ lkv st'.vars "names" = some (.ref nm) ∧ lkv st'.vars "sorter" = some (.ref a)
      | _ => False) ?_ ?_
  · intro M hM
    refine WS.for (Iter.list _ nm (NS.map .str)) (fun i st' => ∃ σ', Behind cs0 st'.cells a σ' ∧ σ'.g = (NS.take i).map (fun z => (z, 0, [])) ∧ σ'.rd = none ∧ σ'.po = 0 ∧ σ'.fi = 0 ∧ σ'.bd ≤ 0 ∧ lkv st'.vars "word" = some (.str (wd l)) ∧ lkv st'.vars "names" = some (.ref nm) ∧ lkv st'.vars "sorter" = some (.ref a)) rfl (by walk_at "loc") ?_ ?_ ?_
    · walk_at "v"
      exact ⟨rfl, hold _ _ hnm, σ, B0, by rw [hg]; rfl, hrd, hpo, hfi, by omega, by (dsimp only [lkv]; walk_at "lk"), by (dsimp only [lkv]; walk_at "lk"), by (dsimp only [lkv]; walk_at "lk")⟩
    · intro i v st1 hr hok hJ K kN kC kB kR
      obtain ⟨σ1, B1, g1, r1, p1, f1, b1, hv1, hv2, hv3⟩ := hJ
      rw [List.getElem?_map] at hr
      obtain ⟨X, hX, rfl⟩ := Option.map_eq_some_iff.mp hr
      have hi : i < 4 := (List.getElem?_eq_some_iff.mp hX).1
      have hnsl : σ1.ns.length = i := by
        have := congrArg List.length g1
        simp [Sg.g] at this
        rw [this]
        show min i NS.length = i
        have : NS.length = 4 := rfl
        omega
      iterate 2 walk_at "v"
      refine WE.methF ?_
      walk_at "v"
      refine ⟨87, mAdd B1.srt, keep_87 w ext, ?_⟩
      iterate 3 walk_at "v"
      refine (add_spec B1.srt r1 (x := X) (ps := []) (by simp; omega) (by simp; omega) fun cs3 σ3 T3 g3 r3 p3 f3 b3 => ?_).wcv
      refine ⟨(by intro l z; cases z), (by intro u z; cases z), ?_⟩
      walk_at "v"
      have B3 := B1.turned T3
      refine kN _ ⟨B3.old _ _ hnm, σ3, B3, ?_, r3, by rw [p3, p1], by rw [f3, f1], by simp at b3; omega, by (dsimp only [lkv]; walk_at "lk"), by (dsimp only [lkv]; walk_at "lk"), by (dsimp only [lkv]; walk_at "lk")⟩
      rw [g3, g1, gAdd_new, List.take_add_one, hX]
      · simp
      · intro e he
        obtain ⟨z, hz, rfl⟩ := List.mem_map.mp he
        intro hzX
        simp only at hzX
        subst hzX
        obtain ⟨j, hj, e⟩ := List.mem_iff_getElem.mp hz
        rw [List.getElem_take] at e
        rw [List.length_take] at hj
        obtain ⟨hi', e'⟩ := List.getElem?_eq_some_iff.mp hX
        have := (List.getElem_inj ns_nodup).mp (e.trans e'.symm)
        omega
    · rintro st1 hok ⟨σ1, B1, g1, r1, p1, f1, b1, hv1, hv2, hv3⟩
      refine hM _ _ ⟨σ1, B1, ?_, r1, p1, f1, b1, hv1, hv2, hv3⟩
      rw [g1, gP_nil, List.length_map, List.take_length]
  rintro (_ | _ | _ | v) st1 hJ <;> first | exact hJ.elim | skip
  obtain ⟨σ1, B1, g1, r1, p1, f1, b1, hv1, hv2, hv3⟩ := hJ
  clear B0 S hg hrd hpo hfi hbd hold hfoot hlt
  try dsimp only
  walk_at "v"
  refine WS.mid (fun f st' => match f with
      | .next => ∃ σ', Behind cs0 st'.cells a σ' ∧ σ'.g = kst NS (E1 l) [] [] ∧ σ'.rd = none ∧ σ'.po = 0 ∧ σ'.fi = 0 ∧ σ'.bd ≤ 16 ∧ lkv st'.vars "word" = some (.str (wd l)) ∧ lkv st'.vars "names" = some (.ref nm) ∧ lkv st'.vars "sorter" = some (.ref a)
      | _ => False) ?_ ?_
  · intro M hM
    refine WS.for (Iter.list _ nm (NS.map .str)) (fun i st' => ∃ σ', Behind cs0 st'.cells a σ' ∧ σ'.g = gP NS (pairs1 NS (NS.take i) (E1 l)) ∧ σ'.rd = none ∧ σ'.po = 0 ∧ σ'.fi = 0 ∧ σ'.bd ≤ 4 * i ∧ lkv st'.vars "word" = some (.str (wd l)) ∧ lkv st'.vars "names" = some (.ref nm) ∧ lkv st'.vars "sorter" = some (.ref a)) rfl (by walk_at "loc") ?_ ?_ ?_
    · walk_at "v"
      exact ⟨rfl, B1.old _ _ hnm, σ1, B1, g1, r1, p1, f1, by omega, hv1, hv2, hv3⟩
    · intro i v st2 hr hok hJ K kN kC kB kR
      obtain ⟨σ2, B2, g2, r2, p2, f2, b2, hu1, hu2, hu3⟩ := hJ
      rw [List.getElem?_map] at hr
      obtain ⟨X, hX, rfl⟩ := Option.map_eq_some_iff.mp hr
      have hi : i < 4 := (List.getElem?_eq_some_iff.mp hX).1
      have hXN := List.mem_of_getElem? hX
      obtain ⟨x, hx, rfl⟩ := ns_mem.mp hXN
      walk_at "v"
      refine WS.mid (fun f st' => match f with
          | .next => ∃ σ', Behind cs0 st'.cells a σ' ∧ σ'.g = gP NS (pairs1 NS (NS.take (i + 1)) (E1 l)) ∧ σ'.rd = none ∧ σ'.po = 0 ∧ σ'.fi = 0 ∧ σ'.bd ≤ 4 * (i + 1) ∧ lkv st'.vars "word" = some (.str (wd l)) ∧ lkv st'.vars "names" = some (.ref nm) ∧ lkv st'.vars "sorter" = some (.ref a)
          | _ => False) ?_ ?_
      · intro M2 hM2
        refine WS.for (Iter.list _ nm (NS.map .str)) (fun j st' => ∃ σ', Behind cs0 st'.cells a σ' ∧ σ'.g = gP NS (pairs1 NS (NS.take i) (E1 l) ++ ((NS.take j).filter (E1 l (ch x))).map fun y => (ch x, y)) ∧ σ'.rd = none ∧ σ'.po = 0 ∧ σ'.fi = 0 ∧ σ'.bd ≤ 4 * i + j ∧ lkv st'.vars "word" = some (.str (wd l)) ∧ lkv st'.vars "names" = some (.ref nm) ∧ lkv st'.vars "sorter" = some (.ref a) ∧ lkv st'.vars "x" = some (.str (ch x))) rfl (by walk_at "loc") ?_ ?_ ?_
        · walk_at "v"
          exact ⟨rfl, B2.old _ _ hnm, σ2, B2, by rw [g2]; simp, r2, p2, f2, by omega, by (dsimp only [lkv]; walk_at "lk"), by (dsimp only [lkv]; walk_at "lk"), by (dsimp only [lkv]; walk_at "lk"), by (dsimp only [lkv]; walk_at "lk")⟩
        · intro j v st3 hr hok hJ K2 kN2 kC2 kB2 kR2
          obtain ⟨σ3, B3, g3, r3, p3, f3, b3, hu1, hu2, hu3, hu4⟩ := hJ
          rw [List.getElem?_map] at hr
          obtain ⟨Y, hY, rfl⟩ := Option.map_eq_some_iff.mp hr
          have hj : j < 4 := (List.getElem?_eq_some_iff.mp hY).1
          have hYN := List.mem_of_getElem? hY
          obtain ⟨y, hy, rfl⟩ := ns_mem.mp hYN
          have hkeys : σ3.ns.map (·.key) = NS := keys_of (by rw [g3, gP_keys])
          have hnsl : σ3.ns.length = 4 := by have := congrArg List.length hkeys; rw [List.length_map] at this; exact this
          have hno : E1 l (ch x) (ch y) = false → gP NS (pairs1 NS (NS.take i) (E1 l) ++ ((NS.take (j + 1)).filter (E1 l (ch x))).map fun y => (ch x, y)) = gP NS (pairs1 NS (NS.take i) (E1 l) ++ ((NS.take j).filter (E1 l (ch x))).map fun y => (ch x, y)) := fun he => by
            rw [List.take_add_one, hY, List.filter_append]; simp [he]
          walk_at "v"
          walk_at "vv"
          cases hne : (ch x != ch y) with
          | false =>
            have he : E1 l (ch x) (ch y) = false := by
              have : ch x = ch y := by simpa using hne
              rw [this]; exact e1_irr l _
            walk_at "vv"
            exact kN2 _ ⟨hok, σ3, B3, by rw [g3, hno he], r3, p3, f3, by omega, by (dsimp only [lkv]; walk_at "lk"), by (dsimp only [lkv]; walk_at "lk"), by (dsimp only [lkv]; walk_at "lk"), by (dsimp only [lkv]; walk_at "lk")⟩
          | true =>
            walk_at "vv"
            refine WE.callK ?_
            refine WE.global rfl (g_match w ext) (fun _ => VRel.val _ _) ?_
            refine ⟨_, rfl, keep_148 w ext, ?_⟩
            walk_at "vv"
            have ld : (Str.ofString "...").length = 3 := by decide +kernel
            have lx : (ch x).length = 1 := by rw [wd_len]; rfl
            have ly : (ch y).length = 1 := by rw [wd_len]; rfl
            have la : ∀ A B : Str, (A ++ B).length = A.length + B.length := fun A B => Str.length_append A B
            have hz : ∀ {n : Nat}, n ≤ 100 → n ≤ sizeLine := fun h => by rw [sizeLine_eq]; omega
            refine W2.addStr ?_ (hz (by simp only [ld, lx]; omega))
            walk_at "vv"
            refine W2.addStr ?_ (hz (by simp only [la, ld, lx]; omega))
            walk_at "vv"
            refine W2.addStr ?_ (hz (by simp only [la, ld, lx, ly]; omega))
            walk_at "vv"
            refine W2.addStr ?_ (hz (by simp only [la, ld, lx, ly]; omega))
            walk_at "vv"
            have hpat : (Str.ofString "..." ++ ch x ++ Str.ofString "..." ++ ch y ++ Str.ofString "...") = pat (ch x) (ch y) := rfl
            rw [hpat]
            refine (ematch_spec (by unfold pat; simp only [la, ld, lx, ly, dots]; omega) (by rw [wd_len]; omega) (fun z hz => ?_) fun cs4 G4 => ?_).wcv
            · rw [pat_wd, split_jn _ ?_ (by simp)] at hz
              · simp only [List.map_cons, List.map_nil, List.mem_cons, List.not_mem_nil, or_false] at hz
                rcases hz with rfl | rfl | rfl | rfl <;> rw [wd_len] <;> simp
              · intro p hp
                simp only [List.mem_cons, List.not_mem_nil, or_false] at hp
                rcases hp with rfl | rfl | rfl | rfl <;> simp <;> omega
            have heq : E1 l (ch x) (ch y) = ematch (pat (ch x) (ch y)) (wd l) := by
              have hd : decide (ch x ≠ ch y) = true := by simpa using hne
              unfold E1; rw [hd]; rfl
            rw [← heq]
            have B4 := B3.grown G4
            walk_at "vv"
            cases he : E1 l (ch x) (ch y) with
            | false =>
              walk_at "vv"
              exact kN2 _ ⟨B4.old _ _ hnm, σ3, B4, by rw [g3, hno he], r3, p3, f3, by omega, by (dsimp only [lkv]; walk_at "lk"), by (dsimp only [lkv]; walk_at "lk"), by (dsimp only [lkv]; walk_at "lk"), by (dsimp only [lkv]; walk_at "lk")⟩
            | true =>
              walk_at "vv"
              refine WE.methF ?_
              walk_at "v"
              refine ⟨87, mAdd B4.srt, keep_87 w ext, ?_⟩
              iterate 5 walk_at "v"
              refine (add_spec B4.srt r3 (x := ch y) (ps := [ch x]) (by simp; omega) (by simp; omega) fun cs5 σ5 T5 g5 r5 p5 f5 b5 => ?_).wcv
              refine ⟨(by intro l z; cases z), (by intro u z; cases z), ?_⟩
              walk_at "vv"
              have B5 := B4.turned T5
              refine kN2 _ ⟨B5.old _ _ hnm, σ5, B5, ?_, r5, by rw [p5, p3], by rw [f5, f3], by simp at b5; omega, by (dsimp only [lkv]; walk_at "lk"), by (dsimp only [lkv]; walk_at "lk"), by (dsimp only [lkv]; walk_at "lk"), by (dsimp only [lkv]; walk_at "lk")⟩
              rw [g5, g3, gP_add hXN hYN, List.take_add_one, hY, List.filter_append]
              simp [he]
        · rintro st3 hok ⟨σ3, B3, g3, r3, p3, f3, b3, hu1, hu2, hu3, hu4⟩
          have hl4 : (NS.map V.str).length = NS.length := List.length_map _
          rw [hl4, List.take_length] at g3
          rw [hl4] at b3
          refine hM2 _ _ ⟨σ3, B3, by rw [g3, pairs1_take hX], r3, p3, f3, ?_, hu1, hu2, hu3⟩
          have : NS.length = 4 := rfl
          omega
      · rintro (_ | _ | _ | v) st3 hJ <;> first | exact hJ.elim | skip
        obtain ⟨σ3, B3, g3, r3, p3, f3, b3, hu1, hu2, hu3⟩ := hJ
        walk_at "v"
        exact kN _ ⟨B3.old _ _ hnm, σ3, B3, g3, r3, p3, f3, b3, hu1, hu2, hu3⟩
    · rintro st2 hok ⟨σ2, B2, g2, r2, p2, f2, b2, hu1, hu2, hu3⟩
      have hl4 : (NS.map V.str).length = NS.length := List.length_map _
      rw [hl4, List.take_length] at g2
      rw [hl4] at b2
      exact hM _ _ ⟨σ2, B2, by rw [g2, gP_full ns_nodup], r2, p2, f2, b2, hu1, hu2, hu3⟩
  rintro (_ | _ | _ | v) st2 hJ <;> first | exact hJ.elim | skip
  obtain ⟨σ2, B2, g2, r2, p2, f2, b2, hu1, hu2, hu3⟩ := hJ
  clear B1 g1 r1 p1 f1 b1 hv1 hv2 hv3
  have hkeys : σ2.ns.map (·.key) = NS := keys_of (by rw [g2]; unfold kst GG; simp [Function.comp_def])
  have hsk : ∀ x y, y ∈ gSuOf σ2.g x → y ∈ σ2.ns.map (·.key) := fun x y hy => by rw [hkeys]; rw [g2] at hy; exact su_keys hy
  try dsimp only
  walk_at "v"
  refine WS.mid (fun f st' => match f with
      | .next => ∃ rv, Behind cs0 st'.cells a σ2 ∧ ((rv = .none ∧ ∃ fin, FinOk (gSuOf σ2.g) fin ∧ ∀ x ∈ NS, x ∈ fin) ∨ ∃ r c, rv = .ref r ∧ st'.cells[r]? = some (.list (c.map .str)) ∧ r ∉ σ2.foot ∧ Ring (gSuOf σ2.g) c ∧ c.length < 900) ∧ lkv st'.vars "ring" = some rv ∧ lkv st'.vars "word" = some (.str (wd l)) ∧ lkv st'.vars "names" = some (.ref nm) ∧ lkv st'.vars "sorter" = some (.ref a)
      | _ => False) ?_ ?_
  · intro M hM
    walk_at "v"
    refine WE.methF0 ?_
    walk_at "v"
    refine ⟨127, mFind B2.srt, keep_127 w ext, ?_⟩
    refine (findCycle B2.srt hsk (by omega) (fun cs3 G3 fin => ?_) (fun cs3 r c G3 hr hrl hR hcK => ?_)).wcv
    · obtain ⟨fin, F, hfin⟩ := fin
      try dsimp only
      exact hM _ _ ⟨.none, B2.grown G3, .inl ⟨rfl, fin, F, fun x hx => hfin x (by rw [hkeys]; exact hx)⟩, by (dsimp only [lkv]; walk_at "lk"), by (dsimp only [lkv]; walk_at "lk"), by (dsimp only [lkv]; walk_at "lk"), by (dsimp only [lkv]; walk_at "lk")⟩
    · try dsimp only
      have hcl : c.length < 900 := by
        obtain ⟨p, x, rfl, _, hp⟩ := hR.ex
        have := len_le hp (m := NS) (fun y hy => by rw [← hkeys]; exact hcK y (List.mem_append_left _ hy))
        have h4 : NS.length = 4 := rfl
        simp; omega
      exact hM _ _ ⟨.ref r, B2.grown G3, .inr ⟨r, c, rfl, hr, fun hm => by have := B2.srt.lt _ hm; omega, hR, hcl⟩, by (dsimp only [lkv]; walk_at "lk"), by (dsimp only [lkv]; walk_at "lk"), by (dsimp only [lkv]; walk_at "lk"), by (dsimp only [lkv]; walk_at "lk")⟩
  rintro (_ | _ | _ | v) st3 hJ <;> first | exact hJ.elim | skip
  obtain ⟨rv, B3, hring, hv0, hv1, hv2, hv3⟩ := hJ
  clear B2 hu1 hu2 hu3
  try dsimp only
  walk_at "v"
  refine WS.mid (fun f st' => match f with
      | .next => ∃ b r0, Behind cs0 st'.cells a { σ2 with rd := some (r0, readyOf σ2.g) } ∧ ((b = false ∧ ∃ fin, FinOk (gSuOf σ2.g) fin ∧ ∀ x ∈ NS, x ∈ fin) ∨ (b = true ∧ ∃ c, Ring (gSuOf σ2.g) c)) ∧ (∀ r c, rv = .ref r → st3.cells[r]? = some c → r ∉ σ2.foot → st'.cells[r]? = some c ∧ r ∉ ({ σ2 with rd := some (r0, readyOf σ2.g) } : Sg).foot) ∧ lkv st'.vars "refused" = some (.bool b) ∧ lkv st'.vars "ring" = some rv ∧ lkv st'.vars "word" = some (.str (wd l)) ∧ lkv st'.vars "names" = some (.ref nm) ∧ lkv st'.vars "sorter" = some (.ref a)
      | _ => False) ?_ ?_
  · intro M hM
    walk_at "v"
    refine WE.callK ?_
    refine WE.global rfl (g_refused w ext) (fun _ => VRel.val _ _) ?_
    refine ⟨_, rfl, keep_155 w ext, ?_⟩
    walk_at "vv"
    have keepR : ∀ {cs' : List Cell} {r0 : Nat}, Turned a σ2 st3.cells { σ2 with rd := some (r0, readyOf σ2.g) } cs' → ∀ r c, rv = .ref r → st3.cells[r]? = some c → r ∉ σ2.foot → cs'[r]? = some c ∧ r ∉ ({ σ2 with rd := some (r0, readyOf σ2.g) } : Sg).foot := fun T r c _ e hf => ⟨T.keep r c e hf, fun hm => (T.grow r hm).elim hf fun h => by have := glt e; omega⟩
    refine (refused_spec B3.srt r2 hsk (by omega) (fun cs4 r0 T4 fin => ?_) (fun cs4 r0 c T4 hR hcK => ?_)).wcv
    · obtain ⟨fin, F, hfin⟩ := fin
      try dsimp only
      exact hM _ _ ⟨false, r0, B3.turned T4, .inl ⟨rfl, fin, F, fun x hx => hfin x (by rw [hkeys]; exact hx)⟩, keepR T4, by (dsimp only [lkv]; walk_at "lk"), by (dsimp only [lkv]; walk_at "lk"), by (dsimp only [lkv]; walk_at "lk"), by (dsimp only [lkv]; walk_at "lk"), by (dsimp only [lkv]; walk_at "lk")⟩
    · try dsimp only
      exact hM _ _ ⟨true, r0, B3.turned T4, .inr ⟨rfl, c, hR⟩, keepR T4, by (dsimp only [lkv]; walk_at "lk"), by (dsimp only [lkv]; walk_at "lk"), by (dsimp only [lkv]; walk_at "lk"), by (dsimp only [lkv]; walk_at "lk"), by (dsimp only [lkv]; walk_at "lk")⟩
  rintro (_ | _ | _ | v) st4 hJ <;> first | exact hJ.elim | skip
  obtain ⟨b, r0, B4, href, hkr, hu0, hu1, hu2, hu3, hu4⟩ := hJ
  try dsimp only
  iterate 2 walk_at "v"
  refine WE.callK ?_
  refine WE.global rfl (g_run w ext) (fun _ => VRel.val _ _) ?_
  refine ⟨_, rfl, keep_162 w ext, ?_⟩
  walk_at "vv"
  refine (run_spec (N := NS) (E := E1 l) ns_nodup (e1_irr l) B4.srt g2 (r := r0) (by show some (r0, readyOf σ2.g) = _; rw [g2]; exact congrArg some (congrArg _ ready_kst)) p2 f2 (by decide) (by show σ2.bd < 900; omega) fun cs5 σ5 T5 htl hfoot5 => ?_).wcv
  have B5 := B4.turned T5
  have hring5 : (rv = .none ∧ ∃ fin, FinOk (gSuOf σ2.g) fin ∧ ∀ x ∈ NS, x ∈ fin) ∨ ∃ r c, rv = .ref r ∧ cs5[r]? = some (.list (c.map .str)) ∧ Ring (gSuOf σ2.g) c ∧ c.length < 900 := by
    rcases hring with h | ⟨r, c, e, hr, hf, hR, hcl⟩
    · exact .inl h
    · obtain ⟨g1, g2'⟩ := hkr r _ e hr hf
      exact .inr ⟨r, c, e, T5.keep _ _ g1 g2', hR, hcl⟩
  rw [g2] at hring5 href
  have hnm5 := B5.old _ _ hnm
  have hs5 := B5.old _ _ hs0
  revert htl
  generalize st4.cells.length = rr
  intro htl
  clear B3 B4 T5 hring hkr B5 hfoot5 hsk
  try dsimp only
  walk_at "vv"
  refine WS.unpack2 rfl (by walk_at "loc") (by walk_at "loc") ?_
  refine WE.callK ?_
  refine WE.global rfl (g_peeled w ext) (fun _ => VRel.val _ _) ?_
  refine ⟨_, rfl, keep_176 w ext, ?_⟩
  walk_at "vv"
  refine (peeled_spec (by omega) fun cs6 t h lf G6 ht hhs P => ?_).wcv
  refine ⟨t, _, _, rfl, ht, ?_⟩
  have hB : b = !decide (lf = []) := by
    rcases href with ⟨rfl, fin, F, hfin⟩ | ⟨rfl, c, hR⟩
    · rw [left_nil P ha F hfin]; rfl
    · rw [decide_eq_false (ring_left P hR)]; rfl
  have hrg : (rv = .none ∧ lf = []) ∨ ∃ r c, rv = .ref r ∧ cs6[r]? = some (.list (c.map .str)) ∧ RingOk (wd l) (wd lf) c ∧ c.length < 900 ∧ lf ≠ [] := by
    rcases hring5 with ⟨e, fin, F, hfin⟩ | ⟨r, c, e, hr, hR, hcl⟩
    · exact .inl ⟨e, left_nil P ha F hfin⟩
    · exact .inr ⟨r, c, e, G6 _ _ hr, ring_ok P ha hR, hcl, ring_left P hR⟩
  clear href hring5
  have hnm6 := G6 _ _ hnm5
  have hs6 := G6 _ _ hs5
  have htl6 := htl.grown G6
  have hh6 : cs6[cs5.length]? = some (.list ((h.map ch).map .str)) := by rw [List.map_map]; exact hhs
  generalize cs5.length = hi at hh6 ⊢
  have hhl := heads_few P ha
  have hhok : AllOk (h.map ch) := chs_ok fun c hc => ha c (((peel_mem P).1 c).mpr (.inl hc))
  clear hhs ht
  try dsimp only
  iterate 5 walk_at "v"
  refine WE.callK ?_
  refine WE.global rfl (g_due w ext) (fun _ => VRel.val _ _) ?_
  refine ⟨_, rfl, keep_181 w ext, ?_⟩
  walk_at "vv"
  refine (due_spec hnm6 hh6 (by decide) (by simp; omega) ns_ok fun cs7 rd G7 htl7 => ?_).wcv
  try dsimp only
  rw [dueS_is P ha] at htl7
  have htl6' := htl6.grown G7
  refine W2.neData htl6'.cd htl7.cd (sh_tups (rounds_ok P ha)) (sh_tups (rounds_ok P ha)) ?_
  rw [eqv_ltups, decide_eq_true rfl]
  refine ⟨_, rfl, ?_⟩
  rw [show (!true) = false from rfl]
  walk_at "vv"
  rw [emp_wd, wd_bne]
  rw [hB, bne_self_eq_false]
  walk_at "a1"
  walk_at "v"
  walk_at "a1"
  iterate 2 walk_at "v"
  have hh7 := G7 _ _ hh6
  have hs7 := G7 _ _ hs6
  have hrg7 : (rv = .none ∧ lf = []) ∨ ∃ r c, rv = .ref r ∧ cs7[r]? = some (.list (c.map .str)) ∧ RingOk (wd l) (wd lf) c ∧ c.length < 900 ∧ lf ≠ [] := by
    rcases hrg with h | ⟨r, c, e, hr, h1, h2, h3⟩
    · exact .inl h
    · exact .inr ⟨r, c, e, G7 _ _ hr, h1, h2, h3⟩
  clear hrg hh6 htl6 htl6' htl7 hnm6 hnm5
  refine WS.mid (fun f st' => f = .next ∧ ∃ cs', Grown cs7 cs' ∧ st' = ⟨cs', setv "left" (V.str (wd lf)) (setv "heads" (V.ref hi) (setv "rounds" (V.ref rr) st4.vars))⟩) ?_ ?_
  · intro M hM
    iterate 6 walk_at "v"
    try rw [emp_wd]
    rw [wd_beq]
    walk_at "a1"
    rcases hrg7 with ⟨e1, e2⟩ | ⟨r, c, e1, hr, hok, hcl, hne⟩
    · rw [decide_eq_true e2]
      subst e1
      walk_at "vv"
      rw [show (!V.none.isNone) = false from rfl]
      walk_at "vv"
      exact hM _ _ ⟨rfl, _, Grown.refl _, rfl⟩
    · rw [decide_eq_false hne]
      walk_at "vv"
      exact hM _ _ ⟨rfl, _, Grown.refl _, rfl⟩
  rintro f _ ⟨rfl, cs8, G8, rfl⟩
  try dsimp only
  walk_at "v"
  have hh8 := G8 _ _ hh7
  have hs8 := G8 _ _ hs7
  have hrg8 : (rv = .none ∧ lf = []) ∨ ∃ r c, rv = .ref r ∧ cs8[r]? = some (.list (c.map .str)) ∧ RingOk (wd l) (wd lf) c ∧ c.length < 900 ∧ lf ≠ [] := by
    rcases hrg7 with h | ⟨r, c, e, hr, h1, h2, h3⟩
    · exact .inl h
    · exact .inr ⟨r, c, e, G8 _ _ hr, h1, h2, h3⟩
  clear hrg7 hh7
  refine WS.mid (fun f st' => f = .next ∧ ∃ cs', Grown cs8 cs' ∧ st' = ⟨cs', setv "left" (V.str (wd lf)) (setv "heads" (V.ref hi) (setv "rounds" (V.ref rr) st4.vars))⟩) ?_ ?_
  · intro M hM
    iterate 6 walk_at "v"
    try rw [emp_wd]
    rw [wd_bne]
    walk_at "a1"
    rcases hrg8 with ⟨e1, e2⟩ | ⟨r, c, e1, hr, hok, hcl, hne⟩
    · rw [decide_eq_true e2, show (!true) = false from rfl]
      walk_at "vv"
      exact hM _ _ ⟨rfl, _, Grown.refl _, rfl⟩
    · rw [decide_eq_false hne, show (!false) = true from rfl]
      subst e1
      walk_at "vv"
      refine WE.callK ?_
      refine WE.global rfl (g_isring w ext) (fun _ => VRel.val _ _) ?_
      refine ⟨_, rfl, keep_188 w ext, ?_⟩
      walk_at "vv"
      refine (ring_spec hr hcl (by rw [wd_len]; omega) hok fun cs9 G9 => ?_).wcv
      walk_at "vv"
      exact hM _ _ ⟨rfl, _, G9, rfl⟩
  rintro f _ ⟨rfl, cs9, G9, rfl⟩
  try dsimp only
  walk_at "v"
  have hh9 := G9 _ _ hh8
  have hs9 := G9 _ _ hs8
  clear hrg8 hh8
  have hch : ∀ c ∈ h, 97 ≤ c ∧ c ≤ 100 := fun c hc => ha c (((peel_mem P).1 c).mpr (.inl hc))
  have hchr : ∀ c ∈ h.reverse, 97 ≤ c ∧ c ≤ 100 := fun c hc => hch c (List.mem_reverse.mp hc)
  refine WS.mid (fun f st' => f = .next ∧ ∃ cs', Grown cs9 cs' ∧ st' = ⟨cs', setv "left" (V.str (wd lf)) (setv "heads" (V.ref hi) (setv "rounds" (V.ref rr) st4.vars))⟩) ?_ ?_
  · intro M hM
    iterate 6 walk_at "v"
    refine ⟨Nat.zero_le _, ?_⟩
    try dsimp only
    refine W2.neData (.strs (xs := h.map ch) (get_more hh9)) (.strs (xs := []) (get_snoc _ _)) (sh_strs hhok) (sh_strs (fun x hx => nomatch hx)) ?_
    rw [eqv_lstrs]
    refine ⟨_, rfl, ?_⟩
    by_cases hne : h = []
    · rw [hne]
      rw [show (!decide (([] : List Nat).map ch = [])) = false from rfl]
      walk_at "vv"
      exact hM _ _ ⟨rfl, _, Grown.app _ _, rfl⟩
    · rw [show (!decide (h.map ch = [])) = true by simp [hne]]
      walk_at "vv"
      refine WE.callK ?_
      refine WE.global rfl (g_match w ext) (fun _ => VRel.val _ _) ?_
      refine ⟨_, rfl, keep_148 w ext, ?_⟩
      walk_at "v"
      refine WE.methB ?_
      walk_at "v"
      refine ⟨_, MethB.str F.slot_str_join F.type_str_join, ?_⟩
      walk_at "vv"
      try rw [emp_wd]
      refine W2.addList (xs := (h.map ch).map V.str) (ys := [V.str (wd [])]) (get_more (get_more hh9)) (get_snoc _ _) (by simp; omega) ?_
      rw [show (h.map ch).map V.str ++ [V.str (wd [])] = (h.map ch ++ [wd []]).map V.str by simp]
      walk_at "vv"
      refine WCV.join (x := dots) (get_snoc _ _) (join_fits (fun y hy => ?_) (by simp; omega)) ?_
      · rcases List.mem_append.mp hy with hy | hy
        · obtain ⟨c, _, rfl⟩ := List.mem_map.mp hy
          rw [wd_len]; simp
        · rw [List.mem_singleton.mp hy, wd_len]; simp
      rw [hp_join]
      walk_at "vv"
      refine (ematch_spec (by rw [wd_len, hp_len]; omega) (by rw [wd_len]; omega) (hp_parts hch) fun cs10 G10 => ?_).wcv
      rw [hp_match P ha hne]
      walk_at "vv"
      exact hM _ _ ⟨rfl, _, ((Grown.app _ _).trans ((Grown.app _ _).trans (Grown.app _ _))).trans G10, rfl⟩
  rintro f _ ⟨rfl, cs10, G10, rfl⟩
  try dsimp only
  have hh10 := G10 _ _ hh9
  have hs10 := G10 _ _ hs9
  clear hh9
  walk_at "vv"
  refine WE.callB ?_
  refine WE.builtin rfl (g_len w ext) b_len (by decide) (fun _ => VRel.val _ _) ?_
  refine ⟨_, rfl, ?_⟩
  iterate 3 walk_at "v"
  refine WCV.lenList hh10 (by simp; omega) ?_
  walk_at "vv"
  have hlh : ((h.map ch).map V.str).length = h.length := by simp
  rw [hlh]
  by_cases h2 : 2 ≤ h.length
  · rw [decide_eq_false (by omega), if_neg Bool.false_ne_true]
    walk_at "vv"
    refine WE.callK ?_
    refine WE.global rfl (g_match w ext) (fun _ => VRel.val _ _) ?_
    refine ⟨_, rfl, keep_148 w ext, ?_⟩
    walk_at "v"
    refine WE.methB ?_
    walk_at "v"
    refine ⟨_, MethB.str F.slot_str_join F.type_str_join, ?_⟩
    walk_at "vv"
    refine WSL.listRev hh10 (by rw [hlh]; omega) ?_
    walk_at "vv"
    try rw [emp_wd]
    rw [show ((h.map ch).map V.str).reverse = (h.reverse.map ch).map V.str by simp]
    refine W2.addList (xs := (h.reverse.map ch).map V.str) (ys := [V.str (wd [])]) (get_more (get_snoc _ _)) (get_snoc _ _) (by simp; omega) ?_
    rw [show (h.reverse.map ch).map V.str ++ [V.str (wd [])] = (h.reverse.map ch ++ [wd []]).map V.str by simp]
    walk_at "vv"
    refine WCV.join (x := dots) (get_snoc _ _) (join_fits (fun y hy => ?_) (by simp; omega)) ?_
    · rcases List.mem_append.mp hy with hy | hy
      · obtain ⟨c, _, rfl⟩ := List.mem_map.mp hy
        rw [wd_len]; simp
      · rw [List.mem_singleton.mp hy, wd_len]; simp
    rw [hp_join]
    walk_at "vv"
    refine (ematch_spec (by rw [wd_len, hp_len, List.length_reverse]; omega) (by rw [wd_len]; omega) (hp_parts hchr) fun cs11 G11 => ?_).wcv
    rw [hp_turned P ha h2]
    walk_at "vv"
    exact ⟨rfl, G11 _ _ (get_more (get_more (get_more hs10)))⟩
  · rw [decide_eq_true (by omega), if_pos rfl]
    exact ⟨rfl, hs10⟩
end

theorem h01_law (w : World) : nsIn (cx w [] []).K mainGlobals "law" = some (some (.ref 195)) := by kernel_rfl
theorem h01_nolist (P : Params) : (kFrag P).all (fun p => match p.2.cls with | .type n => n != "list" | _ => true) = true := by kernel_rfl

theorem mem_lookupA {α : Type} {a : Nat} {o : α} : ∀ {l : List (Nat × α)}, l.lookup a = some o → (a, o) ∈ l
  | (b, p) :: r, h => by
    by_cases e : a = b
    · subst e; simp at h; subst h; exact .head _
    · rw [List.lookup_cons] at h
      have : (a == b) = false := by simpa using e
      rw [this] at h
      exact .tail _ (mem_lookupA h)

theorem finish01 {w : World} {s₁ : Shared} {fa l : Addr} {vs : List Value} {ns : List Int} {p : Program} {loose : List Str} {mean : ExcName → Option Value} {mg mb : Str → Option Value} (KX : (kFrag w.params).In s₁.heap) (T : Top p loose mean mg mb s₁.heap) (hmg : mg "law" = some (.ref fa)) (hL : s₁.heap.IsList l vs.toArray) (hI : IntsAre vs ns) (hn : ns.length < 100) (hlo : l ≠ sysModules) :
    wpAny (model Challenge.rw_mq0347_01.row.toRowW.prog w) callerA (call (.ref fa) [.ref l]) (fun v s' => v = .bool true ∧ (∀ b o, s₁.heap.get? b = some o → s'.heap.get? b = some o) ∧ s'.os = s₁.os ∧ s'.gens = s₁.gens) (fun _ _ => False) s₁ := by
  obtain ⟨o₀, ho, hc, n, hd⟩ := hL
  have KX' : (cx w [] []).K.In s₁.heap := by
    show (kFrag w.params ++ []).In s₁.heap
    rw [List.append_nil]; exact KX
  have hfa : fa = 195 := by
    have := mg_of KX' T.g (h01_law w)
    rw [hmg] at this
    injection this with this
    injection this
  subst hfa
  have nsNe : ∀ {a : Addr} {m : Str → Option Value}, s₁.heap.Ns a m → l ≠ a := by
    rintro a m ⟨o, es, ep, e, hdd, _⟩ rfl
    rw [ho] at e; cases e
    rw [hd] at hdd; cases hdd
  have hfree : Free (cx w [] []).K l := by
    refine ⟨?_, nsNe T.g, nsNe T.b, ?_, hlo⟩
    · cases hq : (cx w [] []).K.lookup l with
      | none => rfl
      | some o =>
        exfalso
        have h1 := KX' l o hq
        rw [ho] at h1; cases h1
        have hm : (l, o₀) ∈ kFrag w.params := by
          have := mem_lookupA hq
          have e : (cx w [] []).K = kFrag w.params ++ [] := rfl
          rw [e, List.append_nil] at this; exact this
        have := List.all_eq_true.mp (h01_nolist w.params) _ hm
        simp only [hc] at this
        exact absurd this (by decide)
    · obtain ⟨mc, hmc, _⟩ := T.nolimit
      exact nsNe hmc
  have R : RelC (cx w [] []) [l] [fixList ns o₀] s₁.heap := by
    refine ⟨⟨KX', ⟨mg, T.g⟩, ⟨mb, T.b, T.builtins⟩, T.nolimit⟩, rfl, by simp, fun a ha => by rw [List.mem_singleton.mp ha]; exact hfree, fun k c hk => ?_, fun env he => nomatch he⟩
    match k, hk with
    | 0, hk => cases hk; exact ⟨l, o₀, rfl, ho, [l], List.prefix_refl _, rfl, hc, vs.toArray, n, hd, by simpa using hI⟩
    | k + 1, hk => simp at hk
  have hA : Room (cx w [] []) (0 + 5) true callerA := ⟨rfl, by decide, by decide, fun _ => rfl⟩
  have := (law_walk (w := w) (ext := []) (fr := []) (d := 0) (cs := [fixList ns o₀]) (s := 0) rfl hn).wcv callerA [l] s₁ (.ref 195) [.ref l] hA R rfl ⟨⟨l, rfl, rfl⟩, trivial⟩
  refine wpAny_mono this (fun v s' hv => ?_) fun _ _ x => x
  obtain ⟨φ', r, cs', S, R', hr, rfl, hfix⟩ := hv
  have hl' : φ'[0]? = some l := get_of_prefix S.pre rfl
  refine ⟨hr, fun b o e => ?_, S.sh.2.2, S.sh.1⟩
  by_cases hb : b = l
  · subst hb
    rw [ho] at e; cases e
    exact (fix_at R' hfix hl').1
  · exact S.keep b o e (by simpa using hb) (fun h => nomatch h) (fun h => nomatch h)
end Mine

theorem Mine.reads_in {h : Heap} {a : Addr} {ds : List PyData} {as : List Addr} (r : Reads h (.ref a) (.list ds) as) : a ∈ as := by
  cases r; exact .head _
set_option maxHeartbeats 8000000 in
theorem PySem.Challenge.cw_mq0347_01_holds : PySem.Challenge.rw_mq0347_01.Holds := by
  w_on
  o_law
  refine PySem.W.holds_open (q := Mine.viewQ) (loose := Mine.looseQ) (XP := fun _ _ => True) (YP := Mine.kH.says) Mine.topLeft Mine.kH.of Mine.kH.keeps (fun _ _ => trivial) (fun _ _ _ _ _ => trivial) (by rfl) (by rfl) (by rfl) (fun _ _ => recFacts_nil rfl) rfl (by assumption) (by decide +kernel) ⟨rfl, rfl, rfl, rfl, rfl, by decide +kernel⟩ ?hw ?hc
  case hw => w_witness2
  intro w s₀ s₁ mg mb G Y fa o pm cd doc dV kV ho hd hcd hD hmg hg args vals as hpre hlay hrd hwl hlo
  have KX : (Mine.kFrag w.params).In s₁.heap := Y
  refine Ground.open G ?_
  intro T B D TE TW
  have hlo' := hlo
  wrow_args hpre hlay hrd hwl hlo
  all_goals (
    rename Heap.IsList _ _ _ => hL
    rename IntsAre _ _ => hI
    rename ¬ ((63 : Nat) : Int) < _ => hcnd
    rename Reads _ (Value.ref _) _ _ => hRd
    clear hcd hd hD B TE TW
    refine wpAny_mono (Mine.finish01 KX T hmg hL hI (by omega) ?_) (fun v s' hv => ?_) (fun _ _ x => x.elim)
    · have := hlo' _ (List.mem_append_left _ (Mine.reads_in hRd))
      simpa using this
    · obtain ⟨rfl, hk, hos, hgn⟩ := hv
      exact GoodW.toG ⟨.inl ⟨_, .bool true, [], rfl, fun _ => rfl, .bool true, by kernel_rfl, fun _ => ⟨.nil, fun _ h => nomatch h⟩⟩, hk, hos, by rw [hgn, hg]⟩)
