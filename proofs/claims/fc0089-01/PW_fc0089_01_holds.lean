import PyProof.Rows.All
import Wide.All
import OpenK.AllK
import Wide.FinOn
import PySem.Challenge.RW_fc0089_01
set_option Elab.async false
set_option linter.unusedVariables false
set_option linter.unusedSimpArgs false
set_option maxRecDepth 100000
set_option maxHeartbeats 8000000

set_option maxHeartbeats 8000000
namespace Mine
open PySem PySem.W PyProof.Rows
local macro_rules | `(tactic| o_head ($hk $K $as $e)) => `(tactic| o_head (kmHook $K $as $e [78, 304, 434]))
open_top hd for PySem.Challenge.rw_fc0089_01
end Mine

namespace Mine
open PySem PySem.Calls PyProof.Rows PySem.W

/-- values as trees -/
inductive PV where
  | none
  | bool (b : Bool)
  | int (i : Int)
  | str (s : Str)
  | list (xs : List PV)
  | tup (xs : List PV)
  | range (a b : Int)
  | obj (P : Obj → Prop)
  | inst (C : Addr) (ks : List Str) (fs : List PV)

/-- what an object's own dict says of every name -/
def fieldsOK (ks : List Str) (vs : List Value) (es : List DictEntry) : Prop := ∀ name, getL name es = some ((ks.zip vs).lookup name)

/-- a code's table: the one kind of object that may grow behind one's back -/
def tab (o : Obj) : Bool := match o.cls, o.data with
  | .none, .fields _ => true
  | _, _ => false
/-- what is walked and never held as a value -/
def itCls (o : Obj) : Bool := match o.cls with
  | .type T => T == "list_iterator" || T == "range_iterator" || T == "tuple_iterator" || T == "set_iterator" || T == "generator" || T == "enumerate"
  | _ => false

structure Kp (T : Addr → Prop) (M : Addr → Prop) (G : Nat → Prop) (s s' : Shared) : Prop where
  keep : ∀ b o, ¬ M b → s.heap.get? b = some o → tab o = false → s'.heap.get? b = some o
  live : ∀ b, (s.heap.get? b).isSome = true → (s'.heap.get? b).isSome = true
  tabs : ∀ b o, s.heap.get? b = some o → tab o = true → s'.heap.get? b = some o ∨ (T b ∧ ∃ vs more, o = tabObj vs ∧ s'.heap.get? b = some (tabObj (vs ++ more)) ∧ (TriplesOk vs.toList → TriplesOk (vs ++ more).toList))
  gens : ∀ i x, ¬ G i → s.gens[i]? = some x → s'.gens[i]? = some x
  gsz : s.gens.size ≤ s'.gens.size
  bare : AllBare s.gens → AllBare s'.gens
  drawn : s'.drawn = s.drawn
  os : s'.os = s.os

abbrev No {α : Type} : α → Prop := fun _ => False
abbrev K0 (T : Addr → Prop) := Kp T No No

section
variable {T M M' : Addr → Prop} {G G' : Nat → Prop} {s s' s'' : Shared}

theorem Kp.refl : Kp T M G s s where
  keep := fun _ _ _ h _ => h
  live := fun _ h => h
  tabs := fun _ _ h _ => .inl h
  gens := fun _ _ _ h => h
  gsz := Nat.le_refl _
  bare := fun h => h
  drawn := rfl
  os := rfl

theorem tab_tabObj (vs : Array Value) : tab (tabObj vs) = true := rfl

theorem Kp.trans (x : Kp T M G s s') (y : Kp T M G s' s'') : Kp T M G s s'' where
  keep := fun b o hm h ht => y.keep b o hm (x.keep b o hm h ht) ht
  live := fun b h => y.live b (x.live b h)
  tabs := fun b o h ht => by
    rcases x.tabs b o h ht with h1 | ⟨hT, vs, more, rfl, h1⟩
    · exact y.tabs b o h1 ht
    · rcases y.tabs b _ h1.1 (tab_tabObj _) with h2 | ⟨_, vs', more', e, h2⟩
      · exact .inr ⟨hT, vs, more, rfl, h2, h1.2⟩
      · have e' : vs ++ more = vs' := by
          have := congrArg Obj.data e
          simp only [tabObj, Data.fields.injEq] at this
          exact this
        subst e'
        exact .inr ⟨hT, vs, more ++ more', rfl, by rw [← Array.append_assoc]; exact h2.1, fun q => by rw [← Array.append_assoc]; exact h2.2 (h1.2 q)⟩
  gens := fun i g hG h => y.gens i g hG (x.gens i g hG h)
  gsz := Nat.le_trans x.gsz y.gsz
  bare := fun h => y.bare (x.bare h)
  drawn := y.drawn.trans x.drawn
  os := y.os.trans x.os

theorem Kp.mono (x : Kp T M G s s') (hM : ∀ b, M b → M' b) (hG : ∀ i, G i → G' i) : Kp T M' G' s s' where
  keep := fun b o hm h ht => x.keep b o (fun q => hm (hM b q)) h ht
  live := x.live
  tabs := x.tabs
  gens := fun i g hg h => x.gens i g (fun q => hg (hG i q)) h
  gsz := x.gsz
  bare := x.bare
  drawn := x.drawn
  os := x.os

theorem Kp.of0 (x : K0 T s s') : Kp T M G s s' := x.mono (fun _ h => h.elim) (fun _ h => h.elim)

/-- all old objects are kept (in s' the heap and the tokens alone are new) -/
theorem K0.of_keep {h' : Heap} {tk : Nat} (hk : ∀ b o, s.heap.get? b = some o → h'.get? b = some o) : K0 T s { s with heap := h', toks := tk } where
  keep := fun b o _ h _ => hk b o h
  live := fun b h => by
    obtain ⟨o, ho⟩ := Option.isSome_iff_exists.mp h
    rw [hk b o ho]; rfl
  tabs := fun b o h _ => .inl (hk b o h)
  gens := fun _ _ _ h => h
  gsz := Nat.le_refl _
  bare := fun h => h
  drawn := rfl
  os := rfl

theorem Kp.of_but {a : Addr} {h' : Heap} {tk : Nat} (hs : Heap.SameBut a s.heap h') (hM : M a) (hl : (h'.get? a).isSome = true) (hnt : ∀ o, s.heap.get? a = some o → tab o = false) :
    Kp T M G s { s with heap := h', toks := tk } where
  keep := fun b o hm h _ => (hs.2 b (fun e => hm (e ▸ hM))).trans h
  live := fun b h => by
    by_cases e : b = a
    · subst e; exact hl
    · show (h'.get? b).isSome = true
      rw [hs.2 b e]; exact h
  tabs := fun b o h hb => .inl ((hs.2 b (fun e => by subst e; rw [hnt o h] at hb; cases hb)).trans h)
  gens := fun _ _ _ h => h
  gsz := Nat.le_refl _
  bare := fun h => h
  drawn := rfl
  os := rfl

theorem Kp.tok {n : Nat} (x : Kp T M G s s') : Kp T M G s { s' with toks := n } :=
  ⟨x.keep, x.live, x.tabs, x.gens, x.gsz, x.bare, x.drawn, x.os⟩
theorem K0.toks_ {n : Nat} : K0 T s { s with toks := n } := Kp.refl.tok
theorem K0.of_keeps (x : Keeps s s') : K0 T s s' := by
  obtain ⟨h', tk, rfl, hk⟩ := x
  exact K0.of_keep hk
theorem K0.push (o : Obj) {n : Nat} : K0 T s { s with heap := s.heap.push o, toks := n } := K0.of_keep fun _ _ e => Heap.get?_push_of_some o e

theorem get_lt {h : Heap} {a : Addr} (e : (h.get? a).isSome = true) : a < h.objs.size := by
  obtain ⟨o, ho⟩ := Option.isSome_iff_exists.mp e
  exact Heap.lt_size ho
theorem get_size (h : Heap) : h.get? h.objs.size = none := by
  cases e : h.get? h.objs.size with
  | none => rfl
  | some o => exact absurd (Heap.lt_size e) (Nat.lt_irrefl _)
end

mutual
inductive VR (h : Heap) (X : Addr → Prop) : PV → Value → Prop
  | none : VR h X .none .none
  | bool (b : Bool) : VR h X (.bool b) (.bool b)
  | int (i : Int) (t : Tok) : VR h X (.int i) (.int i t)
  | str (x : Str) (t : Tok) : VR h X (.str x) (.str x t)
  | list {a : Addr} {o : Obj} {n : Nat} {vs : List Value} {xs : List PV} (hX : X a) (ho : h.get? a = some o) (hc : o.cls = .type "list") (hd : o.data = .seq vs.toArray n) (hv : VRs h X xs vs) : VR h X (.list xs) (.ref a)
  | tup {a : Addr} {o : Obj} {n : Nat} {vs : List Value} {xs : List PV} (hX : X a) (ho : h.get? a = some o) (hc : o.cls = .type "tuple") (hd : o.data = .seq vs.toArray n) (hv : VRs h X xs vs) : VR h X (.tup xs) (.ref a)
  | range {r : Addr} {a b : Int} {t u v : Tok} (hX : X r) (hr : IsRange h r a b 1 t u v) : VR h X (.range a b) (.ref r)
  | obj {P : Obj → Prop} {a : Addr} {o : Obj} (hX : X a) (ho : h.get? a = some o) (ht : tab o = false) (hi : itCls o = false) (hP : P o) : VR h X (.obj P) (.ref a)
  | inst {C x dx : Addr} {sl : Array (Option Value)} {es : List DictEntry} {n : Nat} {ks : List Str} {vs : List Value} {fs : List PV} (hX : X x) (hXd : X dx) (hx : h.get? x = some ⟨.ref C, some dx, .plain, sl⟩) (hd : h.get? dx = some (dictOf es n)) (hf : fieldsOK ks vs es) (hv : VRs h X fs vs) : VR h X (.inst C ks fs) (.ref x)
inductive VRs (h : Heap) (X : Addr → Prop) : List PV → List Value → Prop
  | nil : VRs h X [] []
  | cons {p : PV} {v : Value} {ps : List PV} {vs : List Value} : VR h X p v → VRs h X ps vs → VRs h X (p :: ps) (v :: vs)
end

theorem tab_of_cls {o : Obj} {T : String} (h : o.cls = .type T) : tab o = false := by unfold tab; rw [h]

mutual
theorem VR.mono {h h' : Heap} {X X' : Addr → Prop} (hk : ∀ a o, X a → h.get? a = some o → tab o = false → h'.get? a = some o) (hX : ∀ a, X a → X' a) : ∀ {p : PV} {v : Value}, VR h X p v → VR h' X' p v
  | _, _, .none => .none
  | _, _, .bool b => .bool b
  | _, _, .int i t => .int i t
  | _, _, .str x t => .str x t
  | _, _, .list x ho hc hd hv => .list (hX _ x) (hk _ _ x ho (tab_of_cls hc)) hc hd (VRs.mono hk hX hv)
  | _, _, .tup x ho hc hd hv => .tup (hX _ x) (hk _ _ x ho (tab_of_cls hc)) hc hd (VRs.mono hk hX hv)
  | _, _, .range x hr => .range (hX _ x) (hk _ _ x hr rfl)
  | _, _, .obj x ho ht hi hP => .obj (hX _ x) (hk _ _ x ho ht) ht hi hP
  | _, _, .inst x xd hx hd hf hv => .inst (hX _ x) (hX _ xd) (hk _ _ x hx rfl) (hk _ _ xd hd rfl) hf (VRs.mono hk hX hv)
theorem VRs.mono {h h' : Heap} {X X' : Addr → Prop} (hk : ∀ a o, X a → h.get? a = some o → tab o = false → h'.get? a = some o) (hX : ∀ a, X a → X' a) : ∀ {ps : List PV} {vs : List Value}, VRs h X ps vs → VRs h' X' ps vs
  | _, _, .nil => .nil
  | _, _, .cons a b => .cons (VR.mono hk hX a) (VRs.mono hk hX b)
end

section
variable {h h' : Heap} {X X' : Addr → Prop}
theorem VRs.length : ∀ {ps : List PV} {vs : List Value}, VRs h X ps vs → vs.length = ps.length
  | _, _, .nil => rfl
  | _, _, .cons _ b => by simp [VRs.length b]
theorem VRs.get : ∀ {ps : List PV} {vs : List Value}, VRs h X ps vs → ∀ {i : Nat} {p : PV}, ps[i]? = some p → ∃ v, vs[i]? = some v ∧ VR h X p v
  | _, _, .nil, i, p, e => by simp at e
  | _, _, .cons a b, 0, p, e => by simp at e; subst e; exact ⟨_, rfl, a⟩
  | _, _, .cons a b, i + 1, p, e => by simpa using VRs.get b (by simpa using e)
theorem VRs.get' : ∀ {ps : List PV} {vs : List Value}, VRs h X ps vs → ∀ {i : Nat} {v : Value}, vs[i]? = some v → ∃ p, ps[i]? = some p ∧ VR h X p v
  | _, _, .nil, i, p, e => by simp at e
  | _, _, .cons a b, 0, p, e => by simp at e; subst e; exact ⟨_, rfl, a⟩
  | _, _, .cons a b, i + 1, p, e => by simpa using VRs.get' b (by simpa using e)
theorem VRs.append : ∀ {ps : List PV} {vs : List Value} {ps' : List PV} {vs' : List Value}, VRs h X ps vs → VRs h X ps' vs' → VRs h X (ps ++ ps') (vs ++ vs')
  | _, _, _, _, .nil, y => y
  | _, _, _, _, .cons a b, y => .cons a (b.append y)
theorem VRs.snoc {ps : List PV} {vs : List Value} {p : PV} {v : Value} (x : VRs h X ps vs) (y : VR h X p v) : VRs h X (ps ++ [p]) (vs ++ [v]) := x.append (.cons y .nil)
theorem VRs.ints : ∀ {ns : List Int} {vs : List Value}, VRs h X (ns.map .int) vs → IntsAre vs ns
  | [], _, .nil => .nil
  | n :: ns, _, .cons (.int _ t) b => .cons n t (VRs.ints b)
theorem VRs.of_ints : ∀ {ns : List Int} {vs : List Value}, IntsAre vs ns → VRs h X (ns.map .int) vs
  | _, _, .nil => .nil
  | _, _, .cons n t b => .cons (.int n t) (VRs.of_ints b)
theorem VR.isList {xs : List PV} {v : Value} (x : VR h X (.list xs) v) : ∃ a vs, v = .ref a ∧ X a ∧ h.IsList a vs.toArray ∧ VRs h X xs vs := by
  cases x with | list hX ho hc hd hv => exact ⟨_, _, rfl, hX, ⟨_, ho, hc, _, hd⟩, hv⟩
theorem VR.isTup {xs : List PV} {v : Value} (x : VR h X (.tup xs) v) : ∃ a vs, v = .ref a ∧ X a ∧ IsTup h a vs.toArray ∧ VRs h X xs vs := by
  cases x with | tup hX ho hc hd hv => exact ⟨_, _, rfl, hX, ⟨_, ho, hc, _, hd⟩, hv⟩
theorem VR.of_list {xs : List PV} {a : Addr} {vs : List Value} (hX : X a) (hl : h.IsList a vs.toArray) (hv : VRs h X xs vs) : VR h X (.list xs) (.ref a) := by
  obtain ⟨o, ho, hc, n, hd⟩ := hl
  exact .list hX ho hc hd hv
theorem VR.of_tup {xs : List PV} {a : Addr} {vs : List Value} (hX : X a) (hl : IsTup h a vs.toArray) (hv : VRs h X xs vs) : VR h X (.tup xs) (.ref a) := by
  obtain ⟨o, ho, hc, n, hd⟩ := hl
  exact .tup hX ho hc hd hv
end

/-- X with what was made between s and s' -/
def Up (X : Addr → Prop) (s s' : Shared) : Addr → Prop := fun a => X a ∨ (s.heap.get? a = none ∧ (s'.heap.get? a).isSome = true)

section
variable {T M : Addr → Prop} {G : Nat → Prop} {X : Addr → Prop} {s s₁ s₂ : Shared}
theorem Up.of {a : Addr} (h : X a) : Up X s s₁ a := .inl h
theorem VR.up {p : PV} {v : Value} (x : VR s.heap X p v) (k : K0 T s s₁) : VR s₁.heap (Up X s s₁) p v := x.mono (fun a o _ h ht => k.keep a o (fun h => h.elim) h ht) fun _ h => .inl h
theorem VRs.up {p : List PV} {v : List Value} (x : VRs s.heap X p v) (k : K0 T s s₁) : VRs s₁.heap (Up X s s₁) p v := x.mono (fun a o _ h ht => k.keep a o (fun h => h.elim) h ht) fun _ h => .inl h
/-- what was so in s₁, is so in s₂, counted from s -/
theorem VR.step {p : PV} {v : Value} (x : VR s₁.heap (Up X s s₁) p v) (k : K0 T s₁ s₂) : VR s₂.heap (Up X s s₂) p v := x.mono (fun a o _ h ht => k.keep a o (fun h => h.elim) h ht) fun a h => h.imp id fun h => ⟨h.1, k.live a h.2⟩
theorem VRs.step {p : List PV} {v : List Value} (x : VRs s₁.heap (Up X s s₁) p v) (k : K0 T s₁ s₂) : VRs s₂.heap (Up X s s₂) p v := x.mono (fun a o _ h ht => k.keep a o (fun h => h.elim) h ht) fun a h => h.imp id fun h => ⟨h.1, k.live a h.2⟩
/-- what was made from s₁ on was made from s on -/
theorem none_of_K {b : Addr} (k : K0 T s s₁) (h : s₁.heap.get? b = none) : s.heap.get? b = none := by
  cases e : s.heap.get? b with
  | none => rfl
  | some o =>
    have := k.live b (by rw [e]; rfl)
    rw [h] at this; cases this
theorem VR.from {p : PV} {v : Value} (k : K0 T s s₁) (x : VR s₂.heap (Up X s₁ s₂) p v) : VR s₂.heap (Up X s s₂) p v := x.mono (fun _ _ _ h _ => h) fun _ h => h.imp id fun h => ⟨none_of_K k h.1, h.2⟩
theorem VRs.from {p : List PV} {v : List Value} (k : K0 T s s₁) (x : VRs s₂.heap (Up X s₁ s₂) p v) : VRs s₂.heap (Up X s s₂) p v := x.mono (fun _ _ _ h _ => h) fun _ h => h.imp id fun h => ⟨none_of_K k h.1, h.2⟩
theorem VR.up2 {p : PV} {v : Value} (k : K0 T s s₁) (x : VR s₁.heap (Up (Up X s s₁) s₁ s₂) p v) (k' : K0 T s₁ s₂) : VR s₂.heap (Up X s s₂) p v := x.mono (fun a o _ h ht => k'.keep a o (fun h => h.elim) h ht) fun a h => by
  rcases h with (h | h) | h
  · exact .inl h
  · exact .inr ⟨h.1, k'.live a h.2⟩
  · exact .inr ⟨none_of_K k h.1, h.2⟩
end
end Mine

namespace Mine
open PySem PySem.Calls PyProof.Rows PyProof

section
variable {T : Addr → Prop} {s s' : Shared} {h h' : Heap}
theorem K0.get (k : K0 T s s') {a : Addr} {o : Obj} (e : s.heap.get? a = some o) (ht : tab o = false) : s'.heap.get? a = some o := k.keep a o (fun h => h.elim) e ht
theorem tab_dict {o : Obj} {es ep} (h : o.data = .dict es ep) : tab o = false := by unfold tab; rw [h]; cases o.cls <;> rfl
theorem tab_cell {o : Obj} {v} (h : o.data = .cell v) : tab o = false := by unfold tab; rw [h]; cases o.cls <;> rfl
theorem tab_func {o : Obj} {v} (h : o.data = .func v) : tab o = false := by unfold tab; rw [h]; cases o.cls <;> rfl
theorem K0.ns (k : K0 T s s') {a : Addr} {m : Str → Option Value} (x : s.heap.Ns a m) : s'.heap.Ns a m :=
  let ⟨o, es, ep, ho, hd, r⟩ := x; ⟨o, es, ep, k.get ho (tab_dict hd), hd, r⟩
theorem K0.cell (k : K0 T s s') {c : Addr} {v : Option Value} (x : s.heap.IsCell c v) : s'.heap.IsCell c v :=
  let ⟨o, ho, hd⟩ := x; ⟨o, k.get ho (tab_cell hd), hd⟩
theorem K0.isList (k : K0 T s s') {a : Addr} {its : Array Value} (x : s.heap.IsList a its) : s'.heap.IsList a its :=
  let ⟨o, ho, hc, r⟩ := x; ⟨o, k.get ho (tab_of_cls hc), hc, r⟩
end

def VarAt (env : Env) (h : Heap) (x : Str) (v : Value) : Prop :=
  (env.kindOf x = some .local ∧ ∃ m, h.Ns env.locals m ∧ m x = some v) ∨
  ((env.kindOf x = some .cell ∨ env.kindOf x = some .free) ∧ ∃ c, env.cells.lookup x = some c ∧ h.IsCell c (some v))

theorem VarAt.step {T : Addr → Prop} {env : Env} {s s' : Shared} (k : K0 T s s') {x : Str} {v : Value} (a : VarAt env s.heap x v) : VarAt env s'.heap x v := by
  rcases a with ⟨a, m, n, e⟩ | ⟨a, c, l, e⟩
  · exact .inl ⟨a, m, k.ns n, e⟩
  · exact .inr ⟨a, c, l, k.cell e⟩

structure Cx where
  prog : Program
  w : World
  T : Addr → Prop
  A : Around
  env : Env
  X : Addr → Prop
  ρ : List (Str × PV)
  I : Heap → Prop
  Ist : ∀ s s' : Shared, K0 T s s' → I s.heap → I s'.heap
  hh : A.handled = none
  hk : env.scope.kind = .function
  hg : env.globals = mainGlobals
  hb : env.builtins = builtinsNs

structure Cx.Ok (Γ : Cx) (s : Shared) : Prop where
  vars : ∀ x pv, Γ.ρ.lookup x = some pv → ∃ v, VR s.heap Γ.X pv v ∧ VarAt Γ.env s.heap x v
  base : Γ.I s.heap
  live : ∀ a, Γ.X a → (s.heap.get? a).isSome = true

abbrev Cx.M (Γ : Cx) : Model := model Γ.prog Γ.w

def Evals (Γ : Cx) (fr : Bool) (e : Expr) (pv : PV) : Prop :=
  ∀ (E : Value → Shared → Prop) (s : Shared), Γ.Ok s → wpAny Γ.M Γ.A (eval e Γ.env) (fun v s' => K0 Γ.T s s' ∧ VR s'.heap (Up Γ.X s s') pv v ∧ (fr = true → ∀ a, v = .ref a → s.heap.get? a = none)) E s

/-- a test -/
def Tests (Γ : Cx) (e : Expr) (b : Bool) : Prop :=
  ∀ (E : Value → Shared → Prop) (s : Shared), Γ.Ok s → wpAny Γ.M Γ.A (isTrue e Γ.env (eval e Γ.env)) (fun r s' => K0 Γ.T s s' ∧ r = b) E s

/-- a list of expressions, one after the other -/
def EvalsL (Γ : Cx) (es : List Expr) (ps : List PV) : Prop :=
  ∀ (E : Value → Shared → Prop) (s : Shared) (pos : Pos), Γ.Ok s → wpAny Γ.M Γ.A (spliced (backTo pos (starEach es Γ.env))) (fun vs s' => K0 Γ.T s s' ∧ VRs s'.heap (Up Γ.X s s') ps vs) E s

section
variable {Γ : Cx} {s s' : Shared}
theorem Cx.Ok.step (o : Γ.Ok s) (k : K0 Γ.T s s') : Γ.Ok s' where
  vars := fun x pv e => let ⟨v, a, b⟩ := o.vars x pv e; ⟨v, a.mono (fun a o _ e ht => k.get e ht) (fun _ h => h), b.step k⟩
  base := Γ.Ist _ _ k o.base
  live := fun a h => k.live a (o.live a h)

theorem Evals.weak {e : Expr} {p : PV} {fr : Bool} (h : Evals Γ fr e p) : Evals Γ false e p := fun E s o =>
  wpAny_mono (h E s o) (fun _ _ q => ⟨q.1, q.2.1, fun h => nomatch h⟩) fun _ _ e => e

theorem up_scalar {p : PV} {v : Value} {h : Heap} {X X' : Addr → Prop} (hp : match p with | .none | .bool _ | .int _ | .str _ => True | _ => False) (x : VR h X p v) : ∀ h', VR h' X' p v := fun h' => by
  cases x with
  | none => exact .none
  | bool b => exact .bool b
  | int i t => exact .int i t
  | str x t => exact .str x t
  | list => exact hp.elim
  | tup => exact hp.elim
  | range => exact hp.elim
  | obj => exact hp.elim
  | inst => exact hp.elim

theorem load_var {x : Str} {v : Value} {E : Value → Shared → Prop} {Q : Value → Shared → Prop} (a : VarAt Γ.env s.heap x v) (h : Q v s) (hc : (x == ("__classdict__" : Str)) = false := by decide) :
    wpAny Γ.M Γ.A (loadName Γ.env x) Q E s := by
  rcases a with ⟨a, m, n, e⟩ | ⟨a | a, c, l, e⟩
  · exact wpAny_loadName_local Γ.hk a n e h
  · exact wpAny_loadName_cell Γ.hk a l e h
  · exact wpAny_loadName_free Γ.hk a l e h hc

theorem Evals.name {x : Str} {pos : Pos} {pv : PV} (hx : Γ.ρ.lookup x = some pv) (hd : (x == ("__debug__" : Str)) = false := by decide) (hc : (x == ("__classdict__" : Str)) = false := by decide) :
    Evals Γ false (.Name x pos) pv := fun E s o => by
  obtain ⟨v, a, b⟩ := o.vars x pv hx
  exact wpAny_Name (load_var (Γ := Γ) b ⟨Kp.refl, a.up (T := Γ.T) Kp.refl, fun h => nomatch h⟩ hc) hd

theorem Evals.int {i : Int} {k : Nat} {pos : Pos} : Evals Γ true (.Constant (.int i) k pos) (.int i) := fun _ _ _ => wpAny_Constant_int ⟨K0.toks_, .int i _, fun _ _ h => nomatch h⟩
theorem Evals.str {x : Str} {k : Nat} {pos : Pos} : Evals Γ true (.Constant (.str x) k pos) (.str x) := fun _ _ _ => Constant_str ⟨K0.toks_, .str x _, fun _ _ h => nomatch h⟩
theorem Evals.bool {b : Bool} {k : Nat} {pos : Pos} : Evals Γ true (.Constant (.bool b) k pos) (.bool b) := fun _ _ _ => wpAny_Constant_bool ⟨Kp.refl, .bool b, fun _ _ h => nomatch h⟩
theorem Evals.cnone {k : Nat} {pos : Pos} : Evals Γ true (.Constant .none k pos) .none := fun _ _ _ => wpAny_Constant_none ⟨Kp.refl, .none, fun _ _ h => nomatch h⟩

/-- two expressions, then a step upon their values -/
theorem evals_two {l r : Expr} {p q : PV} {f₁ f₂ : Bool} {E : Value → Shared → Prop} {s : Shared} {α : Type} {tree : Value → Value → Sem α} {Q : α → Shared → Prop} (o : Γ.Ok s) (hl : Evals Γ f₁ l p) (hr : Evals Γ f₂ r q)
    (h : ∀ a b s₂, K0 Γ.T s s₂ → VR s₂.heap (Up Γ.X s s₂) p a → VR s₂.heap (Up Γ.X s s₂) q b → wpAny Γ.M Γ.A (tree a b) Q E s₂) :
    wpAny Γ.M Γ.A (eval l Γ.env) (fun a s₁ => wpAny Γ.M Γ.A (eval r Γ.env) (fun b s₂ => wpAny Γ.M Γ.A (tree a b) Q E s₂) E s₁) E s :=
  wpAny_mono (hl E s o) (fun a s₁ h₁ => wpAny_mono (hr E s₁ (o.step h₁.1)) (fun b s₂ h₂ => h a b s₂ (h₁.1.trans h₂.1) (h₁.2.1.step h₂.1) (h₂.2.1.from h₁.1)) fun _ _ e => e) fun _ _ e => e

theorem binop_int {l r : Expr} {op : Operator} {a b c : Int} {f₁ f₂ : Bool} {pos : Pos} (hl : Evals Γ f₁ l (.int a)) (hr : Evals Γ f₂ r (.int b))
    (h : ∀ {t u : Tok} {Q : Value → Shared → Prop} {E : Value → Shared → Prop} {s : Shared}, Q (.int c s.toks) { s with toks := s.toks + 1 } → wpAny Γ.M Γ.A (binaryOp op (.int a t) (.int b u)) Q E s) :
    Evals Γ true (.BinOp l op r pos) (.int c) := fun E s o =>
  wpAny_BinOp (evals_two o hl hr fun x y s₂ k hx hy => by
    cases hx; cases hy
    exact h ⟨k.tok, .int _ _, fun _ _ h => nomatch h⟩)

theorem Evals.add {l r : Expr} {a b : Int} {f₁ f₂ : Bool} {pos : Pos} (hl : Evals Γ f₁ l (.int a)) (hr : Evals Γ f₂ r (.int b)) : Evals Γ true (.BinOp l .Add r pos) (.int (a + b)) := binop_int hl hr fun h => wpAny_add_int h
theorem Evals.sub {l r : Expr} {a b : Int} {f₁ f₂ : Bool} {pos : Pos} (hl : Evals Γ f₁ l (.int a)) (hr : Evals Γ f₂ r (.int b)) : Evals Γ true (.BinOp l .Sub r pos) (.int (a - b)) := binop_int hl hr fun h => sub_int' h
theorem Evals.mul {l r : Expr} {a b : Int} {f₁ f₂ : Bool} {pos : Pos} (hl : Evals Γ f₁ l (.int a)) (hr : Evals Γ f₂ r (.int b)) (hm : (-(2 ^ 62) < a ∧ a < 2 ^ 62) ∨ (-(2 ^ 62) < b ∧ b < 2 ^ 62)) : Evals Γ true (.BinOp l .Mult r pos) (.int (a * b)) :=
  binop_int hl hr fun h => mul_int h (by
    rcases hm with hm | hm
    · exact IntMulOk.of_left (intBits_le_64 (by omega) (by omega))
    · exact IntMulOk.of_right (intBits_le_64 (by omega) (by omega)))
theorem Evals.fdiv {l r : Expr} {a b : Int} {f₁ f₂ : Bool} {pos : Pos} (hl : Evals Γ f₁ l (.int a)) (hr : Evals Γ f₂ r (.int b)) (hb : 0 < b ∧ b < 1073741824) : Evals Γ true (.BinOp l .FloorDiv r pos) (.int (a.fdiv b)) := binop_int hl hr fun h => floordiv_int (by omega) h (Or.inl (noPylong_small (by omega)))
theorem Evals.fmod {l r : Expr} {a b : Int} {f₁ f₂ : Bool} {pos : Pos} (hl : Evals Γ f₁ l (.int a)) (hr : Evals Γ f₂ r (.int b)) (hb : 0 < b ∧ b < 1073741824) : Evals Γ true (.BinOp l .Mod r pos) (.int (a.fmod b)) := binop_int hl hr fun h => mod_int' (by omega) h

theorem Evals.neg {l : Expr} {a : Int} {f₁ : Bool} {pos : Pos} (hl : Evals Γ f₁ l (.int a)) : Evals Γ true (.UnaryOp .USub l pos) (.int (-a)) := fun E s o =>
  wpAny_UnaryOp (wpAny_mono (hl E s o) (fun v s₁ h => by
    obtain ⟨k, hv, _⟩ := h
    cases hv
    exact neg_int ⟨k.tok, .int _ _, fun _ _ h => nomatch h⟩) fun _ _ e => e)

/-- what a comparison gives -/
def CmpSem (Γ : Cx) (op : CmpOp) (p q : PV) (b : Bool) : Prop :=
  ∀ (X : Addr → Prop) (x y : Value) (Q : Value → Shared → Prop) (E : Value → Shared → Prop) (s : Shared), VR s.heap X p x → VR s.heap X q y → (∀ s', K0 Γ.T s s' → Q (.bool b) s') → wpAny Γ.M Γ.A (compareOp op x y) Q E s

theorem Evals.cmp {l r : Expr} {op : CmpOp} {p q : PV} {f₁ f₂ b : Bool} {pos : Pos} (hc : CmpSem Γ op p q b) (hl : Evals Γ f₁ l p) (hr : Evals Γ f₂ r q) (hm : behindInMarks op r = false := by with_unfolding_all rfl) :
    Evals Γ true (.Compare l [op] [r] pos) (.bool b) := fun E s o =>
  wpAny_Compare1 (evals_two o hl hr fun x y s₂ k hx hy => hc _ x y _ _ _ hx hy fun s₃ k' => ⟨k.trans k', .bool b, fun _ _ h => nomatch h⟩) hm
theorem Tests.cmp {l r : Expr} {op : CmpOp} {p q : PV} {f₁ f₂ b : Bool} {pos : Pos} (hc : CmpSem Γ op p q b) (hl : Evals Γ f₁ l p) (hr : Evals Γ f₂ r q) (hm : behindInMarks op r = false := by with_unfolding_all rfl) :
    Tests Γ (.Compare l [op] [r] pos) b := fun E s o =>
  wpAny_isTrue_Compare1 (evals_two (tree := fun a b => compareOp op a b) (Q := fun c s₃ => wpAny Γ.M Γ.A (truthy c) _ E s₃) o hl hr fun x y s₂ k hx hy => hc _ x y _ _ _ hx hy fun s₃ k' => wpAny_truthy_bool ⟨k.trans k', rfl⟩) hm

theorem CmpSem.lt {a b : Int} : CmpSem Γ .Lt (.int a) (.int b) (decide (a < b)) := fun X x y Q E s hx hy h => by cases hx; cases hy; exact wpAny_lt_int (h _ Kp.refl)
theorem CmpSem.gt {a b : Int} : CmpSem Γ .Gt (.int a) (.int b) (decide (b < a)) := fun X x y Q E s hx hy h => by cases hx; cases hy; exact gt_int (h _ Kp.refl)
theorem CmpSem.le {a b : Int} : CmpSem Γ .LtE (.int a) (.int b) (decide (a ≤ b)) := fun X x y Q E s hx hy h => by cases hx; cases hy; exact le_int (h _ Kp.refl)
theorem CmpSem.ge {a b : Int} : CmpSem Γ .GtE (.int a) (.int b) (decide (b ≤ a)) := fun X x y Q E s hx hy h => by cases hx; cases hy; exact ge_int (h _ Kp.refl)
theorem CmpSem.eq {a b : Int} : CmpSem Γ .Eq (.int a) (.int b) (a == b) := fun X x y Q E s hx hy h => by cases hx; cases hy; exact wpAny_eq_int (h _ Kp.refl)
theorem CmpSem.ne {a b : Int} : CmpSem Γ .NotEq (.int a) (.int b) (a != b) := fun X x y Q E s hx hy h => by cases hx; cases hy; exact ne_int (h _ Kp.refl)
theorem CmpSem.eqs {a b : Str} : CmpSem Γ .Eq (.str a) (.str b) (a == b) := fun X x y Q E s hx hy h => by cases hx; cases hy; exact eq_str (h _ Kp.refl)
end
end Mine

namespace Mine
open PySem PySem.Calls PyProof.Rows PyProof PySem.W

def Room (A : Around) (d : Nat) : Prop := A.handled = none ∧ A.depth + 10 * d + 10 < recursionLimit ∧ A.units + 50 * d + 200 < cLine
theorem Room.hh {A : Around} {d : Nat} (r : Room A d) : A.handled = none := r.1
theorem Room.mono {A : Around} {d d' : Nat} (r : Room A d) (h : d' ≤ d) : Room A d' := ⟨r.1, by have := r.2.1; omega, by have := r.2.2; omega⟩
theorem Room.in1 {A : Around} {d d' : Nat} (r : Room A d) (h : d' < d) : Room A.in1 d' := ⟨r.1, by have := r.2.1; rw [Around.in1_depth]; omega, by have := r.2.2; rw [Around.in1_units]; omega⟩

theorem VRs.strs {h : Heap} {X : Addr → Prop} : ∀ {ns : List Str} {vs : List Value}, VRs h X (ns.map .str) vs → StrsAre vs ns
  | [], _, .nil => .nil
  | n :: ns, _, .cons (.str _ t) b => .cons n t (VRs.strs b)

section
variable {Γ : Cx} {s s' : Shared}

theorem CmpSem.inStrs {x : Str} {ys : List Str} : CmpSem Γ .In (.str x) (.list (ys.map .str)) (ys.any (· == x)) := fun X a b Q E s hx hy h => by
  cases hx
  obtain ⟨l, vs, rfl, _, hl, hv⟩ := hy.isList
  exact in_list_strs hl hv.strs (h _ Kp.refl)
theorem CmpSem.inInts {x : Int} {ys : List Int} : CmpSem Γ .In (.int x) (.list (ys.map .int)) (ys.any (· == x)) := fun X a b Q E s hx hy h => by
  cases hx
  obtain ⟨l, vs, rfl, _, hl, hv⟩ := hy.isList
  exact in_list_ints hl hv.ints (h _ Kp.refl)
theorem CmpSem.eqInts {xs ys : List Int} (hu : Γ.A.units + 64 < cLine) : CmpSem Γ .Eq (.list (xs.map .int)) (.list (ys.map .int)) (decide (xs = ys)) := fun X a b Q E s hx hy h => by
  obtain ⟨k, us, rfl, _, hk, hu'⟩ := hx.isList
  obtain ⟨l, vs, rfl, _, hl, hv⟩ := hy.isList
  exact eq_intsK hk hu'.ints hl hv.ints hu (h _ Kp.refl)
theorem CmpSem.neInts {xs ys : List Int} (hu : Γ.A.units + 64 < cLine) : CmpSem Γ .NotEq (.list (xs.map .int)) (.list (ys.map .int)) (!decide (xs = ys)) := fun X a b Q E s hx hy h => by
  obtain ⟨k, us, rfl, _, hk, hu'⟩ := hx.isList
  obtain ⟨l, vs, rfl, _, hl, hv⟩ := hy.isList
  exact ne_intsK hk hu'.ints hl hv.ints hu (h _ Kp.refl)
theorem CmpSem.isNotNone : CmpSem Γ .IsNot .none .none false := fun X a b Q E s hx hy h => by
  cases hx; cases hy
  exact wpAny_isNot_self rfl (h _ Kp.refl)
theorem CmpSem.tupIsNotNone {xs : List PV} : CmpSem Γ .IsNot (.tup xs) .none true := fun X a b Q E s hx hy h => by
  obtain ⟨l, vs, rfl, _, hl, hv⟩ := hx.isTup
  cases hy
  exact wpAny_isNot_other rfl (by simp) (h _ Kp.refl)

theorem Tests.and2 {a b : Expr} {x y : Bool} {pos : Pos} (ha : Tests Γ a x) (hb : x = true → Tests Γ b y) : Tests Γ (.BoolOp .And [a, b] pos) (x && y) := fun E s o => by
  refine wpAny_isTrue_BoolOp (wpAny_allTrue_And_cons (wpAny_mono (ha E s o) (fun r s₁ h₁ => ?_) fun _ _ e => e))
  obtain ⟨k, rfl⟩ := h₁
  cases r with
  | false => exact ⟨k, rfl⟩
  | true =>
    refine wpAny_allTrue_And_cons (wpAny_mono (hb rfl E s₁ (o.step k)) (fun r s₂ h₂ => ?_) fun _ _ e => e)
    obtain ⟨k', rfl⟩ := h₂
    cases r with
    | false => exact ⟨k.trans k', rfl⟩
    | true => exact wpAny_allTrue_And_nil ⟨k.trans k', rfl⟩
theorem Tests.not {a : Expr} {x : Bool} {pos : Pos} (ha : Tests Γ a x) : Tests Γ (.UnaryOp .Not a pos) (!x) := fun E s o =>
  wpAny_isTrue_Not (wpAny_mono (ha E s o) (fun r s₁ h₁ => ⟨h₁.1, by rw [h₁.2]⟩) fun _ _ e => e)
/-- a name that holds a bool -/
theorem Tests.val {e : Expr} {b fr : Bool} (h : Evals Γ fr e (.bool b)) (hs : ∀ whole, isTrue e Γ.env whole = (do let v ← whole; standAt e.pos; holding [v] (truthy v)) := by intro _; rfl) : Tests Γ e b := fun E s o => by
  rw [hs]
  refine wpAny_bind (wpAny_mono (h E s o) (fun v s₁ h₁ => ?_) fun _ _ e => e)
  obtain ⟨k, hv, _⟩ := h₁
  cases hv
  exact wpAny_bind (wpAny_standAt (wpAny_holding (wpAny_truthy_bool ⟨k, rfl⟩)))

theorem Evals.ite {test body orelse : Expr} {b : Bool} {p : PV} {pos : Pos} (ht : Tests Γ test b) (h1 : b = true → Evals Γ false body p) (h0 : b = false → Evals Γ false orelse p) : Evals Γ false (.IfExp test body orelse pos) p := fun E s o => by
  refine wpAny_IfExp (wpAny_mono (ht E s o) (fun r s₁ h₁ => ?_) fun _ _ e => e)
  obtain ⟨k, rfl⟩ := h₁
  have fin : ∀ v s₂, K0 Γ.T s₁ s₂ ∧ VR s₂.heap (Up Γ.X s₁ s₂) p v ∧ (false = true → ∀ a, v = .ref a → s₁.heap.get? a = Option.none) → K0 Γ.T s s₂ ∧ VR s₂.heap (Up Γ.X s s₂) p v ∧ (false = true → ∀ a, v = .ref a → s.heap.get? a = Option.none) :=
    fun v s₂ h => ⟨k.trans h.1, h.2.1.from k, fun h => nomatch h⟩
  cases r with
  | true => exact wpAny_mono (h1 rfl E s₁ (o.step k)) fin fun _ _ e => e
  | false => exact wpAny_mono (h0 rfl E s₁ (o.step k)) fin fun _ _ e => e

theorem EvalsL.nil : EvalsL Γ [] [] := fun E s pos o => spliced_nil ⟨Kp.refl, .nil⟩
theorem EvalsL.cons {e : Expr} {es : List Expr} {p : PV} {ps : List PV} {fr : Bool} (h : Evals Γ fr e p) (hs : EvalsL Γ es ps)
    (hc : starEach (e :: es) Γ.env = (false, eval e Γ.env) :: starEach es Γ.env := by rfl) : EvalsL Γ (e :: es) (p :: ps) := fun E s pos o => by
  rw [hc]
  refine spliced_cons (x := eval e Γ.env) (rest := backTo pos (starEach es Γ.env)) (wpAny_mono (h E s o) (fun v s₁ h₁ => wpAny_mono (hs E s₁ pos (o.step h₁.1)) (fun vs s₂ h₂ => ?_) fun _ _ e => e) fun _ _ e => e)
  exact ⟨h₁.1.trans h₂.1, .cons (h₁.2.1.step h₂.1) (h₂.2.from h₁.1)⟩

theorem up_new {X : Addr → Prop} {s s' : Shared} {a : Addr} {o : Obj} (h : s.heap.get? a = Option.none) (h' : s'.heap.get? a = some o) : Up X s s' a := .inr ⟨h, by rw [h']; rfl⟩

theorem Evals.list {es : List Expr} {ps : List PV} {pos : Pos} (h : EvalsL Γ es ps) (hsz : ps.length ≤ 4096) : Evals Γ true (.List es pos) (.list ps) := fun E s o => by
  refine List_ (wpAny_mono (h E s pos o) (fun vs s₁ h₁ => ?_) fun _ _ e => e)
  refine wpAny_newObj_type ?_ (by show vs.toArray.size ≤ sizeLine; rw [List.size_toArray, h₁.2.length]; have := hsz; unfold sizeLine; omega)
  have k : K0 Γ.T s₁ { s₁ with heap := s₁.heap.push { cls := .type "list", data := .seq vs.toArray } } := K0.push _
  have hn : s.heap.get? s₁.heap.objs.size = Option.none := none_of_K h₁.1 (get_size _)
  refine ⟨h₁.1.trans k, .list (up_new hn (Heap.get?_push_size _ rfl)) (Heap.get?_push_size _ rfl) rfl rfl (h₁.2.step k), fun _ a e => ?_⟩
  cases e; exact hn
theorem Evals.tup {es : List Expr} {ps : List PV} {pos : Pos} {n : Nat} (h : EvalsL Γ es ps) (hsz : ps.length ≤ 4096) : Evals Γ true (.Tuple es n pos) (.tup ps) := fun E s o => by
  refine Tuple_ (wpAny_mono (h E s pos o) (fun vs s₁ h₁ => ?_) fun _ _ e => e)
  refine wpAny_newObj_type ?_ (by show vs.toArray.size ≤ sizeLine; rw [List.size_toArray, h₁.2.length]; have := hsz; unfold sizeLine; omega)
  have k : K0 Γ.T s₁ { s₁ with heap := s₁.heap.push { cls := .type "tuple", data := .seq vs.toArray } } := K0.push _
  have hn : s.heap.get? s₁.heap.objs.size = Option.none := none_of_K h₁.1 (get_size _)
  refine ⟨h₁.1.trans k, .tup (up_new hn (Heap.get?_push_size _ rfl)) (Heap.get?_push_size _ rfl) rfl rfl (h₁.2.step k), fun _ a e => ?_⟩
  cases e; exact hn

/-! calls -/
def GlobV (h : Heap) (x : Str) (v : Value) : Prop := ∃ mg mb, h.Ns mainGlobals mg ∧ h.Ns builtinsNs mb ∧ (mg x = some v ∨ (mg x = none ∧ mb x = some v))
/-- a name of the top's or a built-in one -/
structure Cx.Glob (Γ : Cx) (x : Str) (v : Value) : Prop where
  kind : Γ.env.kindOf x = some .globalImplicit
  val : ∀ h, Γ.I h → GlobV h x v

theorem glob_name {x : Str} {v : Value} {pos : Pos} {E : Value → Shared → Prop} {Q : Value → Shared → Prop} (g : Γ.Glob x v) (o : Γ.Ok s) (h : Q v s) (hd : (x == ("__debug__" : Str)) = false := by decide) :
    wpAny Γ.M Γ.A (eval (.Name x pos) Γ.env) Q E s := by
  obtain ⟨mg, mb, hg, hb, hv⟩ := g.val _ o.base
  rw [← Γ.hg] at hg
  rw [← Γ.hb] at hb
  refine Name_function_global Γ.hk g.kind ?_ hd
  rcases hv with hv | ⟨hm, hv⟩
  · exact loadGlobal_global hg hv h
  · exact loadGlobal_builtin hg hm hb hv h

theorem evalArgs_all {M : Model} {A : Around} {E : Value → Shared → Prop} {f : Value} {args : List (Bool × Sem Value)} {Q : Args → Shared → Prop} (hp : args.any (·.1) = false)
    (h : wpAny M A (spliced args) (fun vs s' => Q ⟨vs, []⟩ s') E s) : wpAny M A (evalArgs f true args []) Q E s := by
  match args, hp, h with
  | [], _, h => exact wpAny_bind (wpAny_mono h (fun vs s' h' => wpAny_bind (wpAny_pure (wpAny_holding (wpAny_bind (wpAny_pure (wpAny_bind (wpAny_pure (wpAny_pure h'))))))))  fun _ _ e => e)
  | (false, x) :: rest, _, h => exact evalArgs_plain h
  | (true, x) :: rest, hp, _ => simp at hp

theorem any_backTo (pos : Pos) (l : List (Bool × Sem Value)) : (backTo pos l).any (·.1) = l.any (·.1) := by
  unfold backTo
  rw [List.any_map]; rfl

theorem call_builtin {x : Str} {id : String} {np pos : Pos} {es : List Expr} {ps : List PV} {E : Value → Shared → Prop} {Q : Value → Shared → Prop} (g : Γ.Glob x (.builtin id)) (o : Γ.Ok s) (ha : EvalsL Γ es ps)
    (h : ∀ vs s₁, K0 Γ.T s s₁ → VRs s₁.heap (Up Γ.X s s₁) ps vs → wpAny Γ.M Γ.A (call (.builtin id) vs) Q E s₁)
    (hp : (starEach es Γ.env).any (·.1) = false := by rfl) (hd : (x == ("__debug__" : Str)) = false := by decide) :
    wpAny Γ.M Γ.A (eval (.Call (.Name x np) es [] pos) Γ.env) Q E s :=
  wpAny_Call_NameR (glob_name g o (callWith_builtin (by rw [any_backTo]; exact hp) (evalArgs_all (by rw [any_backTo]; exact hp) (wpAny_mono (ha E s pos o) (fun vs s₁ h₁ => h vs s₁ h₁.1 h₁.2) fun _ _ e => e))) hd)

theorem call_type {x : Str} {id : String} {np pos : Pos} {es : List Expr} {ps : List PV} {E : Value → Shared → Prop} {Q : Value → Shared → Prop} (g : Γ.Glob x (.type id)) (o : Γ.Ok s) (ha : EvalsL Γ es ps)
    (h : ∀ vs s₁, K0 Γ.T s s₁ → VRs s₁.heap (Up Γ.X s s₁) ps vs → wpAny Γ.M Γ.A (call (.type id) vs) Q E s₁)
    (hp : (starEach es Γ.env).any (·.1) = false := by rfl) (hd : (x == ("__debug__" : Str)) = false := by decide) :
    wpAny Γ.M Γ.A (eval (.Call (.Name x np) es [] pos) Γ.env) Q E s :=
  wpAny_Call_NameR (glob_name g o (PySem.callWith_type (by rw [any_backTo]; exact hp) (evalArgs_all (by rw [any_backTo]; exact hp) (wpAny_mono (ha E s pos o) (fun vs s₁ h₁ => h vs s₁ h₁.1 h₁.2) fun _ _ e => e))) hd)

theorem Evals.len {x : Str} {np pos : Pos} {e : Expr} {xs : List PV} {fr : Bool} (g : Γ.Glob x (.builtin "len")) (he : Evals Γ fr e (.list xs)) (hsz : xs.length < 2 ^ 62) (hc : starEach [e] Γ.env = (false, eval e Γ.env) :: starEach [] Γ.env := by rfl) (hd : (x == ("__debug__" : Str)) = false := by decide) :
    Evals Γ true (.Call (.Name x np) [e] [] pos) (.int xs.length) := fun E s o =>
  call_builtin g o (EvalsL.cons he .nil hc) (fun vs s₁ k hv => by
    match vs, hv with
    | [v], .cons hv .nil =>
      obtain ⟨a, us, rfl, _, hl, hus⟩ := hv.isList
      have e : us.toArray.size = xs.length := by rw [List.size_toArray, hus.length]
      exact Calls.call_len_list hl (by rw [e]; omega) ⟨k.tok, by rw [e]; exact .int _ _, fun _ _ h => nomatch h⟩) (by rw [hc]; rfl) hd
end
end Mine

namespace Mine
open PySem PySem.Calls PyProof.Rows PyProof PySem.W

/-! what can be gone through: a list, a range -/
def itemsOf : PV → Option (List PV)
  | .list xs => some xs
  | .range a b => some ((List.range (b - a).toNat).map fun i => .int (a + (i : Nat)))
  | _ => none
def rangeOK : PV → Prop
  | .range a b => -(2 ^ 62) ≤ a ∧ a < 2 ^ 62 ∧ -(2 ^ 62) ≤ b ∧ b < 2 ^ 62
  | _ => True

/-- an iterator in hand: I; it stands at 0 -/
structure ItAt (prog : Program) (w : World) (T X : Addr → Prop) (xs : List PV) (s : Shared) (I : Addr) (fp : List Addr) (P : Nat → Value → Prop) (St : Nat → Heap → Prop) : Prop where
  walks : ∀ A : Around, A.handled = none → Walks prog w A I fp [I] xs.length P St
  start : St 0 s.heap
  own : ∀ b ∈ fp, b = I ∨ X b
  sits : ∀ i h, St i h → ∀ b ∈ fp, ∃ o, h.get? b = some o ∧ tab o = false
  isIt : ∀ i h, St i h → ∃ o, h.get? I = some o ∧ itCls o = true
  vals : ∀ i v, i < xs.length → P i v → ∃ p, xs[i]? = some p ∧ ∀ s' : Shared, (∀ a o, X a → s.heap.get? a = some o → tab o = false → s'.heap.get? a = some o) → VR s'.heap X p v

theorem K0.but {T : Addr → Prop} {s : Shared} {a : Addr} {h' : Heap} {tk : Nat} (hk : ∀ b o, b ≠ a → s.heap.get? b = some o → h'.get? b = some o) (ha : s.heap.get? a = none) : K0 T s { s with heap := h', toks := tk } :=
  K0.of_keep fun b o e => hk b o (fun q => by rw [q, ha] at e; cases e) e

theorem iter_pv {prog : Program} {w : World} {A : Around} {T X : Addr → Prop} {src : PV} {xs : List PV} {xv : Value} {s : Shared} {Q : Value → Shared → Prop} {E : Value → Shared → Prop} (hr : VR s.heap X src xv) (hi : itemsOf src = some xs) (ho : rangeOK src)
    (h : ∀ I fp P St s₂, K0 T s s₂ → s.heap.get? I = none → ItAt prog w T X xs s₂ I fp P St → Q (.ref I) s₂) : wpAny (model prog w) A (pyIter xv) Q E s := by
  cases hr with
  | @list a o n vs xs' hX hob hc hd hv =>
    cases hi
    have hl : s.heap.IsList a vs.toArray := ⟨o, hob, hc, n, hd⟩
    have hlt : a < s.heap.objs.size := Heap.lt_size hob
    refine wpAny_pyIter_list hl ?_
    refine h s.heap.objs.size [s.heap.objs.size, a] (fun i v => vs.toArray[i]? = some v) (fun i h => h.IsListIter s.heap.objs.size a i ∧ h.IsList a vs.toArray) _ (K0.push _) (get_size _) ⟨fun A' hA => ?_, ⟨⟨_, Heap.get?_push_size _ rfl, rfl, rfl⟩, hl.push _⟩, ?_, ?_, ?_, ?_⟩
    · have W := Walks.list (prog := prog) (w := w) hA s.heap.objs.size a (Nat.ne_of_lt hlt) vs.toArray
      rw [show vs.toArray.size = xs.length by rw [List.size_toArray (as := vs)]; exact hv.length] at W
      exact W
    · intro b hb
      rcases List.mem_cons.mp hb with rfl | hb
      · exact .inl rfl
      · rcases List.mem_cons.mp hb with rfl | hb
        · exact .inr hX
        · cases hb
    · rintro i h ⟨⟨o1, a1, b1, c1⟩, ⟨o2, a2, b2, _⟩⟩ b hb
      rcases List.mem_cons.mp hb with rfl | hb
      · exact ⟨_, a1, tab_of_cls b1⟩
      · rcases List.mem_cons.mp hb with rfl | hb
        · exact ⟨_, a2, tab_of_cls b2⟩
        · cases hb
    · rintro i h ⟨⟨o1, a1, b1, c1⟩, _⟩
      exact ⟨_, a1, by unfold itCls; rw [b1]; rfl⟩
    · intro i v _ hp
      have hp' : vs[i]? = some v := by simpa using hp
      obtain ⟨p, e, r⟩ := hv.get' hp'
      exact ⟨p, e, fun s' k => r.mono (fun b o hx e ht => k b o hx (Heap.get?_push_of_some _ e) ht) fun _ h => h⟩
  | @range r a b t u v hX hr =>
    cases hi
    obtain ⟨h1, h2, h3, h4⟩ := ho
    refine wpAny_pyIter_range hr (small_one h1 h2 h3 h4) ?_
    have hs : Builtin.Range.rangeSize a b 1 = (((b - a).toNat : Nat) : Int) := by rw [rangeSize_one]; split <;> omega
    refine h s.heap.objs.size [s.heap.objs.size] (fun i v => ∃ t, v = .int (a + i * 1) t) (fun i h => IsRangeIter h s.heap.objs.size (a + (i : Nat) * 1) (((b - a).toNat : Int) - (i : Nat)) 1) _ (K0.push _) (get_size _) ⟨fun A' hA => ?_, ?_, fun b hb => .inl (List.mem_singleton.mp hb), ?_, ?_, ?_⟩
    · have W := Walks.range (prog := prog) (w := w) hA s.heap.objs.size a 1 (b - a).toNat
      simpa using W
    · show IsRangeIter _ _ _ _ _
      unfold IsRangeIter
      rw [Heap.get?_push_size _ rfl, hs]
      simp
    · intro i h st b hb
      rw [List.mem_singleton.mp hb]
      exact ⟨_, st, rfl⟩
    · intro i h st
      exact ⟨_, st, rfl⟩
    · rintro i v hi ⟨t, rfl⟩
      have hi' : i < (b - a).toNat := by simpa using hi
      exact ⟨.int (a + (i : Nat)), by simp [hi'], fun _ _ => by rw [Int.mul_one]; exact .int _ _⟩
  | none => cases hi
  | bool => cases hi
  | int => cases hi
  | str => cases hi
  | tup => cases hi
  | obj => cases hi
  | inst => cases hi
end Mine

namespace Mine
open PySem PySem.Calls PyProof.Rows PyProof PySem.W

/-- the cells of a frame lie apart -/
structure EnvAp (env : Env) : Prop where
  apart : ∀ x y c c', env.cells.lookup x = some c → env.cells.lookup y = some c' → y ≠ x → c' ≠ c
  off : ∀ y c, env.cells.lookup y = some c → c ≠ env.locals

/-- where x lies there is room -/
def Slot (env : Env) (h : Heap) (x : Str) : Prop :=
  (env.kindOf x = some .local ∧ ∃ m, h.Ns env.locals m) ∨ (env.kindOf x = some .cell ∧ ∃ c v, env.cells.lookup x = some c ∧ h.IsCell c v)

def Home (env : Env) (x : Str) (a : Addr) : Prop := (env.kindOf x = some .local ∧ a = env.locals) ∨ (env.kindOf x = some .cell ∧ env.cells.lookup x = some a)

section
variable {T : Addr → Prop} {s s' : Shared} {M : Model} {A : Around} {env : Env}

theorem kp_at {M : Addr → Prop} {G : Nat → Prop} {a : Addr} {h' : Heap} {tk : Nat} (hs : Heap.SameBut a s.heap h') (hM : M a) (hl : (h'.get? a).isSome = true) (hnt : ∀ o, s.heap.get? a = some o → tab o = false) :
    Kp T M G s { s with heap := h', toks := tk } := Kp.of_but hs hM hl hnt

theorem ns_live {h : Heap} {a : Addr} {m : Str → Option Value} (x : h.Ns a m) : (h.get? a).isSome = true := by
  obtain ⟨o, es, ep, ho, _⟩ := x
  rw [ho]; rfl
theorem ns_tab {h : Heap} {a : Addr} {m : Str → Option Value} (x : h.Ns a m) : ∀ o, h.get? a = some o → tab o = false := fun o e => by
  obtain ⟨o', es, ep, ho, hd, _⟩ := x
  rw [ho] at e; cases e
  exact tab_dict hd
theorem cell_live {h : Heap} {a : Addr} {v : Option Value} (x : h.IsCell a v) : (h.get? a).isSome = true := by
  obtain ⟨o, ho, _⟩ := x
  rw [ho]; rfl
theorem cell_tab {h : Heap} {a : Addr} {v : Option Value} (x : h.IsCell a v) : ∀ o, h.get? a = some o → tab o = false := fun o e => by
  obtain ⟨o', ho, hd⟩ := x
  rw [ho] at e; cases e
  exact tab_cell hd

theorem store_var {x : Str} {v : Value} {Q : Unit → Shared → Prop} {E : Value → Shared → Prop} (hk : env.scope.kind = .function) (sl : Slot env s.heap x)
    (h : ∀ a s', Home env x a → VarAt env s'.heap x v → Slot env s'.heap x → Kp T (· = a) No s s' → (∀ y u, y ≠ x → EnvAp env → VarAt env s.heap y u → VarAt env s'.heap y u) → (∀ y, y ≠ x → EnvAp env → Slot env s.heap y → Slot env s'.heap y) → Q () s') :
    wpAny M A (storeName env x v) Q E s := by
  rcases sl with ⟨hl, m, hn⟩ | ⟨hl, c, v₀, hc, hv⟩
  · refine wpAny_storeName_local hl hn (fun h' hn' hs => ?_) (by rw [hk]; rfl)
    refine h env.locals _ (.inl ⟨hl, rfl⟩) (.inl ⟨hl, _, hn', by simp⟩) (.inl ⟨hl, _, hn'⟩) (kp_at hs rfl (ns_live hn') (ns_tab hn)) (fun y u hy ap hu => ?_) (fun y hy ap hu => ?_)
    · rcases hu with ⟨hl', m₁, hn₁, e⟩ | ⟨hl', c, hc, hv⟩
      · refine .inl ⟨hl', _, hn', ?_⟩
        have : m₁ y = m y := by
          obtain ⟨o, es, ep, ho, hd, _, e1⟩ := hn
          obtain ⟨o', es', ep', ho', hd', _, e1'⟩ := hn₁
          rw [ho] at ho'; cases ho'
          rw [hd] at hd'; cases hd'
          rw [← e1, ← e1']
        show (if y = x then _ else m y) = _
        rw [if_neg hy, ← this, e]
      · exact .inr ⟨hl', c, hc, hv.sameBut hs (ap.off y c hc)⟩
    · rcases hu with ⟨hl', m₁, hn₁⟩ | ⟨hl', c, u, hc, hv⟩
      · exact .inl ⟨hl', _, hn'⟩
      · exact .inr ⟨hl', c, u, hc, hv.sameBut hs (ap.off y c hc)⟩
  · refine wpAny_storeName_cell hk hl hc hv fun h' hv' hs => ?_
    refine h c { s with heap := h' } (.inr ⟨hl, hc⟩) (.inr ⟨.inl hl, c, hc, hv'⟩) (.inr ⟨hl, c, _, hc, hv'⟩) (kp_at (tk := s.toks) hs rfl (cell_live hv') (cell_tab hv)) (fun y u hy ap hu => ?_) (fun y hy ap hu => ?_)
    · rcases hu with ⟨hl', m₁, hn₁, e⟩ | ⟨hl', c', hc', hu⟩
      · exact .inl ⟨hl', _, hn₁.sameBut hs (Ne.symm (ap.off x c hc)), e⟩
      · exact .inr ⟨hl', c', hc', hu.sameBut hs (ap.apart x y c c' hc hc' hy)⟩
    · rcases hu with ⟨hl', m₁, hn₁⟩ | ⟨hl', c', u, hc', hu⟩
      · exact .inl ⟨hl', _, hn₁.sameBut hs (Ne.symm (ap.off x c hc))⟩
      · exact .inr ⟨hl', c', u, hc', hu.sameBut hs (ap.apart x y c c' hc hc' hy)⟩
end

/-! the frame of a comprehension -/
def inEnv (scope : Scope) (cl : List (Str × Addr)) (C : Addr) (env : Env) : Env :=
  { scope := relabel scope env, locals := C, globals := env.globals, cells := cellsFrom (C + 1) scope.names cl, qual := env.qual, func := none, code := env.code, frame := env.frame, builtins := env.builtins }

def clOf (cells : List (Str × Addr)) : List (Str × NameKind) → List (Str × Addr) → List (Str × Addr)
  | [], acc => acc
  | (n, k) :: r, acc => if k == .free then clOf cells r ((n, (cells.lookup n).getD 0) :: acc) else clOf cells r acc

theorem clOf_lookup (cells : List (Str × Addr)) (y : Str) : ∀ (names : List (Str × NameKind)) (acc : List (Str × Addr)), (acc.lookup y = some ((cells.lookup y).getD 0) ∨ (y, .free) ∈ names) → (∀ c, acc.lookup y = some c → c = (cells.lookup y).getD 0) →
    (clOf cells names acc).lookup y = some ((cells.lookup y).getD 0)
  | [], acc, h, _ => by
    rcases h with h | h
    · exact h
    · cases h
  | (n, k) :: r, acc, h, ha => by
    unfold clOf
    by_cases hk : (k == NameKind.free) = true
    · rw [if_pos hk]
      refine clOf_lookup cells y r _ ?_ ?_
      · by_cases e : y = n
        · subst e; left; simp
        · have e' : (y == n) = false := by simpa using e
          rcases h with h | h
          · left; rw [List.lookup_cons, e']; exact h
          · right
            rcases List.mem_cons.mp h with h | h
            · cases h; exact absurd rfl e
            · exact h
      · intro c hc
        rw [List.lookup_cons] at hc
        by_cases e : y = n
        · subst e; simp at hc; exact hc.symm
        · have e' : (y == n) = false := by simpa using e
          rw [e'] at hc; exact ha c hc
    · rw [if_neg hk]
      refine clOf_lookup cells y r acc ?_ ha
      rcases h with h | h
      · exact .inl h
      · rcases List.mem_cons.mp h with h | h
        · cases h; exact absurd rfl hk
        · exact .inr h

theorem closureFor_is {scope : Scope} {env : Env} (h : ∀ p ∈ scope.names, p.2 = .free → (env.cells.lookup p.1).isSome = true) : closureFor scope env = pure (clOf env.cells scope.names []) := by
  unfold closureFor
  have key : ∀ (names : List (Str × NameKind)) (acc : List (Str × Addr)), (∀ p ∈ names, p.2 = .free → (env.cells.lookup p.1).isSome = true) →
      (forIn names acc fun (x : Str × NameKind) (r : List (Str × Addr)) => if (x.2 == NameKind.free) = true then (do let y ← cellOf env x.1; pure (ForInStep.yield ((x.1, y) :: r))) else (pure (ForInStep.yield r) : Sem _)) = (pure (clOf env.cells names acc) : Sem _) := by
    intro names
    induction names with
    | nil => intro acc _; rfl
    | cons p r ih =>
      intro acc hp
      obtain ⟨n, k⟩ := p
      rw [List.forIn_cons]
      unfold clOf
      by_cases hk : (k == NameKind.free) = true
      · simp only [hk, if_true]
        obtain ⟨c, hc⟩ := Option.isSome_iff_exists.mp (hp (n, k) (.head _) (by simpa using hk))
        have : cellOf env n = pure c := by
          unfold cellOf; rw [show env.cells.lookup n = some c from hc]
        rw [this, show (env.cells.lookup n).getD 0 = c by rw [show env.cells.lookup n = some c from hc]; rfl]
        exact ih _ fun q hq => hp q (.tail _ hq)
      · have hk' : (k == NameKind.free) = false := by simpa using hk
        simp only [hk', Bool.false_eq_true, if_false]
        exact ih _ fun q hq => hp q (.tail _ hq)
  have := key scope.names [] h
  exact (congrArg (fun m => m >>= pure) this)

theorem cellsFrom_look (y : Str) : ∀ (names : List (Str × NameKind)) (n : Nat) (acc : List (Str × Addr)), (∀ p ∈ names, p.2 = .cell → p.1 ≠ y) → (cellsFrom n names acc).lookup y = acc.lookup y
  | [], _, _, _ => rfl
  | (m, k) :: r, n, acc, h => by
    unfold cellsFrom
    by_cases hk : (k == NameKind.cell) = true
    · rw [if_pos hk, cellsFrom_look y r _ _ fun p hp => h p (.tail _ hp)]
      have : (y == m) = false := by simpa using Ne.symm (h (m, k) (.head _) (by simpa using hk))
      rw [List.lookup_cons, this]
    · rw [if_neg hk]
      exact cellsFrom_look y r _ _ fun p hp => h p (.tail _ hp)

theorem pushCells_size_le : ∀ (names : List (Str × NameKind)) (h : Heap), h.objs.size ≤ (pushCells h names).objs.size
  | [], h => Nat.le_refl _
  | (m, k) :: r, h => by
    unfold pushCells
    split
    · have := pushCells_size_le r (h.push { cls := .type "cell", data := .cell none })
      rw [Heap.size_push] at this; omega
    · exact pushCells_size_le r h

theorem cellsFrom_cell (y : Str) : ∀ (names : List (Str × NameKind)) (h : Heap) (acc : List (Str × Addr)), (y, .cell) ∈ names → (names.map (·.1)).Nodup →
    ∃ c, (cellsFrom h.objs.size names acc).lookup y = some c ∧ h.objs.size ≤ c ∧ (pushCells h names).IsCell c none
  | [], _, _, hm, _ => by cases hm
  | (m, k) :: r, h, acc, hm, hn => by
    rw [List.map_cons, List.nodup_cons] at hn
    unfold cellsFrom pushCells
    by_cases hk : (k == NameKind.cell) = true
    · rw [if_pos hk, if_pos hk]
      rcases List.mem_cons.mp hm with e | hm
      · cases e
        refine ⟨h.objs.size, ?_, Nat.le_refl _, ⟨_, pushCells_keeps r _ _ _ (Heap.get?_push_size _ rfl), rfl⟩⟩
        rw [cellsFrom_look y r _ _ fun p hp _ e => hn.1 (List.mem_map.mpr ⟨p, hp, e⟩)]
        simp
      · obtain ⟨c, h1, h2, h3⟩ := cellsFrom_cell y r (h.push { cls := .type "cell", data := .cell none }) ((m, h.objs.size) :: acc) hm hn.2
        rw [Heap.size_push] at h1 h2
        exact ⟨c, h1, by omega, h3⟩
    · rw [if_neg hk, if_neg hk]
      rcases List.mem_cons.mp hm with e | hm
      · cases e; exact absurd rfl hk
      · exact cellsFrom_cell y r h acc hm hn.2

theorem newEnv_comp {M : Model} {A : Around} {E : Value → Shared → Prop} {s : Shared} {scope : Scope} {env : Env} {cl : List (Str × Addr)} {Q : Env → Shared → Prop}
    (h : ∀ e : Env, e = { inEnv scope cl s.heap.objs.size env with scope := scope } → Q e { s with heap := pushCells (s.heap.push { cls := .type "dict", data := .dict #[] }) scope.names }) :
    wpAny M A (newFunctionEnv scope env.globals cl [] env.qual none .none (some env)) Q E s := by
  simp only [newFunctionEnv, Option.isSome_some, if_true]
  refine wpAny_bind (wpAny_alloc ?_)
  refine wpAny_bind (wpAny_layCells _ (fun name kind cells => by cases hkc : kind == NameKind.cell <;> simp) _ _ _ _ ?_)
  refine wpAny_bind (wpAny_pure (wpAny_pure (h _ ?_)))
  show (_ : Env) = _
  simp only [inEnv]
  rw [show (s.heap.push { cls := .type "dict", data := .dict #[] }).objs.size = s.heap.objs.size + 1 from Heap.size_push ..]
end Mine

namespace Mine
open PySem PySem.Calls PyProof.Rows PyProof PySem.W

theorem lookup_of_nodup {α : Type} : ∀ {l : List (Str × α)} {n : Str} {k : α}, (n, k) ∈ l → (l.map (·.1)).Nodup → l.lookup n = some k
  | [], _, _, h, _ => by cases h
  | (m, j) :: r, n, k, h, hn => by
    rw [List.map_cons, List.nodup_cons] at hn
    rcases List.mem_cons.mp h with e | h
    · cases e; simp
    · have : (n == m) = false := by
        simp only [beq_eq_false_iff_ne, ne_eq]
        intro e
        exact hn.1 (List.mem_map.mpr ⟨(n, k), h, e⟩)
      rw [List.lookup_cons, this]
      exact lookup_of_nodup h hn.2

def compOK (scope : Scope) (x : Str) (cells : List (Str × Addr)) : Bool :=
  decide (scope.kind = .function) && decide ((scope.names.map (·.1)).Nodup) && (scope.names.lookup x == some .local || scope.names.lookup x == some .cell) &&
    scope.names.all fun p => p.2 != .free || (cells.lookup p.1).isSome
structure CompOK (scope : Scope) (x : Str) (cells : List (Str × Addr)) : Prop where
  kind : scope.kind = .function
  nodup : (scope.names.map (·.1)).Nodup
  var : scope.names.lookup x = some .local ∨ scope.names.lookup x = some .cell
  frees : ∀ p ∈ scope.names, p.2 = .free → (cells.lookup p.1).isSome = true
theorem CompOK.of {scope : Scope} {x : Str} {cells : List (Str × Addr)} (h : compOK scope x cells = true) : CompOK scope x cells := by
  unfold compOK at h
  simp only [Bool.and_eq_true, decide_eq_true_eq, Bool.or_eq_true, beq_iff_eq, List.all_eq_true, bne_iff_ne, ne_eq] at h
  obtain ⟨⟨⟨h1, h2⟩, h3⟩, h4⟩ := h
  exact ⟨h1, h2, h3, fun p hp e => (h4 p hp).resolve_left fun q => q e⟩

theorem lookup_relabel {env : Env} (y : Str) : ∀ {names : List (Str × NameKind)} {k : NameKind}, names.lookup y = some k →
    (names.map fun (n, k) => if (k == NameKind.free && env.scope.kind == .function && env.kindOf n == some .cell) then (n, NameKind.cell) else (n, k)).lookup y = some (if (k == NameKind.free && env.scope.kind == .function && env.kindOf y == some .cell) then .cell else k)
  | [], k, h => by cases h
  | (n, j) :: r, k, h => by
    have ih := @lookup_relabel env y r k
    rw [List.lookup_cons] at h
    show List.lookup y ((if (j == NameKind.free && env.scope.kind == .function && env.kindOf n == some .cell) = true then (n, NameKind.cell) else (n, j)) :: _) = _
    by_cases e : y = n
    · subst e
      simp at h; subst h
      split <;> simp_all
    · have e' : (y == n) = false := by simpa using e
      rw [e'] at h
      split <;> (rw [List.lookup_cons, e']; exact ih h)

def seen (Γ : Cx) (scope : Scope) : List (Str × PV) := Γ.ρ.filter fun p => scope.names.lookup p.1 == some .free && !(Γ.env.kindOf p.1 == some .local)

/-- the block of a comprehension, its name bound to p -/
def Cx.inner (Γ : Cx) (scope : Scope) (x : Str) (ok : CompOK scope x Γ.env.cells) (X : Addr → Prop) (C : Addr) (p : PV) : Cx :=
  { Γ with X := X, env := inEnv scope (clOf Γ.env.cells scope.names []) C Γ.env, ρ := (x, p) :: seen Γ scope, hk := ok.kind }

theorem lookup_filter_key {α : Type} (f : Str → Bool) : ∀ {l : List (Str × α)} {y : Str} {v : α}, (l.filter fun p => f p.1).lookup y = some v → f y = true ∧ l.lookup y = some v
  | [], y, v, h => by cases h
  | (n, a) :: r, y, v, h => by
    by_cases hf : f n = true
    · rw [List.filter_cons_of_pos (by simpa using hf), List.lookup_cons] at h
      rw [List.lookup_cons]
      by_cases e : y = n
      · subst e
        simp at h ⊢
        exact ⟨hf, h⟩
      · have e' : (y == n) = false := by simpa using e
        rw [e'] at h ⊢
        exact lookup_filter_key f h
    · rw [List.filter_cons_of_neg (by simpa using hf)] at h
      obtain ⟨h1, h2⟩ := lookup_filter_key f h
      refine ⟨h1, ?_⟩
      rw [List.lookup_cons]
      have e' : (y == n) = false := by
        simp only [beq_eq_false_iff_ne, ne_eq]
        intro e; subst e; exact hf h1
      rw [e']; exact h2

section
variable {Γ : Cx} {scope : Scope} {x : Str}

theorem inner_free {h : Heap} {y : Str} {u : Value} {C : Addr} (ok : CompOK scope x Γ.env.cells) (hy : scope.names.lookup y = some .free) (hl : Γ.env.kindOf y ≠ some .local) (a : VarAt Γ.env h y u) :
    VarAt (inEnv scope (clOf Γ.env.cells scope.names []) C Γ.env) h y u := by
  rcases a with ⟨hl', _⟩ | ⟨hk, c, hc, hv⟩
  · exact absurd hl' hl
  · refine .inr ⟨?_, c, ?_, hv⟩
    · have := lookup_relabel (env := Γ.env) y hy
      show (relabel scope Γ.env).names.lookup y = _ ∨ (relabel scope Γ.env).names.lookup y = _
      unfold relabel
      rw [this]
      split <;> simp
    · show (cellsFrom (C + 1) scope.names (clOf Γ.env.cells scope.names [])).lookup y = some c
      rw [cellsFrom_look y _ _ _ fun p hp hk e => by
        have := lookup_of_nodup (n := p.1) (k := p.2) hp ok.nodup
        rw [e, hy, hk] at this
        cases this]
      rw [clOf_lookup Γ.env.cells y scope.names [] (.inr (mem_of_lookup hy)) (fun _ h => by cases h), hc]
      rfl

theorem inner_ok {s : Shared} {X : Addr → Prop} {C : Addr} {p : PV} {v : Value} (ok : CompOK scope x Γ.env.cells) (o : Γ.Ok s) (hX : ∀ a, Γ.X a → X a) (hl : ∀ a, X a → (s.heap.get? a).isSome = true) (hp : VR s.heap X p v)
    (hx : VarAt (inEnv scope (clOf Γ.env.cells scope.names []) C Γ.env) s.heap x v) : (Γ.inner scope x ok X C p).Ok s where
  base := o.base
  live := hl
  vars := fun y q hq => by
    show ∃ v, VR s.heap X q v ∧ VarAt (inEnv scope (clOf Γ.env.cells scope.names []) C Γ.env) s.heap y v
    have hq : List.lookup y ((x, p) :: seen Γ scope) = some q := hq
    rw [List.lookup_cons] at hq
    by_cases e : y = x
    · subst e
      simp at hq; subst hq
      exact ⟨v, hp, hx⟩
    · have e' : (y == x) = false := by simpa using e
      rw [e'] at hq
      obtain ⟨h1, h2⟩ := lookup_filter_key (fun n => scope.names.lookup n == some .free && !(Γ.env.kindOf n == some .local)) hq
      simp only [Bool.and_eq_true, beq_iff_eq, Bool.not_eq_true', beq_eq_false_iff_ne, ne_eq] at h1
      obtain ⟨u, a, b⟩ := o.vars y q h2
      exact ⟨u, a.mono (fun _ _ _ h _ => h) hX, inner_free ok h1.1 h1.2 b⟩

/-- the tests of a clause -/
def TestsL (Γ : Cx) (ifs : List Expr) (b : Bool) : Prop :=
  ∀ (E : Value → Shared → Prop) (s : Shared), Γ.Ok s → wpAny Γ.M Γ.A (forIn ifs true fun c r => if r = true then do let ok ← isTrue c Γ.env (eval c Γ.env); pure (ForInStep.yield ok) else pure (ForInStep.yield r)) (fun r s' => K0 Γ.T s s' ∧ r = b) E s
theorem TestsL.nil : TestsL Γ [] true := fun E s o => wpAny_tests_nil ⟨Kp.refl, rfl⟩
theorem TestsL.one {c : Expr} {b : Bool} (h : Tests Γ c b) : TestsL Γ [c] b := fun E s o => wpAny_tests_one (h E s o)

/-- what was kept but for new things was kept -/
theorem Kp.fresh {T M : Addr → Prop} {s s₁ s₂ : Shared} (k : K0 T s s₁) (k' : Kp T M No s₁ s₂) (hM : ∀ b, M b → s.heap.get? b = none) : K0 T s s₂ where
  keep := fun b o _ e ht => k'.keep b o (fun q => by rw [hM b q] at e; cases e) (k.get e ht) ht
  live := fun b h => k'.live b (k.live b h)
  tabs := (k.of0 (M := M) (G := No) |>.trans k').tabs
  gens := fun i g _ h => k'.gens i g (fun h => h) (k.gens i g (fun h => h) h)
  gsz := Nat.le_trans k.gsz k'.gsz
  bare := fun h => k'.bare (k.bare h)
  drawn := k'.drawn.trans k.drawn
  os := k'.os.trans k.os

theorem kp_item {T M : Addr → Prop} {s : Shared} {I : Addr} {h' : Heap} {tk : Nat} (hk : ∀ b o, b ∉ [I] → s.heap.get? b = some o → h'.get? b = some o) (hM : M I) (hI : ∃ o, s.heap.get? I = some o ∧ tab o = false) (hl : (h'.get? I).isSome = true) :
    Kp T M No s { s with heap := h', toks := tk } where
  keep := fun b o hm e _ => hk b o (fun q => hm (by rw [List.mem_singleton.mp q]; exact hM)) e
  live := fun b h => by
    by_cases e : b = I
    · rw [e]; exact hl
    · obtain ⟨o, ho⟩ := Option.isSome_iff_exists.mp h
      show (h'.get? b).isSome = true
      rw [hk b o (fun q => e (List.mem_singleton.mp q)) ho]; rfl
  tabs := fun b o e ht => by
    by_cases q : b = I
    · obtain ⟨o', ho', ht'⟩ := hI
      rw [q, ho'] at e; cases e
      rw [ht'] at ht; cases ht
    · exact .inl (hk b o (fun h => q (List.mem_singleton.mp h)) e)
  gens := fun _ _ _ h => h
  gsz := Nat.le_refl _
  bare := fun h => h
  drawn := rfl
  os := rfl
end
end Mine

namespace Mine
open PySem PySem.Calls PyProof.Rows PyProof PySem.W

theorem up_mono {T : Addr → Prop} {X : Addr → Prop} {s s₁ s₂ : Shared} (k : K0 T s₁ s₂) {a : Addr} (h : Up X s s₁ a) : Up X s s₂ a := h.imp id fun h => ⟨h.1, k.live a h.2⟩

theorem Slot.step {T : Addr → Prop} {env : Env} {s s' : Shared} (k : K0 T s s') {x : Str} (a : Slot env s.heap x) : Slot env s'.heap x := by
  rcases a with ⟨a, m, n⟩ | ⟨a, c, v, l, e⟩
  · exact .inl ⟨a, m, k.ns n⟩
  · exact .inr ⟨a, c, v, l, k.cell e⟩
theorem K0.plain {T : Addr → Prop} {s s' : Shared} (k : K0 T s s') {a : Addr} {its : Array Value} (x : s.heap.PlainList a its) : s'.heap.PlainList a its :=
  let ⟨n, e⟩ := x; ⟨n, k.get e rfl⟩

theorem K0.then_but {T : Addr → Prop} {s s' : Shared} {I : Addr} {h' : Heap} {tk : Nat} (k : K0 T s s') (hk : ∀ b o, b ∉ [I] → s'.heap.get? b = some o → h'.get? b = some o) (hI : s.heap.get? I = none) : K0 T s { s' with heap := h', toks := tk } := by
  have ne : ∀ b, (s.heap.get? b).isSome = true → b ∉ [I] := fun b h q => by rw [List.mem_singleton.mp q, hI] at h; cases h
  refine ⟨fun b o hm e ht => hk b o (ne b (by rw [e]; rfl)) (k.keep b o hm e ht), fun b h => ?_, fun b o e ht => ?_, k.gens, k.gsz, k.bare, k.drawn, k.os⟩
  · obtain ⟨o, ho⟩ := Option.isSome_iff_exists.mp (k.live b h)
    show (h'.get? b).isSome = true
    rw [hk b o (ne b h) ho]; rfl
  · rcases k.tabs b o e ht with h1 | ⟨hT, vs, more, rfl, h1⟩
    · exact .inl (hk _ _ (ne b (by rw [e]; rfl)) h1)
    · exact .inr ⟨hT, vs, more, rfl, hk _ _ (ne b (by rw [e]; rfl)) h1.1, h1.2⟩

section
variable {Γ : Cx} {scope : Scope} {x : Str}

theorem comp_run {elt iter : Expr} {px pos cpos : Pos} {ifs : List Expr} {src : PV} {xs : List PV} {keep : PV → Bool} {f : PV → PV} {frI : Bool} {use : Option (Value → Sem Unit)} {E : Value → Shared → Prop} {Q : Value → Shared → Prop} {s : Shared}
    (ok : CompOK scope x Γ.env.cells) (hs : ∀ v, foldedSetIterable iter Γ.env v = pure v)
    (hi : Evals Γ frI iter src) (hit : itemsOf src = some xs) (hro : rangeOK src) (hsz : xs.length ≤ 4096)
    (ht : ∀ X C p, (∀ a, Γ.X a → X a) → p ∈ xs → TestsL (Γ.inner scope x ok X C p) ifs (keep p))
    (he : ∀ X C p, (∀ a, Γ.X a → X a) → p ∈ xs → keep p = true → Evals (Γ.inner scope x ok X C p) false elt (f p))
    (o : Γ.Ok s)
    (cont : ∀ D C m s₁ ys, K0 Γ.T s s₁ → s.heap.get? D = none → s.heap.get? C = none → D ≠ C → s₁.heap.Ns C m → s₁.heap.PlainList D ys.toArray → VRs s₁.heap (fun a => Up Γ.X s s₁ a ∧ a ≠ C ∧ a ≠ D) ((xs.filter keep).map f) ys →
      compPost Γ.M Γ.A E use Q (.ref D) C (.ok .next) s₁) :
    wpAny Γ.M Γ.A (comprehension (.ListComp elt [⟨.Name x px, iter, ifs, 0⟩] scope pos) scope Γ.env cpos (newList []) false (eval iter Γ.env) use) Q E s := by
  have hnames : ∀ y ∈ scope.names, y.2 = .local → scope.names.lookup y.1 = some .local := fun y hy e => by
    have := lookup_of_nodup (n := y.1) (k := y.2) hy ok.nodup
    rw [e] at this; exact this
  refine wpAny_comprehension_free rfl hs (closureFor_is ok.frees) ok.kind hnames (wpAny_mono (hi E s o) (fun xv s₀ h₀ => ?_) fun _ _ e => e)
  obtain ⟨k₀, hr, _⟩ := h₀
  refine iter_pv (T := Γ.T) hr hit hro fun I fp P St s₂ k₂ hI it => ?_
  have k02 : K0 Γ.T s s₂ := k₀.trans k₂
  refine wpAny_newObj_type ?_
  refine newEnv_comp fun e₀ he₀ => ?_
  subst he₀
  -- the numbers
  generalize hD : s₂.heap.objs.size = D
  generalize hH2 : s₂.heap.push { cls := .type "list", dict := none, data := .seq ([] : List Value).toArray } = H2
  have hszC : H2.objs.size = D + 1 := by rw [← hH2, Heap.size_push, hD]
  dsimp only
  generalize hC : H2.objs.size = C
  generalize hH3 : H2.push { cls := .type "dict", dict := none, data := .dict #[] } = H3
  generalize hH4 : pushCells H3 scope.names = H4
  have hsz3 : H3.objs.size = C + 1 := by rw [← hH3, Heap.size_push, hC]
  have hDC : D ≠ C := by omega
  have hIlt : I < D := by
    obtain ⟨o', ho', _⟩ := it.sits 0 _ it.start I (by
      have := (it.walks Γ.A Γ.hh).sub I (by simp)
      exact this)
    rw [← hD]; exact Heap.lt_size ho'
  have old4 : ∀ b o', s₂.heap.get? b = some o' → H4.get? b = some o' := fun b o' e => by
    rw [← hH4]
    refine pushCells_keeps _ _ _ _ ?_
    rw [← hH3]
    refine Heap.get?_push_of_some _ ?_
    rw [← hH2]
    exact Heap.get?_push_of_some _ e
  generalize hs4 : ({ s₂ with heap := H4 } : Shared) = s₄
  have hs4h : s₄.heap = H4 := by rw [← hs4]
  have k4 : K0 Γ.T s₂ s₄ := by rw [← hs4]; exact K0.of_keep old4
  have k04 : K0 Γ.T s s₄ := k02.trans k4
  have plainD : H4.PlainList D #[] := by
    refine ⟨0, ?_⟩
    rw [← hH4]
    refine pushCells_keeps _ _ _ _ ?_
    rw [← hH3]
    refine Heap.get?_push_of_some _ ?_
    rw [← hH2, ← hD]
    exact Heap.get?_push_size _ rfl
  have nsC : H4.Ns C fun _ => none := by
    rw [← hH4]
    refine Heap.Ns.keeps ?_ (pushCells_keeps _ _)
    rw [← hH3, ← hC]
    exact Heap.Ns.new H2 _
  let cenv := inEnv scope (clOf Γ.env.cells scope.names []) C Γ.env
  have hck : cenv.scope.kind = .function := ok.kind
  -- where the name lies
  have slot0 : Slot cenv H4 x := by
    rcases ok.var with hv | hv
    · refine .inl ⟨?_, _, nsC⟩
      have := lookup_relabel (env := Γ.env) x hv
      simp only [show (NameKind.local == NameKind.free) = false from rfl, Bool.false_and, Bool.false_eq_true, if_false] at this
      exact this
    · obtain ⟨c, h1, h2, h3⟩ := cellsFrom_cell x scope.names H3 (clOf Γ.env.cells scope.names []) (mem_of_lookup hv) ok.nodup
      refine .inr ⟨?_, c, none, ?_, hH4 ▸ h3⟩
      · have := lookup_relabel (env := Γ.env) x hv
        simp only [show (NameKind.cell == NameKind.free) = false from rfl, Bool.false_and, Bool.false_eq_true, if_false] at this
        exact this
      · rw [hsz3] at h1; exact h1
  have cellR : ∀ c, cenv.cells.lookup x = some c → cenv.kindOf x = some .cell → C ≤ c ∧ c < H4.objs.size := by
    intro c hc hk
    rcases ok.var with hv | hv
    · have := lookup_relabel (env := Γ.env) x hv
      simp only [show (NameKind.local == NameKind.free) = false from rfl, Bool.false_and, Bool.false_eq_true, if_false] at this
      have hk' : (relabel scope Γ.env).names.lookup x = some .cell := hk
      unfold relabel at hk'
      rw [this] at hk'; cases hk'
    · obtain ⟨c', h1, h2, h3⟩ := cellsFrom_cell x scope.names H3 (clOf Γ.env.cells scope.names []) (mem_of_lookup hv) ok.nodup
      rw [hsz3] at h1 h2
      have e : c' = c := Option.some.inj (h1.symm.trans hc)
      subst e
      rw [hH4] at h3
      exact ⟨Nat.le_of_succ_le h2, h3.lt⟩
  have homeR : ∀ a, Home cenv x a → C ≤ a ∧ a < H4.objs.size := by
    rintro a (⟨_, rfl⟩ | ⟨hk, hc⟩)
    · exact ⟨Nat.le_refl _, nsC.lt⟩
    · exact cellR a hc hk
  let M : Addr → Prop := fun b => b = I ∨ b = D ∨ b = C ∨ Home cenv x b
  have MC : M C := .inr (.inr (.inl rfl))
  have MD : M D := .inr (.inl rfl)
  have MI : M I := .inl rfl
  have MH : ∀ a, Home cenv x a → M a := fun a h => .inr (.inr (.inr h))
  have Mge : ∀ b, M b → b = I ∨ b = D ∨ C ≤ b := by
    rintro b (h | h | h | h)
    · exact .inl h
    · exact .inr (.inl h)
    · exact .inr (.inr (h ▸ Nat.le_refl _))
    · exact .inr (.inr (homeR b h).1)
  have hMs : ∀ b, M b → s.heap.get? b = none := by
    intro b hb
    rcases Mge b hb with rfl | rfl | hb
    · exact none_of_K k₀ hI
    · refine none_of_K k02 ?_
      rw [← hD]; exact get_size _
    · refine none_of_K k02 ?_
      cases e : s₂.heap.get? b with
      | none => rfl
      | some o' =>
        have h1 : b < D := hD ▸ Heap.lt_size e
        have h2 : C ≤ b := hb
        exact absurd (Nat.lt_of_lt_of_le h1 (Nat.le_trans (by omega) h2)) (Nat.lt_irrefl _)
  have Mlive : ∀ b, M b → (s₄.heap.get? b).isSome = true := by
    rw [hs4h]
    rintro b (rfl | rfl | rfl | h)
    · obtain ⟨o', ho', _⟩ := it.sits 0 _ it.start b ((it.walks Γ.A Γ.hh).sub b (List.mem_singleton.mpr rfl))
      rw [old4 _ _ ho']; rfl
    · obtain ⟨n, e⟩ := plainD
      rw [e]; rfl
    · exact ns_live nsC
    · rcases h with ⟨_, rfl⟩ | ⟨hk, hc⟩
      · exact ns_live nsC
      · rcases slot0 with ⟨hk', _⟩ | ⟨_, c, v, hc', hu⟩
        · rw [hk] at hk'; cases hk'
        · rw [hc] at hc'; cases hc'
          exact cell_live hu
  -- what is gone through lies below
  let X' : Addr → Prop := Up Γ.X s s₀
  have hX' : ∀ a, Γ.X a → X' a := fun _ h => .inl h
  have liveX : ∀ a, X' a → (s₀.heap.get? a).isSome = true := fun a h => h.elim (fun h => k₀.live a (o.live a h)) fun h => h.2
  have notM : ∀ a, X' a → ¬ M a := by
    intro a ha hm
    rcases Mge a hm with rfl | rfl | hb
    · have := liveX _ ha; rw [hI] at this; cases this
    · have := get_lt (k₂.live _ (liveX _ ha)); rw [hD] at this; exact Nat.lt_irrefl _ this
    · have h1 : a < D := hD ▸ get_lt (k₂.live _ (liveX _ ha))
      have h2 : C ≤ a := hb
      exact absurd (Nat.lt_of_lt_of_le h1 (Nat.le_trans (by omega) h2)) (Nat.lt_irrefl _)
  have fpD : ∀ b ∈ fp, b < D := fun b hb => by
    obtain ⟨o', ho', _⟩ := it.sits 0 _ it.start b hb
    rw [← hD]; exact Heap.lt_size ho'
  let Y : Shared → Addr → Prop := fun s' a => Up Γ.X s s' a ∧ ¬ M a
  let J : Nat → Shared → Prop := fun k s' => ∃ i ys, i ≤ xs.length ∧ k = xs.length + 1 - i ∧ Kp Γ.T M No s₄ s' ∧ St i s'.heap ∧ s'.heap.PlainList D ys.toArray ∧ (∃ m, s'.heap.Ns C m) ∧ Slot cenv s'.heap x ∧
    VRs s'.heap (Y s') (((xs.take i).filter keep).map f) ys
  have W := it.walks Γ.A Γ.hh
  have st4 : St 0 s₄.heap := by
    rw [hs4h]
    exact W.frame _ _ _ it.start fun b _ o' e => old4 b o' e
  have loop : codeAny Γ.M Γ.A (.compLoop (.ListComp elt [⟨.Name x px, iter, ifs, 0⟩] scope pos) 0 (.ref I) (.ref D) cenv) (compPost Γ.M Γ.A E use Q (.ref D) C) s₄ := by
    refine codeAny_compLoop_tests J ?_ (xs.length + 1) ⟨0, [], Nat.zero_le _, rfl, Kp.refl, st4, by rw [hs4h]; exact plainD, ⟨_, by rw [hs4h]; exact nsC⟩, by rw [hs4h]; exact slot0, .nil⟩
    rintro k s' ⟨i, ys, hin, rfl, kp, st, pl, ⟨m, ns⟩, sl, vr⟩
    have k0 : K0 Γ.T s s' := k04.fresh kp hMs
    have sits' := fun b hb => it.sits i _ st b hb
    by_cases hlt : i < xs.length
    · refine W.item i _ _ _ hlt st fun v h₁ tk₁ hP st₁ hk₁ => ?_
      have kI : Kp Γ.T M No s' { s' with heap := h₁, toks := tk₁ } := kp_item hk₁ MI (sits' I (W.sub I (by simp))) (by
        obtain ⟨o', ho', _⟩ := it.sits (i + 1) _ st₁ I (W.sub I (by simp))
        rw [ho']; rfl)
      generalize hs1 : ({ s' with heap := h₁, toks := tk₁ } : Shared) = s₁ at kI
      have hs1h : s₁.heap = h₁ := by rw [← hs1]
      have neI : ∀ a, C ≤ a → a ≠ I := fun a h e => by subst e; exact absurd (Nat.lt_of_lt_of_le hIlt (Nat.le_trans (by omega) h)) (Nat.lt_irrefl _)
      have sl₁ : Slot cenv s₁.heap x := by
        rw [hs1h]
        rcases sl with ⟨hk, m', hn⟩ | ⟨hk, c, u, hc, hu⟩
        · exact .inl ⟨hk, m', hn.at' fun o' e => hk₁ _ o' (fun q => neI C (Nat.le_refl _) (List.mem_singleton.mp q)) e⟩
        · obtain ⟨ob, e1, e2⟩ := hu
          exact .inr ⟨hk, c, u, hc, ob, hk₁ _ _ (fun q => neI c (cellR c hc hk).1 (List.mem_singleton.mp q)) e1, e2⟩
      have pl₁ : s₁.heap.PlainList D ys.toArray := by
        rw [hs1h]
        obtain ⟨n, e⟩ := pl
        exact ⟨n, hk₁ _ _ (fun q => absurd (List.mem_singleton.mp q ▸ hIlt) (Nat.lt_irrefl _)) e⟩
      have ns₁ : s₁.heap.Ns C m := by
        rw [hs1h]; exact ns.at' fun o' e => hk₁ _ o' (fun q => neI C (Nat.le_refl _) (List.mem_singleton.mp q)) e
      refine wpAny_assign_Name (store_var (T := Γ.T) hck sl₁ fun a s₂' hm va sl₂ kp₂ _ _ => ?_)
      have ha := homeR a hm
      have Ma : M a := MH a hm
      have kp₂' : Kp Γ.T M No s₁ s₂' := kp₂.mono (fun b e => by rw [e]; exact Ma) fun _ h => h
      have kp2 : Kp Γ.T M No s₄ s₂' := (kp.trans kI).trans kp₂'
      have k02' : K0 Γ.T s s₂' := k04.fresh kp2 hMs
      have st₂ : St (i + 1) s₂'.heap := W.frame _ _ _ (hs1h ▸ st₁) fun b hb o' e => by
        obtain ⟨o'', ho'', ht''⟩ := it.sits (i + 1) _ (hs1h ▸ st₁) b hb
        rw [ho''] at e; cases e
        refine kp₂.keep b _ (fun q => ?_) ho'' ht''
        have h1 := fpD b hb
        have h2 : C ≤ b := by rw [q]; exact ha.1
        exact absurd (Nat.lt_of_lt_of_le h1 (Nat.le_trans (by omega) h2)) (Nat.lt_irrefl _)
      have pl₂ : s₂'.heap.PlainList D ys.toArray := by
        obtain ⟨n, e⟩ := pl₁
        exact ⟨n, kp₂.keep _ _ (fun q => absurd (Nat.lt_of_lt_of_le (Nat.lt_succ_self D) (by have := ha.1; rw [← q] at this; omega)) (Nat.lt_irrefl _)) e rfl⟩
      have ns₂ : ∃ m, s₂'.heap.Ns C m := by
        rcases hm with ⟨hk, rfl⟩ | ⟨hk, hc⟩
        · rcases sl₂ with ⟨_, m', h⟩ | ⟨hk', _⟩
          · exact ⟨m', h⟩
          · rw [hk] at hk'; cases hk'
        · obtain ⟨o', es, ep, ho', hd', r⟩ := ns₁
          refine ⟨m, o', es, ep, kp₂.keep _ _ (fun q => ?_) ho' (tab_dict hd'), hd', r⟩
          have := (cellR a hc hk).1
          rw [← q] at this
          rcases sl₂ with ⟨hk', _⟩ | ⟨_, c, u, hc', hu⟩
          · rw [hk] at hk'; cases hk'
          · rw [hc] at hc'; cases hc'
            obtain ⟨ob, e1, e2⟩ := hu
            rcases ok.var with hv | hv
            · have := lookup_relabel (env := Γ.env) x hv
              simp only [show (NameKind.local == NameKind.free) = false from rfl, Bool.false_and, Bool.false_eq_true, if_false] at this
              have hk' : (relabel scope Γ.env).names.lookup x = some .cell := hk
              unfold relabel at hk'
              rw [this] at hk'; cases hk'
            · obtain ⟨c', h1, h2, h3⟩ := cellsFrom_cell x scope.names H3 (clOf Γ.env.cells scope.names []) (mem_of_lookup hv) ok.nodup
              rw [hsz3] at h1 h2
              have e : c' = a := Option.some.inj (h1.symm.trans hc)
              rw [e, ← q] at h2
              exact absurd h2 (Nat.not_succ_le_self _)
      have vr₂ : VRs s₂'.heap (Y s₂') (((xs.take i).filter keep).map f) ys := vr.mono (fun b o' hb e ht => (kI.trans kp₂').keep b o' hb.2 e ht) fun b hb => ⟨hb.1.imp id fun h => ⟨h.1, (kI.trans kp₂').live b h.2⟩, hb.2⟩
      obtain ⟨p, hp, hpv⟩ := it.vals i v hlt hP
      have pm : p ∈ xs := List.mem_of_getElem? hp
      have vp : VR s₂'.heap X' p v := hpv s₂' fun a o' hx e ht => kp2.keep a o' (notM a hx) (k4.get e ht) ht
      have ok₂ : (Γ.inner scope x ok X' C p).Ok s₂' := inner_ok ok (o.step k02') hX' (fun a h => kp2.live a (k4.live a (k₂.live a (liveX a h)))) vp va
      -- a step that keeps all
      have carry : ∀ s₃, K0 Γ.T s₂' s₃ → Kp Γ.T M No s₄ s₃ ∧ St (i + 1) s₃.heap ∧ s₃.heap.PlainList D ys.toArray ∧ (∃ m, s₃.heap.Ns C m) ∧ Slot cenv s₃.heap x ∧ VRs s₃.heap (Y s₃) (((xs.take i).filter keep).map f) ys := by
        intro s₃ k
        refine ⟨kp2.trans k.of0, W.frame _ _ _ st₂ fun b hb o' e => ?_, k.plain pl₂, ns₂.imp fun _ h => k.ns h, sl₂.step k, vr₂.mono (fun b o' _ e ht => k.get e ht) fun b hb => ⟨up_mono k hb.1, hb.2⟩⟩
        obtain ⟨o'', ho'', ht''⟩ := it.sits (i + 1) _ st₂ b hb
        rw [ho''] at e; cases e
        exact k.get ho'' ht''
      have take1 : xs.take (i + 1) = xs.take i ++ [p] := by rw [List.take_add_one, hp]; rfl
      refine wpAny_mono (ht X' C p hX' pm _ s₂' ok₂) (fun b s₃ h₃ => ?_) fun _ _ e => e
      obtain ⟨k₃, rfl⟩ := h₃
      cases hkp : keep p with
      | false =>
        rw [if_neg (by simp)]
        obtain ⟨c1, c2, c3, c4, c5, c6⟩ := carry s₃ k₃
        refine ⟨xs.length + 1 - (i + 1), by omega, i + 1, ys, hlt, rfl, c1, c2, c3, c4, c5, ?_⟩
        rw [take1, List.filter_append, show [p].filter keep = [] by simp [hkp], List.append_nil]
        exact c6
      | true =>
        rw [if_pos rfl]
        refine wpAny_mono (he X' C p hX' pm hkp _ s₃ (ok₂.step k₃)) (fun y s₅ h₅ => ?_) fun _ _ e => e
        obtain ⟨k₅, hy, _⟩ := h₅
        obtain ⟨c1, c2, c3, c4, c5, c6⟩ := carry s₅ (k₃.trans k₅)
        have hys : ys.length ≤ xs.length := by
          rw [c6.length, List.length_map]
          exact Nat.le_trans (List.length_filter_le _ _) (by rw [List.length_take]; exact Nat.min_le_right _ _)
        refine wpAny_list_append_plain (hsz := by rw [List.size_toArray]; unfold sizeLine; omega) c3 fun h₆ pl₆ hs₆ => ?_
        have kD : Kp Γ.T M No s₅ { s₅ with heap := h₆ } := Kp.of_but (tk := s₅.toks) hs₆ MD (by obtain ⟨n, e⟩ := pl₆; rw [e]; rfl) fun o' e => by
          obtain ⟨n, e1⟩ := c3
          rw [e1] at e; cases e; rfl
        refine ⟨xs.length + 1 - (i + 1), by omega, i + 1, ys ++ [y], hlt, rfl, c1.trans kD, W.frame _ _ _ c2 fun b hb o' e => hs₆.extBut b o' (fun q => absurd (q ▸ fpD b hb) (Nat.lt_irrefl _)) e,
          by simpa using pl₆, c4.imp fun _ h => h.sameBut hs₆ (Ne.symm hDC), ?_, ?_⟩
        · rcases c5 with ⟨hk, m', hn⟩ | ⟨hk, c, u, hc, hu⟩
          · exact .inl ⟨hk, m', hn.sameBut hs₆ (Ne.symm hDC)⟩
          · refine .inr ⟨hk, c, u, hc, hu.sameBut hs₆ fun q => ?_⟩
            have h1 : C ≤ c := (cellR c hc hk).1
            rw [q] at h1
            exact absurd (Nat.lt_of_lt_of_le (Nat.lt_succ_self D) (by omega)) (Nat.lt_irrefl _)
        · rw [take1, List.filter_append, show [p].filter keep = [p] by simp [hkp], List.map_append]
          refine VRs.snoc ?_ ?_
          · exact c6.mono (fun b o' hb e ht => kD.keep b o' hb.2 e ht) fun b hb => ⟨hb.1.imp id fun h => ⟨h.1, kD.live b h.2⟩, hb.2⟩
          · refine hy.mono (fun b o' hb e ht => kD.keep b o' ?_ e ht) fun b hb => ⟨?_, ?_⟩
            · exact fun hm => by
                rcases hb with hb | hb
                · exact notM b hb hm
                · have h1 := (kp2.trans k₃.of0).live b (Mlive b hm)
                  rw [hb.1] at h1; cases h1
            · rcases hb with hb | hb
              · exact hb.imp id fun h => ⟨h.1, kD.live b (k₅.live b (k₃.live b (kp2.live b (k4.live b (k₂.live b h.2)))))⟩
              · exact .inr ⟨none_of_K (k02'.trans k₃) hb.1, kD.live b hb.2⟩
            · exact fun hm => by
                rcases hb with hb | hb
                · exact notM b hb hm
                · have h1 := (kp2.trans k₃.of0).live b (Mlive b hm)
                  rw [hb.1] at h1; cases h1
    · have hie : i = xs.length := by omega
      subst hie
      refine W.done _ _ _ st fun h₁ tk₁ hk₁ => ?_
      have neI : ∀ a, C ≤ a → a ≠ I := fun a h e => by subst e; exact absurd (Nat.lt_of_lt_of_le hIlt (Nat.le_trans (by omega) h)) (Nat.lt_irrefl _)
      refine cont D C m _ ys (k0.then_but hk₁ (none_of_K k₀ hI)) (hMs D MD) (hMs C MC) hDC (ns.at' fun o' e => hk₁ _ o' (fun q => neI C (Nat.le_refl _) (List.mem_singleton.mp q)) e) ?_ ?_
      · obtain ⟨n, e⟩ := pl
        exact ⟨n, hk₁ _ _ (fun q => absurd (List.mem_singleton.mp q ▸ hIlt) (Nat.lt_irrefl _)) e⟩
      · have vr' : VRs s'.heap (Y s') ((xs.filter keep).map f) ys := by
          have := vr
          rw [List.take_length] at this
          exact this
        refine vr'.mono (fun b o' hb e ht => hk₁ b o' (fun q => hb.2 (List.mem_singleton.mp q ▸ MI)) e) fun b hb => ⟨?_, fun e => hb.2 (e ▸ MC), fun e => hb.2 (e ▸ MD)⟩
        refine hb.1.imp id fun h => ⟨h.1, ?_⟩
        obtain ⟨o', ho'⟩ := Option.isSome_iff_exists.mp h.2
        show (h₁.get? b).isSome = true
        rw [hk₁ b o' (fun q => hb.2 (List.mem_singleton.mp q ▸ MI)) ho']; rfl
  exact codeAny_compStart_list loop (W.self 0 _ _ _ st4 loop)

/-- a comprehension upon a list or a range -/
theorem Evals.comp {elt iter : Expr} {px pos : Pos} {ifs : List Expr} {src : PV} {xs : List PV} {keep : PV → Bool} {f : PV → PV} {frI : Bool}
    (ok : CompOK scope x Γ.env.cells) (hs : ∀ v, foldedSetIterable iter Γ.env v = pure v)
    (hi : Evals Γ frI iter src) (hit : itemsOf src = some xs) (hro : rangeOK src) (hsz : xs.length ≤ 4096)
    (ht : ∀ X C p, (∀ a, Γ.X a → X a) → p ∈ xs → TestsL (Γ.inner scope x ok X C p) ifs (keep p))
    (he : ∀ X C p, (∀ a, Γ.X a → X a) → p ∈ xs → keep p = true → Evals (Γ.inner scope x ok X C p) false elt (f p)) :
    Evals Γ true (.ListComp elt [⟨.Name x px, iter, ifs, 0⟩] scope pos) (.list ((xs.filter keep).map f)) := fun E s o => by
  rw [eval_ListComp]
  refine comp_run (use := none) ok hs hi hit hro hsz ht he o fun D C m s₁ ys k hD hC hDC ns pl vr => ?_
  refine ⟨m, ns, fun h' hs' => ?_⟩
  have hk : ∀ b o', b ∉ [C] → s₁.heap.get? b = some o' → h'.get? b = some o' := fun b o' hb e => hs'.extBut b o' (fun q => hb (List.mem_singleton.mpr q)) e
  have k' : K0 Γ.T s { s₁ with heap := h' } := k.then_but (tk := s₁.toks) hk hC
  obtain ⟨n, e⟩ := pl
  have e' : h'.get? D = some { cls := .type "list", data := .seq ys.toArray n } := hk _ _ (fun q => hDC (List.mem_singleton.mp q)) e
  refine ⟨k', .list (up_new hD e') e' rfl rfl ?_, fun _ a q => ?_⟩
  · refine vr.mono (fun b o' hb e ht => hk b o' (fun q => hb.2.1 (List.mem_singleton.mp q)) e) fun b hb => hb.1.imp id fun h => ⟨h.1, ?_⟩
    obtain ⟨o', ho'⟩ := Option.isSome_iff_exists.mp h.2
    show (h'.get? b).isSome = true
    rw [hk b o' (fun q => hb.2.1 (List.mem_singleton.mp q)) ho']; rfl
  · cases q; exact hD
end
end Mine

namespace Mine
open PySem PySem.Calls PyProof.Rows PyProof PySem.W

theorem VR.intList {h : Heap} {X : Addr → Prop} {ns : List Int} {v : Value} (x : VR h X (.list (ns.map .int)) v) : ∃ a vs, v = .ref a ∧ X a ∧ h.IsList a vs.toArray ∧ IntsAre vs ns := by
  obtain ⟨a, vs, e, hX, hl, hv⟩ := x.isList
  exact ⟨a, vs, e, hX, hl, hv.ints⟩

theorem K0.heap {T : Addr → Prop} {s : Shared} {h' : Heap} {tk : Nat} (hk : ∀ b o, s.heap.get? b = some o → h'.get? b = some o) : K0 T s { s with heap := h', toks := tk } := K0.of_keep hk

section
variable {Γ : Cx} {s s' : Shared}

theorem sum_preSum {vs : List Value} {ns : List Int} {xs : Array (Int × Tok)} (hi : IntsAre vs ns) (e : vs.toArray = intItems xs) : preSum (numAt xs) xs.size = ns.sum := by
  have h1 := nums_intItems xs
  rw [← e] at h1
  have h2 : numsOf vs = ns := hi.numsOf
  rw [preSum_eq, List.take_of_length_le (by simp)]
  rw [← h1]
  show (numsOf vs).sum = _
  rw [h2]

theorem ints_map {vs : List Value} {ns : List Int} {xs : Array (Int × Tok)} (hi : IntsAre vs ns) (e : vs.toArray = intItems xs) : xs.toList.map (·.1) = ns := by
  have h1 := nums_intItems xs
  rw [← e] at h1
  rw [← h1]
  exact hi.numsOf

theorem Evals.sum {x : Str} {np pos : Pos} {e : Expr} {ns : List Int} {fr : Bool} (g : Γ.Glob x (.builtin "sum")) (he : Evals Γ fr e (.list (ns.map .int))) (hc : starEach [e] Γ.env = (false, eval e Γ.env) :: starEach [] Γ.env := by rfl) (hd : (x == ("__debug__" : Str)) = false := by decide) :
    Evals Γ true (.Call (.Name x np) [e] [] pos) (.int ns.sum) := fun E s o =>
  call_builtin g o (EvalsL.cons he .nil hc) (fun vs s₁ k hv => by
    match vs, hv with
    | [v], .cons hv .nil =>
      obtain ⟨a, us, rfl, _, hl, hus⟩ := hv.intList
      obtain ⟨xs, ex⟩ := hus.allInts.items
      rw [ex] at hl
      refine sum_intListG Γ.hh hl fun h' tk t' hk => ?_
      rw [sum_preSum hus ex]
      exact ⟨k.trans (K0.heap hk), .int _ _, fun _ _ h => nomatch h⟩) (by rw [hc]; rfl) hd

def maxOf : List Int → Int
  | [] => 0
  | a :: r => r.foldl max a
theorem foldl_max_mem : ∀ (r : List Int) (a : Int), r.foldl max a = a ∨ r.foldl max a ∈ r
  | [], a => .inl rfl
  | b :: r, a => by
    rw [List.foldl_cons]
    rcases foldl_max_mem r (max a b) with h | h
    · rw [h]
      rcases Int.le_total a b with q | q
      · rw [Int.max_eq_right q]; exact .inr (.head _)
      · rw [Int.max_eq_left q]; exact .inl rfl
    · exact .inr (.tail _ h)
theorem foldl_max_ge : ∀ (r : List Int) (a : Int), a ≤ r.foldl max a ∧ ∀ b ∈ r, b ≤ r.foldl max a
  | [], a => ⟨Int.le_refl _, fun _ h => by cases h⟩
  | b :: r, a => by
    rw [List.foldl_cons]
    obtain ⟨h1, h2⟩ := foldl_max_ge r (max a b)
    refine ⟨by omega, fun c hc => ?_⟩
    rcases List.mem_cons.mp hc with rfl | hc
    · omega
    · exact h2 c hc
theorem maxOf_mem {ns : List Int} (h : ns ≠ []) : maxOf ns ∈ ns := by
  cases ns with
  | nil => exact absurd rfl h
  | cons a r =>
    rcases foldl_max_mem r a with e | e
    · show r.foldl max a ∈ _
      rw [e]; exact .head _
    · exact .tail _ e
theorem le_maxOf {ns : List Int} {a : Int} (h : a ∈ ns) : a ≤ maxOf ns := by
  cases ns with
  | nil => cases h
  | cons b r =>
    rcases List.mem_cons.mp h with rfl | h
    · exact (foldl_max_ge r a).1
    · exact (foldl_max_ge r b).2 a h

theorem Evals.max1 {x : Str} {np pos : Pos} {e : Expr} {ns : List Int} {fr : Bool} (g : Γ.Glob x (.builtin "max")) (he : Evals Γ fr e (.list (ns.map .int))) (hne : ns ≠ []) (hc : starEach [e] Γ.env = (false, eval e Γ.env) :: starEach [] Γ.env := by rfl) (hd : (x == ("__debug__" : Str)) = false := by decide) :
    Evals Γ true (.Call (.Name x np) [e] [] pos) (.int (maxOf ns)) := fun E s o =>
  call_builtin g o (EvalsL.cons he .nil hc) (fun vs s₁ k hv => by
    match vs, hv with
    | [v], .cons hv .nil =>
      obtain ⟨a, us, rfl, _, hl, hus⟩ := hv.intList
      obtain ⟨xs, ex⟩ := hus.allInts.items
      have em := ints_map hus ex
      rw [ex] at hl
      have hsz : 0 < xs.size := by
        rcases Nat.eq_zero_or_pos xs.size with e | e
        · refine absurd ?_ hne
          have : xs.toList.length = 0 := by simpa using e
          rw [← em, List.length_eq_zero_iff.mp this]; rfl
        · exact e
      refine max_intList Γ.hh hl hsz fun v h' tk hv hk => ?_
      obtain ⟨h1, h2⟩ := argBest_gt (numAt xs) (xs.size - 1)
      generalize argBest (fun i j => decide (numAt xs i > numAt xs j)) (xs.size - 1) = j at h1 h2 hv
      have num : ∀ i : Nat, (hi : i < ns.length) → numAt xs i = ns[i] := fun i hi => by
        have hi' : i < xs.size := by rw [← em] at hi; simpa using hi
        simp only [← em]
        simp [numAt, hi']
      have hlen : ns.length = xs.size := by rw [← em]; simp
      have hj : j < ns.length := by omega
      have hv' : us[j]? = some v := by
        rw [← ex] at hv; simpa using hv
      obtain ⟨t, ht⟩ := hus.get j ns[j] (List.getElem?_eq_getElem hj)
      rw [hv'] at ht
      cases ht
      have : ns[j] = maxOf ns := by
        refine Int.le_antisymm (le_maxOf (List.getElem_mem hj)) ?_
        obtain ⟨i, hi, e⟩ := List.getElem_of_mem (maxOf_mem hne)
        rw [← e, ← num i hi, ← num j hj]
        exact h2 i (by omega)
      rw [this]
      exact ⟨k.trans (K0.heap hk), .int _ _, fun _ _ h => nomatch h⟩) (by rw [hc]; rfl) hd

theorem Evals.max2 {x : Str} {np pos : Pos} {e₁ e₂ : Expr} {a b : Int} {f₁ f₂ : Bool} (g : Γ.Glob x (.builtin "max")) (h1 : Evals Γ f₁ e₁ (.int a)) (h2 : Evals Γ f₂ e₂ (.int b)) (hc : starEach [e₁, e₂] Γ.env = (false, eval e₁ Γ.env) :: starEach [e₂] Γ.env := by rfl) (hc2 : starEach [e₂] Γ.env = (false, eval e₂ Γ.env) :: starEach [] Γ.env := by rfl) (hd : (x == ("__debug__" : Str)) = false := by decide) :
    Evals Γ true (.Call (.Name x np) [e₁, e₂] [] pos) (.int (max a b)) := fun E s o =>
  call_builtin g o (EvalsL.cons h1 (EvalsL.cons h2 .nil hc2) hc) (fun vs s₁ k hv => by
    match vs, hv with
    | [_, _], .cons (.int _ _) (.cons (.int _ _) .nil) =>
      refine max_two_ints Γ.hh fun h' tk hk => ?_
      have key : ∀ t u : Tok, ∃ t', (if b > a then Value.int b u else Value.int a t) = .int (max a b) t' := fun t u => by
        split
        · exact ⟨u, by rw [Int.max_eq_right (by omega)]⟩
        · exact ⟨t, by rw [Int.max_eq_left (by omega)]⟩
      obtain ⟨t', e⟩ := key _ _
      rw [e]
      exact ⟨k.trans (K0.heap hk), .int _ _, fun _ _ h => nomatch h⟩) (by rw [hc, hc2]; rfl) hd

def sortI (ns : List Int) : List Int := ns.mergeSort (fun a b => decide (a ≤ b))
theorem sortI_perm (ns : List Int) : (sortI ns).Perm ns := List.mergeSort_perm _ _
theorem sortI_sorted (ns : List Int) : List.Pairwise (· ≤ ·) (sortI ns) := by
  have := List.pairwise_mergeSort (le := fun a b : Int => decide (a ≤ b)) (fun a b c => by simp; omega) (fun a b => by simp; omega) ns
  unfold sortI
  simpa using this
theorem sortI_uniq {ns l : List Int} (h : l.Perm ns) (hs : List.Pairwise (· ≤ ·) l) : l = sortI ns :=
  List.Perm.eq_of_pairwise (fun a b _ _ h1 h2 => Int.le_antisymm h1 h2) hs (sortI_sorted ns) (h.trans (sortI_perm ns).symm)

theorem Evals.sorted {x : Str} {np pos : Pos} {e : Expr} {ns : List Int} {fr : Bool} (g : Γ.Glob x (.builtin "sorted")) (he : Evals Γ fr e (.list (ns.map .int))) (h64 : ns.length < 64) (hc : starEach [e] Γ.env = (false, eval e Γ.env) :: starEach [] Γ.env := by rfl) (hd : (x == ("__debug__" : Str)) = false := by decide) :
    Evals Γ true (.Call (.Name x np) [e] [] pos) (.list ((sortI ns).map .int)) := fun E s o =>
  call_builtin g o (EvalsL.cons he .nil hc) (fun vs s₁ k hv => by
    match vs, hv with
    | [v], .cons hv .nil =>
      obtain ⟨a, us, rfl, _, hl, hus⟩ := hv.intList
      refine sorted_ints hl hus (by rw [hus.length]; exact h64) fun out ns' hi hp hs => ?_
      rw [sortI_uniq hp hs] at hi
      have k' : K0 Γ.T s { s₁ with heap := sortedAll s₁.heap us out } := k.trans (K0.heap (tk := s₁.toks) fun _ _ e => sortedAll_old e)
      obtain ⟨n, e⟩ := sortedAll_at s₁.heap us out
      have hn : s.heap.get? (s₁.heap.objs.size + 1) = none := none_of_K k (Heap.get?_none_of_le (Nat.le_succ _))
      refine ⟨k', ?_, fun _ a q => by cases q; exact hn⟩
      refine VR.of_list (vs := out.toList) (up_new hn e) ?_ (VRs.of_ints hi)
      rw [Array.toArray_toList]
      exact ⟨_, e, rfl, _, rfl⟩) (by rw [hc]; rfl) hd

theorem Evals.toInt {x : Str} {np pos : Pos} {e : Expr} {n : Int} {fr : Bool} (g : Γ.Glob x (.type "int")) (he : Evals Γ fr e (.int n)) (hc : starEach [e] Γ.env = (false, eval e Γ.env) :: starEach [] Γ.env := by rfl) (hd : (x == ("__debug__" : Str)) = false := by decide) :
    Evals Γ true (.Call (.Name x np) [e] [] pos) (.int n) := fun E s o =>
  call_type g o (EvalsL.cons he .nil hc) (fun vs s₁ k hv => by
    match vs, hv with
    | [_], .cons (.int _ _) .nil => exact call_int_int ⟨k, .int _ _, fun _ _ h => nomatch h⟩) (by rw [hc]; rfl) hd

theorem Evals.range1 {x : Str} {np pos : Pos} {e : Expr} {n : Int} {fr : Bool} (g : Γ.Glob x (.type "range")) (he : Evals Γ fr e (.int n)) (hc : starEach [e] Γ.env = (false, eval e Γ.env) :: starEach [] Γ.env := by rfl) (hd : (x == ("__debug__" : Str)) = false := by decide) :
    Evals Γ true (.Call (.Name x np) [e] [] pos) (.range 0 n) := fun E s o =>
  call_type g o (EvalsL.cons he .nil hc) (fun vs s₁ k hv => by
    match vs, hv with
    | [_], .cons (.int _ t) .nil =>
      refine call_range_1 ?_
      have hn : s.heap.get? s₁.heap.objs.size = Option.none := none_of_K k (get_size _)
      have hr := IsRange.new s₁.heap 0 n 1 s₁.toks t (s₁.toks + 1)
      exact ⟨k.trans (K0.push _), .range (up_new hn (Heap.get?_push_size _ rfl)) hr, fun _ a q => by cases q; exact hn⟩) (by rw [hc]; rfl) hd
theorem Evals.range2 {x : Str} {np pos : Pos} {e₁ e₂ : Expr} {a b : Int} {f₁ f₂ : Bool} (g : Γ.Glob x (.type "range")) (h1 : Evals Γ f₁ e₁ (.int a)) (h2 : Evals Γ f₂ e₂ (.int b)) (hc : starEach [e₁, e₂] Γ.env = (false, eval e₁ Γ.env) :: starEach [e₂] Γ.env := by rfl) (hc2 : starEach [e₂] Γ.env = (false, eval e₂ Γ.env) :: starEach [] Γ.env := by rfl) (hd : (x == ("__debug__" : Str)) = false := by decide) :
    Evals Γ true (.Call (.Name x np) [e₁, e₂] [] pos) (.range a b) := fun E s o =>
  call_type g o (EvalsL.cons h1 (EvalsL.cons h2 .nil hc2) hc) (fun vs s₁ k hv => by
    match vs, hv with
    | [_, _], .cons (.int _ t) (.cons (.int _ u) .nil) =>
      refine call_range_2 ?_
      have hn : s.heap.get? s₁.heap.objs.size = Option.none := none_of_K k (get_size _)
      have hr := IsRange.new s₁.heap a b 1 t u s₁.toks
      exact ⟨k.trans (K0.push _), .range (up_new hn (Heap.get?_push_size _ rfl)) hr, fun _ a q => by cases q; exact hn⟩) (by rw [hc, hc2]; rfl) hd

/-- where an index lies -/
theorem Evals.item {e i : Expr} {xs : List PV} {k : Int} {j : Nat} {p : PV} {f₁ f₂ : Bool} {pos : Pos} (he : Evals Γ f₁ e (.list xs)) (hi : Evals Γ f₂ i (.int k)) (hsz : xs.length ≤ 4096) (hj : (0 ≤ k ∧ k.toNat = j) ∨ (k < 0 ∧ k + xs.length = j)) (hp : xs[j]? = some p)
    (hs : ∀ o k' : Value, subscripted i false o k' = operate [o, k'] (getItem o k') := by intro _ _; with_unfolding_all rfl) :
    Evals Γ false (.Subscript e i pos) p := fun E s o => by
  refine Subscript_ (wpAny_mono (he E s o) (fun v s₁ h₁ => wpAny_mono (hi E s₁ (o.step h₁.1)) (fun w s₂ h₂ => ?_) fun _ _ e => e) fun _ _ e => e)
  have hv := h₁.2.1.step h₂.1
  obtain ⟨a, us, rfl, _, hl, hus⟩ := hv.isList
  obtain ⟨k2, hw, _⟩ := h₂
  cases hw
  obtain ⟨y, hy, vy⟩ := hus.get hp
  have hjl : j < xs.length := (List.getElem?_eq_some_iff.mp hp).1
  refine tail_any hl.typeIs slot_list_getitem.lookup ?_ (hs _ _)
  rcases hj with ⟨h0, e⟩ | ⟨h0, e⟩
  · exact wpAny_getItem_list hl h0 (by omega) (by rw [e]; simpa using hy) ⟨h₁.1.trans k2, vy, fun h => nomatch h⟩
  · have el : us.toArray.size = xs.length := by rw [List.size_toArray, hus.length]
    exact wpAny_getItem_list_neg hl h0 (by rw [el]; omega) (by omega) (by rw [el, e]; simpa using hy) ⟨h₁.1.trans k2, vy, fun h => nomatch h⟩
theorem Evals.itemT {e i : Expr} {xs : List PV} {k : Int} {j : Nat} {p : PV} {f₁ f₂ : Bool} {pos : Pos} (he : Evals Γ f₁ e (.tup xs)) (hi : Evals Γ f₂ i (.int k)) (hsz : xs.length ≤ 4096) (hj : 0 ≤ k ∧ k.toNat = j) (hp : xs[j]? = some p)
    (hs : ∀ o k' : Value, subscripted i false o k' = operate [o, k'] (getItem o k') := by intro _ _; with_unfolding_all rfl) :
    Evals Γ false (.Subscript e i pos) p := fun E s o => by
  refine Subscript_ (wpAny_mono (he E s o) (fun v s₁ h₁ => wpAny_mono (hi E s₁ (o.step h₁.1)) (fun w s₂ h₂ => ?_) fun _ _ e => e) fun _ _ e => e)
  have hv := h₁.2.1.step h₂.1
  obtain ⟨a, us, rfl, _, hl, hus⟩ := hv.isTup
  obtain ⟨k2, hw, _⟩ := h₂
  cases hw
  obtain ⟨y, hy, vy⟩ := hus.get hp
  have hjl : j < xs.length := (List.getElem?_eq_some_iff.mp hp).1
  have hl2 := hus.length
  refine item_tupleT (j := j) hl (by omega) (by omega) ?_ hy ⟨h₁.1.trans k2, vy, fun h => nomatch h⟩ (hs _ _)
  unfold seqIndex?
  have h0 : ¬ k < 0 := by omega
  have h1 : k < (us.length : Int) := by omega
  simp only [if_neg h0]
  rw [if_pos (by simp; omega), hj.2]

def isScalar : PV → Bool
  | .none | .bool _ | .int _ | .str _ => true
  | _ => false
theorem up_scalar' {p : PV} {v : Value} {h h' : Heap} {X X' : Addr → Prop} (hp : isScalar p = true) (x : VR h X p v) : VR h' X' p v := by
  cases x with
  | none => exact .none
  | bool b => exact .bool b
  | int i t => exact .int i t
  | str x t => exact .str x t
  | list => cases hp
  | tup => cases hp
  | range => cases hp
  | obj => cases hp
  | inst => cases hp
/-- n copies of one thing -/
theorem Evals.rep {e r : Expr} {p : PV} {n : Int} {f₁ f₂ : Bool} {pos p2 : Pos} (he : Evals Γ f₁ e p) (hp : isScalar p = true) (hr : Evals Γ f₂ r (.int n)) (hn : 0 ≤ n ∧ n ≤ 4096) (hc : starEach [e] Γ.env = (false, eval e Γ.env) :: starEach [] Γ.env := by rfl) :
    Evals Γ true (.BinOp (.List [e] pos) .Mult r p2) (.list (List.replicate n.toNat p)) := fun E s o => by
  refine wpAny_BinOp (List_ (wpAny_mono (EvalsL.cons he .nil hc E s pos o) (fun vs s₁ h₁ => ?_) fun _ _ e => e))
  match vs, h₁ with
  | [v], ⟨k₁, .cons hv .nil⟩ =>
    refine wpAny_newObj_type ?_ (by show 1 ≤ sizeLine; unfold sizeLine; omega)
    have kp : K0 Γ.T s₁ { s₁ with heap := s₁.heap.push { cls := .type "list", data := .seq [v].toArray } } := K0.push _
    refine wpAny_mono (hr E _ (o.step (k₁.trans kp))) (fun y s₂ h₂ => ?_) fun _ _ e => e
    obtain ⟨k₂, hy, _⟩ := h₂
    cases hy
    have hl : s₂.heap.get? s₁.heap.objs.size = some { cls := .type "list", dict := none, data := .seq [v].toArray 0, slots := #[] } := k₂.get (Heap.get?_push_size _ rfl) rfl
    have hn2 : s.heap.get? s₂.heap.objs.size = Option.none := none_of_K ((k₁.trans kp).trans k₂) (get_size _)
    refine wpAny_binaryOp_repeat_ref (T := "list") (U := "int") (by decide) ⟨_, hl, rfl⟩ (fun s' => typeIs_int s' _ _) noFill_list_mul F.fills_int_mul F.slot_int_rmul repeat_list F.slot_int_index.lookup
      (call_meets F.slot_int_rmul (typeIs_int s₂ _ _) F.entry_int_rmul (F.args_int_rmul_2 _ _) (int___rmul___int_list _ _ s₁.heap.objs.size [v].toArray 0)
        ⟨hl, rfl, ⟨_, hl, rfl⟩, call_meets F.slot_list_mul ⟨_, hl, rfl⟩ F.entry_list_mul (F.args_list_mul_2 _ _)
          (AutoListH.list___mul___list_int_3 s₁.heap.objs.size [v].toArray 0 _ _ (by simp [Builtin.List.listFitsIndex]; omega) (by simp; omega) (by simp [Builtin.List.listTooLong, sizeLine]; omega))
          ⟨hl, ?_⟩⟩)
    have e : List.foldl (fun x1 x2 => x1 ++ x2) #[] (List.replicate (if ([v].toArray).isEmpty = true then 0 else n.toNat) [v].toArray) = (List.replicate n.toNat v).toArray := by
      rw [if_neg (by simp)]
      have key : ∀ (m : Nat) (acc : List Value), List.foldl (fun x1 x2 => x1 ++ x2) acc.toArray (List.replicate m [v].toArray) = (acc ++ List.replicate m v).toArray := by
        intro m
        induction m with
        | zero => intro acc; simp
        | succ m ih =>
          intro acc
          rw [List.replicate_succ, List.foldl_cons]
          have := ih (acc ++ [v])
          rw [show acc.toArray ++ [v].toArray = (acc ++ [v]).toArray by simp, this]
          simp [List.replicate_succ]
      simpa using key n.toNat []
    rw [e]
    have vr : ∀ (m : Nat) (h : Heap) (X : Addr → Prop), VRs h X (List.replicate m p) (List.replicate m v) := by
      intro m h X
      induction m with
      | zero => exact .nil
      | succ m ih => exact .cons (up_scalar' hp hv) ih
    refine ⟨((k₁.trans kp).trans k₂).trans (K0.push _), .list (up_new hn2 (Heap.get?_push_size _ rfl)) (Heap.get?_push_size _ rfl) rfl rfl (vr _ _ _), fun _ a q => by cases q; exact hn2⟩

/-- one list behind another -/
theorem Evals.cat {l r : Expr} {xs ys : List PV} {f₁ f₂ : Bool} {pos : Pos} (hl : Evals Γ f₁ l (.list xs)) (hr : Evals Γ f₂ r (.list ys)) (hsz : xs.length + ys.length ≤ 4096) : Evals Γ true (.BinOp l .Add r pos) (.list (xs ++ ys)) := fun E s o => by
  refine wpAny_BinOp (evals_two o hl hr fun a b s₂ k ha hb => ?_)
  obtain ⟨la, us, rfl, _, hla, hus⟩ := ha.isList
  obtain ⟨lb, vs, rfl, _, hlb, hvs⟩ := hb.isList
  have hlen1 := hus.length
  have hlen2 := hvs.length
  obtain ⟨⟨cls, dd, data, sl⟩, ho, hc, n, hd⟩ := id hla
  obtain ⟨⟨cls2, dd2, data2, sl2⟩, ho2, hc2, n2, hd2⟩ := id hlb
  simp only at hc hd hc2 hd2
  subst hc hd hc2 hd2
  have e : us.toArray ++ vs.toArray = (us ++ vs).toArray := by simp
  refine concat_meets ⟨_, ho, rfl⟩ ⟨_, ho2, rfl⟩ noFill_list_add seq_list_add PySem.F.slot_list_add PySem.F.entry_list_add (PySem.F.args_list_add_2 _ _) (list_addW la lb us.toArray vs.toArray n n2 dd dd2 sl sl2 (by simp; unfold sizeLine; omega)) ⟨ho, ho2, ?_⟩
  rw [e]
  have hn : s.heap.get? s₂.heap.objs.size = Option.none := none_of_K k (get_size _)
  have kp : K0 Γ.T s₂ { s₂ with heap := s₂.heap.push { cls := Value.type "list", data := Data.seq (us ++ vs).toArray } } := K0.push _
  exact ⟨k.trans kp, .list (up_new hn (Heap.get?_push_size _ rfl)) (Heap.get?_push_size _ rfl) rfl rfl ((hus.append hvs).step kp), fun _ a q => by cases q; exact hn⟩

/-- the first of a list -/
theorem VRs.take {h : Heap} {X : Addr → Prop} : ∀ {ps : List PV} {vs : List Value} (n : Nat), VRs h X ps vs → VRs h X (ps.take n) (vs.take n)
  | _, _, 0, _ => .nil
  | _, _, n + 1, .nil => .nil
  | _, _, n + 1, .cons a b => .cons a (VRs.take n b)
theorem Evals.upto {e i : Expr} {xs : List PV} {k : Int} {f₁ f₂ : Bool} {p pos : Pos} (he : Evals Γ f₁ e (.list xs)) (hi : Evals Γ f₂ i (.int k)) (hk : 0 ≤ k ∧ k ≤ xs.length) (hsz : xs.length ≤ 4096) (hg : ∀ o r, letTemporaryGo e o r = pure () := by intro _ _; with_unfolding_all rfl) :
    Evals Γ true (.Subscript e (.Slice none (some i) none p) pos) (.list (xs.take k.toNat)) := fun E s o => by
  refine wpAny_Subscript_list_slice (wpAny_mono (he E s o) (fun v s₁ h₁ => wpAny_evalPart_none (wpAny_evalPart_some (wpAny_mono (hi E s₁ (o.step h₁.1)) (fun w s₂ h₂ => ?_) fun _ _ e => e))) fun _ _ e => e) hg
  have hv := h₁.2.1.step h₂.1
  obtain ⟨a, us, rfl, _, hl, hus⟩ := hv.isList
  have hlen := hus.length
  obtain ⟨k2, hw, _⟩ := h₂
  cases hw with
  | int _ t =>
  obtain ⟨m, rfl⟩ := Int.eq_ofNat_of_zero_le hk.1
  refine ⟨a, us.toArray, none, some (m : Int), rfl, hl, by rw [List.size_toArray]; unfold sizeLine; omega, .none, .int _ _, ?_⟩
  rw [slicePick_upto us.toArray m (by rw [List.size_toArray]; omega)]
  generalize hH : s₂.heap.push _ = H
  have hHs : H.objs.size = s₂.heap.objs.size + 1 := by rw [← hH]; exact Heap.size_push ..
  rw [show s₂.heap.objs.size + 1 = H.objs.size from hHs.symm]
  have hn : s.heap.get? H.objs.size = Option.none := by
    exact none_of_K (h₁.1.trans k2) (Heap.get?_none_of_le (by omega))
  have kp : ∀ ob, K0 Γ.T s₂ { s₂ with heap := H.push ob } := fun ob => K0.of_keep (tk := s₂.toks) fun b o e => Heap.get?_push_of_some _ (by rw [← hH]; exact Heap.get?_push_of_some _ e)
  refine ⟨(h₁.1.trans k2).trans (kp _), .list (up_new hn (Heap.get?_push_size _ rfl)) (Heap.get?_push_size _ rfl) rfl rfl ?_, fun _ a q => by cases q; exact hn⟩
  show VRs _ _ _ _
  exact (hus.take m).step (kp _)
end
end Mine

namespace Mine
open PySem PySem.Calls PyProof.Rows PyProof PySem.W

mutual
theorem VR.live {h : Heap} {X : Addr → Prop} : ∀ {p : PV} {v : Value}, VR h X p v → VR h (fun b => X b ∧ (h.get? b).isSome = true) p v
  | _, _, .none => .none
  | _, _, .bool b => .bool b
  | _, _, .int i t => .int i t
  | _, _, .str x t => .str x t
  | _, _, .list x ho hc hd hv => .list ⟨x, by rw [ho]; rfl⟩ ho hc hd (VRs.live hv)
  | _, _, .tup x ho hc hd hv => .tup ⟨x, by rw [ho]; rfl⟩ ho hc hd (VRs.live hv)
  | _, _, .range x hr => .range ⟨x, by rw [hr]; rfl⟩ hr
  | _, _, .obj x ho ht hi hP => .obj ⟨x, by rw [ho]; rfl⟩ ho ht hi hP
  | _, _, .inst x xd hx hd hf hv => .inst ⟨x, by rw [hx]; rfl⟩ ⟨xd, by rw [hd]; rfl⟩ hx hd hf (VRs.live hv)
theorem VRs.live {h : Heap} {X : Addr → Prop} : ∀ {p : List PV} {v : List Value}, VRs h X p v → VRs h (fun b => X b ∧ (h.get? b).isSome = true) p v
  | _, _, .nil => .nil
  | _, _, .cons a b => .cons (VR.live a) (VRs.live b)
end

mutual
theorem VR.offI {h : Heap} {X : Addr → Prop} {I : Addr} {oI : Obj} (hI : h.get? I = some oI) (hc : itCls oI = true) : ∀ {p : PV} {v : Value}, VR h X p v → VR h (fun b => X b ∧ b ≠ I) p v
  | _, _, .none => .none
  | _, _, .bool b => .bool b
  | _, _, .int i t => .int i t
  | _, _, .str x t => .str x t
  | _, _, .list x ho hcl hd hv => .list ⟨x, fun e => by subst e; rw [hI] at ho; cases ho; unfold itCls at hc; rw [hcl] at hc; cases hc⟩ ho hcl hd (VRs.offI hI hc hv)
  | _, _, .tup x ho hcl hd hv => .tup ⟨x, fun e => by subst e; rw [hI] at ho; cases ho; unfold itCls at hc; rw [hcl] at hc; cases hc⟩ ho hcl hd (VRs.offI hI hc hv)
  | _, _, .range x hr => .range ⟨x, fun e => by subst e; have hr' := hI.symm.trans hr; cases hr'; cases hc⟩ hr
  | _, _, .obj x ho ht hi hP => .obj ⟨x, fun e => by subst e; rw [hI] at ho; cases ho; rw [hi] at hc; cases hc⟩ ho ht hi hP
  | _, _, .inst x xd hx hd hf hv => .inst ⟨x, fun e => by subst e; rw [hI] at hx; cases hx; cases hc⟩ ⟨xd, fun e => by subst e; rw [hI] at hd; cases hd; cases hc⟩ hx hd hf (VRs.offI hI hc hv)
theorem VRs.offI {h : Heap} {X : Addr → Prop} {I : Addr} {oI : Obj} (hI : h.get? I = some oI) (hc : itCls oI = true) : ∀ {p : List PV} {v : List Value}, VRs h X p v → VRs h (fun b => X b ∧ b ≠ I) p v
  | _, _, .nil => .nil
  | _, _, .cons a b => .cons (VR.offI hI hc a) (VRs.offI hI hc b)
end

structure Own where
  name : Str
  pv : PV
  P : Heap → Value → (Addr → Prop) → Prop
  read : ∀ h v D, P h v D → VR h D pv v
  loc : ∀ (h h' : Heap) v D, (∀ b o, D b → h.get? b = some o → tab o = false → h'.get? b = some o) → P h v D → P h' v D
  live : ∀ h v D, P h v D → ∀ b, D b → (h.get? b).isSome = true

structure St where
  ρ : List (Str × PV)
  own : Option Own := none
  pins : List (Str × Value) := []

def St.rho (σ : St) : List (Str × PV) := match σ.own with
  | none => σ.ρ
  | some w => (w.name, w.pv) :: σ.ρ

structure Fm where
  prog : Program
  w : World
  T : Addr → Prop
  A : Around
  env : Env
  I : Heap → Prop
  Ist : ∀ s s' : Shared, K0 T s s' → I s.heap → I s'.heap
  hh : A.handled = none
  hk : env.scope.kind = .function
  hg : env.globals = mainGlobals
  hb : env.builtins = builtinsNs
  ap : EnvAp env
  nf : ∀ y, env.kindOf y ≠ some .free
  s₀ : Shared
  Xc : Addr → Prop
  I₀ : I s₀.heap

def Fm.cx (F : Fm) (X : Addr → Prop) (ρ : List (Str × PV)) : Cx := ⟨F.prog, F.w, F.T, F.A, F.env, X, ρ, F.I, F.Ist, F.hh, F.hk, F.hg, F.hb⟩
abbrev Fm.M (F : Fm) : Model := model F.prog F.w
def Fm.B (F : Fm) (b : Addr) : Prop := F.Xc b ∨ F.s₀.heap.get? b = none
def Fm.Fr (F : Fm) (b : Addr) : Prop := b = F.env.locals ∨ ∃ y, F.env.kindOf y = some .cell ∧ F.env.cells.lookup y = some b
def Fm.Mut (F : Fm) (D : Addr → Prop) (b : Addr) : Prop := F.Fr b ∨ D b

structure Fm.Ok (F : Fm) (σ : St) (D : Addr → Prop) (s : Shared) : Prop where
  k0 : K0 F.T F.s₀ s
  frF : ∀ b, F.Fr b → F.s₀.heap.get? b = none
  ns : ∃ m, s.heap.Ns F.env.locals m
  cells : ∀ y, F.env.kindOf y = some .cell → ∃ c v, F.env.cells.lookup y = some c ∧ s.heap.IsCell c v
  vars : ∀ x pv, σ.ρ.lookup x = some pv → ∃ v, VR s.heap (fun b => F.B b ∧ ¬ F.Mut D b) pv v ∧ VarAt F.env s.heap x v
  own : match σ.own with
    | none => ∀ b, ¬ D b
    | some w => ∃ v, w.P s.heap v D ∧ VarAt F.env s.heap w.name v
  pins : ∀ x v, σ.pins.lookup x = some v → VarAt F.env s.heap x v
  dF : ∀ b, D b → F.s₀.heap.get? b = none ∧ ¬ F.Fr b ∧ (s.heap.get? b).isSome = true

section
variable {F : Fm} {σ σ' : St} {D : Addr → Prop} {s s' : Shared}

theorem Fm.Ok.base (o : F.Ok σ D s) : F.I s.heap := F.Ist _ _ o.k0 F.I₀
theorem Fm.Ok.frL (o : F.Ok σ D s) {b : Addr} (h : F.Fr b) : (s.heap.get? b).isSome = true := by
  rcases h with rfl | ⟨y, hk, hc⟩
  · obtain ⟨m, hn⟩ := o.ns
    exact ns_live hn
  · obtain ⟨c, v, hc', hv⟩ := o.cells y hk
    rw [hc] at hc'; cases hc'
    exact cell_live hv
theorem Fm.Ok.mutL (o : F.Ok σ D s) {b : Addr} (h : F.Mut D b) : (s.heap.get? b).isSome = true := h.elim o.frL fun h => (o.dF b h).2.2
theorem Fm.Ok.mutF (o : F.Ok σ D s) {b : Addr} (h : F.Mut D b) : F.s₀.heap.get? b = none := h.elim (o.frF b) fun h => (o.dF b h).1
/-- what is new now was new to the frame, and is none of the frame's -/
theorem Fm.Ok.newB (o : F.Ok σ D s) {b : Addr} (h : s.heap.get? b = none) : F.B b ∧ ¬ F.Mut D b :=
  ⟨.inr (none_of_K o.k0 h), fun q => by have := o.mutL q; rw [h] at this; cases this⟩

/-- all that is kept stays so -/
theorem Fm.Ok.step (o : F.Ok σ D s) (k : K0 F.T s s') : F.Ok σ D s' where
  k0 := o.k0.trans k
  frF := o.frF
  ns := o.ns.imp fun _ h => k.ns h
  cells := fun y hy => let ⟨c, v, a, b⟩ := o.cells y hy; ⟨c, v, a, k.cell b⟩
  vars := fun x pv e => let ⟨v, a, b⟩ := o.vars x pv e; ⟨v, a.mono (fun a o _ e ht => k.get e ht) (fun _ h => h), b.step k⟩
  own := by
    have := o.own
    split at this
    · exact this
    · rename_i w _
      obtain ⟨v, a, b⟩ := this
      exact ⟨v, w.loc _ _ _ _ (fun b o _ e ht => k.get e ht) a, b.step k⟩
  pins := fun x v e => (o.pins x v e).step k
  dF := fun b h => let ⟨p, q, r⟩ := o.dF b h; ⟨p, q, k.live b r⟩

/-- what may be read: all that is the frame's own to see, the owned thing too -/
def Fm.rd (F : Fm) (s : Shared) : Addr → Prop := fun b => (F.B b ∧ ¬ F.Fr b) ∧ (s.heap.get? b).isSome = true
def Fm.rd0 (F : Fm) (D : Addr → Prop) (s : Shared) : Addr → Prop := fun b => (F.B b ∧ ¬ F.Mut D b) ∧ (s.heap.get? b).isSome = true

theorem Fm.Ok.cx0 (o : F.Ok σ D s) : (F.cx (F.rd0 D s) σ.ρ).Ok s where
  vars := fun x pv e => let ⟨v, a, b⟩ := o.vars x pv e; ⟨v, a.live, b⟩
  base := o.base
  live := fun a h => h.2
theorem Fm.Ok.cx (o : F.Ok σ D s) : (F.cx (F.rd s) σ.rho).Ok s where
  vars := fun x pv e => by
    have gen : ∀ x pv, σ.ρ.lookup x = some pv → ∃ v, VR s.heap (F.rd s) pv v ∧ VarAt F.env s.heap x v := fun x pv e =>
      let ⟨v, a, b⟩ := o.vars x pv e; ⟨v, a.live.mono (fun _ _ _ h _ => h) fun b h => ⟨⟨h.1.1, fun q => h.1.2 (.inl q)⟩, h.2⟩, b⟩
    have e : σ.rho.lookup x = some pv := e
    unfold St.rho at e
    have ow := o.own
    split at e
    · exact gen x pv e
    · rename_i w hw
      rw [hw] at ow
      obtain ⟨v, a, b⟩ := ow
      rw [List.lookup_cons] at e
      by_cases q : x = w.name
      · subst q
        simp at e; subst e
        exact ⟨v, (w.read _ _ _ a).mono (fun _ _ _ h _ => h) fun b h => let ⟨p, q, r⟩ := o.dF b h; ⟨⟨.inr p, q⟩, r⟩, b⟩
      · have q' : (x == w.name) = false := by simpa using q
        rw [q'] at e
        exact gen x pv e
  base := o.base
  live := fun a h => h.2

def flat (fr : Bool) (p : PV) : Bool := isScalar p || (fr && match p with | .list xs => xs.all isScalar | _ => false)

theorem VRs.scalars {h h' : Heap} {X X' : Addr → Prop} : ∀ {ps : List PV} {vs : List Value}, (ps.all isScalar) = true → VRs h X ps vs → VRs h' X' ps vs
  | _, _, _, .nil => .nil
  | _, _, hp, .cons a b => by
    rw [List.all_cons, Bool.and_eq_true] at hp
    exact .cons (up_scalar' hp.1 a) (VRs.scalars hp.2 b)

/-- a fresh flat value lies apart from the owned -/
theorem flat_VR {X : Addr → Prop} {p : PV} {v : Value} {fr : Bool} (hf : flat fr p = true) (o : F.Ok σ D s) (k : K0 F.T s s') (x : VR s'.heap X p v) (hfr : fr = true → ∀ a, v = .ref a → s.heap.get? a = none) :
    VR s'.heap (fun b => F.B b ∧ ¬ F.Mut D b) p v := by
  unfold flat at hf
  rw [Bool.or_eq_true] at hf
  rcases hf with hf | hf
  · exact up_scalar' hf x
  · rw [Bool.and_eq_true] at hf
    obtain ⟨e, hf⟩ := hf
    cases x with
    | list hX ho hc hd hv => exact .list (o.newB (hfr e _ rfl)) ho hc hd (hv.scalars hf)
    | none => cases hf
    | bool => cases hf
    | int => cases hf
    | str => cases hf
    | tup => cases hf
    | range => cases hf
    | obj => cases hf
    | inst => cases hf

/-- the value of an expression, for the frame -/
def ReadsAs (F : Fm) (σ : St) (e : Expr) (pv : PV) : Prop := (∃ fr, (∀ X, Evals (F.cx X σ.rho) fr e pv) ∧ flat fr pv = true) ∨ (∃ fr, ∀ X, Evals (F.cx X σ.ρ) fr e pv)

theorem vr_rd0 {p : PV} {v : Value} (o : F.Ok σ D s) (x : VR s'.heap (Up (F.rd0 D s) s s') p v) : VR s'.heap (fun b => F.B b ∧ ¬ F.Mut D b) p v :=
  x.mono (fun _ _ _ h _ => h) fun b h => h.elim (fun h => h.1) fun h => o.newB h.1

theorem ReadsAs.run {e : Expr} {pv : PV} {E : Value → Shared → Prop} (h : ReadsAs F σ e pv) (o : F.Ok σ D s) :
    wpAny F.M F.A (eval e F.env) (fun v s' => K0 F.T s s' ∧ VR s'.heap (fun b => F.B b ∧ ¬ F.Mut D b) pv v) E s := by
  rcases h with ⟨fr, h, hf⟩ | ⟨fr, h⟩
  · refine wpAny_mono (h _ E s o.cx) (fun v s' h' => ?_) fun _ _ e => e
    exact ⟨h'.1, flat_VR hf o h'.1 h'.2.1 h'.2.2⟩
  · refine wpAny_mono (h _ E s o.cx0) (fun v s' h' => ?_) fun _ _ e => e
    exact ⟨h'.1, vr_rd0 o h'.2.1⟩

/-- how a state goes on -/
structure Goes (F : Fm) (σ' : St) (D : Addr → Prop) (s : Shared) (D' : Addr → Prop) (s' : Shared) : Prop where
  ok : F.Ok σ' D' s'
  kp : Kp F.T (F.Mut D) No s s'
  new : ∀ b, D' b → D b ∨ s.heap.get? b = none

inductive Out where
  | next (σ : St)
  | cont (σ : St)
  | ret (pv : PV)

def OutIs (F : Fm) (D : Addr → Prop) (s : Shared) : Out → Flow → Shared → Prop
  | .next σ', .next, s' => ∃ D', Goes F σ' D s D' s'
  | .cont σ', .cont, s' => ∃ D', Goes F σ' D s D' s'
  | .ret pv, .ret v, s' => Kp F.T (F.Mut D) No s s' ∧ VR s'.heap (fun b => F.B b ∧ ¬ F.Fr b) pv v
  | _, _, _ => False

def Exec (F : Fm) (σ : St) (st : Stmt) (out : Out) : Prop := ∀ (E : Value → Shared → Prop) D s, F.Ok σ D s → wpAny F.M F.A (exec st F.env) (OutIs F D s out) E s
def Execs (F : Fm) (σ : St) (st : List Stmt) (out : Out) : Prop := ∀ (E : Value → Shared → Prop) D s, F.Ok σ D s → wpAny F.M F.A (execs st F.env) (OutIs F D s out) E s

theorem Kp.comp {T M M' : Addr → Prop} {s s₁ s₂ : Shared} (k : Kp T M No s s₁) (k' : Kp T M' No s₁ s₂) (hM : ∀ b, M' b → M b ∨ s.heap.get? b = none) : Kp T M No s s₂ where
  keep := fun b o hb e ht => k'.keep b o (fun q => (hM b q).elim hb fun h => by rw [h] at e; cases e) (k.keep b o hb e ht) ht
  live := fun b h => k'.live b (k.live b h)
  tabs := ((k.mono (M' := fun _ => True) (G' := No) (fun _ _ => trivial) fun _ h => h).trans (k'.mono (M' := fun _ => True) (G' := No) (fun _ _ => trivial) fun _ h => h)).tabs
  gens := fun i g hg h => k'.gens i g hg (k.gens i g hg h)
  gsz := Nat.le_trans k.gsz k'.gsz
  bare := fun h => k'.bare (k.bare h)
  drawn := k'.drawn.trans k.drawn
  os := k'.os.trans k.os
end
end Mine

namespace Mine
open PySem PySem.Calls PyProof.Rows PyProof PySem.W

/-- x was bound to v, and nothing else of old was touched -/
structure Stored (T : Addr → Prop) (env : Env) (x : Str) (v : Value) (a : Addr) (s s' : Shared) : Prop where
  home : Home env x a
  kp : Kp T (· = a) No s s'
  var : VarAt env s'.heap x v
  slot : Slot env s'.heap x
  vars : ∀ y u, y ≠ x → VarAt env s.heap y u → VarAt env s'.heap y u
  slots : ∀ y, y ≠ x → Slot env s.heap y → Slot env s'.heap y

section
variable {T : Addr → Prop} {env : Env} {x : Str} {v : Value} {a : Addr} {s s₁ s' : Shared}
theorem Stored.before (k : K0 T s s₁) (h : Stored T env x v a s₁ s') : Stored T env x v a s s' :=
  ⟨h.home, (k.of0).trans h.kp, h.var, h.slot, fun y u hy hu => h.vars y u hy (hu.step k), fun y hy hu => h.slots y hy (hu.step k)⟩
end

section
variable {F : Fm} {σ σ' : St} {D : Addr → Prop} {s s₁ s' : Shared} {x : Str} {v : Value} {a : Addr}

theorem Fm.Ok.slot (o : F.Ok σ D s) (hx : F.env.kindOf x = some .local ∨ F.env.kindOf x = some .cell) : Slot F.env s.heap x := by
  rcases hx with hx | hx
  · exact .inl ⟨hx, o.ns⟩
  · obtain ⟨c, v, h1, h2⟩ := o.cells x hx
    exact .inr ⟨hx, c, v, h1, h2⟩

theorem Stored.of (o : F.Ok σ D s) {Q : Unit → Shared → Prop} {E : Value → Shared → Prop} (hx : F.env.kindOf x = some .local ∨ F.env.kindOf x = some .cell) (h : ∀ a s', Stored F.T F.env x v a s s' → Q () s') : wpAny F.M F.A (storeName F.env x v) Q E s :=
  store_var (T := F.T) F.hk (o.slot hx) fun a s' h1 h2 h3 h4 h5 h6 => h a s' ⟨h1, h4, h2, h3, fun y u hy hu => h5 y u hy F.ap hu, fun y hy hu => h6 y hy F.ap hu⟩

theorem Stored.fr (h : Stored F.T F.env x v a s s') : F.Fr a := by
  rcases h.home with ⟨_, rfl⟩ | ⟨hk, hc⟩
  · exact .inl rfl
  · exact .inr ⟨x, hk, hc⟩

/-- the part of the frame that a store leaves -/
theorem Stored.rest (o : F.Ok σ D s) (h : Stored F.T F.env x v a s s') :
    K0 F.T F.s₀ s' ∧ (∃ m, s'.heap.Ns F.env.locals m) ∧ (∀ y, F.env.kindOf y = some .cell → ∃ c v, F.env.cells.lookup y = some c ∧ s'.heap.IsCell c v) ∧
      (∀ y pv, y ≠ x → σ.ρ.lookup y = some pv → ∃ v, VR s'.heap (fun b => (F.B b ∧ ¬ F.Mut D b) ∧ (s.heap.get? b).isSome = true) pv v ∧ VarAt F.env s'.heap y v) := by
  have hfr := h.fr
  have k : K0 F.T F.s₀ s' := o.k0.fresh h.kp fun b e => by rw [e]; exact o.frF a hfr
  refine ⟨k, ?_, fun y hy => ?_, fun y pv hy e => ?_⟩
  · obtain ⟨m, hn⟩ := o.ns
    rcases h.slot with ⟨_, m', hm⟩ | ⟨hk, c, u, hc, hu⟩
    · exact ⟨m', hm⟩
    · obtain ⟨o', es, ep, ho, hd, r⟩ := hn
      refine ⟨m, o', es, ep, h.kp.keep _ _ (fun e => ?_) ho (tab_dict hd), hd, r⟩
      rcases h.home with ⟨hk', _⟩ | ⟨_, hc'⟩
      · rw [hk] at hk'; cases hk'
      · exact F.ap.off x a hc' e.symm
  · by_cases e : y = x
    · subst e
      rcases h.slot with ⟨hk, _⟩ | ⟨_, c, u, hc, hu⟩
      · rw [hk] at hy; cases hy
      · exact ⟨c, u, hc, hu⟩
    · obtain ⟨c, u, hc, hu⟩ := o.cells y hy
      rcases h.slots y e (.inr ⟨hy, c, u, hc, hu⟩) with ⟨hk, _⟩ | ⟨_, c, u, hc, hu⟩
      · rw [hk] at hy; cases hy
      · exact ⟨c, u, hc, hu⟩
  · obtain ⟨u, hu, hv⟩ := o.vars y pv e
    refine ⟨u, hu.live.mono (fun b ob hb e ht => h.kp.keep b ob (fun q => ?_) e ht) fun _ h => h, h.vars y u hy hv⟩
    exact hb.1.2 (.inl (by rw [q]; exact hfr))

theorem Stored.shared {pv : PV} (o : F.Ok σ D s) (h : Stored F.T F.env x v a s s') (hv : VR s'.heap (fun b => F.B b ∧ ¬ F.Mut D b) pv v) (hp : σ.pins.lookup x = none) (ho : ∀ w, σ.own = some w → w.name ≠ x) :
    Goes F { σ with ρ := (x, pv) :: σ.ρ } D s D s' := by
  obtain ⟨k, hns, hcells, hvars⟩ := h.rest o
  have hfr := h.fr
  refine ⟨⟨k, o.frF, hns, hcells, fun y q e => ?_, ?_, fun y u e => ?_, fun b hb => ?_⟩, h.kp.mono (fun b e => .inl (by rw [e]; exact hfr)) (fun _ h => h), fun b hb => .inl hb⟩
  · have e : List.lookup y ((x, pv) :: σ.ρ) = some q := e
    rw [List.lookup_cons] at e
    by_cases hy : y = x
    · subst hy
      simp at e; subst e
      exact ⟨v, hv, h.var⟩
    · have hy' : (y == x) = false := by simpa using hy
      rw [hy'] at e
      obtain ⟨u, a, b⟩ := hvars y q hy e
      exact ⟨u, a.mono (fun _ _ _ h _ => h) fun _ h => h.1, b⟩
  · have ow := o.own
    show match σ.own with | none => _ | some w => _
    split at ow
    · rename_i hn; (try rw [hn]); exact ow
    · rename_i w hw
      try rw [hw]
      obtain ⟨u, hu, hvv⟩ := ow
      exact ⟨u, w.loc _ _ _ _ (fun b ob hb e ht => h.kp.keep b ob (fun q => (o.dF b hb).2.1 (by rw [q]; exact hfr)) e ht) hu, h.vars _ _ (ho w hw) hvv⟩
  · exact h.vars y u (fun q => by rw [q, hp] at e; cases e) (o.pins y u e)
  · obtain ⟨p, q, r⟩ := o.dF b hb
    exact ⟨p, q, h.kp.live b r⟩

theorem Stored.owned {w : Own} {D₂ : Addr → Prop} (o : F.Ok σ D s) (h : Stored F.T F.env w.name v a s s') (hv : w.P s'.heap v D₂) (hD : ∀ b, D₂ b → s.heap.get? b = none) (hp : σ.pins.lookup w.name = none) (hr : σ.ρ.lookup w.name = none) :
    Goes F { σ with own := some w } D s D₂ s' := by
  obtain ⟨k, hns, hcells, hvars⟩ := h.rest o
  have hfr := h.fr
  refine ⟨⟨k, o.frF, hns, hcells, fun y q e => ?_, ⟨v, hv, h.var⟩, fun y u e => ?_, fun b hb => ?_⟩, h.kp.mono (fun b e => .inl (by rw [e]; exact hfr)) (fun _ h => h), fun b hb => .inr (hD b hb)⟩
  · have e : σ.ρ.lookup y = some q := e
    obtain ⟨u, a, b⟩ := hvars y q (fun t => by rw [t, hr] at e; cases e) e
    refine ⟨u, a.mono (fun _ _ _ h _ => h) fun b h => ⟨h.1.1, fun m => ?_⟩, b⟩
    rcases m with m | m
    · exact h.1.2 (.inl m)
    · have := h.2; rw [hD b m] at this; cases this
  · exact h.vars y u (fun q => by rw [q, hp] at e; cases e) (o.pins y u e)
  · refine ⟨none_of_K o.k0 (hD b hb), fun m => ?_, w.live _ _ _ hv b hb⟩
    have := o.frL m; rw [hD b hb] at this; cases this

/-- going on from where a kept step led -/
theorem Goes.before {D' : Addr → Prop} (k : K0 F.T s s₁) (g : Goes F σ' D s₁ D' s') : Goes F σ' D s D' s' :=
  ⟨g.ok, k.of0.trans g.kp, fun b h => (g.new b h).imp id fun h => none_of_K k h⟩
theorem Goes.trans {D₁ D₂ : Addr → Prop} {σ₁ σ₂ : St} (g : Goes F σ₁ D s D₁ s₁) (g' : Goes F σ₂ D₁ s₁ D₂ s') : Goes F σ₂ D s D₂ s' := by
  have up : ∀ b, s₁.heap.get? b = none → s.heap.get? b = none := fun b h => by
    cases e : s.heap.get? b with
    | none => rfl
    | some o =>
      have := g.kp.live b (by rw [e]; rfl)
      rw [h] at this; cases this
  refine ⟨g'.ok, g.kp.comp g'.kp fun b h => ?_, fun b h => ?_⟩
  · rcases h with h | h
    · exact .inl (.inl h)
    · exact (g.new b h).imp .inr id
  · rcases g'.new b h with h | h
    · exact g.new b h
    · exact .inr (up b h)
theorem Goes.refl (o : F.Ok σ D s) : Goes F σ D s D s := ⟨o, Kp.refl, fun _ h => .inl h⟩
theorem Goes.of (o : F.Ok σ D s) (k : K0 F.T s s') : Goes F σ D s D s' := ⟨o.step k, k.of0, fun _ h => .inl h⟩

theorem OutIs.after {D₁ : Addr → Prop} {σ₁ : St} {out : Out} {f : Flow} (g : Goes F σ₁ D s D₁ s₁) (h : OutIs F D₁ s₁ out f s') : OutIs F D s out f s' := by
  cases out with
  | next σ₂ => cases f with
    | next => obtain ⟨D₂, g'⟩ := h; exact ⟨D₂, g.trans g'⟩
    | _ => exact h.elim
  | cont σ₂ => cases f with
    | cont => obtain ⟨D₂, g'⟩ := h; exact ⟨D₂, g.trans g'⟩
    | _ => exact h.elim
  | ret pv => cases f with
    | ret v =>
      refine ⟨g.kp.comp h.1 fun b h => ?_, h.2⟩
      rcases h with h | h
      · exact .inl (.inl h)
      · exact (g.new b h).imp .inr id
    | _ => exact h.elim

theorem Execs.nil : Execs F σ [] (.next σ) := fun E D s o => wpAny_execs_nil ⟨D, .refl o⟩
theorem Execs.cons {st : Stmt} {rest : List Stmt} {σ₁ : St} {out : Out} (h : Exec F σ st (.next σ₁)) (h' : Execs F σ₁ rest out) : Execs F σ (st :: rest) out := fun E D s o => by
  refine wpAny_execs_cons (wpAny_mono (h E D s o) (fun f s₁ h₁ => ?_) fun _ _ e => e)
  cases f with
  | next =>
    obtain ⟨D₁, g⟩ := h₁
    exact wpAny_mono (h' E D₁ s₁ g.ok) (fun f s₂ h₂ => h₂.after g) fun _ _ e => e
  | _ => exact h₁.elim
theorem Execs.ret {st : Stmt} {rest : List Stmt} {pv : PV} (h : Exec F σ st (.ret pv)) : Execs F σ (st :: rest) (.ret pv) := fun E D s o => by
  refine wpAny_execs_cons (wpAny_mono (h E D s o) (fun f s₁ h₁ => ?_) fun _ _ e => e)
  cases f with
  | ret v => exact h₁
  | _ => exact h₁.elim
theorem Execs.cont {st : Stmt} {rest : List Stmt} {σ₁ : St} (h : Exec F σ st (.cont σ₁)) : Execs F σ (st :: rest) (.cont σ₁) := fun E D s o => by
  refine wpAny_execs_cons (wpAny_mono (h E D s o) (fun f s₁ h₁ => ?_) fun _ _ e => e)
  cases f with
  | cont => exact h₁
  | _ => exact h₁.elim

/-- what is forgotten -/
def Allin (ρ ρ' : List (Str × PV)) : Prop := ∀ e ∈ ρ, ρ'.lookup e.1 = some e.2
theorem Allin.nil {ρ' : List (Str × PV)} : Allin [] ρ' := fun _ h => by cases h
theorem Allin.cons {x : Str} {p : PV} {ρ ρ' : List (Str × PV)} (h : ρ'.lookup x = some p) (r : Allin ρ ρ') : Allin ((x, p) :: ρ) ρ' := fun e he => by
  rcases List.mem_cons.mp he with rfl | he
  · exact h
  · exact r e he
theorem Fm.Ok.weak {ρ : List (Str × PV)} (o : F.Ok σ D s) (h : Allin ρ σ.ρ) : F.Ok { σ with ρ := ρ } D s :=
  { o with vars := fun x pv e => o.vars x pv (h (x, pv) (mem_of_lookup e)) }
theorem Fm.Ok.nopins (o : F.Ok σ D s) : F.Ok { σ with pins := [] } D s := { o with pins := fun x v e => by cases e }
theorem Execs.weak {st : List Stmt} {ρ : List (Str × PV)} {out : Out} (h : Execs F { σ with ρ := ρ } st out) (hr : Allin ρ σ.ρ) : Execs F σ st out := fun E D s o => h E D s (o.weak hr)
theorem Exec.weak {st : Stmt} {ρ : List (Str × PV)} {out : Out} (h : Exec F { σ with ρ := ρ } st out) (hr : Allin ρ σ.ρ) : Exec F σ st out := fun E D s o => h E D s (o.weak hr)
theorem Execs.weakTo {st : List Stmt} {ρ : List (Str × PV)} (h : Execs F σ st (.next σ')) (hr : Allin ρ σ'.ρ) : Execs F σ st (.next { σ' with ρ := ρ }) := fun E D s o =>
  wpAny_mono (h E D s o) (fun f s' h' => by
    cases f with
    | next => obtain ⟨D', g⟩ := h'; exact ⟨D', ⟨g.ok.weak hr, g.kp, g.new⟩⟩
    | _ => exact h'.elim) fun _ _ e => e
theorem Exec.weakTo {st : Stmt} {ρ : List (Str × PV)} (h : Exec F σ st (.next σ')) (hr : Allin ρ σ'.ρ) : Exec F σ st (.next { σ' with ρ := ρ }) := fun E D s o =>
  wpAny_mono (h E D s o) (fun f s' h' => by
    cases f with
    | next => obtain ⟨D', g⟩ := h'; exact ⟨D', ⟨g.ok.weak hr, g.kp, g.new⟩⟩
    | _ => exact h'.elim) fun _ _ e => e

def varKind (env : Env) (x : Str) : Bool := env.kindOf x == some .local || env.kindOf x == some .cell
theorem varKind.of {env : Env} {x : Str} (h : varKind env x = true) : env.kindOf x = some .local ∨ env.kindOf x = some .cell := by
  unfold varKind at h
  simpa using h

def freeOf (σ : St) (x : Str) : Bool := (σ.pins.lookup x).isNone && match σ.own with | none => true | some w => !(w.name == x)
theorem freeOf.of {x : Str} (h : freeOf σ x = true) : σ.pins.lookup x = none ∧ ∀ w, σ.own = some w → w.name ≠ x := by
  unfold freeOf at h
  rw [Bool.and_eq_true] at h
  refine ⟨by simpa using h.1, fun w hw => ?_⟩
  have := h.2
  rw [hw] at this
  simpa using this

theorem Exec.assign {px pos : Pos} {e : Expr} {pv : PV} (he : ReadsAs F σ e pv) (hx : varKind F.env x = true) (hf : freeOf σ x = true) (hs : swapsWith e (some (.Name x px)) pos.line F.env = pure false) :
    Exec F σ (.Assign [.Name x px] e pos) (.next { σ with ρ := (x, pv) :: σ.ρ }) := fun E D s o => by
  obtain ⟨hp, ho⟩ := freeOf.of hf
  refine wpAny_Assign_Name (wpAny_mono (he.run o) (fun v s₁ h₁ => ?_) fun _ _ e => e) hs
  obtain ⟨k, hv⟩ := h₁
  refine Stored.of (o.step k) (varKind.of hx) fun a s' st => ⟨D, Goes.before k (st.shared (o.step k) ?_ hp ho)⟩
  exact hv.mono (fun b ob hb e ht => st.kp.keep b ob (fun q => hb.2 (.inl (by rw [q]; exact st.fr))) e ht) fun _ h => h

theorem Exec.ret {pos : Pos} {e : Expr} {pv : PV} {fr : Bool} (he : ∀ X, Evals (F.cx X σ.rho) fr e pv) : Exec F σ (.Return (some e) pos) (.ret pv) := fun E D s o => by
  refine wpAny_Return_some (wpAny_mono (he _ E s o.cx) (fun v s' h => ?_) fun _ _ e => e)
  obtain ⟨k, hv, _⟩ := h
  refine ⟨k.of0, hv.mono (fun _ _ _ h _ => h) fun b h => ?_⟩
  rcases h with h | h
  · exact h.1
  · exact ⟨(o.newB h.1).1, fun q => (o.newB h.1).2 (.inl q)⟩

theorem Exec.ite {test : Expr} {body orelse : List Stmt} {pos : Pos} {b : Bool} {out : Out} (ht : ∀ X, Tests (F.cx X σ.rho) test b) (h1 : b = true → Execs F σ body out) (h0 : b = false → Execs F σ orelse out) : Exec F σ (.If test body orelse pos) out := fun E D s o => by
  refine wpAny_If (wpAny_mono (ht _ E s o.cx) (fun r s₁ h₁ => ?_) fun _ _ e => e)
  obtain ⟨k, rfl⟩ := h₁
  have fin : ∀ f s₂, OutIs F D s₁ out f s₂ → OutIs F D s out f s₂ := fun f s₂ h => h.after (Goes.of o k)
  cases r with
  | true => exact wpAny_mono (h1 rfl E D s₁ (o.step k)) fin fun _ _ e => e
  | false => exact wpAny_mono (h0 rfl E D s₁ (o.step k)) fin fun _ _ e => e
theorem Exec.pass {pos : Pos} : Exec F σ (.Pass pos) (.next σ) := fun E D s o => wpAny_Pass ⟨D, .refl o⟩
theorem Exec.continue {pos : Pos} : Exec F σ (.Continue pos) (.cont σ) := fun E D s o => wpAny_Continue ⟨D, .refl o⟩
end
end Mine

namespace Mine
open PySem PySem.Calls PyProof.Rows PyProof PySem.W

/-- a list of ints that is the frame's own -/
def Own.ints (x : Str) (ns : List Int) (pl : Bool) : Own where
  name := x
  pv := .list (ns.map .int)
  P := fun h v D => ∃ a vs, v = .ref a ∧ (∀ b, D b ↔ b = a) ∧ h.IsList a vs.toArray ∧ (pl = true → h.PlainList a vs.toArray) ∧ IntsAre vs ns
  read := fun h v D ⟨a, vs, e, hD, hl, _, hi⟩ => by subst e; exact VR.of_list ((hD a).2 rfl) hl (VRs.of_ints hi)
  loc := fun h h' v D hk ⟨a, vs, e, hD, hl, hp, hi⟩ => by
    obtain ⟨o, ho, hc, r⟩ := hl
    refine ⟨a, vs, e, hD, ⟨o, hk a o ((hD a).2 rfl) ho (tab_of_cls hc), hc, r⟩, fun q => ?_, hi⟩
    obtain ⟨n, e⟩ := hp q
    exact ⟨n, hk a _ ((hD a).2 rfl) e rfl⟩
  live := fun h v D ⟨a, vs, e, hD, hl, _, _⟩ b hb => by
    obtain ⟨o, ho, _⟩ := hl
    rw [(hD b).1 hb, ho]; rfl

section
variable {F : Fm} {σ σ' : St} {D : Addr → Prop} {s s₁ s' : Shared} {x : Str} {v : Value} {a : Addr}

def emptyOf (σ : St) (x : Str) : Bool := (σ.pins.lookup x).isNone && (σ.ρ.lookup x).isNone
theorem emptyOf.of {x : Str} (h : emptyOf σ x = true) : σ.pins.lookup x = none ∧ σ.ρ.lookup x = none := by
  unfold emptyOf at h
  rw [Bool.and_eq_true] at h
  exact ⟨by simpa using h.1, by simpa using h.2⟩

/-- a fresh list of ints is bound, to be the frame's own -/
theorem Exec.assignOwn {px pos : Pos} {e : Expr} {ns : List Int} (he : ∀ X, Evals (F.cx X σ.rho) true e (.list (ns.map .int))) (hx : varKind F.env x = true) (hf : emptyOf σ x = true) (hs : swapsWith e (some (.Name x px)) pos.line F.env = pure false) :
    Exec F σ (.Assign [.Name x px] e pos) (.next { σ with own := some (Own.ints x ns false) }) := fun E D s o => by
  obtain ⟨hp, hr⟩ := emptyOf.of hf
  refine wpAny_Assign_Name (wpAny_mono (he _ E s o.cx) (fun v s₁ h₁ => ?_) fun _ _ e => e) hs
  obtain ⟨k, hv, hfr⟩ := h₁
  obtain ⟨l, vs, rfl, _, hl, hi⟩ := hv.intList
  have hn := hfr rfl l rfl
  refine Stored.of (o.step k) (varKind.of hx) fun a s' st => ⟨(· = l), Stored.owned (w := Own.ints x ns false) o (st.before k) ⟨l, vs, rfl, fun _ => .rfl, ?_, fun h => (nomatch h), hi⟩ (fun b e => by rw [e]; exact hn) hp hr⟩
  obtain ⟨ob, ho, hc, r⟩ := hl
  refine ⟨ob, st.kp.keep _ _ (fun q => ?_) ho (tab_of_cls hc), hc, r⟩
  have := o.frL st.fr
  rw [← q, hn] at this; cases this

/-- x = [] -/
theorem Exec.assignNil {px pos lp : Pos} (hx : varKind F.env x = true) (hf : emptyOf σ x = true) :
    Exec F σ (.Assign [.Name x px] (.List [] lp) pos) (.next { σ with own := some (Own.ints x [] true) }) := fun E D s o => by
  obtain ⟨hp, hr⟩ := emptyOf.of hf
  refine wpAny_Assign_Name (List_ (wpAny_mono (EvalsL.nil E s lp o.cx) (fun vs s₁ h₁ => ?_) fun _ _ e => e)) rfl
  match vs, h₁ with
  | [], ⟨k, .nil⟩ =>
    refine wpAny_newObj_type ?_ (by show 0 ≤ sizeLine; unfold sizeLine; omega)
    have k' : K0 F.T s { s₁ with heap := s₁.heap.push { cls := .type "list", data := .seq ([] : List Value).toArray } } := k.trans (K0.push _)
    have hn : s.heap.get? s₁.heap.objs.size = none := none_of_K k (get_size _)
    refine Stored.of (o.step k') (varKind.of hx) fun a s' st => ⟨(· = s₁.heap.objs.size), Stored.owned (w := Own.ints x [] true) o (st.before k') ?_ (fun b e => by rw [e]; exact hn) hp hr⟩
    have e : s'.heap.get? s₁.heap.objs.size = some { cls := .type "list", data := .seq ([] : List Value).toArray } := st.kp.keep _ _ (fun q => by
      have := o.frL st.fr
      rw [← q, hn] at this; cases this) (Heap.get?_push_size _ rfl) rfl
    exact ⟨_, [], rfl, fun _ => .rfl, ⟨_, e, rfl, _, rfl⟩, fun _ => ⟨_, e⟩, .nil⟩

theorem Stored.letGo {y : Str} {L C a : Addr} {s₂ : Shared} {h' : Heap} (o : F.Ok σ D s) (k : K0 F.T s s₁) (st : Stored F.T F.env y (.ref L) a s₁ s₂) (hC : s.heap.get? C = none) (hs' : Heap.SameBut C s₂.heap h') : Stored F.T F.env y (.ref L) a s { s₂ with heap := h' } := by
  have st' := st.before k
  have fr := o.frL st.fr
  have haC : a ≠ C := fun e => by rw [e, hC] at fr; cases fr
  have hk : ∀ b ob, b ≠ C → s₂.heap.get? b = some ob → h'.get? b = some ob := fun b ob hb e => hs'.extBut b ob hb e
  have neC : ∀ b, (s.heap.get? b).isSome = true → b ≠ C := fun b hb q => by rw [q, hC] at hb; cases hb
  have hloc : F.env.locals ≠ C := neC _ (o.frL (.inl rfl))
  have hcell : ∀ y c, F.env.cells.lookup y = some c → F.env.kindOf y = some .cell → c ≠ C := fun y c h1 h2 => neC _ (o.frL (.inr ⟨y, h2, h1⟩))
  have hkC : ∀ y, VarAt F.env s₂.heap y (.ref L) → Home F.env y a → VarAt F.env h' y (.ref L) := fun y h hm => by
    rcases h with ⟨h1, m', h2, h3⟩ | ⟨h1, c, h2, h3⟩
    · exact .inl ⟨h1, m', h2.sameBut hs' hloc, h3⟩
    · refine .inr ⟨h1, c, h2, h3.sameBut hs' ?_⟩
      rcases hm with ⟨hk, _⟩ | ⟨_, hc⟩
      · rcases h1 with h1 | h1 <;> (rw [hk] at h1; cases h1)
      · rw [h2] at hc; cases hc; exact haC
  have upS : ∀ y, Slot F.env s₂.heap y → Slot F.env h' y := fun y h => by
    rcases h with ⟨h1, m', h2⟩ | ⟨h1, c, u, h2, h3⟩
    · exact .inl ⟨h1, m', h2.sameBut hs' hloc⟩
    · exact .inr ⟨h1, c, u, h2, h3.sameBut hs' (hcell y c h2 h1)⟩
  refine ⟨st'.home, ⟨fun b ob hb e ht => hk b ob (neC b (by rw [e]; rfl)) (st'.kp.keep b ob hb e ht), fun b hb => ?_, fun b ob e ht => ?_, st'.kp.gens, st'.kp.gsz, st'.kp.bare, st'.kp.drawn, st'.kp.os⟩, hkC y st'.var st'.home, upS y st'.slot, fun z u hz hu => ?_, fun z hz hu => upS z (st'.slots z hz hu)⟩
  · obtain ⟨ob, e⟩ := Option.isSome_iff_exists.mp (st'.kp.live b hb)
    show (h'.get? b).isSome = true
    rw [hk b ob (neC b hb) e]; rfl
  · have hb := neC b (by rw [e]; rfl)
    rcases st'.kp.tabs b ob e ht with h1 | ⟨hT, vs, more, rfl, h1⟩
    · exact .inl (hk b _ hb h1)
    · exact .inr ⟨hT, vs, more, rfl, hk b _ hb h1.1, h1.2⟩
  · have h2 := st'.vars z u hz hu
    show VarAt F.env h' z u
    rcases hu with ⟨k1, _⟩ | ⟨k1, c, hc, hv⟩
    · rcases h2 with ⟨h1, m', h2, h3⟩ | ⟨h1, _⟩
      · exact .inl ⟨h1, m', h2.sameBut hs' hloc, h3⟩
      · rcases h1 with h1 | h1 <;> (rw [k1] at h1; cases h1)
    · rcases h2 with ⟨h1, _⟩ | ⟨h1, c', h2, h3⟩
      · rcases k1 with k1 | k1 <;> (rw [h1] at k1; cases k1)
      · rw [hc] at h2; cases h2
        exact .inr ⟨h1, c, hc, h3.sameBut hs' (neC c (cell_live hv))⟩

/-- a comprehension that is bound on its own line -/
theorem Exec.assignComp {y : Str} {py px pos spos : Pos} {elt iter : Expr} {ifs : List Expr} {scope : Scope} {src : PV} {xs : List PV} {keep : PV → Bool} {f : PV → PV} {frI : Bool}
    (ok : CompOK scope x F.env.cells) (hs : ∀ v, foldedSetIterable iter F.env v = pure v)
    (hi : ∀ X, Evals (F.cx X σ.rho) frI iter src) (hit : itemsOf src = some xs) (hro : rangeOK src) (hsz : xs.length ≤ 4096)
    (ht : ∀ X X' C p, p ∈ xs → TestsL ((F.cx X σ.rho).inner scope x ok X' C p) ifs (keep p))
    (he : ∀ X X' C p, p ∈ xs → keep p = true → Evals ((F.cx X σ.rho).inner scope x ok X' C p) false elt (f p))
    (hfl : (((xs.filter keep).map f).all isScalar) = true)
    (hsw : swapsWith (.ListComp elt [⟨.Name x px, iter, ifs, 0⟩] scope pos) (some (.Name y py)) spos.line F.env = pure true) (hx : varKind F.env y = true) (hf : freeOf σ y = true) :
    Exec F σ (.Assign [.Name y py] (.ListComp elt [⟨.Name x px, iter, ifs, 0⟩] scope pos) spos) (.next { σ with ρ := (y, .list ((xs.filter keep).map f)) :: σ.ρ }) := fun E D s o => by
  obtain ⟨hp, ho⟩ := freeOf.of hf
  rw [exec_Assign_Name_used _ _ _ _ hsw]
  refine wpAny_bind (wpAny_standAt (wpAny_bind ?_))
  have run := comp_run (Γ := F.cx (F.rd s) σ.rho) (x := x) (px := px) (pos := pos) (cpos := firstIterPos [⟨.Name x px, iter, ifs, 0⟩] pos) (use := some (PySem.assign (Expr.Name y py) F.env)) (E := E) (Q := fun _ s' => OutIs F D s (.next { σ with ρ := (y, .list ((xs.filter keep).map f)) :: σ.ρ }) .next s') ok hs (hi _) hit hro hsz (fun X' C p _ hp => ht _ X' C p hp) (fun X' C p _ hp hk => he _ X' C p hp hk) o.cx (fun L C m s₁ ys k hL hC hLC ns pl vr => by
    refine wpAny_assign_Name (Stored.of (o.step k) (varKind.of hx) fun a s₂ st => ?_)
    have fr := o.frL st.fr
    have haC : a ≠ C := fun e => by rw [e, hC] at fr; cases fr
    have haL : a ≠ L := fun e => by rw [e, hL] at fr; cases fr
    obtain ⟨n, hpl⟩ := pl
    have eL : s₂.heap.get? L = some { cls := .type "list", data := .seq ys.toArray n } := st.kp.keep _ _ (Ne.symm haL) hpl rfl
    obtain ⟨oc, es, ep, hoc, hdc, hrc⟩ := ns
    refine ⟨m, ⟨oc, es, ep, st.kp.keep _ _ (Ne.symm haC) hoc (tab_dict hdc), hdc, hrc⟩, fun h' hs' => ⟨D, ?_⟩⟩
    refine (st.letGo o k hC hs').shared o (.list (o.newB hL) (hs'.extBut _ _ hLC eL) rfl rfl (vr.scalars hfl)) hp ho)
  refine wpAny_bind (wpAny_mono run (fun _ s' hq => wpAny_pure (wpAny_pure hq)) fun _ _ e => e)
end
end Mine

namespace Mine
open PySem PySem.Calls PyProof.Rows PyProof PySem.W

section
variable {F : Fm} {σ σ' : St} {D : Addr → Prop} {s s₁ s' : Shared} {x : Str} {v : Value} {a : Addr}

theorem varAt_ref {env : Env} {h : Heap} {x : Str} {u v : Value} (a : VarAt env h x u) (b : VarAt env h x v) : u = v := by
  rcases a with ⟨k, m, n, e⟩ | ⟨k, c, l, e⟩ <;> rcases b with ⟨k', m', n', e'⟩ | ⟨k', c', l', e'⟩
  · obtain ⟨o, es, ep, ho, hd, _, e1⟩ := n
    obtain ⟨o', es', ep', ho', hd', _, e1'⟩ := n'
    rw [ho] at ho'; cases ho'
    rw [hd] at hd'; cases hd'
    rw [← e1] at e; rw [← e1'] at e'
    exact Option.some.inj (e.symm.trans e')
  · rcases k' with k' | k' <;> (rw [k] at k'; cases k')
  · rcases k with k | k <;> (rw [k'] at k; cases k)
  · rw [l] at l'; cases l'
    obtain ⟨o, ho, hd⟩ := e
    obtain ⟨o', ho', hd'⟩ := e'
    rw [ho] at ho'; cases ho'
    rw [hd] at hd'; cases hd'; rfl

/-- the owned thing is changed in place -/
theorem Fm.Ok.change {ρ : List (Str × PV)} {pins : List (Str × Value)} {w w' : Own} {h' : Heap} {tk : Nat} (o : F.Ok ⟨ρ, some w, pins⟩ D s) (hn : w'.name = w.name) (hD : ∀ v, w.P s.heap v D → VarAt F.env s.heap w.name v → w'.P h' v D) (hk : ∀ b ob, ¬ D b → s.heap.get? b = some ob → h'.get? b = some ob)
    (hnt : ∀ b ob, D b → s.heap.get? b = some ob → tab ob = false) : Goes F ⟨ρ, some w', pins⟩ D s D { s with heap := h', toks := tk } := by
  obtain ⟨v, hv, hva⟩ := o.own
  have hw' := hD v hv hva
  have hlive : ∀ b, (s.heap.get? b).isSome = true → (h'.get? b).isSome = true := fun b hb => by
    by_cases q : D b
    · exact w'.live _ _ _ hw' b q
    · obtain ⟨ob, e⟩ := Option.isSome_iff_exists.mp hb
      rw [hk b ob q e]; rfl
  have kp : Kp F.T D No s { s with heap := h', toks := tk } := by
    refine ⟨fun b ob hb e _ => hk b ob hb e, hlive, fun b ob e ht => .inl (hk b ob (fun q => by rw [hnt b ob q e] at ht; cases ht) e), fun _ _ _ h => h, Nat.le_refl _, fun h => h, rfl, rfl⟩
  have hF : ∀ b, F.Fr b → ¬ D b := fun b h q => (o.dF b q).2.1 h
  have vars : ∀ y u, VarAt F.env s.heap y u → VarAt F.env h' y u := fun y u h => by
    rcases h with ⟨h1, m', h2, h3⟩ | ⟨h1, c, h2, h3⟩
    · exact .inl ⟨h1, m', h2.at' fun ob e => hk _ ob (hF _ (.inl rfl)) e, h3⟩
    · rcases h1 with h1 | h1
      · refine .inr ⟨.inl h1, c, h2, ?_⟩
        obtain ⟨ob, e1, e2⟩ := h3
        exact ⟨ob, hk _ _ (hF _ (.inr ⟨y, h1, h2⟩)) e1, e2⟩
      · exact absurd h1 (F.nf y)
  refine ⟨⟨o.k0.fresh kp fun b h => (o.dF b h).1, o.frF, ?_, fun y hy => ?_, fun y pv e => ?_, ⟨v, hw', by rw [hn]; exact vars _ _ hva⟩, fun y u e => vars _ _ (o.pins y u e), fun b hb => ?_⟩, kp.mono (fun _ h => .inr h) fun _ h => h, fun b h => .inl h⟩
  · exact o.ns.imp fun m h => h.at' fun ob e => hk _ ob (hF _ (.inl rfl)) e
  · obtain ⟨c, u, h1, ob, e1, e2⟩ := o.cells y hy
    exact ⟨c, u, h1, ob, hk _ _ (hF _ (.inr ⟨y, hy, h1⟩)) e1, e2⟩
  · obtain ⟨u, h1, h2⟩ := o.vars y pv e
    exact ⟨u, h1.mono (fun b ob hb e _ => hk b ob (fun q => hb.2 (.inr q)) e) fun _ h => h, vars _ _ h2⟩
  · obtain ⟨p, q, r⟩ := o.dF b hb
    exact ⟨p, q, hlive b r⟩

theorem Fm.Ok.withρ {σ₂ : St} (h : σ = σ₂) (o : F.Ok σ D s) : F.Ok σ₂ D s := h ▸ o

theorem load_own {Q : Value → Shared → Prop} {E : Value → Shared → Prop} {px : Pos} (hv : VarAt F.env s.heap x v) (h : Q v s) (hd : (x == ("__debug__" : Str)) = false := by decide) (hc : (x == ("__classdict__" : Str)) = false := by decide) :
    wpAny F.M F.A (eval (.Name x px) F.env) Q E s := wpAny_Name (load_var (Γ := F.cx (fun _ => True) []) hv h hc) hd

theorem IntsAre.set : ∀ {vs : List Value} {ns : List Int} (h : IntsAre vs ns) (k : Nat) (z : Int) (t : Tok), IntsAre (vs.set k (.int z t)) (ns.set k z)
  | _, _, .nil, k, z, t => .nil
  | _, _, .cons n t' r, 0, z, t => .cons z t r
  | _, _, .cons n t' r, k + 1, z, t => .cons n t' (IntsAre.set r k z t)

/-- x[i] += e -/
theorem Exec.augItem {ρ : List (Str × PV)} {pins : List (Str × Value)} {i : Str} {px pi ps pos : Pos} {e : Expr} {ns : List Int} {pl fr : Bool} {k : Nat} {m z : Int}
    (hi : ((Own.ints x ns pl).name == i) = false) (hk : ρ.lookup i = some (.int k)) (hz : ns[k]? = some z) (hsz : ns.length ≤ 4096) (he : ∀ X, Evals (F.cx X ((x, .list (ns.map .int)) :: ρ)) fr e (.int m))
    (hd : (x == ("__debug__" : Str)) = false := by decide) (hc : (x == ("__classdict__" : Str)) = false := by decide) (hd' : (i == ("__debug__" : Str)) = false := by decide) (hc' : (i == ("__classdict__" : Str)) = false := by decide) :
    Exec F ⟨ρ, some (Own.ints x ns pl), pins⟩ (.AugAssign (.Subscript (.Name x px) (.Name i pi) ps) .Add e pos) (.next ⟨ρ, some (Own.ints x (ns.set k (z + m)) false), pins⟩) := fun E D s o => by
  obtain ⟨v, hv, hva⟩ := o.own
  obtain ⟨l, vs, rfl, hD, hl, _, hin⟩ := id hv
  obtain ⟨u, hu, hua⟩ := o.vars i _ hk
  have hlen := hin.length
  have hkl : k < ns.length := (List.getElem?_eq_some_iff.mp hz).1
  obtain ⟨t, ht⟩ := hin.get k z hz
  cases hu with
  | int _ tu =>
  refine wpAny_AugAssign_Subscript (load_own hva (load_own hua ?_ hd' hc') hd hc)
  refine wpAny_getItem_list hl (Int.natCast_nonneg k) (by omega) (x := .int z t) (by simpa using ht) ?_
  refine wpAny_mono (he _ E s o.cx) (fun y s₁ h₁ => ?_) fun _ _ e => e
  obtain ⟨k₁, hy, _⟩ := h₁
  cases hy
  refine wpAny_iadd_int (wpAny_setItem_list (k₁.isList hl) (Int.natCast_nonneg k) (by omega) (by rw [List.size_toArray]; omega) fun h' hl' hs' => ?_)
  have k₁' : K0 F.T s { s₁ with toks := s₁.toks + 1 } := k₁.tok
  refine ⟨D, Goes.before k₁' ?_⟩
  have o₁ := o.step k₁'
  have key := o₁.change (w := Own.ints x ns pl) (w' := Own.ints x (ns.set k (z + m)) false) (h' := h') (tk := s₁.toks + 1) rfl (fun v' hv' _ => ?_) (fun b ob hb e => hs'.extBut b ob (fun q => hb ((hD b).2 q)) e) (fun b ob hb e => ?_)
  · exact key
  · obtain ⟨l', vs', rfl, hD', _⟩ := hv'
    have hll : l' = l := (hD l').1 ((hD' l').2 rfl)
    subst hll
    refine ⟨l', vs.set k (.int (z + m) s₁.toks), rfl, hD, ?_, fun h => (nomatch h), ?_⟩
    · have : (vs.toArray.setIfInBounds (k : Int).toNat (.int (z + m) s₁.toks)) = (vs.set k (.int (z + m) s₁.toks)).toArray := by
        simp
      rw [← this]; exact hl'
    · exact IntsAre.set hin k _ _
  · have := (hD b).1 hb
    subst this
    obtain ⟨ol, ho, hcl, _⟩ := k₁.isList hl
    rw [ho] at e; cases e
    exact tab_of_cls hcl
end
end Mine

namespace Mine
open PySem PySem.Calls PyProof.Rows PyProof PySem.W

section
variable {F : Fm} {σ σ' : St} {D : Addr → Prop} {s s₁ s' : Shared} {x : Str} {v : Value} {a : Addr}

theorem IntsAre.snoc : ∀ {vs : List Value} {ns : List Int} (h : IntsAre vs ns) (z : Int) (t : Tok), IntsAre (vs ++ [.int z t]) (ns ++ [z])
  | _, _, .nil, z, t => .cons z t .nil
  | _, _, .cons n t' r, z, t => .cons n t' (IntsAre.snoc r z t)

/-- x.append(e) -/
theorem Exec.append {ρ : List (Str × PV)} {pins : List (Str × Value)} {px apos pos epos : Pos} {elt : Expr} {ns : List Int} {fr : Bool} {m : Int}
    (hsz : ns.length ≤ 4096) (he : ∀ X, Evals (F.cx X ((x, .list (ns.map .int)) :: ρ)) fr elt (.int m))
    (hbase : attributeBase (.Name x px) "append" F.env (eval (.Name x px) F.env) = eval (.Name x px) F.env := by rfl)
    (hfew : ((backTo pos (starEach [elt] F.env)).all (fun x => !x.1) && (backToKw pos (keywordEach [] F.env)).all (fun x => x.1.isSome)
      && decide (([elt] : List Expr).length + ([] : List Keyword).length + (if ([] : List Keyword).isEmpty then 0 else 1) < 30)) = true := by rfl)
    (hline : (apos.endLine == pos.line) = true := by rfl)
    (htrees : backTo pos (starEach [elt] F.env) = [(false, eval elt F.env)] := by rfl)
    (hint : interactive F.env = false := by rfl)
    (hd : (x == ("__debug__" : Str)) = false := by decide) (hc : (x == ("__classdict__" : Str)) = false := by decide) :
    Exec F ⟨ρ, some (Own.ints x ns true), pins⟩ (.Expr (.Call (.Attribute (.Name x px) "append" apos) [elt] [] pos) epos) (.next ⟨ρ, some (Own.ints x (ns ++ [m]) true), pins⟩) := fun E D s o => by
  obtain ⟨v, hv, hva⟩ := o.own
  obtain ⟨l, vs, rfl, hD, hl, hp, hin⟩ := id hv
  obtain ⟨n, hpl⟩ := hp rfl
  have hlen := hin.length
  refine wpAny_Expr (wpAny_Call_append hbase hfew hline htrees (load_own hva ⟨l, vs.toArray, rfl, ⟨_, n, hpl, rfl, rfl, rfl⟩, ?_⟩ hd hc)) hint rfl
  refine wpAny_mono (he _ E s o.cx) (fun y s₁ h₁ => ?_) fun _ _ e => e
  obtain ⟨k₁, hy, _⟩ := h₁
  cases hy with
  | int _ ty =>
  refine wpAny_list_append_plain (hsz := by rw [List.size_toArray]; unfold sizeLine; omega) ⟨n, k₁.get hpl rfl⟩ fun h' hl' hs' => ?_
  refine ⟨D, Goes.before k₁ ?_⟩
  refine (o.step k₁).change (w := Own.ints x ns true) (w' := Own.ints x (ns ++ [m]) true) (h' := h') (tk := s₁.toks) rfl (fun v' hv' _ => ?_) (fun b ob hb e => hs'.extBut b ob (fun q => hb ((hD b).2 q)) e) (fun b ob hb e => ?_)
  · obtain ⟨l', vs', rfl, hD', _⟩ := hv'
    have hll : l' = l := (hD l').1 ((hD' l').2 rfl)
    subst hll
    have e : (vs.toArray.push (Value.int m ty)) = (vs ++ [Value.int m ty]).toArray := by simp
    rw [e] at hl'
    obtain ⟨n', e'⟩ := hl'
    exact ⟨l', vs ++ [Value.int m ty], rfl, hD, ⟨_, e', rfl, _, rfl⟩, fun _ => ⟨n', e'⟩, IntsAre.snoc hin m ty⟩
  · have := (hD b).1 hb
    subst this
    rw [k₁.get hpl rfl] at e; cases e
    rfl

/-- the walked thing moved on; no value holds it -/
theorem Fm.Ok.moved {I : Addr} {oI : Obj} (o : F.Ok σ D s) (hI : s.heap.get? I = some oI) (hc : itCls oI = true) (hM : ¬ F.Mut D I) (k0' : K0 F.T F.s₀ s') (hk : ∀ b ob, b ≠ I → tab ob = false → s.heap.get? b = some ob → s'.heap.get? b = some ob) : F.Ok σ D s' := by
  have hF : ∀ b, F.Mut D b → b ≠ I := fun b h q => hM (q ▸ h)
  have vars : ∀ y u, VarAt F.env s.heap y u → VarAt F.env s'.heap y u := fun y u h => by
    rcases h with ⟨h1, m', ⟨o', es, ep, ho, hd, r⟩, h3⟩ | ⟨h1, c, h2, h3⟩
    · exact .inl ⟨h1, m', ⟨o', es, ep, hk _ _ (hF _ (.inl (.inl rfl))) (tab_dict hd) ho, hd, r⟩, h3⟩
    · rcases h1 with h1 | h1
      · refine .inr ⟨.inl h1, c, h2, ?_⟩
        obtain ⟨ob, e1, e2⟩ := h3
        exact ⟨ob, hk _ _ (hF _ (.inl (.inr ⟨y, h1, h2⟩))) (tab_cell e2) e1, e2⟩
      · exact absurd h1 (F.nf y)
  refine ⟨k0', o.frF, ?_, fun y hy => ?_, fun y pv e => ?_, ?_, fun y u e => vars _ _ (o.pins y u e), fun b hb => ?_⟩
  · obtain ⟨m, o', es, ep, ho, hd, r⟩ := o.ns
    exact ⟨m, o', es, ep, hk _ _ (hF _ (.inl (.inl rfl))) (tab_dict hd) ho, hd, r⟩
  · obtain ⟨c, u, h1, ob, e1, e2⟩ := o.cells y hy
    exact ⟨c, u, h1, ob, hk _ _ (hF _ (.inl (.inr ⟨y, hy, h1⟩))) (tab_cell e2) e1, e2⟩
  · obtain ⟨u, h1, h2⟩ := o.vars y pv e
    exact ⟨u, (h1.offI hI hc).mono (fun b ob hb e ht => hk b ob hb.2 ht e) fun _ h => h.1, vars _ _ h2⟩
  · have ow := o.own
    split at ow
    · exact ow
    · rename_i w _
      obtain ⟨u, hu, hv⟩ := ow
      exact ⟨u, w.loc _ _ _ _ (fun b ob hb e ht => hk b ob (hF b (.inr hb)) ht e) hu, vars _ _ hv⟩
  · obtain ⟨p, q, r⟩ := o.dF b hb
    refine ⟨p, q, ?_⟩
    have ow := o.own
    split at ow
    · exact absurd hb (ow b)
    · rename_i w _
      obtain ⟨u, hu, hv⟩ := ow
      exact w.live _ _ _ (w.loc _ s'.heap _ _ (fun b ob hb e ht => hk b ob (hF b (.inr hb)) ht e) hu) b hb

theorem Kp.then_but {T M : Addr → Prop} {s s' : Shared} {I : Addr} {h' : Heap} {tk : Nat} (k : Kp T M No s s') (hk : ∀ b o, b ∉ [I] → s'.heap.get? b = some o → h'.get? b = some o) (hI : s.heap.get? I = none) : Kp T M No s { s' with heap := h', toks := tk } := by
  have ne : ∀ b, (s.heap.get? b).isSome = true → b ∉ [I] := fun b h q => by rw [List.mem_singleton.mp q, hI] at h; cases h
  refine ⟨fun b o hm e ht => hk b o (ne b (by rw [e]; rfl)) (k.keep b o hm e ht), fun b h => ?_, fun b o e ht => ?_, k.gens, k.gsz, k.bare, k.drawn, k.os⟩
  · obtain ⟨o, ho⟩ := Option.isSome_iff_exists.mp (k.live b h)
    show (h'.get? b).isSome = true
    rw [hk b o (ne b h) ho]; rfl
  · rcases k.tabs b o e ht with h1 | ⟨hT, vs, more, rfl, h1⟩
    · exact .inl (hk _ _ (ne b (by rw [e]; rfl)) h1)
    · exact .inr ⟨hT, vs, more, rfl, hk _ _ (ne b (by rw [e]; rfl)) h1.1, h1.2⟩

/-- a loop over a list or a range; it may end early, by a return in turn n -/
theorem for_any {px pos : Pos} {iter : Expr} {body : List Stmt} {src : PV} {xs : List PV} (inv : Nat → St) (n : Nat) (out : Out) (hi : ReadsAs F (inv 0) iter src) (hit : itemsOf src = some xs) (hro : rangeOK src) (hn : n ≤ xs.length)
    (hx : varKind F.env x = true) (hf : ∀ i, i ≤ n → freeOf (inv i) x = true)
    (hb : ∀ i p, i < n → xs[i]? = some p → Execs F { inv i with ρ := (x, p) :: (inv i).ρ } body (.next (inv (i + 1))) ∨ Execs F { inv i with ρ := (x, p) :: (inv i).ρ } body (.cont (inv (i + 1))))
    (hend : (n = xs.length ∧ out = .next (inv n)) ∨ (∃ pv p, out = .ret pv ∧ xs[n]? = some p ∧ Execs F { inv n with ρ := (x, p) :: (inv n).ρ } body (.ret pv)))
    (hs : ∀ x, foldedSetIterable iter F.env x = pure x := by intro _; rfl) : Exec F (inv 0) (.For (.Name x px) iter body [] pos) out := fun E D s o => by
  refine wpAny_For (wpAny_mono (hi.run o) (fun xv s₁ h₁ => ?_) fun _ _ e => e) hs
  obtain ⟨k₁, hv⟩ := h₁
  have o₁ := o.step k₁
  refine iter_pv (T := F.T) hv.live hit hro fun I fp P St s₂ k₂ hI it => ?_
  have o₂ := o₁.step k₂
  have W := it.walks F.A F.hh
  let J : Nat → Shared → Prop := fun k s' => ∃ i D', i ≤ n ∧ k = n + 1 - i ∧ F.Ok (inv i) D' s' ∧ Kp F.T (fun b => F.Mut D b ∨ b = I) No s₂ s' ∧ (∀ b, D' b → D b ∨ s₂.heap.get? b = none) ∧ St i s'.heap
  obtain ⟨oI, hoI, hcI⟩ := it.isIt 0 _ it.start
  have hIM : ¬ F.Mut D I := fun q => by have := o₁.mutL q; rw [hI] at this; cases this
  have notI : ∀ D' : Addr → Prop, (∀ b, D' b → D b ∨ s₂.heap.get? b = none) → ¬ F.Mut D' I := fun D' h q => by
    rcases q with q | q
    · exact hIM (.inl q)
    · rcases h I q with q | q
      · exact hIM (.inr q)
      · rw [hoI] at q; cases q
  have fpM : ∀ b ∈ fp, b ≠ I → ∀ D' : Addr → Prop, (∀ b, D' b → D b ∨ s₂.heap.get? b = none) → ¬ F.Mut D' b := fun b hb hbI D' h q => by
    have hX := (it.own b hb).resolve_left hbI
    rcases q with q | q
    · exact hX.1.2 (.inl q)
    · rcases h b q with q | q
      · exact hX.1.2 (.inr q)
      · obtain ⟨ob, hob, _⟩ := it.sits 0 _ it.start b hb
        rw [hob] at q; cases q
  have hI0 : F.s₀.heap.get? I = none := none_of_K o₁.k0 hI
  have fin : ∀ {out' f s₃ D'} {σ₃ : Mine.St}, F.Ok σ₃ D' s₃ → Kp F.T (F.Mut D) No s s₃ → (∀ b, D' b → D b ∨ s₂.heap.get? b = none) → ∀ s₄, OutIs F D' s₃ out' f s₄ → OutIs F D s out' f s₄ := by
    intro out' f s₃ D' σ₃ o₃ kp hD' s₄ h
    have g : Goes F σ₃ D s D' s₃ := ⟨o₃, kp, fun b h => (hD' b h).imp id fun h => none_of_K (k₁.trans k₂) h⟩
    exact h.after g
  have whole : ∀ {s₃}, Kp F.T (fun b => F.Mut D b ∨ b = I) No s₂ s₃ → Kp F.T (F.Mut D) No s s₃ := fun kp => (k₁.trans k₂).of0.comp (M := F.Mut D) kp fun b h => h.imp id fun e => by rw [e]; exact none_of_K k₁ hI
  refine codeAny_forLoop J ?_ (n + 1) ⟨0, D, Nat.zero_le _, rfl, o₂, Kp.refl, fun _ h => .inl h, it.start⟩
  rintro k s' ⟨i, D', hin, rfl, ok, kp, hD', st⟩
  by_cases hlt : i < xs.length
  · refine W.item i _ _ _ hlt st fun v h₁ tk₁ hP st₁ hk₁ => ?_
    obtain ⟨oI', hoI', hcI'⟩ := it.isIt i _ st
    have kI : Kp F.T (· = I) No s' { s' with heap := h₁, toks := tk₁ } := kp_item hk₁ rfl (by
      obtain ⟨o', ho', ht'⟩ := it.sits i _ st I (W.sub I (by simp))
      exact ⟨o', ho', ht'⟩) (by
        obtain ⟨o', ho', _⟩ := it.sits (i + 1) _ st₁ I (W.sub I (by simp))
        rw [ho']; rfl)
    generalize hs1 : ({ s' with heap := h₁, toks := tk₁ } : Shared) = s₃ at kI
    have st₁ : St (i + 1) s₃.heap := by rw [← hs1]; exact st₁
    have ok₃ := ok.moved hoI' hcI' (notI D' hD') (ok.k0.fresh kI fun b e => by rw [e]; exact hI0) fun b ob hb ht e => kI.keep b ob hb e ht
    have kp₃ : Kp F.T (fun b => F.Mut D b ∨ b = I) No s₂ s₃ := kp.trans (kI.mono (fun b e => .inr e) fun _ h => h)
    obtain ⟨p, hp, hpv⟩ := it.vals i v hlt hP
    have vp : VR s₃.heap (fun b => F.B b ∧ ¬ F.Mut D' b) p v := by
      refine (hpv s₃ fun b ob hb e ht => kp₃.keep b ob (fun q => ?_) e ht).mono (fun _ _ _ h _ => h) fun b hb => ⟨hb.1.1, fun q => ?_⟩
      · rcases q with q | q
        · exact hb.1.2 q
        · have := hb.2; rw [q, hI] at this; cases this
      · rcases q with q | q
        · exact hb.1.2 (.inl q)
        · rcases hD' b q with q | q
          · exact hb.1.2 (.inr q)
          · have := k₂.live b hb.2; rw [q] at this; cases this
    refine wpAny_assign_Name (Stored.of ok₃ (varKind.of hx) fun a s₄ hst => ?_)
    obtain ⟨hpn, hon⟩ := freeOf.of (hf i hin)
    have g := hst.shared ok₃ (vp.mono (fun b ob hb e ht => hst.kp.keep b ob (fun q => hb.2 (.inl (by rw [q]; exact hst.fr))) e ht) fun _ h => h) hpn hon
    -- a body that comes back
    have back : ∀ s₅ D₅, Goes F (inv (i + 1)) D' s₄ D₅ s₅ → i < n → J (n + 1 - (i + 1)) s₅ := fun s₅ D₅ g₅ hin' => by
      have hD₅ : ∀ b, D₅ b → D b ∨ s₂.heap.get? b = none := fun b hb => by
        rcases (g.trans g₅).new b hb with h | h
        · exact hD' b h
        · right
          cases e : s₂.heap.get? b with
          | none => rfl
          | some ob =>
            have := kp₃.live b (by rw [e]; rfl)
            rw [h] at this; cases this
      refine ⟨i + 1, D₅, hin', rfl, g₅.ok, ?_, hD₅, ?_⟩
      · refine kp₃.comp (g.trans g₅).kp fun b hb => ?_
        rcases hb with hb | hb
        · exact .inl (.inl (.inl hb))
        · exact (hD' b hb).imp (fun h => .inl (.inr h)) id
      · refine W.frame _ _ _ st₁ fun b hb ob e => ?_
        obtain ⟨o'', ho'', ht''⟩ := it.sits (i + 1) _ st₁ b hb
        rw [ho''] at e; cases e
        refine (g.trans g₅).kp.keep b _ (fun q => ?_) ho'' ht''
        by_cases hbI : b = I
        · subst hbI; exact notI D' hD' q
        · exact fpM b hb hbI D' hD' q
    by_cases hin' : i < n
    · rcases hb i p hin' hp with hbd | hbd
      · refine wpAny_mono (hbd _ D' s₄ g.ok) (fun f s₅ h₅ => ?_) fun _ _ e => e
        cases f with
        | next => obtain ⟨D₅, g₅⟩ := h₅; exact ⟨n + 1 - (i + 1), by omega, back s₅ D₅ g₅ hin'⟩
        | _ => exact h₅.elim
      · refine wpAny_mono (hbd _ D' s₄ g.ok) (fun f s₅ h₅ => ?_) fun _ _ e => e
        cases f with
        | cont => obtain ⟨D₅, g₅⟩ := h₅; exact ⟨n + 1 - (i + 1), by omega, back s₅ D₅ g₅ hin'⟩
        | _ => exact h₅.elim
    · have hie : i = n := by omega
      subst hie
      rcases hend with ⟨e, _⟩ | ⟨pv, p', rfl, hp', hbd⟩
      · omega
      · rw [hp] at hp'; cases hp'
        refine wpAny_mono (hbd _ D' s₄ g.ok) (fun f s₅ h₅ => ?_) fun _ _ e => e
        cases f with
        | ret v' => exact fin ok₃ (whole kp₃) hD' s₅ (h₅.after g)
        | _ => exact h₅.elim
  · have hie : i = xs.length := by omega
    rcases hend with ⟨e, rfl⟩ | ⟨pv, p', rfl, hp', _⟩
    · have hin2 : i = n := by omega
      subst hin2
      rw [hie] at st
      refine W.done _ _ _ st fun h₁ tk₁ hk₁ => wpAny_execs_nil ?_
      obtain ⟨oI', hoI', hcI'⟩ := it.isIt _ _ st
      have okE := ok.moved (s' := { s' with heap := h₁, toks := tk₁ }) hoI' hcI' (notI D' hD') (ok.k0.then_but hk₁ hI0) fun b ob hb ht e => hk₁ b ob (fun q => hb (List.mem_singleton.mp q)) e
      exact fin okE ((whole kp).then_but hk₁ (none_of_K k₁ hI)) hD' _ ⟨D', .refl okE⟩
    · have := (List.getElem?_eq_some_iff.mp hp').1
      omega
end
end Mine

namespace Mine
open PySem PySem.Calls PyProof.Rows PyProof PySem.W

structure Wd where
  prog : Program
  w : World
  T : Addr → Prop
  K : Frag
  mg : Str → Option Value
  mb : Str → Option Value
  nt : ∀ a o, K.lookup a = some o → tab o = false

def Wd.I (W : Wd) (h : Heap) : Prop := W.K.In h ∧ h.Ns mainGlobals W.mg ∧ h.Ns builtinsNs W.mb ∧ h.NoLimit ∧ ∀ P, W.T P → ∃ ps, h.get? P = some (tabObj ps) ∧ TriplesOk ps.toList
theorem Wd.Ist (W : Wd) (s s' : Shared) (k : K0 W.T s s') (h : W.I s.heap) : W.I s'.heap :=
  ⟨fun a o e => k.get (h.1 a o e) (W.nt a o e), k.ns h.2.1, k.ns h.2.2.1, (let ⟨mc, n, e⟩ := h.2.2.2.1; ⟨mc, k.ns n, e⟩), fun P hP => by
    obtain ⟨ps, h1, h2⟩ := h.2.2.2.2 P hP
    rcases k.tabs P _ h1 (tab_tabObj _) with h3 | ⟨_, vs, more, e, h3, h4⟩
    · exact ⟨ps, h3, h2⟩
    · have e' : ps = vs := by
        have := congrArg Obj.data e
        simp only [tabObj, Data.fields.injEq] at this
        exact this
      subst e'
      exact ⟨_, h3, h4 h2⟩⟩

/-- what a call of the function at a gives -/
def Contract (W : Wd) (a : Addr) (d : Nat) (ps : List PV) (ks : List Str) (kps : List PV) (res : PV) : Prop :=
  ∀ (A : Around) (E : Value → Shared → Prop) (X : Addr → Prop) (s : Shared) (vs kvs : List Value), Room A d → W.I s.heap → VRs s.heap X ps vs → VRs s.heap X kps kvs →
    wpAny (model W.prog W.w) A (call (.ref a) vs (ks.zip kvs)) (fun v s' => K0 W.T s s' ∧ VR s'.heap (Up X s s') res v) E s

/-- a function of the top's -/
structure FnK (W : Wd) (a : Addr) (fd : FuncData) : Prop where
  at_ : ∃ o, W.K.lookup a = some o ∧ o.data = .func fd
  code : codeIn W.K fd.code fd.qualname = true
  glob : fd.globals = mainGlobals
  blt : fd.builtins = builtinsNs
  clo : fd.closure = []

/-- the scope's names, looked at once -/
def scopeOK (sc : Scope) : Bool := decide (sc.kind = .function) && decide (sc.isGenerator = false) && decide (sc.isCoroutine = false) && decide ((sc.names.map (·.1)).Nodup) && sc.names.all fun p => p.2 != .free

def bindsOK (sc : Scope) (xs : List Str) : Bool := decide xs.Nodup && xs.all fun x => sc.names.lookup x == some .local || sc.names.lookup x == some .cell

theorem bindL_skip {kindOf : Str → Option NameKind} {x : Str} : ∀ {binds : List (Str × Value)} {m : Str → Option Value}, (∀ p ∈ binds, p.1 ≠ x) → bindL kindOf binds m x = m x
  | [], m, _ => rfl
  | (n, v) :: r, m, h => by
    unfold bindL
    rw [bindL_skip fun p hp => h p (.tail _ hp)]
    have : x ≠ n := Ne.symm (h (n, v) (.head _))
    split
    · simp [this]
    · rfl
theorem bindC_skip {kindOf : Str → Option NameKind} {x : Str} : ∀ {binds : List (Str × Value)} {m : Str → Option Value}, (∀ p ∈ binds, p.1 ≠ x) → bindC kindOf binds m x = m x
  | [], m, _ => rfl
  | (n, v) :: r, m, h => by
    unfold bindC
    rw [bindC_skip fun p hp => h p (.tail _ hp)]
    have : x ≠ n := Ne.symm (h (n, v) (.head _))
    split
    · rfl
    · simp [this]
theorem bindL_get {kindOf : Str → Option NameKind} {x : Str} {v : Value} (hk : kindOf x = some .local) : ∀ {binds : List (Str × Value)} {m : Str → Option Value}, (binds.map (·.1)).Nodup → (x, v) ∈ binds → bindL kindOf binds m x = some v
  | [], m, _, h => by cases h
  | (n, u) :: r, m, hn, h => by
    rw [List.map_cons, List.nodup_cons] at hn
    unfold bindL
    rcases List.mem_cons.mp h with e | h
    · cases e
      rw [bindL_skip fun p hp e => hn.1 (List.mem_map.mpr ⟨p, hp, e⟩), if_pos hk]; simp
    · exact bindL_get hk hn.2 h
theorem bindC_get {kindOf : Str → Option NameKind} {x : Str} {v : Value} (hk : kindOf x ≠ some .local) : ∀ {binds : List (Str × Value)} {m : Str → Option Value}, (binds.map (·.1)).Nodup → (x, v) ∈ binds → bindC kindOf binds m x = some v
  | [], m, _, h => by cases h
  | (n, u) :: r, m, hn, h => by
    rw [List.map_cons, List.nodup_cons] at hn
    unfold bindC
    rcases List.mem_cons.mp h with e | h
    · cases e
      rw [bindC_skip fun p hp e => hn.1 (List.mem_map.mpr ⟨p, hp, e⟩), if_neg hk]; simp
    · exact bindC_get hk hn.2 h

theorem cellsFrom_mem : ∀ (names : List (Str × NameKind)) (n : Nat) (acc : List (Str × Addr)) (y : Str) (c : Addr), (y, c) ∈ cellsFrom n names acc → (y, c) ∈ acc ∨ ((y, .cell) ∈ names ∧ n ≤ c)
  | [], _, _, _, _, h => .inl h
  | (m, k) :: r, n, acc, y, c, h => by
    unfold cellsFrom at h
    by_cases hk : (k == NameKind.cell) = true
    · rw [if_pos hk] at h
      rcases cellsFrom_mem r _ _ y c h with h | ⟨h, h'⟩
      · rcases List.mem_cons.mp h with e | h
        · cases e
          refine .inr ⟨?_, Nat.le_refl _⟩
          rw [show k = .cell by simpa using hk]; exact .head _
        · exact .inl h
      · exact .inr ⟨.tail _ h, by omega⟩
    · rw [if_neg hk] at h
      exact (cellsFrom_mem r _ _ y c h).imp id fun h => ⟨.tail _ h.1, h.2⟩

theorem VRs.zip {h : Heap} {X : Addr → Prop} : ∀ {xs : List Str} {ps : List PV} {vs : List Value} {x : Str} {p : PV}, VRs h X ps vs → (xs.zip ps).lookup x = some p → ∃ v, (x, v) ∈ xs.zip vs ∧ VR h X p v
  | [], _, _, x, p, _, e => by simp at e
  | y :: xs, _, _, x, p, .nil, e => by simp at e
  | y :: xs, _, _, x, p, .cons a b, e => by
    rw [List.zip_cons_cons, List.lookup_cons] at e
    by_cases hy : x = y
    · subst hy
      simp at e; subst e
      exact ⟨_, .head _, a⟩
    · have hy' : (x == y) = false := by simpa using hy
      rw [hy'] at e
      obtain ⟨v, h1, h2⟩ := VRs.zip b e
      exact ⟨v, .tail _ h1, h2⟩

theorem names_at {sc : Scope} {x : Str} {k : NameKind} (h : sc.names.lookup x = some k) : (x, k) ∈ sc.names := mem_of_lookup h

theorem nodup_fst_zip {α : Type} : ∀ {xs : List Str} {vs : List α}, xs.Nodup → ((xs.zip vs).map (·.1)).Nodup
  | [], _, _ => by simp
  | x :: xs, [], _ => by simp
  | x :: xs, v :: vs, h => by
    rw [List.nodup_cons] at h
    rw [List.zip_cons_cons, List.map_cons, List.nodup_cons]
    refine ⟨fun q => h.1 ?_, nodup_fst_zip h.2⟩
    obtain ⟨p, hp, e⟩ := List.mem_map.mp q
    obtain ⟨y, u⟩ := p
    have e : y = x := e
    rw [← e]; exact (List.of_mem_zip hp).1

/-- the frame's facts, from the scope alone -/
structure EnvOK (fd : FuncData) (a : Addr) (L : Addr) : Prop where
  ap : EnvAp (callEnvC fd L a)
  nf : ∀ y, (callEnvC fd L a).kindOf y ≠ some .free

theorem envOK {fd : FuncData} {a : Addr} (hsc : scopeOK fd.scope = true) (s : Shared) : EnvOK fd a s.heap.objs.size := by
  simp only [scopeOK, Bool.and_eq_true, decide_eq_true_eq, List.all_eq_true, bne_iff_ne, ne_eq] at hsc
  obtain ⟨⟨⟨⟨hk, hg⟩, hc⟩, hn⟩, hf⟩ := hsc
  have nd := cellsFrom_ok fd.scope.names (s.heap.push { cls := .type "frame", data := .dict #[] }) (s.heap.objs.size + 1) [] ⟨fun _ _ hm => (nomatch hm), List.Pairwise.nil⟩ (by rw [Heap.size_push]; exact Nat.le_refl _)
  rw [Heap.size_push] at nd
  refine ⟨⟨fun x y c c' hx hy hne => ?_, fun y c hy => ?_⟩, fun y hy => ?_⟩
  · have hx : List.lookup x (cellsFrom (s.heap.objs.size + 1) fd.scope.names []) = some c := hx
    have hy : List.lookup y (cellsFrom (s.heap.objs.size + 1) fd.scope.names []) = some c' := hy
    intro e
    have pw : (cellsFrom (s.heap.objs.size + 1) fd.scope.names []).Pairwise fun x y => x.2 ≠ y.2 := nd.2
    have hm1 := mem_of_lookup hx
    have hm2 := mem_of_lookup hy
    obtain ⟨i, hi, e1⟩ := List.getElem_of_mem hm1
    obtain ⟨j, hj, e2⟩ := List.getElem_of_mem hm2
    rw [List.pairwise_iff_getElem] at pw
    rcases Nat.lt_trichotomy i j with h | h | h
    · have := pw i j hi hj h
      rw [e1, e2] at this; exact this e.symm
    · subst h; rw [e1] at e2; cases e2; exact hne rfl
    · have := pw j i hj hi h
      rw [e1, e2] at this; exact this e
  · have hy : List.lookup y (cellsFrom (s.heap.objs.size + 1) fd.scope.names []) = some c := hy
    rcases cellsFrom_mem _ _ _ _ _ (mem_of_lookup hy) with h | ⟨_, h⟩
    · cases h
    · show c ≠ s.heap.objs.size
      exact fun e => absurd (e ▸ h) (Nat.not_succ_le_self _)
  · have hy : fd.scope.names.lookup y = some .free := hy
    exact hf _ (mem_of_lookup hy) rfl

def frameOf (W : Wd) (A : Around) (hA : A.handled = none) (fd : FuncData) (a : Addr) (s : Shared) (X : Addr → Prop) (hI : W.I s.heap) (hk : fd.scope.kind = .function) (hg : fd.globals = mainGlobals) (hb : fd.builtins = builtinsNs) (ok : EnvOK fd a s.heap.objs.size) : Fm :=
  { prog := W.prog, w := W.w, T := W.T, A := A.deeper (callEnvC fd s.heap.objs.size a), env := callEnvC fd s.heap.objs.size a, I := W.I, Ist := W.Ist, hh := hA, hk := hk, hg := hg, hb := hb, ap := ok.ap, nf := ok.nf, s₀ := s, Xc := X, I₀ := hI }

/-- a function is called; its frame is laid; its body runs -/
theorem contract_of {W : Wd} {a : Addr} {fd : FuncData} {body : List Stmt} {d : Nat} {xs : List Str} {ps kps dps : List PV} {ks : List Str} {res : PV} (fn : FnK W a fd) (hbody : fd.body = .stmts body) (hsc : scopeOK fd.scope = true) (hbs : bindsOK fd.scope xs = true) (hk : fd.scope.kind = .function)
    (hbind : ∀ (s : Shared) (vs kvs : List Value), W.I s.heap → vs.length = ps.length → kvs.length = kps.length → ∃ dvs, BindsTo s fd ⟨vs, ks.zip kvs⟩ (xs.zip (vs ++ kvs ++ dvs)) ∧ VRs s.heap No dps dvs)
    (run : ∀ A hA s X hI ok, Room A d → Execs (frameOf W A hA fd a s X hI hk fn.glob fn.blt ok) ⟨xs.zip (ps ++ kps ++ dps), none, []⟩ body (.ret res)) : Contract W a d ps ks kps res := fun A E X s vs kvs hr hI hv hkv => by
  obtain ⟨o, ho, hdata⟩ := fn.at_
  have ho' := hI.1 a o ho
  obtain ⟨dvs, hb, hd⟩ := hbind s vs kvs hI hv.length hkv.length
  have ok := envOK (a := a) hsc s
  have hbs' := hbs
  have hsc' := hsc
  simp only [bindsOK, Bool.and_eq_true, decide_eq_true_eq, List.all_eq_true, Bool.or_eq_true, beq_iff_eq] at hbs
  simp only [scopeOK, Bool.and_eq_true, decide_eq_true_eq, List.all_eq_true, bne_iff_ne, ne_eq] at hsc
  obtain ⟨⟨⟨⟨_, hg⟩, hc⟩, hn⟩, hf⟩ := hsc
  refine wpAny_call ?_
  refine codeAny_call_function (by have := hr.2.1; omega) ho' hdata hc hg hbody (codeRec_of hI.1 fn.code) (hb _ _ _ _ ?_)
  rw [fn.clo]
  have hcl : ∀ x, (x, NameKind.cell) ∈ fd.scope.names → ((cellsFrom (s.heap.objs.size + 1) fd.scope.names []).lookup x).isSome = true := fun x hx => by
    obtain ⟨c, h1, _⟩ := cellsFrom_cell x fd.scope.names (s.heap.push { cls := .type "frame", data := .dict #[] }) [] hx hn
    rw [Heap.size_push] at h1
    rw [h1]; rfl
  refine wpAny_newFunctionEnv_cells hk (fun p hp => ?_) fun env he s' x => ?_
  · obtain ⟨y, u⟩ := p
    rcases hbs.2 y (List.of_mem_zip hp).1 with h | h
    · exact .inl h
    · exact .inr ⟨h, hcl y (mem_of_lookup h)⟩
  subst he
  refine ⟨hI.2.2.2.1.keeps x.toInCall.keep, codeAny_func ?_⟩
  obtain ⟨h', tk, rfl⟩ := x.toInCall.same
  have keep := x.toInCall.keep
  let F := frameOf W A hr.1 fd a s X hI hk fn.glob fn.blt ok
  have kk : K0 W.T s { s with heap := h', toks := tk } := K0.of_keep keep
  have frs : ∀ b, F.Fr b → s.heap.get? b = none := fun b hb => by
    rcases hb with rfl | ⟨y, hky, hc⟩
    · exact Heap.get?_none_of_le x.toInCall.fresh
    · exact Heap.get?_none_of_le (Nat.le_trans x.toInCall.fresh (Nat.le_of_lt (x.above y b (mem_of_lookup hc))))
  have hall := (hv.append hkv).append (hd.mono (X' := X) (fun _ _ h => h.elim) fun _ h => h.elim)
  have okF : F.Ok ⟨xs.zip (ps ++ kps ++ dps), none, []⟩ No { s with heap := h', toks := tk } := by
    refine ⟨kk, frs, ⟨_, x.toInCall.ns⟩, fun y hy => ?_, fun y pv e => ?_, fun _ h => h, fun y v e => (nomatch e), fun b h => h.elim⟩
    · have hy : fd.scope.names.lookup y = some .cell := hy
      obtain ⟨c, hc⟩ := Option.isSome_iff_exists.mp (hcl y (mem_of_lookup hy))
      exact ⟨c, _, hc, x.cell y c hc⟩
    · obtain ⟨v, hm, hvr⟩ := hall.zip e
      have off : ∀ b, X b ∧ (s.heap.get? b).isSome = true → F.B b ∧ ¬ F.Mut No b := fun b hb => ⟨.inl hb.1, fun q => by
        rcases q with q | q
        · have := hb.2; rw [frs b q] at this; cases this
        · exact q⟩
      refine ⟨v, hvr.live.mono (fun b ob _ e _ => keep b ob e) off, ?_⟩
      · have nd : (((xs.zip (vs ++ kvs ++ dvs)).map (·.1))).Nodup := nodup_fst_zip hbs.1
        rcases hbs.2 y (List.of_mem_zip hm).1 with h | h
        · exact .inl ⟨h, _, x.toInCall.ns, bindL_get h nd hm⟩
        · obtain ⟨c, hc⟩ := Option.isSome_iff_exists.mp (hcl y (mem_of_lookup h))
          refine .inr ⟨.inl h, c, hc, ?_⟩
          have e1 : bindC (callEnvC fd s.heap.objs.size a).kindOf (xs.zip (vs ++ kvs ++ dvs)) (fun _ => none) y = some v := bindC_get (show (callEnvC fd s.heap.objs.size a).kindOf y ≠ some .local from fun q => by rw [show (callEnvC fd s.heap.objs.size a).kindOf y = some .cell from h] at q; cases q) nd hm
          have e2 := x.cell y c hc
          show h'.IsCell c (some v)
          rw [← e1]; exact e2
  refine wpAny_mono (run A hr.1 s X hI ok hr _ No _ okF) (fun f s₂ h₂ => ?_) fun _ _ e => e
  cases f with
  | ret v =>
    obtain ⟨kp, vr⟩ := h₂
    refine ⟨kk.fresh kp fun b h => ?_, vr.live.mono (fun _ _ _ h _ => h) fun b hb => ?_⟩
    · rcases h with h | h
      · exact frs b h
      · exact h.elim
    · rcases hb.1.1 with h | h
      · exact .inl h
      · exact .inr ⟨h, hb.2⟩
  | _ => exact h₂.elim
end Mine

namespace Mine
open PySem PySem.Calls PyProof.Rows PyProof PySem.W

/-! the text's functions -/
def stmtAt (i : Nat) : Stmt := (PySem.Challenge.pw_fc0089_01.main.body[i]?).getD (.Pass default)
def bodyOf : Stmt → List Stmt
  | .FunctionDef _ _ b _ _ _ _ _ _ _ => b
  | _ => []
def argsOf : Stmt → Arguments
  | .FunctionDef _ a _ _ _ _ _ _ _ _ => a
  | _ => default
def scopeOf : Stmt → Scope
  | .FunctionDef _ _ _ _ _ _ s _ _ _ => s
  | _ => default
def nameOf : Stmt → Str
  | .FunctionDef n _ _ _ _ _ _ _ _ _ => n
  | _ => default

/-- the function of a def of the text; what the text does not tell is open -/
structure Rest where
  kV : Value
  doc : Value
  pm : Value
  an : Option Addr
  cdv : Value
  ct : Value
abbrev fdOf (st : Stmt) (dV : Value) (r : Rest) : FuncData := fnOf (nameOf st) (nameOf st) (argsOf st) (bodyOf st) (scopeOf st) dV r.kV r.doc r.pm r.an r.cdv r.ct

theorem VR.up2' {T : Addr → Prop} {X : Addr → Prop} {s s₁ s₂ : Shared} {p : PV} {v : Value} (k : K0 T s s₁) (x : VR s₂.heap (Up (Up X s s₁) s₁ s₂) p v) (k' : K0 T s₁ s₂) : VR s₂.heap (Up X s s₂) p v := x.mono (fun _ _ _ h _ => h) fun a h => by
  rcases h with (h | h) | h
  · exact .inl h
  · exact .inr ⟨h.1, k'.live a h.2⟩
  · exact .inr ⟨none_of_K k h.1, h.2⟩

section
variable {Γ : Cx}
/-- Γ speaks of the world W -/
structure Cx.In (Γ : Cx) (W : Wd) (d : Nat) : Prop where
  prog : Γ.prog = W.prog
  w : Γ.w = W.w
  T : Γ.T = W.T
  I : ∀ h, Γ.I h → W.I h
  room : Room Γ.A d

theorem Evals.call {W : Wd} {d d' : Nat} {a : Addr} {fd : FuncData} {x : Str} {np pos : Pos} {es : List Expr} {ps : List PV} {res : PV} (hin : Γ.In W d') (fn : FnK W a fd) (c : Contract W a d ps [] [] res) (hd' : d ≤ d') (g : Γ.Glob x (.ref a)) (ha : EvalsL Γ es ps)
    (hp : (starEach es Γ.env).any (·.1) = false := by rfl) (hd : (x == ("__debug__" : Str)) = false := by decide) :
    Evals Γ false (.Call (.Name x np) es [] pos) res := fun E s o => by
  obtain ⟨ob, hob, hdata⟩ := fn.at_
  refine wpAny_Call_NameR (glob_name g o (callWith_function (o := ob) (fd := fd) (evalArgs_all (by rw [any_backTo]; exact hp) (wpAny_mono (ha E s pos o) (fun vs s₁ h₁ => ?_) fun _ _ e => e))) hd)
  obtain ⟨k, hv⟩ := h₁
  have hI := hin.I _ (Γ.Ist _ _ k o.base)
  refine ⟨⟨hI.1 _ _ hob, hdata⟩, ?_⟩
  have c' := c Γ.A E (Up Γ.X s s₁) s₁ vs [] (hin.room.mono hd') hI hv .nil
  have eM : Γ.M = model W.prog W.w := by unfold Cx.M; rw [hin.prog, hin.w]
  rw [eM]
  refine wpAny_mono c' (fun v s' h' => ?_) fun _ _ e => e
  rw [← hin.T] at h'
  exact ⟨k.trans h'.1, VR.up2' k h'.2 h'.1, fun h => nomatch h⟩
end
end Mine

namespace Mine
open PySem PySem.Calls PyProof.Rows PyProof PySem.W

theorem Cx.Glob.blt {Γ : Cx} {W : Wd} {x : Str} {v : Value} (h : W.mg x = none ∧ W.mb x = some v) (hI : ∀ h, Γ.I h → W.I h) (hk : Γ.env.kindOf x = some .globalImplicit) : Γ.Glob x v :=
  ⟨hk, fun _ q => ⟨_, _, (hI _ q).2.1, (hI _ q).2.2.1, .inr h⟩⟩
theorem Cx.Glob.top {Γ : Cx} {W : Wd} {x : Str} {v : Value} (h : W.mg x = some v) (hI : ∀ h, Γ.I h → W.I h) (hk : Γ.env.kindOf x = some .globalImplicit) : Γ.Glob x v :=
  ⟨hk, fun _ q => ⟨_, _, (hI _ q).2.1, (hI _ q).2.2.1, .inl h⟩⟩

/-- where the text's things lie -/
structure Lay (W : Wd) where
  sum : W.mg "sum" = none ∧ W.mb "sum" = some (.builtin "sum")
  len : W.mg "len" = none ∧ W.mb "len" = some (.builtin "len")
  max : W.mg "max" = none ∧ W.mb "max" = some (.builtin "max")
  sorted : W.mg "sorted" = none ∧ W.mb "sorted" = some (.builtin "sorted")
  range : W.mg "range" = none ∧ W.mb "range" = some (.type "range")
  int : W.mg "int" = none ∧ W.mb "int" = some (.type "int")
  aLawAt : Addr
  rLawAt : Rest
  gLawAt : W.mg "_law_at" = some (.ref aLawAt)
  fLawAt : FnK W aLawAt (fdOf (stmtAt 24) .none rLawAt)

theorem Evals.as {Γ : Cx} {e : Expr} {p q : PV} {fr : Bool} (h : Evals Γ fr e p) (hq : p = q) : Evals Γ fr e q := hq ▸ h

local macro_rules | `(tactic| walk_at "ev") => `(tactic| first
  | exact Evals.int | exact Evals.str | exact Evals.bool | exact Evals.cnone
  | exact Evals.name rfl
  | (refine Evals.add ?_ ?_ <;> walk_at "ev")
  | (refine Evals.sub ?_ ?_ <;> walk_at "ev"))

def lawAt (ns : List Int) (k : Nat) : Int := if h : k < ns.length then ns[k] else k

theorem nodef {fd : FuncData} {vs : List Value} {binds : List (Str × Value)} (h : bindArgs fd ⟨vs, []⟩ = pure binds) (s : Shared) : BindsTo s fd ⟨vs, []⟩ binds := BindsTo.of_eq h

theorem c_lawAt {W : Wd} (Y : Lay W) (ns : List Int) (k : Nat) (hns : ns.length ≤ 4096) (hk : k ≤ 100) : Contract W Y.aLawAt 0 [.list (ns.map .int), .int k] [] [] (.int (lawAt ns k)) := by
  refine contract_of (xs := ["script", "k"]) (dps := []) Y.fLawAt rfl (by rfl) (by rfl) (by rfl) (fun s vs kvs hI hv hkv => ?_) fun A hA s X hI ok hr => ?_
  · match vs, kvs, hv, hkv with
    | [u, v], [], _, _ =>
      exact ⟨[], BindsTo.of_eq rfl, .nil⟩
  · refine Execs.ret (Exec.ret (fr := false) fun X => ?_)
    refine Evals.ite (Tests.cmp CmpSem.gt (Evals.len (.blt Y.len (fun _ h => h) rfl) (Evals.name rfl) (by simp; omega)) (Evals.name rfl)) (fun h => ?_) fun h => ?_
    · have h : k < ns.length := by simpa using h
      refine Evals.item (j := k) (Evals.name rfl) (Evals.name rfl) (by simpa using hns) (.inl ⟨by omega, by omega⟩) ?_
      unfold lawAt
      simp [h]
    · have h : ¬ k < ns.length := by simpa using h
      refine Evals.as (p := .int k) (Evals.name rfl) ?_
      unfold lawAt; rw [dif_neg h]
end Mine

namespace Mine
open PySem PySem.Calls PyProof.Rows PyProof PySem.W

theorem Exec.for {F : Fm} {x : Str} {px pos : Pos} {iter : Expr} {body : List Stmt} {src : PV} {xs : List PV} {σ' : St} (inv : Nat → St) (hi : ReadsAs F (inv 0) iter src) (hit : itemsOf src = some xs) (hro : rangeOK src)
    (hx : varKind F.env x = true) (hf : ∀ i, freeOf (inv i) x = true)
    (hb : ∀ i p, xs[i]? = some p → ∃ ρ', Execs F ⟨(x, p) :: (inv i).ρ, (inv i).own, (inv i).pins⟩ body (.next ⟨ρ', (inv (i + 1)).own, (inv (i + 1)).pins⟩) ∧ Allin (inv (i + 1)).ρ ρ')
    (hend : inv xs.length = σ')
    (hs : ∀ x, foldedSetIterable iter F.env x = pure x := by intro _; rfl) : Exec F (inv 0) (.For (.Name x px) iter body [] pos) (.next σ') :=
  for_any inv xs.length _ hi hit hro (Nat.le_refl _) hx (fun i _ => hf i) (fun i p _ hp => .inl (let ⟨_, h, q⟩ := hb i p hp; h.weakTo q)) (.inl ⟨rfl, by rw [hend]⟩) hs

theorem Fm.Ok.weakS {F : Fm} {ρ ρ' : List (Str × PV)} {own : Option Own} {pins : List (Str × Value)} {D : Addr → Prop} {s : Shared} (o : F.Ok ⟨ρ', own, pins⟩ D s) (h : ∀ y pv, ρ.lookup y = some pv → ρ'.lookup y = some pv) : F.Ok ⟨ρ, own, pins⟩ D s :=
  { o with vars := fun x pv e => o.vars x pv (h x pv e) }
theorem Execs.weakS {F : Fm} {σ : St} {ρ ρ' : List (Str × PV)} {own : Option Own} {pins : List (Str × Value)} {st : List Stmt} (h : Execs F σ st (.next ⟨ρ', own, pins⟩)) (hr : ∀ y pv, ρ.lookup y = some pv → ρ'.lookup y = some pv) : Execs F σ st (.next ⟨ρ, own, pins⟩) := fun E D s o =>
  wpAny_mono (h E D s o) (fun f s' h' => by
    cases f with
    | next => obtain ⟨D', g⟩ := h'; exact ⟨D', ⟨g.ok.weakS hr, g.kp, g.new⟩⟩
    | _ => exact h'.elim) fun _ _ e => e

/-- a loop whose body binds no name but the loop's own -/
theorem Exec.forK {F : Fm} {x : Str} {px pos : Pos} {iter : Expr} {body : List Stmt} {src : PV} {xs : List PV} {ρ : List (Str × PV)} {pins : List (Str × Value)} (own : Nat → Option Own) {own' : Option Own} (hi : ReadsAs F ⟨ρ, own 0, pins⟩ iter src) (hit : itemsOf src = some xs) (hro : rangeOK src)
    (hx : varKind F.env x = true) (hf : ∀ i, freeOf ⟨ρ, own i, pins⟩ x = true) (hx0 : ρ.lookup x = none)
    (hb : ∀ i p, xs[i]? = some p → Execs F ⟨(x, p) :: ρ, own i, pins⟩ body (.next ⟨(x, p) :: ρ, own (i + 1), pins⟩))
    (hend : own xs.length = own')
    (hs : ∀ x, foldedSetIterable iter F.env x = pure x := by intro _; rfl) : Exec F ⟨ρ, own 0, pins⟩ (.For (.Name x px) iter body [] pos) (.next ⟨ρ, own', pins⟩) :=
  for_any (fun i => ⟨ρ, own i, pins⟩) xs.length _ hi hit hro (Nat.le_refl _) hx (fun i _ => hf i) (fun i p _ hp => .inl ((hb i p hp).weakS fun y pv e => by
    rw [List.lookup_cons]
    have : (y == x) = false := by
      simp only [beq_eq_false_iff_ne, ne_eq]
      intro q; rw [q, hx0] at e; cases e
    rw [this]; exact e)) (.inl ⟨rfl, by rw [hend]⟩) hs

/-- Execs of a state that is so by another name -/
theorem Exec.at {F : Fm} {σ σ' : St} {st : Stmt} {out : Out} (e : σ = σ') (h : Exec F σ' st out) : Exec F σ st out := e ▸ h

def thr (vs : List Int) (a b : Int) : List Int := vs.map fun v => if v * b < vs.sum * a then 0 else v

structure Lay2 (W : Wd) extends Lay W where
  aThr : Addr
  rThr : Rest
  gThr : W.mg "apply_threshold" = some (.ref aThr)
  fThr : FnK W aThr (fdOf (stmtAt 4) .none rThr)

theorem c_thrNone {W : Wd} (Y : Lay2 W) (vs : List Int) : Contract W Y.aThr 0 [.list (vs.map .int), .none] [] [] (.list (vs.map .int)) := by
  refine contract_of (xs := ["votes", "threshold"]) (dps := []) Y.fThr rfl (by rfl) (by rfl) (by rfl) (fun s vs kvs hI hv hkv => ?_) fun A hA s X hI ok hr => ?_
  · match vs, kvs, hv, hkv with
    | [u, v], [], _, _ => exact ⟨[], BindsTo.of_eq rfl, .nil⟩
  · refine Execs.ret (Exec.ite (b := false) (fun X => Tests.cmp CmpSem.isNotNone (Evals.name rfl) Evals.cnone) (fun h => nomatch h) fun _ => ?_)
    exact Execs.ret (Exec.ret fun X => Evals.name rfl)

theorem c_thr {W : Wd} (Y : Lay2 W) (vs : List Int) (a b : Int) (hn : vs.length ≤ 100) (ha : 0 ≤ a ∧ a < 1000000) (hb : 0 ≤ b ∧ b < 1000000) :
    Contract W Y.aThr 0 [.list (vs.map .int), .tup [.int a, .int b]] [] [] (.list ((thr vs a b).map .int)) := by
  refine contract_of (xs := ["votes", "threshold"]) (dps := []) Y.fThr rfl (by rfl) (by rfl) (by rfl) (fun s vs kvs hI hv hkv => ?_) fun A hA s X hI ok hr => ?_
  · match vs, kvs, hv, hkv with
    | [u, v], [], _, _ => exact ⟨[], BindsTo.of_eq rfl, .nil⟩
  · refine Execs.ret (Exec.ite (b := true) (fun X => Tests.cmp CmpSem.tupIsNotNone (Evals.name rfl) Evals.cnone) (fun _ => ?_) (fun h => nomatch h))
    refine Execs.cons (Exec.assignNil (by rfl) (by rfl)) ?_
    refine Execs.cons (Exec.assign (.inr ⟨_, fun X => Evals.sum (.blt Y.sum (fun _ h => h) rfl) (Evals.name rfl)⟩) (by rfl) (by rfl) rfl) ?_
    refine Execs.cons (Exec.assign (.inr ⟨_, fun X => Evals.mul (Evals.name rfl) (Evals.itemT (j := 0) (Evals.name rfl) Evals.int (by simp) (by decide) rfl) (.inr (by omega))⟩) (by rfl) (by rfl) rfl) ?_
    refine Execs.cons (Exec.forK (fun i => some (Own.ints "v" ((vs.take i).map fun v => if v * b < vs.sum * a then 0 else v) true)) (.inr ⟨_, fun X => Evals.name rfl⟩) rfl trivial (by rfl) (fun i => by rfl) (by rfl) (fun i p hp => ?_) rfl) ?_
    · obtain ⟨v, hv, rfl⟩ : ∃ v, vs[i]? = some v ∧ p = .int v := by
        rw [List.getElem?_map] at hp
        cases h : vs[i]? with
        | none => rw [h] at hp; cases hp
        | some v => rw [h] at hp; exact ⟨v, rfl, (Option.some.inj hp).symm⟩
      have hlen : ((vs.take i).map fun v => if v * b < vs.sum * a then (0 : Int) else v).length ≤ 4096 := by
        rw [List.length_map, List.length_take]; omega
      have e : ((vs.take (i + 1)).map fun v => if v * b < vs.sum * a then (0 : Int) else v) = ((vs.take i).map fun v => if v * b < vs.sum * a then (0 : Int) else v) ++ [if v * b < vs.sum * a then 0 else v] := by
        rw [List.take_add_one, hv]; simp
      dsimp only
      rw [e]
      refine Execs.cons (Exec.ite (b := decide (v * b < vs.sum * a)) (fun X => Tests.cmp CmpSem.lt (Evals.mul (Evals.name rfl) (Evals.itemT (j := 1) (Evals.name rfl) Evals.int (by simp) (by decide) rfl) (.inr (by omega))) (Evals.name rfl)) (fun h => ?_) fun h => ?_) Execs.nil
      · rw [if_pos (by simpa using h)]
        exact Execs.cons (Exec.append hlen (fun X => Evals.int)) Execs.nil
      · rw [if_neg (by simpa using h)]
        exact Execs.cons (Exec.append hlen (fun X => Evals.name rfl)) Execs.nil
    · rw [List.length_map, List.take_length]
      exact Execs.ret (Exec.ret fun X => Evals.name rfl)
end Mine

namespace Mine
open PySem PySem.Calls PyProof.Rows PyProof PySem.W

theorem Exec.for0 {F : Fm} {x : Str} {px pos : Pos} {iter : Expr} {body : List Stmt} {src : PV} {xs : List PV} {σ' : St} (inv : Nat → St) (hi : ReadsAs F (inv 0) iter src) (hit : itemsOf src = some xs) (hro : rangeOK src)
    (hx : varKind F.env x = true) (hf : ∀ i, freeOf (inv i) x = true)
    (hb : ∀ i p, xs[i]? = some p → Execs F ⟨(x, p) :: (inv i).ρ, (inv i).own, (inv i).pins⟩ body (.next (inv (i + 1))))
    (hend : inv xs.length = σ')
    (hs : ∀ x, foldedSetIterable iter F.env x = pure x := by intro _; rfl) : Exec F (inv 0) (.For (.Name x px) iter body [] pos) (.next σ') :=
  for_any inv xs.length _ hi hit hro (Nat.le_refl _) hx (fun i _ => hf i) (fun i p _ hp => .inl (hb i p hp)) (.inl ⟨rfl, by rw [hend]⟩) hs

theorem Execs.wk {F : Fm} {σ : St} {st : List Stmt} {ρ ρ' : List (Str × PV)} {own : Option Own} {pins : List (Str × Value)} (h : Execs F σ st (.next ⟨ρ', own, pins⟩)) (hr : Allin ρ ρ') : Execs F σ st (.next ⟨ρ, own, pins⟩) := h.weakTo hr
theorem Execs.wkFrom {F : Fm} {st : List Stmt} {ρ ρ' : List (Str × PV)} {own : Option Own} {pins : List (Str × Value)} {out : Out} (h : Execs F ⟨ρ, own, pins⟩ st out) (hr : Allin ρ ρ') : Execs F ⟨ρ', own, pins⟩ st out := Execs.weak (σ := ⟨ρ', own, pins⟩) h hr

theorem nand1 {a b : Int} {q : Prop} [Decidable q] (h : ((a == b) && decide q) = false) : ¬ (a = b ∧ q) := fun ⟨x, y⟩ => by
  rw [beq_iff_eq.mpr x, decide_eq_true y] at h; cases h
theorem nand2 {p q : Prop} [Decidable p] [Decidable q] (h : (decide p && decide q) = false) : ¬ (p ∧ q) := fun ⟨x, y⟩ => by
  rw [decide_eq_true x, decide_eq_true y] at h; cases h
theorem nand3 {a b : Int} {p : Prop} [Decidable p] (h : (decide p && (a == b)) = false) : ¬ (p ∧ a = b) := fun ⟨x, y⟩ => by
  rw [decide_eq_true x, beq_iff_eq.mpr y] at h; cases h
theorem yand1 {a b : Int} {q : Prop} [Decidable q] (h : ((a == b) && decide q) = true) : a = b ∧ q := by
  rw [Bool.and_eq_true] at h; exact ⟨beq_iff_eq.mp h.1, of_decide_eq_true h.2⟩
theorem yand2 {p q : Prop} [Decidable p] [Decidable q] (h : (decide p && decide q) = true) : p ∧ q := by
  rw [Bool.and_eq_true] at h; exact ⟨of_decide_eq_true h.1, of_decide_eq_true h.2⟩
theorem yand3 {a b : Int} {p : Prop} [Decidable p] (h : (decide p && (a == b)) = true) : p ∧ a = b := by
  rw [Bool.and_eq_true] at h; exact ⟨of_decide_eq_true h.1, beq_iff_eq.mp h.2⟩

/-- a comprehension over ints -/
theorem ints_mem {ns : List Int} {p : PV} (h : p ∈ ns.map PV.int) : ∃ n, n ∈ ns ∧ p = .int n := by
  obtain ⟨n, h1, h2⟩ := List.mem_map.mp h
  exact ⟨n, h1, h2.symm⟩
def onInt (f : Int → PV) : PV → PV
  | .int n => f n
  | p => p
def keepInt (f : Int → Bool) : PV → Bool
  | .int n => f n
  | _ => true
theorem filter_all {xs : List PV} : xs.filter (fun _ => true) = xs := by simp
theorem map_onInt {ns : List Int} {f : Int → PV} : ((ns.map PV.int).filter (fun _ => true)).map (onInt f) = ns.map f := by
  rw [filter_all, List.map_map]; rfl
theorem filter_keepInt {ns : List Int} {k : Int → Bool} {f : Int → PV} : ((ns.map PV.int).filter (keepInt k)).map (onInt f) = (ns.filter k).map f := by
  induction ns with
  | nil => rfl
  | cons n r ih =>
    simp only [List.map_cons, List.filter_cons, keepInt]
    split <;> simp_all [onInt]

/-- the numbers of range(n) -/
def upto (n : Nat) : List Int := (List.range n).map fun i : Nat => (i : Int)
theorem items_range (n : Nat) : itemsOf (.range 0 (n : Int)) = some ((upto n).map PV.int) := by
  simp [itemsOf, upto, Function.comp_def]
theorem upto_mem {n : Nat} {i : Int} (h : i ∈ upto n) : ∃ k : Nat, i = (k : Int) ∧ k < n := by
  simp [upto] at h
  obtain ⟨k, h1, h2⟩ := h
  exact ⟨k, h2.symm, h1⟩
theorem upto_len {n : Nat} : (upto n).length = n := by simp [upto]
theorem getD_map {l : List Int} {f : Int → Int} {k : Nat} (h : k < l.length) : (l.map f).getD k 0 = f (l.getD k 0) := by
  simp [List.getD_eq_getElem?_getD, List.getElem?_map, List.getElem?_eq_getElem h]
theorem upto_getD {l : List Int} {n : Nat} (h : l.length = n) : (upto n).map (fun i => l.getD i.toNat 0) = l := by
  subst h
  apply List.ext_getElem?
  intro i
  by_cases hi : i < l.length
  · simp [upto, hi, List.getD_eq_getElem?_getD]
  · simp [upto, hi, List.getElem?_eq_none (Nat.le_of_not_lt hi)]
theorem upto_get {n i : Nat} (h : i < n) : ((upto n).map PV.int)[i]? = some (.int (i : Int)) := by simp [upto, h]

section
variable {Γ : Cx} {scope : Scope}
/-- [e for p in ints] -/
theorem Evals.compI {x : Str} {elt iter : Expr} {px pos : Pos} {ns : List Int} {f : Int → PV} {src : PV} {frI : Bool} (ok : CompOK scope x Γ.env.cells) (hi : Evals Γ frI iter src) (hit : itemsOf src = some (ns.map .int)) (hro : rangeOK src) (hsz : ns.length ≤ 4096)
    (he : ∀ X C n, n ∈ ns → Evals (Γ.inner scope x ok X C (.int n)) false elt (f n))
    (hs : ∀ v, foldedSetIterable iter Γ.env v = pure v := by intro _; rfl) :
    Evals Γ true (.ListComp elt [⟨.Name x px, iter, [], 0⟩] scope pos) (.list (ns.map f)) := by
  refine Evals.as (Evals.comp (keep := fun _ => true) (f := onInt f) ok hs hi hit hro (by simpa using hsz) (fun X C p _ _ => TestsL.nil) fun X C p _ hp _ => ?_) (by rw [map_onInt])
  obtain ⟨n, hn, rfl⟩ := ints_mem hp
  exact he X C n hn
/-- [e for p in ints if t] -/
theorem Evals.compF {x : Str} {elt iter t : Expr} {px pos : Pos} {ns : List Int} {f : Int → PV} {k : Int → Bool} {src : PV} {frI : Bool} (ok : CompOK scope x Γ.env.cells) (hi : Evals Γ frI iter src) (hit : itemsOf src = some (ns.map .int)) (hro : rangeOK src) (hsz : ns.length ≤ 4096)
    (ht : ∀ X C n, n ∈ ns → Tests (Γ.inner scope x ok X C (.int n)) t (k n))
    (he : ∀ X C n, n ∈ ns → Evals (Γ.inner scope x ok X C (.int n)) false elt (f n))
    (hs : ∀ v, foldedSetIterable iter Γ.env v = pure v := by intro _; rfl) :
    Evals Γ true (.ListComp elt [⟨.Name x px, iter, [t], 0⟩] scope pos) (.list ((ns.filter k).map f)) := by
  refine Evals.as (Evals.comp (keep := keepInt k) (f := onInt f) ok hs hi hit hro (by simpa using hsz) (fun X C p _ hp => ?_) fun X C p _ hp _ => ?_) (by rw [filter_keepInt])
  · obtain ⟨n, hn, rfl⟩ := ints_mem hp
    exact TestsL.one (ht X C n hn)
  · obtain ⟨n, hn, rfl⟩ := ints_mem hp
    exact he X C n hn
end

theorem all_scalar {ns : List Int} {f : Int → Int} : ((ns.map fun n => PV.int (f n)).all isScalar) = true := by
  simp [isScalar]

/-- x = [e for p in ints], x a local -/
theorem Exec.compI {F : Fm} {σ : St} {scope : Scope} {x y : Str} {py px pos spos : Pos} {elt iter : Expr} {src : PV} {ns ms : List Int} {f : Int → Int} {frI : Bool}
    (ok : CompOK scope x F.env.cells) (hi : ∀ X, Evals (F.cx X σ.rho) frI iter src) (hit : itemsOf src = some (ns.map .int)) (hro : rangeOK src) (hsz : ns.length ≤ 4096)
    (he : ∀ X X' C n, n ∈ ns → Evals ((F.cx X σ.rho).inner scope x ok X' C (.int n)) false elt (.int (f n)))
    (hms : ns.map f = ms)
    (hsw : swapsWith (.ListComp elt [⟨.Name x px, iter, [], 0⟩] scope pos) (some (.Name y py)) spos.line F.env = pure true) (hx : varKind F.env y = true) (hf : freeOf σ y = true)
    (hs : ∀ v, foldedSetIterable iter F.env v = pure v := by intro _; rfl) :
    Exec F σ (.Assign [.Name y py] (.ListComp elt [⟨.Name x px, iter, [], 0⟩] scope pos) spos) (.next ⟨(y, .list (ms.map .int)) :: σ.ρ, σ.own, σ.pins⟩) := by
  subst hms
  have e : ((ns.map PV.int).filter (fun _ => true)).map (onInt fun n => .int (f n)) = (ns.map f).map .int := by rw [map_onInt]; simp [Function.comp_def]
  have h := Exec.assignComp (F := F) (σ := σ) (x := x) (y := y) (py := py) (px := px) (pos := pos) (spos := spos) (elt := elt) (iter := iter) (ifs := []) (keep := fun _ => true) (f := onInt fun n => .int (f n)) ok hs hi hit hro (by simpa using hsz) (fun X X' C p _ => TestsL.nil) (fun X X' C p hp _ => by
    obtain ⟨n, hn, rfl⟩ := ints_mem hp
    exact he X X' C n hn) (by rw [e]; simp [isScalar]) hsw hx hf
  rw [e] at h
  exact h
theorem Exec.compF {F : Fm} {σ : St} {scope : Scope} {x y : Str} {py px pos spos : Pos} {elt iter t : Expr} {src : PV} {ns ms : List Int} {f : Int → Int} {k : Int → Bool} {frI : Bool}
    (ok : CompOK scope x F.env.cells) (hi : ∀ X, Evals (F.cx X σ.rho) frI iter src) (hit : itemsOf src = some (ns.map .int)) (hro : rangeOK src) (hsz : ns.length ≤ 4096)
    (ht : ∀ X X' C n, n ∈ ns → Tests ((F.cx X σ.rho).inner scope x ok X' C (.int n)) t (k n))
    (he : ∀ X X' C n, n ∈ ns → Evals ((F.cx X σ.rho).inner scope x ok X' C (.int n)) false elt (.int (f n)))
    (hms : (ns.filter k).map f = ms)
    (hsw : swapsWith (.ListComp elt [⟨.Name x px, iter, [t], 0⟩] scope pos) (some (.Name y py)) spos.line F.env = pure true) (hx : varKind F.env y = true) (hf : freeOf σ y = true)
    (hs : ∀ v, foldedSetIterable iter F.env v = pure v := by intro _; rfl) :
    Exec F σ (.Assign [.Name y py] (.ListComp elt [⟨.Name x px, iter, [t], 0⟩] scope pos) spos) (.next ⟨(y, .list (ms.map .int)) :: σ.ρ, σ.own, σ.pins⟩) := by
  subst hms
  have e : ((ns.map PV.int).filter (keepInt k)).map (onInt fun n => .int (f n)) = ((ns.filter k).map f).map .int := by rw [filter_keepInt]; simp [Function.comp_def]
  have h := Exec.assignComp (F := F) (σ := σ) (x := x) (y := y) (py := py) (px := px) (pos := pos) (spos := spos) (elt := elt) (iter := iter) (ifs := [t]) (keep := keepInt k) (f := onInt fun n => .int (f n)) ok hs hi hit hro (by simpa using hsz) (fun X X' C p hp => by
    obtain ⟨n, hn, rfl⟩ := ints_mem hp
    exact TestsL.one (ht X X' C n hn)) (fun X X' C p hp _ => by
    obtain ⟨n, hn, rfl⟩ := ints_mem hp
    exact he X X' C n hn) (by rw [e]; simp [isScalar]) hsw hx hf
  rw [e] at h
  exact h
end Mine

namespace Mine
open PySem PySem.Calls PyProof.Rows PyProof PySem.W

/-! largest remainder, in ints -/
def lrQ (vs : List Int) (s : Int) (v : Int) : Int := (v * s).fdiv vs.sum
def lrR0 (vs : List Int) (s : Int) : List Int := vs.map (lrQ vs s)
def lrRem (vs : List Int) (s : Int) : List Int := vs.map fun v => v * s - lrQ vs s v * vs.sum
def lrCut (vs : List Int) (s : Int) : Int := (sortI (lrRem vs s)).getD (vs.length + (lrR0 vs s).sum - s).toNat 0
def lrGo (rem : List Int) (cut s : Int) (r0 : List Int) : Nat → List Int × Bool
  | 0 => (r0, false)
  | i + 1 => let q := lrGo rem cut s r0 i
    if q.1.sum = s ∧ cut ≤ rem.getD i 0 then (q.1, true)
    else if q.1.sum < s ∧ cut ≤ rem.getD i 0 then (q.1.set i (q.1.getD i 0 + 1), q.2) else q
def lrm (vs : List Int) (s : Int) : List Int := if (lrR0 vs s).sum < s then (lrGo (lrRem vs s) (lrCut vs s) s (lrR0 vs s) vs.length).1 else lrR0 vs s

theorem lrGo_len (rem : List Int) (cut s : Int) (r0 : List Int) : ∀ i, (lrGo rem cut s r0 i).1.length = r0.length
  | 0 => rfl
  | i + 1 => by
    have ih := lrGo_len rem cut s r0 i
    unfold lrGo
    dsimp only
    split
    · exact ih
    · split
      · simpa using ih
      · exact ih

structure Lay3 (W : Wd) extends Lay2 W where
  aLr : Addr
  rLr : Rest
  tLr : Addr
  gLr : W.mg "largest_remainder" = some (.ref aLr)
  fLr : FnK W aLr (fdOf (stmtAt 5) (.ref tLr) rLr)
  dLr : ∃ o n, W.K.lookup tLr = some o ∧ o.data = .seq #[.bool true] n

theorem get_of_getD {ns : List Int} {i : Nat} (h : i < ns.length) : ns[i]? = some (ns.getD i 0) := by
  simp [List.getElem?_eq_getElem h, List.getD_eq_getElem?_getD]
theorem pv_get {ns : List Int} {i : Nat} (h : i < ns.length) : (ns.map PV.int)[i]? = some (.int (ns.getD i 0)) := by
  rw [List.getElem?_map, get_of_getD h]; rfl

def onPair (f : Int → Int → PV) : PV → PV
  | .tup [.int a, .int b] => f a b
  | p => p
section
variable {Γ : Cx} {scope : Scope}
/-- [e for p in pairs] -/
theorem Evals.compP {x : Str} {elt iter : Expr} {px pos : Pos} {ns : List (Int × Int)} {f : Int → Int → PV} {src : PV} {frI : Bool} (ok : CompOK scope x Γ.env.cells) (hi : Evals Γ frI iter src) (hit : itemsOf src = some (ns.map fun q => .tup [.int q.1, .int q.2])) (hro : rangeOK src) (hsz : ns.length ≤ 4096)
    (he : ∀ X C q, q ∈ ns → Evals (Γ.inner scope x ok X C (.tup [.int q.1, .int q.2])) false elt (f q.1 q.2))
    (hs : ∀ v, foldedSetIterable iter Γ.env v = pure v := by intro _; rfl) :
    Evals Γ true (.ListComp elt [⟨.Name x px, iter, [], 0⟩] scope pos) (.list (ns.map fun q => f q.1 q.2)) := by
  refine Evals.as (Evals.comp (keep := fun _ => true) (f := onPair f) ok hs hi hit hro (by simpa using hsz) (fun X C p _ _ => TestsL.nil) fun X C p _ hp _ => ?_) (by rw [filter_all, List.map_map]; rfl)
  obtain ⟨n, hn, rfl⟩ := List.mem_map.mp hp
  exact he X C n hn
end

theorem c_lr {W : Wd} (Y : Lay3 W) (vs : List Int) (s : Int) (hn : vs.length ≤ 10) (hs : 1 ≤ s ∧ s ≤ 10) (hS : 0 < vs.sum ∧ vs.sum < 1000000) (hc : (lrR0 vs s).sum < s → s ≤ vs.length + (lrR0 vs s).sum) :
    Contract W Y.aLr 0 [.list (vs.map .int), .int s, .bool true] [] [] (.list ((lrm vs s).map .int)) := by
  refine contract_of (xs := ["votes", "seats", "tiesallowed"]) (dps := []) Y.fLr rfl (by rfl) (by rfl) (by rfl) (fun s vs kvs hI hv hkv => ?_) fun A hA st X hI ok hr => ?_
  · match vs, kvs, hv, hkv with
    | [u, v, z], [], _, _ =>
      obtain ⟨o, n, h1, h2⟩ := Y.dLr
      exact ⟨[], BindsTo.of_defaults rfl (hI.1 _ _ h1) h2 rfl rfl, .nil⟩
  · refine Execs.cons (Exec.ite (b := (s == 0)) (fun X => Tests.cmp CmpSem.eq (Evals.name rfl) Evals.int) (fun h => absurd h (by simp; omega)) fun _ => Execs.nil) ?_
    -- quotas
    refine Execs.cons (Exec.assign (pv := .list ((vs.map fun v => (v * s, vs.sum)).map fun q => .tup [.int q.1, .int q.2])) (.inr ⟨_, fun X => Evals.as (Evals.compI (ns := vs) (f := fun v => .tup [.int (v * s), .int vs.sum]) (CompOK.of (by rfl)) (Evals.name rfl) rfl trivial (by omega) (fun X C n hm => ?_)) (by simp [Function.comp_def])⟩) (by rfl) (by rfl) rfl) ?_
    · exact Evals.weak (Evals.tup (EvalsL.cons (Evals.mul (Evals.toInt (.blt Y.int (fun _ h => h) rfl) (Evals.name rfl)) (Evals.name rfl) (.inr (by omega))) (EvalsL.cons (Evals.toInt (.blt Y.int (fun _ h => h) rfl) (Evals.sum (.blt Y.sum (fun _ h => h) rfl) (Evals.name rfl))) EvalsL.nil)) (by simp))
    -- representatives
    refine Execs.cons (Exec.assignOwn (ns := lrR0 vs s) (fun X => Evals.as (Evals.compP (ns := vs.map fun v => (v * s, vs.sum)) (f := fun a b => .int (a.fdiv b)) (CompOK.of (by rfl)) (Evals.name rfl) rfl trivial (by simp; omega) (fun X C q hm => ?_)) (by simp [lrR0, lrQ, Function.comp_def])) (by rfl) (by rfl) rfl) ?_
    · obtain ⟨v, hv, rfl⟩ := List.mem_map.mp hm
      exact Evals.weak (Evals.fdiv (Evals.itemT (j := 0) (Evals.name rfl) Evals.int (by simp) (by decide) rfl) (Evals.itemT (j := 1) (Evals.name rfl) Evals.int (by simp) (by decide) rfl) (by dsimp only; omega))
    refine Execs.cons (Exec.assign (.inr ⟨_, fun X => Evals.bool⟩) (by rfl) (by rfl) rfl) ?_
    have l0 : (lrR0 vs s).length = vs.length := by simp [lrR0]
    have lR : (lrRem vs s).length = vs.length := by simp [lrRem]
    refine Execs.cons (σ₁ := ⟨[("ties", .bool (if (lrR0 vs s).sum < s then (lrGo (lrRem vs s) (lrCut vs s) s (lrR0 vs s) vs.length).2 else false)), ("votes", .list (vs.map .int)), ("seats", .int s), ("tiesallowed", .bool true)], some (Own.ints "representatives" (lrm vs s) false), []⟩) (Exec.ite (b := decide ((lrR0 vs s).sum < s)) (fun X => Tests.cmp CmpSem.lt (Evals.sum (.blt Y.sum (fun _ h => h) rfl) (Evals.name rfl)) (Evals.name rfl)) (fun h => ?_) (fun h => ?_)) ?_
    · have h : (lrR0 vs s).sum < s := by simpa using h
      have hc' := hc h
      have hk : ∀ k : Nat, k < vs.length → ((vs.map fun v => (v * s, vs.sum)).map fun q : Int × Int => PV.tup [.int q.1, .int q.2])[k]? = some (.tup [.int (vs.getD k 0 * s), .int vs.sum]) := fun k hk => by
        rw [List.getElem?_map, List.getElem?_map, get_of_getD hk]; rfl
      unfold lrm
      rw [if_pos h, if_pos h]
      refine Execs.cons (Exec.compI (ns := upto vs.length) (f := fun i => (lrRem vs s).getD i.toNat 0) (CompOK.of (by rfl)) (fun X => Evals.range1 (.blt Y.range (fun _ h => h) rfl) (Evals.len (.blt Y.len (fun _ h => h) rfl) (Evals.name rfl) (by simp; omega))) (by rw [List.length_map]; exact items_range _) (by simp [rangeOK]; omega) (by rw [upto_len]; omega) (fun X X' C i hi => ?_) (upto_getD lR) rfl (by rfl) (by rfl)) ?_
      · obtain ⟨k, rfl, hkl⟩ := upto_mem hi
        refine Evals.weak (Evals.as (Evals.sub (Evals.itemT (j := 0) (Evals.item (j := k) (Evals.name rfl) (Evals.name rfl) (by simp; omega) (.inl ⟨by omega, by omega⟩) (hk k hkl)) Evals.int (by simp) (by decide) rfl)
          (Evals.mul (Evals.item (j := k) (Evals.name rfl) (Evals.name rfl) (by simp [lrR0]; omega) (.inl ⟨by omega, by omega⟩) (pv_get (by rw [l0]; exact hkl))) (Evals.itemT (j := 1) (Evals.item (j := k) (Evals.name rfl) (Evals.name rfl) (by simp; omega) (.inl ⟨by omega, by omega⟩) (hk k hkl)) Evals.int (by simp) (by decide) rfl) (.inr (by omega)))) ?_)
        rw [show (k : Int).toNat = k by simp, lrRem, lrR0, getD_map hkl, getD_map hkl]
      refine Execs.cons (Exec.assign (pv := .int (lrCut vs s)) (.inl ⟨_, fun X => Evals.item (j := (vs.length + (lrR0 vs s).sum - s).toNat) (Evals.sorted (.blt Y.sorted (fun _ h => h) rfl) (Evals.name rfl) (by rw [lR]; omega)) (Evals.sub (Evals.sum (.blt Y.sum (fun _ h => h) rfl) (Evals.name rfl)) (Evals.name rfl)) (by rw [List.length_map, (sortI_perm _).length_eq, lR]; omega) (.inr ⟨by omega, by rw [List.length_map, (sortI_perm _).length_eq, lR]; omega⟩) (pv_get (by rw [(sortI_perm _).length_eq, lR]; omega)), by rfl⟩) (by rfl) (by rfl) rfl) ?_
      refine Execs.wkFrom (ρ := [("ties", .bool false), ("cutoff", .int (lrCut vs s)), ("remainders", .list ((lrRem vs s).map .int)), ("votes", .list (vs.map .int)), ("seats", .int s), ("tiesallowed", .bool true)]) ?_ (.cons rfl (.cons rfl (.cons rfl (.cons rfl (.cons rfl (.cons rfl .nil))))))
      refine Execs.cons (Exec.for0 (fun i => ⟨[("ties", .bool (lrGo (lrRem vs s) (lrCut vs s) s (lrR0 vs s) i).2), ("cutoff", .int (lrCut vs s)), ("remainders", .list ((lrRem vs s).map .int)), ("votes", .list (vs.map .int)), ("seats", .int s), ("tiesallowed", .bool true)], some (Own.ints "representatives" (lrGo (lrRem vs s) (lrCut vs s) s (lrR0 vs s) i).1 false), []⟩) (.inr ⟨_, fun X => Evals.range1 (.blt Y.range (fun _ h => h) rfl) (Evals.len (.blt Y.len (fun _ h => h) rfl) (Evals.name rfl) (by simp; omega))⟩) (by rw [List.length_map]; exact items_range _) (by simp [rangeOK]; omega) (by rfl) (fun i => by rfl) (fun i p hp => ?_) (by rw [List.length_map, upto_len])) (Execs.nil.wk (.cons rfl (.cons rfl (.cons rfl (.cons rfl .nil)))))
      have hil : i < vs.length := by
        have := (List.getElem?_eq_some_iff.mp hp).1
        simpa [upto] using this
      rw [upto_get hil] at hp
      cases hp
      have lG := lrGo_len (lrRem vs s) (lrCut vs s) s (lrR0 vs s) i
      dsimp only
      generalize hq : lrGo (lrRem vs s) (lrCut vs s) s (lrR0 vs s) i = q at lG
      have e : lrGo (lrRem vs s) (lrCut vs s) s (lrR0 vs s) (i + 1) = if q.1.sum = s ∧ lrCut vs s ≤ (lrRem vs s).getD i 0 then (q.1, true)
          else if q.1.sum < s ∧ lrCut vs s ≤ (lrRem vs s).getD i 0 then (q.1.set i (q.1.getD i 0 + 1), q.2) else q := by
        rw [← hq]; rfl
      rw [e]
      obtain ⟨r, t⟩ := q
      dsimp only at lG ⊢
      refine Execs.cons (Exec.assign (.inl ⟨_, fun X => Evals.sum (.blt Y.sum (fun _ h => h) rfl) (Evals.name rfl), by rfl⟩) (by rfl) (by rfl) rfl) ?_
      refine Execs.cons (Exec.ite (b := (r.sum == s) && decide (lrCut vs s ≤ (lrRem vs s).getD i 0)) (fun X => Tests.and2 (Tests.cmp CmpSem.eq (Evals.name rfl) (Evals.name rfl)) (fun _ => Tests.cmp CmpSem.ge (Evals.item (j := i) (Evals.name rfl) (Evals.name rfl) (by simp; omega) (.inl ⟨by omega, by omega⟩) (pv_get (by rw [lR]; exact hil))) (Evals.name rfl))) (fun h => ?_) (fun h => ?_)) Execs.nil
      · have h := yand1 h
        rw [if_pos h]
        refine Execs.cons (Exec.ite (b := !t) (fun X => Tests.not (Tests.val (Evals.name rfl))) (fun h => ?_) (fun h => ?_)) Execs.nil
        · exact (Execs.cons (Exec.assign (.inr ⟨_, fun X => Evals.bool⟩) (by rfl) (by rfl) rfl) Execs.nil).wk (.cons rfl (.cons rfl (.cons rfl (.cons rfl (.cons rfl (.cons rfl .nil))))))
        · have : t = true := by simpa using h
          subst this
          exact Execs.nil.wk (.cons rfl (.cons rfl (.cons rfl (.cons rfl (.cons rfl (.cons rfl .nil))))))
      · have h := nand1 h
        rw [if_neg h]
        refine Execs.cons (Exec.ite (b := decide (r.sum < s) && decide (lrCut vs s < (lrRem vs s).getD i 0)) (fun X => Tests.and2 (Tests.cmp CmpSem.lt (Evals.name rfl) (Evals.name rfl)) (fun _ => Tests.cmp CmpSem.gt (Evals.item (j := i) (Evals.name rfl) (Evals.name rfl) (by simp; omega) (.inl ⟨by omega, by omega⟩) (pv_get (by rw [lR]; exact hil))) (Evals.name rfl))) (fun h => ?_) (fun h => ?_)) Execs.nil
        · have h := yand2 h
          rw [if_pos ⟨h.1, by omega⟩]
          exact (Execs.cons (Exec.augItem (k := i) (by rfl) rfl (get_of_getD (by omega)) (by omega) (fun X => Evals.int)) Execs.nil).wk (.cons rfl (.cons rfl (.cons rfl (.cons rfl (.cons rfl (.cons rfl .nil))))))
        · refine Execs.cons (Exec.ite (b := decide (r.sum < s) && ((lrRem vs s).getD i 0 == lrCut vs s)) (fun X => Tests.and2 (Tests.cmp CmpSem.lt (Evals.name rfl) (Evals.name rfl)) (fun _ => Tests.cmp CmpSem.eq (Evals.item (j := i) (Evals.name rfl) (Evals.name rfl) (by simp; omega) (.inl ⟨by omega, by omega⟩) (pv_get (by rw [lR]; exact hil))) (Evals.name rfl))) (fun h' => ?_) (fun h' => ?_)) Execs.nil
          · have h' := yand3 h'
            rw [if_pos ⟨h'.1, by omega⟩]
            exact (Execs.cons (Exec.augItem (k := i) (by rfl) rfl (get_of_getD (by omega)) (by omega) (fun X => Evals.int)) Execs.nil).wk (.cons rfl (.cons rfl (.cons rfl (.cons rfl (.cons rfl (.cons rfl .nil))))))
          · have h1 := nand2 h
            have h2 := nand3 h'
            rw [if_neg (by omega)]
            exact Execs.nil.wk (.cons rfl (.cons rfl (.cons rfl (.cons rfl (.cons rfl (.cons rfl .nil))))))
    · have h : ¬ (lrR0 vs s).sum < s := by simpa using h
      unfold lrm
      rw [if_neg h, if_neg h]
      exact Execs.nil.wk (.cons rfl (.cons rfl (.cons rfl (.cons rfl .nil))))
    · refine Execs.cons (Exec.ite (b := _ && !true) (fun X => Tests.and2 (Tests.val (Evals.name rfl)) (fun _ => Tests.not (Tests.val (Evals.name rfl)))) (fun h => absurd h (by simp)) fun _ => Execs.nil) ?_
      exact Execs.ret (Exec.ret fun X => Evals.name rfl)
end Mine

namespace Mine
open PySem PySem.Calls PyProof.Rows PyProof PySem.W

section
variable {F : Fm} {σ σ' : St} {D : Addr → Prop} {s s₁ s' : Shared} {x : Str} {v : Value} {a : Addr}

/-- statements that bind names and change nothing else -/
def Execs0 (F : Fm) (σ : St) (st : List Stmt) (σ' : St) : Prop := ∀ (E : Value → Shared → Prop) D s, F.Ok σ D s → wpAny F.M F.A (execs st F.env) (fun f s' => f = .next ∧ F.Ok σ' D s' ∧ Kp F.T F.Fr No s s') E s

theorem Execs0.nil : Execs0 F σ [] σ := fun E D s o => wpAny_execs_nil ⟨rfl, o, Kp.refl⟩
theorem Execs0.assign {px pos : Pos} {e : Expr} {pv : PV} {rest : List Stmt} (he : ReadsAs F σ e pv) (hx : varKind F.env x = true) (hf : freeOf σ x = true) (hs : swapsWith e (some (.Name x px)) pos.line F.env = pure false)
    (hr : Execs0 F ⟨(x, pv) :: σ.ρ, σ.own, σ.pins⟩ rest σ') : Execs0 F σ (.Assign [.Name x px] e pos :: rest) σ' := fun E D s o => by
  obtain ⟨hp, ho⟩ := freeOf.of hf
  refine wpAny_execs_cons (wpAny_Assign_Name (wpAny_mono (he.run o) (fun v s₁ h₁ => ?_) fun _ _ e => e) hs)
  obtain ⟨k, hv⟩ := h₁
  refine Stored.of (o.step k) (varKind.of hx) fun a s' st => ?_
  have g := st.shared (o.step k) (hv.mono (fun b ob hb e ht => st.kp.keep b ob (fun q => hb.2 (.inl (by rw [q]; exact st.fr))) e ht) fun _ h => h) hp ho
  refine wpAny_mono (hr E D s' g.ok) (fun f s₂ h => ⟨h.1, h.2.1, (k.of0.trans (st.kp.mono (fun b e => by rw [e]; exact st.fr) fun _ h => h)).trans h.2.2⟩) fun _ _ e => e
theorem Execs0.weak {st : List Stmt} {ρ ρ' : List (Str × PV)} {own : Option Own} {pins : List (Str × Value)} (h : Execs0 F σ st ⟨ρ', own, pins⟩) (hr : Allin ρ ρ') : Execs0 F σ st ⟨ρ, own, pins⟩ := fun E D s o =>
  wpAny_mono (h E D s o) (fun f s' h' => ⟨h'.1, Fm.Ok.weak (σ := ⟨ρ', own, pins⟩) h'.2.1 hr, h'.2.2⟩) fun _ _ e => e

/-- a loop over what is the frame's own, with a body that binds names alone -/
theorem Exec.forOwn {px pos : Pos} {iter : Expr} {body : List Stmt} {src : PV} {xs : List PV} {fr : Bool} {σ' : St} (inv : Nat → St) (hi : ∀ X, Evals (F.cx X (inv 0).rho) fr iter src) (hit : itemsOf src = some xs) (hro : rangeOK src)
    (hsc : xs.all isScalar = true)
    (hx : varKind F.env x = true) (hf : ∀ i, freeOf (inv i) x = true)
    (hb : ∀ i p, xs[i]? = some p → Execs0 F ⟨(x, p) :: (inv i).ρ, (inv i).own, (inv i).pins⟩ body (inv (i + 1)))
    (hend : inv xs.length = σ')
    (hs : ∀ x, foldedSetIterable iter F.env x = pure x := by intro _; rfl) : Exec F (inv 0) (.For (.Name x px) iter body [] pos) (.next σ') := fun E D s o => by
  refine wpAny_For (wpAny_mono (hi _ E s o.cx) (fun xv s₁ h₁ => ?_) fun _ _ e => e) hs
  obtain ⟨k₁, hv, _⟩ := h₁
  have o₁ := o.step k₁
  refine iter_pv (T := F.T) hv.live hit hro fun I fp P St s₂ k₂ hI it => ?_
  have o₂ := o₁.step k₂
  have W := it.walks F.A F.hh
  let J : Nat → Shared → Prop := fun k s' => ∃ i, i ≤ xs.length ∧ k = xs.length + 1 - i ∧ F.Ok (inv i) D s' ∧ Kp F.T (fun b => F.Fr b ∨ b = I) No s₂ s' ∧ St i s'.heap
  obtain ⟨oI, hoI, hcI⟩ := it.isIt 0 _ it.start
  have notI : ¬ F.Mut D I := fun q => by have := o₁.mutL q; rw [hI] at this; cases this
  have XFr : ∀ b, (Up (F.rd s) s s₁ b ∧ (s₁.heap.get? b).isSome = true) → ¬ F.Fr b := fun b hb q => by
    rcases hb.1 with h | h
    · exact h.1.2 q
    · have := o.frL q; rw [h.1] at this; cases this
  have hI0 : F.s₀.heap.get? I = none := none_of_K o₁.k0 hI
  have whole : ∀ {s₃}, Kp F.T (fun b => F.Fr b ∨ b = I) No s₂ s₃ → Kp F.T (F.Mut D) No s s₃ := fun kp => (k₁.trans k₂).of0.comp (M := F.Mut D) kp fun b h => h.imp .inl fun e => by rw [e]; exact none_of_K k₁ hI
  refine codeAny_forLoop J ?_ (xs.length + 1) ⟨0, Nat.zero_le _, rfl, o₂, Kp.refl, it.start⟩
  rintro k s' ⟨i, hin, rfl, ok, kp, st⟩
  obtain ⟨oI', hoI', hcI'⟩ := it.isIt i _ st
  by_cases hlt : i < xs.length
  · refine W.item i _ _ _ hlt st fun v h₁ tk₁ hP st₁ hk₁ => ?_
    have kI : Kp F.T (· = I) No s' { s' with heap := h₁, toks := tk₁ } := kp_item hk₁ rfl (by
      obtain ⟨o', ho', ht'⟩ := it.sits i _ st I (W.sub I (by simp))
      exact ⟨o', ho', ht'⟩) (by
        obtain ⟨o', ho', _⟩ := it.sits (i + 1) _ st₁ I (W.sub I (by simp))
        rw [ho']; rfl)
    generalize hs1 : ({ s' with heap := h₁, toks := tk₁ } : Shared) = s₃ at kI
    have st₁ : St (i + 1) s₃.heap := by rw [← hs1]; exact st₁
    have ok₃ := ok.moved hoI' hcI' notI (ok.k0.fresh kI fun b e => by rw [e]; exact hI0) fun b ob hb ht e => kI.keep b ob hb e ht
    have kp₃ : Kp F.T (fun b => F.Fr b ∨ b = I) No s₂ s₃ := kp.trans (kI.mono (fun b e => .inr e) fun _ h => h)
    obtain ⟨p, hp, hpv⟩ := it.vals i v hlt hP
    have psc : isScalar p = true := List.all_eq_true.mp hsc p (List.mem_of_getElem? hp)
    have vp : VR s₃.heap (fun b => F.B b ∧ ¬ F.Mut D b) p v := by
      refine up_scalar' psc (hpv s₃ fun b ob hb e ht => kp₃.keep b ob (fun q => ?_) e ht)
      rcases q with q | q
      · exact XFr b hb q
      · have := hb.2; rw [q, hI] at this; cases this
    refine wpAny_assign_Name (Stored.of ok₃ (varKind.of hx) fun a s₄ hst => ?_)
    obtain ⟨hpn, hon⟩ := freeOf.of (hf i)
    have g := hst.shared ok₃ (vp.mono (fun b ob hb e ht => hst.kp.keep b ob (fun q => hb.2 (.inl (by rw [q]; exact hst.fr))) e ht) fun _ h => h) hpn hon
    have kp₄ : Kp F.T F.Fr No s₃ s₄ := hst.kp.mono (fun b e => by rw [e]; exact hst.fr) fun _ h => h
    refine wpAny_mono (hb i p hp _ D s₄ g.ok) (fun f s₅ h₅ => ?_) fun _ _ e => e
    obtain ⟨rfl, ok₅, kp₅⟩ := h₅
    refine ⟨xs.length + 1 - (i + 1), by omega, i + 1, hlt, rfl, ok₅, kp₃.trans ((kp₄.trans kp₅).mono (fun b h => .inl h) fun _ h => h), ?_⟩
    refine W.frame _ _ _ st₁ fun b hb' ob e => ?_
    obtain ⟨o'', ho'', ht''⟩ := it.sits (i + 1) _ st₁ b hb'
    rw [ho''] at e; cases e
    refine (kp₄.trans kp₅).keep b _ (fun q => ?_) ho'' ht''
    rcases it.own b hb' with rfl | h
    · exact notI (.inl q)
    · exact XFr b h q
  · have hie : i = xs.length := by omega
    subst hie
    refine W.done _ _ _ st fun h₁ tk₁ hk₁ => wpAny_execs_nil ?_
    have okE := ok.moved (s' := { s' with heap := h₁, toks := tk₁ }) hoI' hcI' notI (ok.k0.then_but hk₁ hI0) fun b ob hb ht e => hk₁ b ob (fun q => hb (List.mem_singleton.mp q)) e
    rw [hend] at okE
    exact ⟨D, okE, (whole kp).then_but hk₁ (none_of_K k₁ hI), fun b h => .inl h⟩

/-- while test: body, n turns -/
theorem Exec.while {test : Expr} {body : List Stmt} {pos : Pos} {σ' : St} (n : Nat) (inv : Nat → St) (ht : ∀ i, i < n → ∀ X, Tests (F.cx X (inv i).rho) test true) (hb : ∀ i, i < n → Execs F (inv i) body (.next (inv (i + 1)))) (hn : ∀ X, Tests (F.cx X (inv n).rho) test false) (hend : inv n = σ') :
    Exec F (inv 0) (.While test body [] pos) (.next σ') := fun E D s o => by
  refine wpAny_While ?_
  refine codeAny_whileLoop (fun k s' => ∃ i D', i ≤ n ∧ k = n - i ∧ Goes F (inv i) D s D' s') ?_ n ⟨0, D, Nat.zero_le _, rfl, .refl o⟩
  rintro k s' ⟨i, D', hin, rfl, g⟩
  by_cases hlt : i < n
  · refine wpAny_mono (ht i hlt _ _ s' g.ok.cx) (fun b s₂ h₂ => ?_) fun _ _ e => e
    obtain ⟨k₂, rfl⟩ := h₂
    rw [if_pos rfl]
    refine wpAny_mono (hb i hlt _ D' s₂ (g.ok.step k₂)) (fun f s₃ h₃ => ?_) fun _ _ e => e
    cases f with
    | next =>
      obtain ⟨D₃, g₃⟩ := h₃
      exact ⟨n - (i + 1), by omega, i + 1, D₃, hlt, rfl, g.trans (g₃.before k₂)⟩
    | _ => exact h₃.elim
  · have : i = n := by omega
    subst this
    refine wpAny_mono (hn _ _ s' g.ok.cx) (fun b s₂ h₂ => ?_) fun _ _ e => e
    obtain ⟨k₂, rfl⟩ := h₂
    rw [if_neg (by simp)]
    refine wpAny_execs_nil ?_
    rw [← hend]
    exact ⟨D', g.trans (Goes.of g.ok k₂)⟩
end
end Mine

namespace Mine
open PySem PySem.Calls PyProof.Rows PyProof PySem.W

/-! the quota method, in ints -/
def prodSucc (rs : List Int) : Int := rs.foldl (fun c r => c * (r + 1)) 1
def qUp (vs rs : List Int) (v : Int) : Int := -((-v * (rs.sum + 1)).fdiv vs.sum)
def qRaw (vs rs : List Int) (i : Int) : Int := (vs.getD i.toNat 0 * prodSucc rs).fdiv (rs.getD i.toNat 0 + 1)
def qCut (vs rs : List Int) (i : Int) : Int := if qUp vs rs (vs.getD i.toNat 0) ≤ rs.getD i.toNat 0 then 0 else qRaw vs rs i
def qList (vs rs : List Int) : List Int := (upto vs.length).map (qCut vs rs)
def qNext (vs rs : List Int) : Nat := (((upto vs.length).filter fun i => qCut vs rs i == maxOf (qList vs rs)).headD 0).toNat
def qStep (vs rs : List Int) : List Int := rs.set (qNext vs rs) (rs.getD (qNext vs rs) 0 + 1)
def quo (vs : List Int) : Nat → List Int
  | 0 => List.replicate vs.length 0
  | i + 1 => qStep vs (quo vs i)

theorem quo_len (vs : List Int) : ∀ i, (quo vs i).length = vs.length
  | 0 => by simp [quo]
  | i + 1 => by show (qStep vs (quo vs i)).length = _; unfold qStep; rw [List.length_set]; exact quo_len vs i

theorem qNext_ex {vs rs : List Int} (h : vs ≠ []) : ∃ k r, ((upto vs.length).filter fun i => qCut vs rs i == maxOf (qList vs rs)) = ((k : Nat) : Int) :: r ∧ k < vs.length ∧ qNext vs rs = k := by
  have hne : qList vs rs ≠ [] := by
    intro e
    have := congrArg List.length e
    simp only [qList, List.length_map, upto_len, List.length_nil] at this
    exact h (List.length_eq_zero_iff.mp this)
  obtain ⟨i, hi, e⟩ := List.mem_map.mp (maxOf_mem hne)
  have hm : i ∈ (upto vs.length).filter fun i => qCut vs rs i == maxOf (qList vs rs) := List.mem_filter.mpr ⟨hi, beq_iff_eq.mpr e⟩
  cases hl : (upto vs.length).filter fun i => qCut vs rs i == maxOf (qList vs rs) with
  | nil => rw [hl] at hm; cases hm
  | cons a r =>
    have ha : a ∈ upto vs.length := (List.mem_filter.mp (by rw [hl]; exact .head _)).1
    obtain ⟨k, rfl, hk⟩ := upto_mem ha
    exact ⟨k, r, rfl, hk, by unfold qNext; rw [hl]; simp⟩

theorem sum_set : ∀ {l : List Int} {k : Nat} {z : Int}, k < l.length → (l.set k z).sum = l.sum - l.getD k 0 + z
  | [], k, z, h => by simp at h
  | a :: l, 0, z, h => by simp; omega
  | a :: l, k + 1, z, h => by
    have ih := sum_set (l := l) (k := k) (z := z) (by simpa using h)
    simp only [List.set_cons_succ, List.sum_cons, List.getD_cons_succ, ih]; omega

theorem mem_set_cases {l : List Int} {k : Nat} {z y : Int} (h : y ∈ l.set k z) : y = z ∨ y ∈ l := by
  rcases List.mem_or_eq_of_mem_set h with h | h
  · exact .inr h
  · exact .inl h

theorem quo_ok {vs : List Int} (h : vs ≠ []) : ∀ i, (quo vs i).sum = i ∧ ∀ r ∈ quo vs i, 0 ≤ r ∧ r ≤ i
  | 0 => by
    refine ⟨?_, fun r hr => ?_⟩
    · unfold quo
      generalize vs.length = n
      induction n with
      | zero => rfl
      | succ n ih => rw [List.replicate_succ, List.sum_cons, ih]; rfl
    · have := List.eq_of_mem_replicate hr
      omega
  | i + 1 => by
    obtain ⟨h1, h2⟩ := quo_ok h i
    obtain ⟨k, r, _, hk, e⟩ := qNext_ex (rs := quo vs i) h
    have hk' : k < (quo vs i).length := by rw [quo_len]; exact hk
    have hg := h2 _ (getD_mem hk')
    show (qStep vs (quo vs i)).sum = _ ∧ ∀ r ∈ qStep vs (quo vs i), _
    unfold qStep
    rw [e]
    refine ⟨by rw [sum_set hk', h1]; push_cast; omega, fun y hy => ?_⟩
    rcases mem_set_cases hy with rfl | hy
    · push_cast; omega
    · have := h2 y hy
      push_cast; omega

structure Lay4 (W : Wd) extends Lay3 W where
  aQu : Addr
  rQu : Rest
  tQu : Addr
  gQu : W.mg "quota" = some (.ref aQu)
  fQu : FnK W aQu (fdOf (stmtAt 8) (.ref tQu) rQu)
  dQu : ∃ o n, W.K.lookup tQu = some o ∧ o.data = .seq #[.bool true] n

theorem Tests.as {Γ : Cx} {e : Expr} {b b' : Bool} (h : Tests Γ e b) (q : b = b') : Tests Γ e b' := q ▸ h
theorem flat_ints {ns : List Int} : flat true (.list (ns.map .int)) = true := by
  simp [flat, isScalar]

theorem c_quota {W : Wd} (Y : Lay4 W) (vs : List Int) (s : Nat) (hn : vs.length ≤ 10) (h0 : vs ≠ []) (hv : ∀ v ∈ vs, 0 ≤ v ∧ v < 1000000) (hs : s ≤ 10) (hS : 0 < vs.sum ∧ vs.sum < 1000000) :
    Contract W Y.aQu 0 [.list (vs.map .int), .int s, .bool true] [] [] (.list ((quo vs s).map .int)) := by
  refine contract_of (xs := ["votes", "seats", "tiesallowed"]) (dps := []) Y.fQu rfl (by rfl) (by rfl) (by rfl) (fun s vs kvs hI hv hkv => ?_) fun A hA st X hI ok hr => ?_
  · match vs, kvs, hv, hkv with
    | [u, v, z], [], _, _ =>
      obtain ⟨o, n, h1, h2⟩ := Y.dQu
      exact ⟨[], BindsTo.of_defaults rfl (hI.1 _ _ h1) h2 rfl rfl, .nil⟩
  · refine Execs.cons (Exec.ite (b := !true) (fun X => Tests.not (Tests.val (Evals.name rfl))) (fun h => nomatch h) fun _ => Execs.nil) ?_
    refine Execs.cons (Exec.assignOwn (ns := quo vs 0) (fun X => Evals.as (Evals.rep Evals.int rfl (Evals.len (.blt Y.len (fun _ h => h) rfl) (Evals.name rfl) (by simp; omega)) (by simp; omega)) (by simp [quo])) (by rfl) (by rfl) rfl) ?_
    refine Execs.cons (Exec.while s (fun i => ⟨[("votes", .list (vs.map .int)), ("seats", .int s), ("tiesallowed", .bool true)], some (Own.ints "representatives" (quo vs i) false), []⟩) (fun i hi X => ?_) (fun i hi => ?_) (fun X => ?_) rfl) ?_
    · have := (quo_ok h0 i).1
      exact Tests.as (Tests.cmp CmpSem.lt (Evals.sum (.blt Y.sum (fun _ h => h) rfl) (Evals.name rfl)) (Evals.name rfl)) (by simp; omega)
    · have hsum := (quo_ok h0 i).1
      have hr := (quo_ok h0 i).2
      have hl := quo_len vs i
      obtain ⟨kN, rN, hN, hkN, eN⟩ := qNext_ex (rs := quo vs i) h0
      rw [show quo vs (i + 1) = qStep vs (quo vs i) from rfl]
      generalize quo vs i = rs at *
      have hr' : ∀ k, k < rs.length → 0 ≤ rs.getD k 0 ∧ rs.getD k 0 ≤ i := fun k hk => hr _ (getD_mem hk)
      have hv' : ∀ k, k < vs.length → 0 ≤ vs.getD k 0 ∧ vs.getD k 0 < 1000000 := fun k hk => hv _ (getD_mem hk)
      refine Execs.cons (Exec.assign (.inr ⟨_, fun X => Evals.int⟩) (by rfl) (by rfl) rfl) ?_
      refine Execs.cons (Exec.forOwn (fun j => ⟨[("common", .int (prodSucc (rs.take j))), ("votes", .list (vs.map .int)), ("seats", .int s), ("tiesallowed", .bool true)], some (Own.ints "representatives" rs false), []⟩) (fun X => Evals.name rfl) rfl trivial (by simp [isScalar]) (by rfl) (fun j => by rfl) (fun j p hp => ?_) rfl) ?_
      · obtain ⟨r, hrj, rfl⟩ : ∃ r, rs[j]? = some r ∧ p = .int r := by
          rw [List.getElem?_map] at hp
          cases h : rs[j]? with
          | none => rw [h] at hp; cases hp
          | some v => rw [h] at hp; exact ⟨v, rfl, (Option.some.inj hp).symm⟩
        have hb := hr r (List.mem_of_getElem? hrj)
        have e : prodSucc (rs.take (j + 1)) = prodSucc (rs.take j) * (r + 1) := by
          unfold prodSucc
          rw [List.take_add_one, hrj, Option.toList_some, List.foldl_append]; rfl
        rw [e]
        exact (Execs0.assign (.inr ⟨_, fun X => Evals.mul (Evals.name rfl) (Evals.add (Evals.name rfl) Evals.int) (.inr (by omega))⟩) (by rfl) (by rfl) rfl Execs0.nil).weak (.cons rfl (.cons rfl (.cons rfl (.cons rfl .nil))))
      rw [List.length_map, List.take_length]
      refine Execs.cons (Exec.assign (pv := .list (((upto vs.length).map (qRaw vs rs)).map .int)) (.inl ⟨true, fun X => Evals.as (Evals.compI (ns := upto vs.length) (f := fun i => .int (qRaw vs rs i)) (CompOK.of (by rfl)) (Evals.range1 (.blt Y.range (fun _ h => h) rfl) (Evals.len (.blt Y.len (fun _ h => h) rfl) (Evals.name rfl) (by simp; omega))) (by rw [List.length_map]; exact items_range _) (by simp [rangeOK]; omega) (by rw [upto_len]; omega) (fun X C n hm => ?_)) (by simp [Function.comp_def]), flat_ints⟩) (by rfl) (by rfl) rfl) ?_
      · obtain ⟨k, rfl, hkl⟩ := upto_mem hm
        have h1 := hr' k (by omega)
        have h2 := hv' k hkl
        refine Evals.weak (Evals.as (Evals.fdiv (Evals.mul (Evals.toInt (.blt Y.int (fun _ h => h) rfl) (Evals.item (j := k) (Evals.name rfl) (Evals.name rfl) (by simp; omega) (.inl ⟨by omega, by omega⟩) (pv_get hkl))) (Evals.name rfl) (.inl (by omega)))
          (Evals.add (Evals.toInt (.blt Y.int (fun _ h => h) rfl) (Evals.item (j := k) (Evals.name rfl) (Evals.name rfl) (by simp; omega) (.inl ⟨by omega, by omega⟩) (pv_get (by omega)))) Evals.int) (by omega)) ?_)
        unfold qRaw
        rw [show (k : Int).toNat = k by simp]
      refine Execs.cons (σ₁ := ⟨[("quotas", .list ((qList vs rs).map .int)), ("votes", .list (vs.map .int)), ("seats", .int s), ("tiesallowed", .bool true)], some (Own.ints "representatives" rs false), []⟩) (Exec.ite (b := vs.sum != 0) (fun X => Tests.cmp CmpSem.ne (Evals.sum (.blt Y.sum (fun _ h => h) rfl) (Evals.name rfl)) Evals.int) (fun _ => ?_) (fun h => absurd h (by simp; omega))) ?_
      · refine Execs.cons (Exec.assign (pv := .list ((vs.map (qUp vs rs)).map .int)) (.inl ⟨true, fun X => Evals.as (Evals.compI (ns := vs) (f := fun v => .int (qUp vs rs v)) (CompOK.of (by rfl)) (Evals.name rfl) rfl trivial (by omega) (fun X C n hm => ?_)) (by simp [Function.comp_def]), flat_ints⟩) (by rfl) (by rfl) rfl) ?_
        · exact Evals.weak (Evals.neg (Evals.fdiv (Evals.mul (Evals.neg (Evals.name rfl)) (Evals.add (Evals.sum (.blt Y.sum (fun _ h => h) rfl) (Evals.name rfl)) Evals.int) (.inr (by omega))) (Evals.sum (.blt Y.sum (fun _ h => h) rfl) (Evals.name rfl)) (by omega)))
        refine Execs.wk (Execs.cons (Exec.assign (pv := .list ((qList vs rs).map .int)) (.inl ⟨true, fun X => Evals.as (Evals.compI (ns := upto vs.length) (f := fun i => .int (qCut vs rs i)) (CompOK.of (by rfl)) (Evals.range1 (.blt Y.range (fun _ h => h) rfl) (Evals.len (.blt Y.len (fun _ h => h) rfl) (Evals.name rfl) (by simp; omega))) (by rw [List.length_map]; exact items_range _) (by simp [rangeOK]; omega) (by rw [upto_len]; omega) (fun X C n hm => ?_)) (by simp [Function.comp_def, qList]), flat_ints⟩) (by rfl) (by rfl) rfl) Execs.nil) (.cons rfl (.cons rfl (.cons rfl (.cons rfl .nil))))
        · obtain ⟨k, rfl, hkl⟩ := upto_mem hm
          refine Evals.ite (b := decide (qUp vs rs (vs.getD k 0) ≤ rs.getD k 0)) (Tests.cmp CmpSem.ge (Evals.item (j := k) (Evals.name rfl) (Evals.name rfl) (by simp; omega) (.inl ⟨by omega, by omega⟩) (pv_get (by omega))) (Evals.item (j := k) (Evals.name rfl) (Evals.name rfl) (by simp; omega) (.inl ⟨by omega, by omega⟩) (by rw [pv_get (by simpa using hkl), getD_map hkl]))) (fun h => ?_) (fun h => ?_)
          · refine Evals.weak (Evals.as Evals.int ?_)
            unfold qCut
            rw [show (k : Int).toNat = k by simp, if_pos (of_decide_eq_true h)]
          · refine Evals.as (Evals.item (j := k) (Evals.name rfl) (Evals.name rfl) (by simp [upto_len]; omega) (.inl ⟨by omega, by omega⟩) (pv_get (by rw [List.length_map, upto_len]; exact hkl))) ?_
            unfold qCut
            rw [show (k : Int).toNat = k by simp, if_neg (of_decide_eq_false h), getD_map (by rw [upto_len]; exact hkl)]
            congr 2
            simp [upto, List.getD_eq_getElem?_getD, hkl]
      have lQ : (qList vs rs).length = vs.length := by simp [qList, upto_len]
      have neQ : qList vs rs ≠ [] := fun e => by
        rw [e] at lQ
        exact h0 (List.length_eq_zero_iff.mp (by simpa using lQ.symm))
      refine Execs.cons (Exec.assign (.inr ⟨_, fun X => Evals.max1 (.blt Y.max (fun _ h => h) rfl) (Evals.name rfl) neQ⟩) (by rfl) (by rfl) rfl) ?_
      refine Execs.cons (Exec.compF (ns := upto vs.length) (ms := (kN : Int) :: rN) (f := fun i => i) (k := fun i => qCut vs rs i == maxOf (qList vs rs)) (CompOK.of (by rfl)) (fun X => Evals.range1 (.blt Y.range (fun _ h => h) rfl) (Evals.len (.blt Y.len (fun _ h => h) rfl) (Evals.name rfl) (by simp; omega))) (by rw [List.length_map]; exact items_range _) (by simp [rangeOK]; omega) (by rw [upto_len]; omega) (fun X X' C i hi => ?_) (fun X X' C i hi => Evals.name rfl) (by rw [hN]; simp) rfl (by rfl) (by rfl)) ?_
      · obtain ⟨k, rfl, hkl⟩ := upto_mem hi
        refine Tests.as (Tests.cmp CmpSem.eq (Evals.item (j := k) (Evals.name rfl) (Evals.name rfl) (by simp; omega) (.inl ⟨by omega, by omega⟩) (pv_get (by omega))) (Evals.name rfl)) ?_
        congr 1
        unfold qList
        rw [getD_map (by rw [upto_len]; exact hkl)]
        congr 1
        simp [upto, List.getD_eq_getElem?_getD, hkl]
      have lN : rN.length < vs.length := by
        have h1 := congrArg List.length hN
        have h2 := List.length_filter_le (fun i => qCut vs rs i == maxOf (qList vs rs)) (upto vs.length)
        rw [upto_len] at h2
        rw [List.length_cons] at h1; omega
      refine Execs.cons (Exec.assign (pv := .int kN) (.inr ⟨_, fun X => Evals.item (j := 0) (Evals.name rfl) Evals.int (by simp; omega) (.inl ⟨by omega, by omega⟩) rfl⟩) (by rfl) (by rfl) rfl) ?_
      have eS : qStep vs rs = rs.set kN (rs.getD kN 0 + 1) := by unfold qStep; rw [eN]
      rw [eS]
      exact (Execs.cons (Exec.augItem (k := kN) (by rfl) rfl (get_of_getD (by omega)) (by omega) (fun X => Evals.int)) Execs.nil).wk (.cons rfl (.cons rfl (.cons rfl .nil)))
    · have := (quo_ok h0 s).1
      exact Tests.as (Tests.cmp CmpSem.lt (Evals.sum (.blt Y.sum (fun _ h => h) rfl) (Evals.name rfl)) (Evals.name rfl)) (by simp; omega)
    · exact Execs.ret (Exec.ret fun X => Evals.name rfl)
end Mine

namespace Mine
open PySem PySem.Calls PyProof.Rows PyProof PySem.W

abbrev comp2 (elt t1 i1 t2 i2 : Expr) (scope : Scope) (pos : Pos) : Expr := .ListComp elt [⟨t1, i1, [], 0⟩, ⟨t2, i2, [], 0⟩] scope pos

theorem compTurn_two0 (elt t1 i1 t2 i2 : Expr) (scope : Scope) (pos : Pos) (it acc : Value) (env : Env) :
    compTurn (comp2 elt t1 i1 t2 i2 scope pos) 0 it acc env = (do
      standAt i1.pos
      match ← pyNext it with
      | none => pure (.done .next)
      | some v =>
        letOwnedTupleGo t1 it v
        assign t1 env v
        let x ← eval i2 env
        standAt i2.pos
        let x ← foldedSetIterable i2 env x
        let _ ← runOwn (.compStart (comp2 elt t1 i1 t2 i2 scope pos) 1 (← holding [x] (pyIter x)) acc env) env
        again (.compLoop (comp2 elt t1 i1 t2 i2 scope pos) 0 it acc env)) := by rfl
theorem compTurn_two1 (elt t1 i1 t2 i2 : Expr) (scope : Scope) (pos : Pos) (it acc : Value) (env : Env) :
    compTurn (comp2 elt t1 i1 t2 i2 scope pos) 1 it acc env = (do
      standAt i2.pos
      match ← pyNext it with
      | none => pure (.done .next)
      | some v =>
        letOwnedTupleGo t2 it v
        assign t2 env v
        (eval elt env >>= fun x => call (.builtin "list.append") [acc, x] >>= fun _ => pure ())
        again (.compLoop (comp2 elt t1 i1 t2 i2 scope pos) 1 it acc env)) := by rfl

section
variable {prog : Program} {w : World} {A : Around} {E : Value → Shared → Prop} {R : Result → Shared → Prop} {s : Shared}
theorem codeAny_comp2_0 {elt t1 i1 t2 i2 : Expr} {scope : Scope} {pos : Pos} {it acc : Value} {env : Env} (I : Nat → Shared → Prop)
    (turn : ∀ n s E', I n s → wpAny (model prog w) A (pyNext it) (fun r s₁ => match r with
      | none => R (.ok .next) s₁
      | some v => wpAny (model prog w) A (assign t1 env v) (fun _ s₂ => wpAny (model prog w) A (eval i2 env) (fun x s₃ => wpAny (model prog w) A (pyIter x) (fun it2 s₄ =>
          codeAny (model prog w) A (.compStart (comp2 elt t1 i1 t2 i2 scope pos) 1 it2 acc env) (fun r s₅ => match r with | .ok _ => ∃ m, m < n ∧ I m s₅ | .error _ => False) s₄) E' s₃) E' s₂) E' s₁) E' s)
    (n : Nat) (h : I n s) (hs : ∀ v, foldedSetIterable i2 env v = pure v) (ht : ∀ v, letOwnedTupleGo t1 it v = pure () := by intro _; rfl) :
    codeAny (model prog w) A (.compLoop (comp2 elt t1 i1 t2 i2 scope pos) 0 it acc env) R s := by
  refine codeAny_loop rfl I (fun n s hI => ?_) n h
  show wpAny _ A ((compTurn (comp2 elt t1 i1 t2 i2 scope pos) 0 it acc env).onRaise (fun x => do noteFrame x env; theTreesLotGoes x)) _ _ s
  refine wpAny_noted ?_
  rw [compTurn_two0]
  refine wpAny_bind (wpAny_standAt (wpAny_bind (wpAny_mono (turn n s _ hI) (fun r s₁ h₁ => ?_) fun _ _ h' => h')))
  cases r with
  | none => exact wpAny_pure h₁
  | some v =>
    refine wpAny_bind (wpAny_of_eq (ht v) ?_)
    refine wpAny_bind (wpAny_mono h₁ (fun _ s₂ h₂ => wpAny_bind (wpAny_mono h₂ (fun x s₃ h₃ => wpAny_bind (wpAny_standAt (wpAny_bind (wpAny_of_eq (hs x) ?_)))) fun _ _ h' => h')) fun _ _ h' => h')
    refine wpAny_bind (wpAny_holding (wpAny_mono h₃ (fun it2 s₄ h₄ => wpAny_bind (wpAny_runOwn (codeAny_mono h₄ fun r s₅ h₅ => ?_))) fun _ _ h' => h'))
    cases r with
    | ok f => exact wpAny_pure ⟨rfl, h₅⟩
    | error e => exact h₅.elim
theorem codeAny_comp2_1 {elt t1 i1 t2 i2 : Expr} {scope : Scope} {pos : Pos} {it acc : Value} {env : Env} (I : Nat → Shared → Prop)
    (turn : ∀ n s E', I n s → wpAny (model prog w) A (pyNext it) (fun r s₁ => match r with
      | none => R (.ok .next) s₁
      | some v => wpAny (model prog w) A (assign t2 env v) (fun _ s₂ => wpAny (model prog w) A (eval elt env) (fun x s₃ => wpAny (model prog w) A (call (.builtin "list.append") [acc, x]) (fun _ s₄ => ∃ m, m < n ∧ I m s₄) E' s₃) E' s₂) E' s₁) E' s)
    (n : Nat) (h : I n s) (ht : ∀ v, letOwnedTupleGo t2 it v = pure () := by intro _; rfl) :
    codeAny (model prog w) A (.compLoop (comp2 elt t1 i1 t2 i2 scope pos) 1 it acc env) R s := by
  refine codeAny_loop rfl I (fun n s hI => ?_) n h
  show wpAny _ A ((compTurn (comp2 elt t1 i1 t2 i2 scope pos) 1 it acc env).onRaise (fun x => do noteFrame x env; theTreesLotGoes x)) _ _ s
  refine wpAny_noted ?_
  rw [compTurn_two1]
  refine wpAny_bind (wpAny_standAt (wpAny_bind (wpAny_mono (turn n s _ hI) (fun r s₁ h₁ => ?_) fun _ _ h' => h')))
  cases r with
  | none => exact wpAny_pure h₁
  | some v =>
    refine wpAny_bind (wpAny_of_eq (ht v) ?_)
    refine wpAny_bind (wpAny_mono h₁ (fun _ s₂ h₂ => wpAny_bind (wpAny_bind (wpAny_mono h₂ (fun x s₃ h₃ => wpAny_bind (wpAny_mono h₃ (fun _ s₄ h₄ => wpAny_pure (wpAny_pure ⟨rfl, h₄⟩)) fun _ _ h' => h')) fun _ _ h' => h'))) fun _ _ h' => h')
theorem codeAny_compStart_two {elt t1 i1 t2 i2 : Expr} {scope : Scope} {pos : Pos} {it acc : Value} {env : Env}
    (h0 : codeAny (model prog w) A (.compLoop (comp2 elt t1 i1 t2 i2 scope pos) 1 it acc env) R s)
    (h : ∀ E', wpAny (model prog w) A (pyIter it) (fun it' s' => codeAny (model prog w) A (.compLoop (comp2 elt t1 i1 t2 i2 scope pos) 1 it' acc env) R s') E' s) :
    codeAny (model prog w) A (.compStart (comp2 elt t1 i1 t2 i2 scope pos) 1 it acc env) R s := by
  refine codeAny_of_tree ?_
  show wpAny _ _ ((compStart (comp2 elt t1 i1 t2 i2 scope pos) 1 it acc env).onRaise (fun x => do noteFrame x env; standAt theWindowsPlace)) _ _ s
  refine wpAny_notedAt ?_
  unfold compStart
  show wpAny _ _ (ask >>= _) _ _ s
  refine wpAny_bind (wpAny_askSetting (wpAny_ite ?_))
  split
  · first
      | exact wpAny_bind (wpAny_pure (wpAny_pure (And.intro rfl h0)))
      | exact wpAny_pure (And.intro rfl h0)
  · first
      | exact wpAny_bind (wpAny_rule (wpAny_bind (wpAny_standAt (wpAny_bind (wpAny_mono (h _) (fun it' s' h' => wpAny_pure (And.intro rfl h')) fun _ _ x => x)))))
      | (refine wpAny_bind (wpAny_rule ?_); show wpAny _ _ (standAt i2.pos >>= _) _ _ s; exact wpAny_bind (wpAny_standAt (wpAny_bind (wpAny_mono (h _) (fun it' s' h' => wpAny_pure (And.intro rfl h')) fun _ _ x => x))))
end
end Mine

namespace Mine
open PySem PySem.Calls PyProof.Rows PyProof PySem.W

theorem inner_kind {scope : Scope} {env : Env} {x : Str} (h : scope.names.lookup x = some .local) (cl : List (Str × Addr)) (C : Addr) : (inEnv scope cl C env).kindOf x = some .local := by
  have := lookup_relabel (env := env) x h
  simp only [show (NameKind.local == NameKind.free) = false from rfl, Bool.false_and, Bool.false_eq_true, if_false] at this
  exact this

theorem wpAny_comp_local {M : Model} {A : Around} {E : Value → Shared → Prop} {env : Env} {s : Shared} {x : Str} {px : Pos} {v : Value} {C : Addr} {m : Str → Option Value} {Q : Unit → Shared → Prop} (hk : env.scope.kind = .function) (hC : env.locals = C) (hl : env.kindOf x = some .local) (hn : s.heap.Ns C m)
    (h : ∀ h', h'.Ns C (fun z => if z = x then some v else m z) → Heap.SameBut C s.heap h' → Q () { s with heap := h', toks := s.toks + 1 }) : wpAny M A (assign (.Name x px) env v) Q E s := by
  subst hC
  exact wpAny_assign_Name (wpAny_storeName_local hl hn h (by rw [hk]; rfl))

section
variable {Γ : Cx} {scope : Scope} {x y : Str}

/-- [y for x in lists for y in x], the lists of ints -/
theorem Evals.flatten {i1 : Expr} {px py py2 px2 pos : Pos} {lss : List (List Int)} {frI : Bool}
    (ok : CompOK scope x Γ.env.cells) (hxl : scope.names.lookup x = some .local) (hyl : scope.names.lookup y = some .local)
    (hi : Evals Γ frI i1 (.list (lss.map fun l => .list (l.map .int)))) (hsz : lss.flatten.length ≤ 4096) (hsz2 : lss.length ≤ 4096)
    (hs : ∀ v, foldedSetIterable i1 Γ.env v = pure v := by intro _; rfl)
    (hdx : (x == ("__debug__" : Str)) = false := by decide) (hdy : (y == ("__debug__" : Str)) = false := by decide) :
    Evals Γ true (comp2 (.Name y py2) (.Name x px) i1 (.Name y py) (.Name x px2) scope pos) (.list (lss.flatten.map .int)) := fun E s o => by
  rw [eval_ListComp]
  have hnames : ∀ z ∈ scope.names, z.2 = .local → scope.names.lookup z.1 = some .local := fun z hz e => by
    have := lookup_of_nodup (n := z.1) (k := z.2) hz ok.nodup
    rw [e] at this; exact this
  refine wpAny_comprehension_free (use := none) rfl hs (closureFor_is ok.frees) ok.kind hnames (wpAny_mono (hi E s o) (fun xv s₀ h₀ => ?_) fun _ _ e => e)
  obtain ⟨k₀, hr, _⟩ := h₀
  refine iter_pv (T := Γ.T) hr rfl trivial fun I fp P St s₂ k₂ hI it => ?_
  have k02 : K0 Γ.T s s₂ := k₀.trans k₂
  refine wpAny_newObj_type ?_
  refine newEnv_comp fun e₀ he₀ => ?_
  subst he₀
  generalize hD : s₂.heap.objs.size = D
  generalize hH2 : s₂.heap.push { cls := .type "list", dict := none, data := .seq ([] : List Value).toArray } = H2
  have hszC : H2.objs.size = D + 1 := by rw [← hH2, Heap.size_push, hD]
  dsimp only
  generalize hC : H2.objs.size = C
  generalize hH3 : H2.push { cls := .type "dict", dict := none, data := .dict #[] } = H3
  generalize hH4 : pushCells H3 scope.names = H4
  have hDC : D ≠ C := by omega
  have hDltC : D < C := by omega
  have hIlt : I < D := by
    obtain ⟨o', ho', _⟩ := it.sits 0 _ it.start I ((it.walks Γ.A Γ.hh).sub I (by simp))
    rw [← hD]; exact Heap.lt_size ho'
  have old4 : ∀ b o', s₂.heap.get? b = some o' → H4.get? b = some o' := fun b o' e => by
    rw [← hH4]
    refine pushCells_keeps _ _ _ _ ?_
    rw [← hH3]
    refine Heap.get?_push_of_some _ ?_
    rw [← hH2]
    exact Heap.get?_push_of_some _ e
  generalize hs4 : ({ s₂ with heap := H4 } : Shared) = s₄
  have hs4h : s₄.heap = H4 := by rw [← hs4]
  have k4 : K0 Γ.T s₂ s₄ := by rw [← hs4]; exact K0.of_keep old4
  have k04 : K0 Γ.T s s₄ := k02.trans k4
  have plainD : H4.PlainList D #[] := by
    refine ⟨0, ?_⟩
    rw [← hH4]
    refine pushCells_keeps _ _ _ _ ?_
    rw [← hH3]
    refine Heap.get?_push_of_some _ ?_
    rw [← hH2, ← hD]
    exact Heap.get?_push_size _ rfl
  have nsC : H4.Ns C fun _ => none := by
    rw [← hH4]
    refine Heap.Ns.keeps ?_ (pushCells_keeps _ _)
    rw [← hH3, ← hC]
    exact Heap.Ns.new H2 _
  let cenv := inEnv scope (clOf Γ.env.cells scope.names []) C Γ.env
  have hck : cenv.scope.kind = .function := ok.kind
  have kx : cenv.kindOf x = some .local := inner_kind hxl _ _
  have ky : cenv.kindOf y = some .local := inner_kind hyl _ _
  let M : Addr → Prop := fun b => b = I ∨ b = D ∨ b = C
  have MC : M C := .inr (.inr rfl)
  have MD : M D := .inr (.inl rfl)
  have MI : M I := .inl rfl
  have hMs : ∀ b, M b → s.heap.get? b = none := by
    rintro b (rfl | rfl | rfl)
    · exact none_of_K k₀ hI
    · exact none_of_K k02 (by rw [← hD]; exact get_size _)
    · exact none_of_K k02 (Heap.get?_none_of_le (by omega))
  let X' : Addr → Prop := Up Γ.X s s₀
  have liveX : ∀ a, X' a → (s₀.heap.get? a).isSome = true := fun a h => h.elim (fun h => k₀.live a (o.live a h)) fun h => h.2
  have ltX : ∀ a, X' a → a < D := fun a ha => hD ▸ get_lt (k₂.live _ (liveX _ ha))
  have notM : ∀ a, X' a → ¬ M a := by
    intro a ha hm
    have h1 := ltX a ha
    rcases hm with rfl | rfl | rfl
    · have := liveX _ ha; rw [hI] at this; cases this
    · exact absurd h1 (Nat.lt_irrefl _)
    · exact absurd (Nat.lt_trans h1 hDltC) (Nat.lt_irrefl _)
  have W := it.walks Γ.A Γ.hh
  have fpD : ∀ b ∈ fp, b < D := fun b hb => by
    obtain ⟨o', ho', _⟩ := it.sits 0 _ it.start b hb
    rw [← hD]; exact Heap.lt_size ho'
  have st4 : St 0 s₄.heap := by
    rw [hs4h]
    exact W.frame _ _ _ it.start fun b _ o' e => old4 b o' e
  -- the frame St of the outer walk, past a step that keeps what lies below D but I
  have stGo : ∀ i s' s'', St i s'.heap → Kp Γ.T (fun b => M b ∧ b ≠ I ∨ s₄.heap.get? b = none) No s' s'' → St i s''.heap := fun i s' s'' st kp => W.frame _ _ _ st fun b hb o' e => by
    obtain ⟨o'', ho'', ht''⟩ := it.sits i _ st b hb
    rw [ho''] at e; cases e
    refine kp.keep b _ (fun q => ?_) ho'' ht''
    have h1 := fpD b hb
    rcases q with ⟨q | q | q, q'⟩ | q
    · exact q' q
    · exact absurd (q ▸ h1) (Nat.lt_irrefl _)
    · rw [q] at h1; exact absurd (Nat.lt_trans h1 hDltC) (Nat.lt_irrefl _)
    · obtain ⟨o2, ho2, _⟩ := it.sits 0 _ it.start b hb
      rw [hs4h, old4 b _ ho2] at q; cases q
  let J : Nat → Shared → Prop := fun k s' => ∃ i ys, i ≤ lss.length ∧ k = lss.length + 1 - i ∧ Kp Γ.T M No s₄ s' ∧ St i s'.heap ∧ s'.heap.PlainList D ys.toArray ∧ (∃ m, s'.heap.Ns C m) ∧ IntsAre ys (lss.take i).flatten
  have plainKeep : ∀ {s' s'' : Shared} {Mx : Addr → Prop} {ys : Array Value}, s'.heap.PlainList D ys → Kp Γ.T Mx No s' s'' → ¬ Mx D → s''.heap.PlainList D ys := fun pl kp h => let ⟨n, e⟩ := pl; ⟨n, kp.keep _ _ h e rfl⟩
  have nsKeep : ∀ {s' s'' : Shared} {Mx : Addr → Prop} {m}, s'.heap.Ns C m → Kp Γ.T Mx No s' s'' → ¬ Mx C → s''.heap.Ns C m := fun ns kp h => let ⟨o', es, ep, ho', hd', r⟩ := ns; ⟨o', es, ep, kp.keep _ _ h ho' (tab_dict hd'), hd', r⟩
  have lenxs : (lss.map fun l => PV.list (l.map PV.int)).length = lss.length := by simp
  have loop : codeAny Γ.M Γ.A (.compLoop (comp2 (.Name y py2) (.Name x px) i1 (.Name y py) (.Name x px2) scope pos) 0 (.ref I) (.ref D) cenv) (compPost Γ.M Γ.A E none (fun v s' => K0 Γ.T s s' ∧ VR s'.heap (Up Γ.X s s') (.list (lss.flatten.map .int)) v ∧ (true = true → ∀ a, v = .ref a → s.heap.get? a = none)) (.ref D) C) s₄ := by
    refine codeAny_comp2_0 J ?_ (lss.length + 1) ⟨0, [], Nat.zero_le _, rfl, Kp.refl, st4, by rw [hs4h]; exact plainD, ⟨_, by rw [hs4h]; exact nsC⟩, .nil⟩ (fun v => rfl)
    rintro k s' E' ⟨i, ys, hin, rfl, kp, st, pl, ⟨m, ns⟩, ia⟩
    have k0 : K0 Γ.T s s' := k04.fresh kp hMs
    by_cases hlt : i < lss.length
    · refine W.item i _ _ _ (by rw [lenxs]; exact hlt) st fun v h₁ tk₁ hP st₁ hk₁ => ?_
      have kI : Kp Γ.T (· = I) No s' { s' with heap := h₁, toks := tk₁ } := kp_item hk₁ rfl (by
        obtain ⟨o', ho', ht'⟩ := it.sits i _ st I (W.sub I (by simp))
        exact ⟨o', ho', ht'⟩) (by
        obtain ⟨o', ho', _⟩ := it.sits (i + 1) _ st₁ I (W.sub I (by simp))
        rw [ho']; rfl)
      generalize hs1 : ({ s' with heap := h₁, toks := tk₁ } : Shared) = s₁ at kI
      have st₁ : St (i + 1) s₁.heap := by rw [← hs1]; exact st₁
      have hCI : ¬ (C = I) := Nat.ne_of_gt (Nat.lt_trans hIlt hDltC)
      have hDI : ¬ (D = I) := Nat.ne_of_gt hIlt
      have pl₁ := plainKeep pl kI hDI
      have ns₁ := nsKeep ns kI hCI
      refine wpAny_comp_local hck rfl kx ns₁ fun h₂ ns₂ hs₂ => ?_
      have kp₂ : Kp Γ.T (· = C) No s₁ { s₁ with heap := h₂, toks := s₁.toks + 1 } := Kp.of_but (tk := s₁.toks + 1) hs₂ rfl (ns_live ns₂) (ns_tab ns₁)
      generalize hs2 : ({ s₁ with heap := h₂, toks := s₁.toks + 1 } : Shared) = s₂' at kp₂
      have ns₂ : s₂'.heap.Ns C (fun z => if z = x then some v else m z) := by rw [← hs2]; exact ns₂
      have kp2 : Kp Γ.T M No s₄ s₂' := (kp.trans (kI.mono (fun b e => by rw [e]; exact MI) fun _ h => h)).trans (kp₂.mono (fun b e => by rw [e]; exact MC) fun _ h => h)
      have st₂ : St (i + 1) s₂'.heap := stGo _ _ _ st₁ (kp₂.mono (fun b e => .inl ⟨by rw [e]; exact MC, by rw [e]; exact hCI⟩) fun _ h => h)
      have pl₂ := plainKeep pl₁ kp₂ hDC
      obtain ⟨p, hp, hpv⟩ := it.vals i v (by rw [lenxs]; exact hlt) hP
      obtain ⟨l, hl, rfl⟩ : ∃ l, lss[i]? = some l ∧ p = .list (l.map .int) := by
        rw [List.getElem?_map] at hp
        cases h : lss[i]? with
        | none => rw [h] at hp; cases hp
        | some l => rw [h] at hp; exact ⟨l, rfl, (Option.some.inj hp).symm⟩
      have vp : VR s₂'.heap X' (.list (l.map .int)) v := hpv s₂' fun a o' hx e ht => kp2.keep a o' (notM a hx) (k4.get e ht) ht
      refine wpAny_Name (wpAny_loadName_local hck kx ns₂ (v := v) (if_pos rfl) ?_) hdx
      refine iter_pv (T := Γ.T) vp rfl trivial fun I2 fp2 P2 St2 s₃ k₃ hI2 it2 => ?_
      have W2 := it2.walks Γ.A Γ.hh
      have kp3 : Kp Γ.T M No s₄ s₃ := kp2.trans k₃.of0
      have hI2D : I2 ≠ D := fun q => by
        obtain ⟨n, e⟩ := pl₂
        rw [q, e] at hI2; cases hI2
      have hI2C : I2 ≠ C := fun q => by
        have := ns_live ns₂; rw [← q, hI2] at this; cases this
      have hI24 : s₄.heap.get? I2 = none := by
        cases e : s₄.heap.get? I2 with
        | none => rfl
        | some o' => have := kp2.live I2 (by rw [e]; rfl); rw [hI2] at this; cases this
      have fp2D : ∀ b ∈ fp2, b ≠ D ∧ b ≠ C := fun b hb => by
        rcases it2.own b hb with rfl | h
        · exact ⟨hI2D, hI2C⟩
        · exact ⟨fun q => absurd (q ▸ ltX b h) (Nat.lt_irrefl _), fun q => absurd (Nat.lt_trans (q ▸ ltX b h) hDltC) (Nat.lt_irrefl _)⟩
      let J2 : Nat → Shared → Prop := fun k s' => ∃ j ys', j ≤ l.length ∧ k = l.length + 1 - j ∧ Kp Γ.T (fun b => b = D ∨ b = C ∨ b = I2) No s₃ s' ∧ St2 j s'.heap ∧ s'.heap.PlainList D ys'.toArray ∧ (∃ m, s'.heap.Ns C m) ∧ IntsAre ys' ((lss.take i).flatten ++ l.take j)
      have len2 : (l.map PV.int).length = l.length := by simp
      have loop2 : codeAny Γ.M Γ.A (.compLoop (comp2 (.Name y py2) (.Name x px) i1 (.Name y py) (.Name x px2) scope pos) 1 (.ref I2) (.ref D) cenv) (fun r s₅ => match r with | .ok _ => ∃ m, m < lss.length + 1 - i ∧ J m s₅ | .error _ => False) s₃ := by
        refine codeAny_comp2_1 J2 ?_ (l.length + 1) ⟨0, ys, Nat.zero_le _, rfl, Kp.refl, it2.start, k₃.plain pl₂, ⟨_, k₃.ns ns₂⟩, by simpa using ia⟩
        rintro k2 s5 E2 ⟨j, ys', hjn, rfl, kp5, st5, pl5, ⟨m5, ns5⟩, ia5⟩
        by_cases hlj : j < l.length
        · refine W2.item j _ _ _ (by rw [len2]; exact hlj) st5 fun u h₆ tk₆ hP6 st6 hk6 => ?_
          have kI6 : Kp Γ.T (· = I2) No s5 { s5 with heap := h₆, toks := tk₆ } := kp_item hk6 rfl (by
            obtain ⟨o', ho', ht'⟩ := it2.sits j _ st5 I2 (W2.sub I2 (by simp))
            exact ⟨o', ho', ht'⟩) (by
            obtain ⟨o', ho', _⟩ := it2.sits (j + 1) _ st6 I2 (W2.sub I2 (by simp))
            rw [ho']; rfl)
          generalize hs6 : ({ s5 with heap := h₆, toks := tk₆ } : Shared) = s6 at kI6
          have st6 : St2 (j + 1) s6.heap := by rw [← hs6]; exact st6
          have pl6 := plainKeep pl5 kI6 (Ne.symm hI2D)
          have ns6 := nsKeep ns5 kI6 (Ne.symm hI2C)
          refine wpAny_comp_local hck rfl ky ns6 fun h₇ ns7 hs7 => ?_
          have kp7 : Kp Γ.T (· = C) No s6 { s6 with heap := h₇, toks := s6.toks + 1 } := Kp.of_but (tk := s6.toks + 1) hs7 rfl (ns_live ns7) (ns_tab ns6)
          generalize hs7' : ({ s6 with heap := h₇, toks := s6.toks + 1 } : Shared) = s7 at kp7
          have ns7 : s7.heap.Ns C (fun z => if z = y then some u else m5 z) := by rw [← hs7']; exact ns7
          have pl7 := plainKeep pl6 kp7 hDC
          refine wpAny_Name (wpAny_loadName_local hck ky ns7 (v := u) (if_pos rfl) ?_) hdy
          obtain ⟨p6, hp6, hpv6⟩ := it2.vals j u (by rw [len2]; exact hlj) hP6
          obtain ⟨z, hz, rfl⟩ : ∃ z, l[j]? = some z ∧ p6 = .int z := by
            rw [List.getElem?_map] at hp6
            cases h : l[j]? with
            | none => rw [h] at hp6; cases hp6
            | some z => rw [h] at hp6; exact ⟨z, rfl, (Option.some.inj hp6).symm⟩
          have hu := hpv6 s₃ fun _ _ _ e _ => e
          cases hu with
          | int _ tz =>
          have hys' : ys'.length ≤ 4096 := by
            rw [ia5.length]
            refine Nat.le_trans ?_ hsz
            have e1 : (lss.take i).flatten ++ l.take j = ((lss.take i).flatten ++ l).take ((lss.take i).flatten.length + j) := by
              rw [List.take_length_add_append]
            rw [e1]
            refine Nat.le_trans (by rw [List.length_take]; exact Nat.min_le_right _ _) ?_
            have e2 : (lss.take i).flatten ++ l = (lss.take (i + 1)).flatten := by
              rw [List.take_add_one, hl]; simp
            rw [e2]
            conv => rhs; rw [← List.take_append_drop (i + 1) lss]
            rw [List.flatten_append, List.length_append]; omega
          refine wpAny_list_append_plain (hsz := by rw [List.size_toArray]; unfold sizeLine; omega) pl7 fun h₈ pl8 hs8 => ?_
          have kp8 : Kp Γ.T (· = D) No s7 { s7 with heap := h₈ } := Kp.of_but (tk := s7.toks) hs8 rfl (by obtain ⟨n, e⟩ := pl8; rw [e]; rfl) fun o' e => by
            obtain ⟨n, e1⟩ := pl7
            rw [e1] at e; cases e; rfl
          have kp68 : Kp Γ.T (fun b => b = D ∨ b = C) No s6 { s7 with heap := h₈ } := (kp7.mono (fun b e => .inr e) fun _ h => h).trans (kp8.mono (fun b e => .inl e) fun _ h => h)
          refine ⟨l.length + 1 - (j + 1), by omega, j + 1, ys' ++ [.int z tz], hlj, rfl, (kp5.trans (kI6.mono (fun b e => .inr (.inr e)) fun _ h => h)).trans (kp68.mono (fun b e => e.imp id .inl) fun _ h => h), ?_, by simpa using pl8, ⟨_, nsKeep ns7 kp8 (Ne.symm hDC)⟩, ?_⟩
          · refine W2.frame _ _ _ st6 fun b hb o' e => ?_
            obtain ⟨o'', ho'', ht''⟩ := it2.sits (j + 1) _ st6 b hb
            rw [ho''] at e; cases e
            exact kp68.keep b _ (fun q => q.elim (fp2D b hb).1 (fp2D b hb).2) ho'' ht''
          · rw [List.take_add_one, hz, Option.toList_some, ← List.append_assoc]
            exact IntsAre.snoc ia5 z tz
        · have hje : j = l.length := by omega
          subst hje
          refine W2.done _ _ _ (by rw [len2]; exact st5) fun h₆ tk₆ hk6 => ?_
          have kpe : Kp Γ.T M No s₄ { s5 with heap := h₆, toks := tk₆ } := by
            have k1 : Kp Γ.T M No s₄ s5 := kp3.comp kp5 fun b h => by
              rcases h with h | h | h
              · exact .inl (.inr (.inl h))
              · exact .inl (.inr (.inr h))
              · exact .inr (h ▸ hI24)
            exact k1.then_but hk6 hI24
          refine ⟨lss.length + 1 - (i + 1), by omega, i + 1, ys', hlt, rfl, kpe, ?_, ?_, ?_, ?_⟩
          · refine W.frame _ _ _ (stGo _ _ _ st₂ k₃.of0) fun b hb o' e => ?_
            obtain ⟨o'', ho'', ht''⟩ := it.sits (i + 1) _ (stGo _ _ _ st₂ k₃.of0) b hb
            rw [ho''] at e; cases e
            have h1 := fpD b hb
            refine hk6 b _ (fun q => ?_) (kp5.keep b _ (fun q => ?_) ho'' ht'')
            · rw [List.mem_singleton.mp q] at hb
              obtain ⟨o2, ho2, _⟩ := it.sits 0 _ it.start I2 hb
              rw [hs4h, old4 _ _ ho2] at hI24; cases hI24
            · rcases q with q | q | q
              · exact absurd (q ▸ h1) (Nat.lt_irrefl _)
              · rw [q] at h1; exact absurd (Nat.lt_trans h1 hDltC) (Nat.lt_irrefl _)
              · rw [q] at hb
                obtain ⟨o2, ho2, _⟩ := it.sits 0 _ it.start I2 hb
                rw [hs4h, old4 _ _ ho2] at hI24; cases hI24
          · obtain ⟨n, e⟩ := pl5
            exact ⟨n, hk6 _ _ (fun q => hI2D (List.mem_singleton.mp q).symm) e⟩
          · exact ⟨m5, ns5.at' fun o' e => hk6 _ o' (fun q => hI2C (List.mem_singleton.mp q).symm) e⟩
          · have : (lss.take (i + 1)).flatten = (lss.take i).flatten ++ l := by rw [List.take_add_one, hl]; simp
            rw [this]
            rw [List.take_length] at ia5; exact ia5
      exact codeAny_compStart_two loop2 fun E3 => W2.self 0 _ _ _ it2.start loop2
    · have hie : i = lss.length := by omega
      subst hie
      refine W.done _ _ _ (by rw [lenxs]; exact st) fun h₁ tk₁ hk₁ => ?_
      have kfin := k0.then_but (tk := tk₁) hk₁ (none_of_K k₀ hI)
      have hCI : C ≠ I := Nat.ne_of_gt (Nat.lt_trans hIlt hDltC)
      have hDI : D ≠ I := Nat.ne_of_gt hIlt
      refine ⟨m, ns.at' fun o' e => hk₁ _ o' (fun q => hCI (List.mem_singleton.mp q)) e, fun h' hs' => ?_⟩
      have hk : ∀ b o', b ∉ [C] → h₁.get? b = some o' → h'.get? b = some o' := fun b o' hb e => hs'.extBut b o' (fun q => hb (List.mem_singleton.mpr q)) e
      have k' : K0 Γ.T s { s' with heap := h', toks := tk₁ } := kfin.then_but (tk := tk₁) hk (hMs C MC)
      obtain ⟨n, e⟩ := pl
      have e' : h'.get? D = some { cls := .type "list", data := .seq ys.toArray n } := hk _ _ (fun q => hDC (List.mem_singleton.mp q)) (hk₁ _ _ (fun q => hDI (List.mem_singleton.mp q)) e)
      rw [List.take_length] at ia
      exact ⟨k', .list (up_new (hMs D MD) e') e' rfl rfl (VRs.of_ints ia), fun _ a q => by cases q; exact hMs D MD⟩
  exact codeAny_compStart_list loop (W.self 0 _ _ _ st4 loop)
end
end Mine

namespace Mine
open PySem PySem.Calls PyProof.Rows PyProof PySem.W

/-! the divisor methods, in ints -/
def dvCommon (ds : List (Int × Int)) : Int := ds.foldl (fun c d => c * d.1) 1
def dvW (sq : Bool) (ds : List (Int × Int)) (p : Int) : List Int := ds.map fun d => ((if sq then p * p else p) * d.2 * dvCommon ds).fdiv d.1
def dvFlat (sq : Bool) (ds : List (Int × Int)) (vs : List Int) : List Int := (vs.map (dvW sq ds)).flatten
def dvMin (sq : Bool) (ds : List (Int × Int)) (vs : List Int) (s : Int) (r0 : List Int) : Int := (sortI (dvFlat sq ds vs)).getD ((dvFlat sq ds vs).length - s + r0.sum).toNat 0
def dvAt (sq : Bool) (ds : List (Int × Int)) (vs : List Int) (i : Nat) : List Int := dvW sq ds (vs.getD i 0)
def dvR1 (sq : Bool) (ds : List (Int × Int)) (vs : List Int) (s : Int) (r0 : List Int) : List Int :=
  (upto vs.length).map fun i => r0.getD i.toNat 0 + ((dvAt sq ds vs i.toNat).filter fun w => decide (dvMin sq ds vs s r0 < w)).length
def dvGo (mem : Nat → Bool) (s : Int) (r0 : List Int) : Nat → List Int × Bool
  | 0 => (r0, false)
  | i + 1 => let q := dvGo mem s r0 i
    ((if q.1.sum < s ∧ mem i = true then q.1.set i (q.1.getD i 0 + 1) else q.1), (if q.1.sum = s ∧ mem i = true then true else q.2))
def dvMem (sq : Bool) (ds : List (Int × Int)) (vs : List Int) (s : Int) (r0 : List Int) (i : Nat) : Bool := (dvAt sq ds vs i).any (· == dvMin sq ds vs s r0)
def dvTail (sq : Bool) (ds : List (Int × Int)) (vs : List Int) (s : Int) (r0 : List Int) : List Int :=
  if r0.sum < s then (if (dvR1 sq ds vs s r0).sum < s then (dvGo (dvMem sq ds vs s r0) s (dvR1 sq ds vs s r0) vs.length).1 else dvR1 sq ds vs s r0) else r0

theorem dvGo_len (mem : Nat → Bool) (s : Int) (r0 : List Int) : ∀ i, (dvGo mem s r0 i).1.length = r0.length
  | 0 => rfl
  | i + 1 => by
    have ih := dvGo_len mem s r0 i
    unfold dvGo
    dsimp only
    split
    · rw [List.length_set]; exact ih
    · exact ih

structure Lay5 (W : Wd) extends Lay4 W where
  aDv : Addr
  rDv : Rest
  tDv : Addr
  gDv : W.mg "divisor" = some (.ref aDv)
  fDv : FnK W aDv (fdOf (stmtAt 6) (.ref tDv) rDv)
  dDv : ∃ o n, W.K.lookup tDv = some o ∧ o.data = .seq #[.bool true] n

def dsPV (ds : List (Int × Int)) : PV := .list (ds.map fun q => .tup [.int q.1, .int q.2])

theorem dvW_len {sq : Bool} {ds : List (Int × Int)} {p : Int} : (dvW sq ds p).length = ds.length := by simp [dvW]
theorem dvFlat_len {sq : Bool} {ds : List (Int × Int)} : ∀ {vs : List Int}, (dvFlat sq ds vs).length = vs.length * ds.length
  | [] => by simp [dvFlat]
  | v :: vs => by
    have ih := dvFlat_len (sq := sq) (ds := ds) (vs := vs)
    unfold dvFlat at ih ⊢
    rw [List.map_cons, List.flatten_cons, List.length_append, ih, dvW_len, List.length_cons, Nat.add_mul]; omega

abbrev wPV (sq : Bool) (ds : List (Int × Int)) (vs : List Int) : PV := .list ((vs.map (dvW sq ds)).map fun l => PV.list (l.map PV.int))
abbrev dvBody : List Stmt := bodyOf (stmtAt 6)

theorem dv_tail {W : Wd} (Y : Lay5 W) {A : Around} {hA : A.handled = none} {st : Shared} {X : Addr → Prop} {hI : W.I st.heap} {ok : EnvOK (fdOf (stmtAt 6) (.ref Y.tDv) Y.rDv) Y.aDv st.heap.objs.size}
    (vs : List Int) (s : Int) (m : Str) (sq : Bool) (ds : List (Int × Int)) (r0 : List Int)
    (hn : 1 ≤ vs.length ∧ vs.length ≤ 6) (hds : ds.length = s.toNat) (hs : 1 ≤ s ∧ s ≤ 10) (hr0 : r0.length = vs.length) (hv : ∀ v ∈ vs, 0 ≤ v ∧ v < 1000000) (hd : ∀ d ∈ ds, (0 < d.1 ∧ d.1 ≤ 1000) ∧ 0 ≤ d.2 ∧ d.2 ≤ 1000) (hcm : -(2 ^ 62) < dvCommon ds ∧ dvCommon ds < 2 ^ 62)
    (hr : 0 ≤ r0.sum) (hsq : ([("huntington" : Str), "hill", "equalproportions"].any (· == m)) = sq) :
    Execs (frameOf W A hA (fdOf (stmtAt 6) (.ref Y.tDv) Y.rDv) Y.aDv st X hI rfl Y.fDv.glob Y.fDv.blt ok) ⟨[("divisors", dsPV ds), ("votes", .list (vs.map .int)), ("seats", .int s), ("method", .str m), ("tiesallowed", .bool true)], some (Own.ints "representatives" r0 false), []⟩ (dvBody.drop 2) (.ret (.list ((dvTail sq ds vs s r0).map .int))) := by
  have dg : ∀ d, d ∈ ds → (0 < d.1 ∧ d.1 ≤ 1000) ∧ 0 ≤ d.2 ∧ d.2 ≤ 1000 := hd
  have vg : ∀ k, k < vs.length → 0 ≤ vs.getD k 0 ∧ vs.getD k 0 < 1000000 := fun k hk => hv _ (getD_mem hk)
  have hfl := dvFlat_len (sq := sq) (ds := ds) (vs := vs)
  have hfl2 : (dvFlat sq ds vs).length ≤ 60 := by
    rw [hfl, hds]
    calc vs.length * s.toNat ≤ 6 * 10 := Nat.mul_le_mul hn.2 (by omega)
      _ = 60 := rfl
  have hfl3 : s ≤ (dvFlat sq ds vs).length := by
    rw [hfl, hds]
    have : 1 * s.toNat ≤ vs.length * s.toNat := Nat.mul_le_mul_right _ hn.1
    omega
  by_cases hlt : r0.sum < s
  case neg =>
    unfold dvTail
    rw [if_neg hlt]
    refine Execs.cons (Exec.ite (b := decide (r0.sum < s)) (fun X => Tests.cmp CmpSem.gt (Evals.name rfl) (Evals.sum (.blt Y.sum (fun _ h => h) rfl) (Evals.name rfl))) (fun h => absurd (of_decide_eq_true h) hlt) (fun h => Execs.nil)) ?_
    refine Execs.cons (Exec.assign (.inr ⟨_, fun X => Evals.bool⟩) (by rfl) (by rfl) rfl) ?_
    refine Execs.cons (Exec.ite (b := decide (r0.sum < s)) (fun X => Tests.cmp CmpSem.gt (Evals.name rfl) (Evals.sum (.blt Y.sum (fun _ h => h) rfl) (Evals.name rfl))) (fun h => absurd (of_decide_eq_true h) hlt) (fun h => Execs.nil)) ?_
    refine Execs.cons (Exec.ite (b := false && !true) (fun X => Tests.and2 (Tests.val (Evals.name rfl)) (fun _ => Tests.not (Tests.val (Evals.name rfl)))) (fun h => absurd h (by simp)) fun _ => Execs.nil) ?_
    exact Execs.ret (Exec.ret fun X => Evals.name rfl)
  have hlen1 : (dvR1 sq ds vs s r0).length = vs.length := by simp [dvR1, upto_len]
  have hwk : ∀ k, k < vs.length → ((vs.map (dvW sq ds)).map fun l => PV.list (l.map .int))[k]? = some (.list ((dvAt sq ds vs k).map .int)) := fun k hk => by
    rw [List.getElem?_map, List.getElem?_map, get_of_getD hk]; rfl
  have hmin : (dvFlat sq ds vs).length - s + r0.sum < (dvFlat sq ds vs).length := by omega
  refine Execs.cons (σ₁ := ⟨[("weights", wPV sq ds vs), ("minweight", .int (dvMin sq ds vs s r0)), ("votes", .list (vs.map .int)), ("seats", .int s), ("tiesallowed", .bool true)], some (Own.ints "representatives" (dvR1 sq ds vs s r0) false), []⟩) (Exec.ite (b := decide (r0.sum < s)) (fun X => Tests.cmp CmpSem.gt (Evals.name rfl) (Evals.sum (.blt Y.sum (fun _ h => h) rfl) (Evals.name rfl))) (fun h => ?_) (fun h => absurd hlt (of_decide_eq_false h))) ?_
  · -- common
    refine Execs.cons (Exec.assign (.inr ⟨_, fun X => Evals.int⟩) (by rfl) (by rfl) rfl) ?_
    refine Execs.cons (Exec.for0 (fun j => ⟨[("common", .int (dvCommon (ds.take j))), ("divisors", dsPV ds), ("votes", .list (vs.map .int)), ("seats", .int s), ("method", .str m), ("tiesallowed", .bool true)], some (Own.ints "representatives" r0 false), []⟩) (.inr ⟨_, fun X => Evals.name rfl⟩) rfl trivial (by rfl) (fun i => by rfl) (fun j p hp => ?_) rfl) ?_
    · obtain ⟨d, hdj, rfl⟩ : ∃ d, ds[j]? = some d ∧ p = .tup [.int d.1, .int d.2] := by
        rw [List.getElem?_map] at hp
        cases h : ds[j]? with
        | none => rw [h] at hp; cases hp
        | some v => rw [h] at hp; exact ⟨v, rfl, (Option.some.inj hp).symm⟩
      have hb := dg d (List.mem_of_getElem? hdj)
      have e : dvCommon (ds.take (j + 1)) = dvCommon (ds.take j) * d.1 := by
        unfold dvCommon
        rw [List.take_add_one, hdj, Option.toList_some, List.foldl_append]; rfl
      rw [e]
      exact (Execs.cons (Exec.assign (.inr ⟨_, fun X => Evals.mul (Evals.name rfl) (Evals.itemT (j := 0) (Evals.name rfl) Evals.int (by simp) (by decide) rfl) (.inr (by omega))⟩) (by rfl) (by rfl) rfl) Execs.nil).wk (.cons rfl (.cons rfl (.cons rfl (.cons rfl (.cons rfl (.cons rfl .nil))))))
    rw [List.length_map, List.take_length]
    -- weights
    refine Execs.cons (σ₁ := ⟨[("weights", wPV sq ds vs), ("votes", .list (vs.map .int)), ("seats", .int s), ("tiesallowed", .bool true)], some (Own.ints "representatives" r0 false), []⟩) (Exec.ite (b := sq) (fun X => Tests.as (Tests.cmp (CmpSem.inStrs (ys := ["huntington", "hill", "equalproportions"])) (Evals.name rfl) (Evals.weak (Evals.list (EvalsL.cons Evals.str (EvalsL.cons Evals.str (EvalsL.cons Evals.str EvalsL.nil))) (by simp)))) hsq) (fun hq => ?_) (fun hq => ?_)) ?_
    · apply Execs.wk
      refine Execs.cons (Exec.assign (pv := .list ((vs.map (dvW sq ds)).map fun l => .list (l.map .int))) (.inr ⟨_, fun X => Evals.as (Evals.compI (ns := vs) (f := fun p => .list ((dvW sq ds p).map .int)) (CompOK.of (by rfl)) (Evals.name rfl) rfl trivial (by omega) (fun X C p hm => ?_)) (by simp [Function.comp_def])⟩) (by rfl) (by rfl) rfl) Execs.nil
      rotate_left
      exact (.cons rfl (.cons rfl (.cons rfl (.cons rfl .nil))))
      refine Evals.weak (Evals.as (Evals.compP (ns := ds) (f := fun a b => .int (((if sq then p * p else p) * b * dvCommon ds).fdiv a)) (CompOK.of (by rfl)) (Evals.name rfl) rfl trivial (by omega) (fun X C q hm2 => ?_)) (by simp [dvW, Function.comp_def]))
      have h1 := hv p hm
      have h2 := dg q hm2
      rw [hq, if_pos rfl]
      exact Evals.weak (Evals.fdiv (Evals.mul (Evals.mul (Evals.mul (Evals.toInt (.blt Y.int (fun _ h => h) rfl) (Evals.name rfl)) (Evals.toInt (.blt Y.int (fun _ h => h) rfl) (Evals.name rfl)) (.inr (by omega))) (Evals.itemT (j := 1) (Evals.name rfl) Evals.int (by simp) (by decide) rfl) (.inr (by omega))) (Evals.name rfl) (.inr hcm)) (Evals.itemT (j := 0) (Evals.name rfl) Evals.int (by simp) (by decide) rfl) (by omega))
    · apply Execs.wk
      refine Execs.cons (Exec.assign (pv := .list ((vs.map (dvW sq ds)).map fun l => .list (l.map .int))) (.inr ⟨_, fun X => Evals.as (Evals.compI (ns := vs) (f := fun p => .list ((dvW sq ds p).map .int)) (CompOK.of (by rfl)) (Evals.name rfl) rfl trivial (by omega) (fun X C p hm => ?_)) (by simp [Function.comp_def])⟩) (by rfl) (by rfl) rfl) Execs.nil
      rotate_left
      exact (.cons rfl (.cons rfl (.cons rfl (.cons rfl .nil))))
      refine Evals.weak (Evals.as (Evals.compP (ns := ds) (f := fun a b => .int (((if sq then p * p else p) * b * dvCommon ds).fdiv a)) (CompOK.of (by rfl)) (Evals.name rfl) rfl trivial (by omega) (fun X C q hm2 => ?_)) (by simp [dvW, Function.comp_def]))
      have h1 := hv p hm
      have h2 := dg q hm2
      rw [hq, if_neg (by simp)]
      exact Evals.weak (Evals.fdiv (Evals.mul (Evals.mul (Evals.toInt (.blt Y.int (fun _ h => h) rfl) (Evals.name rfl)) (Evals.itemT (j := 1) (Evals.name rfl) Evals.int (by simp) (by decide) rfl) (.inr (by omega))) (Evals.name rfl) (.inr hcm)) (Evals.itemT (j := 0) (Evals.name rfl) Evals.int (by simp) (by decide) rfl) (by omega))
    -- the sorted weights
    refine Execs.cons (Exec.assign (pv := .list ((sortI (dvFlat sq ds vs)).map .int)) (.inr ⟨_, fun X => Evals.sorted (.blt Y.sorted (fun _ h => h) rfl) (Evals.flatten (lss := vs.map (dvW sq ds)) (CompOK.of (by rfl)) (by rfl) (by rfl) (Evals.name rfl) (by show (dvFlat sq ds vs).length ≤ _; omega) (by simp; omega)) (by show (dvFlat sq ds vs).length < _; omega)⟩) (by rfl) (by rfl) rfl) ?_
    have lS : (sortI (dvFlat sq ds vs)).length = (dvFlat sq ds vs).length := (sortI_perm _).length_eq
    refine Execs.cons (Exec.assign (pv := .int (dvMin sq ds vs s r0)) (.inl ⟨_, fun X => Evals.item (j := ((dvFlat sq ds vs).length - s + r0.sum).toNat) (Evals.name rfl) (Evals.add (Evals.neg (Evals.name rfl)) (Evals.sum (.blt Y.sum (fun _ h => h) rfl) (Evals.name rfl))) (by rw [List.length_map, lS]; omega) (.inr ⟨by omega, by rw [List.length_map, lS]; omega⟩) (pv_get (by rw [lS]; omega)), by rfl⟩) (by rfl) (by rfl) rfl) ?_
    apply Execs.wk
    refine Execs.cons (Exec.assignOwn (ns := dvR1 sq ds vs s r0) (fun X => Evals.as (Evals.compI (ns := upto vs.length) (f := fun i => .int (r0.getD i.toNat 0 + ((dvAt sq ds vs i.toNat).filter fun w => decide (dvMin sq ds vs s r0 < w)).length)) (CompOK.of (by rfl)) (Evals.range1 (.blt Y.range (fun _ h => h) rfl) (Evals.len (.blt Y.len (fun _ h => h) rfl) (Evals.name rfl) (by simp; omega))) (by rw [List.length_map]; exact items_range _) (by simp [rangeOK]; omega) (by rw [upto_len]; omega) (fun X C i hm => ?_)) (by simp [dvR1, Function.comp_def])) (by rfl) (by rfl) rfl) Execs.nil
    rotate_left
    exact (.cons rfl (.cons rfl (.cons rfl (.cons rfl (.cons rfl .nil)))))
    obtain ⟨k, rfl, hkl⟩ := upto_mem hm
    rw [show (k : Int).toNat = k by simp]
    have hAl : (dvAt sq ds vs k).length ≤ 10 := by unfold dvAt; rw [dvW_len, hds]; omega
    refine Evals.weak (Evals.add (Evals.item (j := k) (Evals.name rfl) (Evals.name rfl) (by simp; omega) (.inl ⟨by omega, by omega⟩) (pv_get (by omega))) (Evals.as (Evals.len (xs := ((dvAt sq ds vs k).filter fun w => decide (dvMin sq ds vs s r0 < w)).map .int) (.blt Y.len (fun _ h => h) rfl) (Evals.compF (ns := dvAt sq ds vs k) (f := .int) (k := fun w => decide (dvMin sq ds vs s r0 < w)) (CompOK.of (by rfl)) (Evals.item (j := k) (Evals.name rfl) (Evals.name rfl) (by simp; omega) (.inl ⟨by omega, by omega⟩) (hwk k hkl)) rfl trivial (by omega) (fun X C n hn => Tests.cmp CmpSem.gt (Evals.name rfl) (Evals.name rfl)) (fun X C n hn => Evals.name rfl)) ?_) (by simp)))
    rw [List.length_map]
    have := List.length_filter_le (fun w => decide (dvMin sq ds vs s r0 < w)) (dvAt sq ds vs k)
    omega
  · unfold dvTail
    rw [if_pos hlt]
    refine Execs.cons (Exec.assign (.inr ⟨_, fun X => Evals.bool⟩) (by rfl) (by rfl) rfl) ?_
    generalize dvR1 sq ds vs s r0 = r1 at hlen1
    refine Execs.cons (σ₁ := ⟨[("ties", .bool (if r1.sum < s then (dvGo (dvMem sq ds vs s r0) s r1 vs.length).2 else false)), ("tiesallowed", .bool true)], some (Own.ints "representatives" (if r1.sum < s then (dvGo (dvMem sq ds vs s r0) s r1 vs.length).1 else r1) false), []⟩) (Exec.ite (b := decide (r1.sum < s)) (fun X => Tests.cmp CmpSem.gt (Evals.name rfl) (Evals.sum (.blt Y.sum (fun _ h => h) rfl) (Evals.name rfl))) (fun h => ?_) (fun h => ?_)) ?_
    · have h := of_decide_eq_true h
      rw [if_pos h, if_pos h]
      refine Execs.wkFrom (ρ := [("ties", .bool false), ("weights", wPV sq ds vs), ("minweight", .int (dvMin sq ds vs s r0)), ("votes", .list (vs.map .int)), ("seats", .int s), ("tiesallowed", .bool true)]) ?_ (.cons rfl (.cons rfl (.cons rfl (.cons rfl (.cons rfl (.cons rfl .nil))))))
      refine Execs.cons (Exec.for0 (fun i => ⟨[("ties", .bool (dvGo (dvMem sq ds vs s r0) s r1 i).2), ("weights", wPV sq ds vs), ("minweight", .int (dvMin sq ds vs s r0)), ("votes", .list (vs.map .int)), ("seats", .int s), ("tiesallowed", .bool true)], some (Own.ints "representatives" (dvGo (dvMem sq ds vs s r0) s r1 i).1 false), []⟩) (.inr ⟨_, fun X => Evals.range1 (.blt Y.range (fun _ h => h) rfl) (Evals.len (.blt Y.len (fun _ h => h) rfl) (Evals.name rfl) (by simp; omega))⟩) (by rw [List.length_map]; exact items_range _) (by simp [rangeOK]; omega) (by rfl) (fun i => by rfl) (fun i p hp => ?_) (by rw [List.length_map, upto_len])) (Execs.nil.wk (.cons rfl (.cons rfl .nil)))
      have hil : i < vs.length := by
        have := (List.getElem?_eq_some_iff.mp hp).1
        simpa [upto] using this
      rw [upto_get hil] at hp
      cases hp
      have lG := dvGo_len (dvMem sq ds vs s r0) s r1 i
      generalize hq : dvGo (dvMem sq ds vs s r0) s r1 i = q at lG
      have e : dvGo (dvMem sq ds vs s r0) s r1 (i + 1) = ((if q.1.sum < s ∧ dvMem sq ds vs s r0 i = true then q.1.set i (q.1.getD i 0 + 1) else q.1), (if q.1.sum = s ∧ dvMem sq ds vs s r0 i = true then true else q.2)) := by
        rw [← hq]; rfl
      rw [e]
      obtain ⟨r, t⟩ := q
      have lG : r.length = r1.length := lG
      have hAl : (dvAt sq ds vs i).length ≤ 10 := by unfold dvAt; rw [dvW_len, hds]; omega
      refine Execs.cons (σ₁ := ⟨[("ties", .bool (if r.sum = s ∧ dvMem sq ds vs s r0 i = true then true else t)), ("i", .int (i : Int)), ("weights", wPV sq ds vs), ("minweight", .int (dvMin sq ds vs s r0)), ("votes", .list (vs.map .int)), ("seats", .int s), ("tiesallowed", .bool true)], some (Own.ints "representatives" r false), []⟩)
        (Exec.ite (b := (r.sum == s) && decide (dvMem sq ds vs s r0 i = true)) (fun X => Tests.and2 (Tests.cmp CmpSem.eq (Evals.sum (.blt Y.sum (fun _ h => h) rfl) (Evals.name rfl)) (Evals.name rfl)) (fun _ => Tests.as (Tests.cmp (CmpSem.inInts (ys := dvAt sq ds vs i)) (Evals.name rfl) (Evals.item (j := i) (Evals.name rfl) (Evals.name rfl) (by simp; omega) (.inl ⟨by omega, by omega⟩) (hwk i hil))) (by rw [Bool.decide_eq_true]; rfl))) (fun h => ?_) (fun h => ?_)) ?_
      · have h := yand1 h
        rw [if_pos h]
        refine Execs.cons (Exec.ite (b := !t) (fun X => Tests.not (Tests.val (Evals.name rfl))) (fun h => ?_) (fun h => ?_)) Execs.nil
        · refine Execs.cons (Exec.ite (b := !true) (fun X => Tests.not (Tests.val (Evals.name rfl))) (fun h => nomatch h) fun _ => Execs.nil) ?_
          exact (Execs.cons (Exec.assign (.inr ⟨_, fun X => Evals.bool⟩) (by rfl) (by rfl) rfl) Execs.nil).wk (.cons rfl (.cons rfl (.cons rfl (.cons rfl (.cons rfl (.cons rfl (.cons rfl .nil)))))))
        · have : t = true := by simpa using h
          subst this
          exact Execs.nil.wk (.cons rfl (.cons rfl (.cons rfl (.cons rfl (.cons rfl (.cons rfl (.cons rfl .nil)))))))
      · have h := nand1 h
        rw [if_neg h]
        exact Execs.nil.wk (.cons rfl (.cons rfl (.cons rfl (.cons rfl (.cons rfl (.cons rfl (.cons rfl .nil)))))))
      · refine Execs.cons (Exec.ite (b := decide (r.sum < s) && decide (dvMem sq ds vs s r0 i = true)) (fun X => Tests.and2 (Tests.cmp CmpSem.lt (Evals.sum (.blt Y.sum (fun _ h => h) rfl) (Evals.name rfl)) (Evals.name rfl)) (fun _ => Tests.as (Tests.cmp (CmpSem.inInts (ys := dvAt sq ds vs i)) (Evals.name rfl) (Evals.item (j := i) (Evals.name rfl) (Evals.name rfl) (by simp; omega) (.inl ⟨by omega, by omega⟩) (hwk i hil))) (by rw [Bool.decide_eq_true]; rfl))) (fun h => ?_) (fun h => ?_)) Execs.nil
        · have h := yand2 h
          rw [show (if r.sum < s ∧ dvMem sq ds vs s r0 i = true then r.set i (r.getD i 0 + 1) else r) = r.set i (r.getD i 0 + 1) from if_pos h]
          exact (Execs.cons (Exec.augItem (k := i) (by rfl) rfl (get_of_getD (by omega)) (by omega) (fun X => Evals.int)) Execs.nil).wk (.cons rfl (.cons rfl (.cons rfl (.cons rfl (.cons rfl (.cons rfl .nil))))))
        · have h := nand2 h
          rw [show (if r.sum < s ∧ dvMem sq ds vs s r0 i = true then r.set i (r.getD i 0 + 1) else r) = r from if_neg h]
          exact Execs.nil.wk (.cons rfl (.cons rfl (.cons rfl (.cons rfl (.cons rfl (.cons rfl .nil))))))
    · have h := of_decide_eq_false h
      rw [if_neg h, if_neg h]
      exact Execs.nil.wk (.cons rfl (.cons rfl .nil))
    · refine Execs.cons (Exec.ite (b := _ && !true) (fun X => Tests.and2 (Tests.val (Evals.name rfl)) (fun _ => Tests.not (Tests.val (Evals.name rfl)))) (fun h => absurd h (by simp)) fun _ => Execs.nil) ?_
      exact Execs.ret (Exec.ret fun X => Evals.name rfl)
end Mine

set_option maxHeartbeats 2000000
namespace Mine
open PySem PySem.Calls PyProof.Rows PyProof PySem.W

def nmA : List Str := ["dhondt", "jefferson", "greatestdivisors"]
def nmB : List Str := ["saintelague", "webster", "majorfractions"]
def nmC : List Str := ["modified_saintelague"]
def nmD : List Str := ["huntington", "hill", "equalproportions"]
def nmE : List Str := ["adams", "smallestdivisor"]
def nmF : List Str := ["dean", "harmonicmean"]
def isIn (l : List Str) (m : Str) : Bool := l.any (· == m)

def dsOne (f : Int → Int × Int) (s : Nat) : List (Int × Int) := (upto s).map f
def dsA (s : Nat) : List (Int × Int) := dsOne (fun i => (i + 1, 1)) s
def dsB (s : Nat) : List (Int × Int) := dsOne (fun i => (2 * i + 1, 1)) s
def from1 (s : Nat) : List Int := (List.range (s - 1)).map fun i : Nat => 1 + (i : Int)
def dsC (s : Nat) : List (Int × Int) := (7, 5) :: (from1 s).map fun i => (2 * i + 1, 1)
def dsD (s : Nat) : List (Int × Int) := dsOne (fun i => ((i + 1) * (i + 2), 1)) s
def dsF (s : Nat) : List (Int × Int) := dsOne (fun i => (2 * (i + 1) * (i + 2), 2 * (i + 1) + 1)) s
def ones (vs : List Int) : List Int := vs.map fun p => if 0 < p then 1 else 0
def zeros (vs : List Int) : List Int := List.replicate vs.length 0

/-- the divisors, the first seats, whether squares -/
def dvData (m : Str) (vs : List Int) (s : Nat) : Bool × List (Int × Int) × List Int :=
  if isIn nmA m then (false, dsA s, zeros vs) else if isIn nmB m then (false, dsB s, zeros vs) else if isIn nmC m then (false, dsC s, zeros vs)
  else if isIn nmD m then (true, dsD s, ones vs) else if isIn nmE m then (false, dsA s, ones vs) else (false, dsF s, ones vs)
def dv (m : Str) (vs : List Int) (s : Nat) : List Int := dvTail (dvData m vs s).1 (dvData m vs s).2.1 vs s (dvData m vs s).2.2
def dvKnown (m : Str) : Bool := isIn nmA m || isIn nmB m || isIn nmC m || isIn nmD m || isIn nmE m || isIn nmF m
def dvFew (m : Str) : Bool := isIn nmA m || isIn nmB m || isIn nmC m

theorem items_from1 {s : Nat} (h : 1 ≤ s) : itemsOf (.range 1 (s : Int)) = some ((from1 s).map PV.int) := by
  have e : ((s : Int) - 1).toNat = s - 1 := by omega
  simp [itemsOf, from1, e, Function.comp_def]
theorem zeros_sum (vs : List Int) : (zeros vs).sum = 0 := by
  unfold zeros
  generalize vs.length = n
  induction n with
  | zero => rfl
  | succ n ih => rw [List.replicate_succ, List.sum_cons, ih]; rfl
theorem ones_sum : ∀ (vs : List Int), 0 ≤ (ones vs).sum
  | [] => by simp [ones]
  | v :: vs => by
    have := ones_sum vs
    unfold ones at this ⊢
    rw [List.map_cons, List.sum_cons]
    split <;> omega

def dsOKb (ds : List (Int × Int)) (s : Nat) : Bool := decide (ds.length = s) && (ds.all fun d => decide (0 < d.1) && decide (d.1 ≤ 1000) && decide (0 ≤ d.2) && decide (d.2 ≤ 1000)) && decide (-(2 ^ 62) < dvCommon ds) && decide (dvCommon ds < 2 ^ 62)
theorem dsOK {s : Nat} (h : 1 ≤ s ∧ s ≤ 5) : dsOKb (dsA s) s = true ∧ dsOKb (dsB s) s = true ∧ dsOKb (dsC s) s = true ∧ dsOKb (dsD s) s = true ∧ dsOKb (dsF s) s = true := by
  have : s = 1 ∨ s = 2 ∨ s = 3 ∨ s = 4 ∨ s = 5 := by omega
  rcases this with rfl | rfl | rfl | rfl | rfl <;> decide

theorem dv_end {W : Wd} (Y : Lay5 W) {A : Around} {hA : A.handled = none} {st : Shared} {X : Addr → Prop} {hI : W.I st.heap} {ok : EnvOK (fdOf (stmtAt 6) (.ref Y.tDv) Y.rDv) Y.aDv st.heap.objs.size}
    (vs : List Int) (s : Nat) (m : Str) (sq : Bool) (ds : List (Int × Int)) (r0 : List Int)
    (hn : 1 ≤ vs.length ∧ vs.length ≤ 6) (hds : dsOKb ds s = true) (hs : 1 ≤ s ∧ s ≤ 5) (hr0 : r0.length = vs.length) (hv : ∀ v ∈ vs, 0 ≤ v ∧ v < 1000000) (hr : 0 ≤ r0.sum) (hsq : isIn nmD m = sq) :
    Execs (frameOf W A hA (fdOf (stmtAt 6) (.ref Y.tDv) Y.rDv) Y.aDv st X hI rfl Y.fDv.glob Y.fDv.blt ok) ⟨[("divisors", dsPV ds), ("votes", .list (vs.map .int)), ("seats", .int s), ("method", .str m), ("tiesallowed", .bool true)], some (Own.ints "representatives" r0 false), []⟩ (dvBody.drop 2) (.ret (.list ((dvTail sq ds vs s r0).map .int))) := by
  unfold dsOKb at hds
  simp only [Bool.and_eq_true, decide_eq_true_eq, List.all_eq_true] at hds
  obtain ⟨⟨⟨h1, h2⟩, h3⟩, h4⟩ := hds
  exact dv_tail Y vs s m sq ds r0 hn (by simpa using h1) (by omega) hr0 hv (fun d hd => ⟨(h2 d hd).1.1, (h2 d hd).1.2, (h2 d hd).2⟩) ⟨h3, h4⟩ hr hsq

theorem c_dv {W : Wd} (Y : Lay5 W) (vs : List Int) (s : Nat) (m : Str) (hm : dvKnown m = true) (hn : 1 ≤ vs.length ∧ vs.length ≤ 6) (hs : 1 ≤ s ∧ s ≤ 5) (hv : ∀ v ∈ vs, 0 ≤ v ∧ v < 1000000) (hfew : dvFew m = true ∨ vs.length ≤ s) (hD : isIn nmD m = true → isIn nmA m = false ∧ isIn nmB m = false ∧ isIn nmC m = false) :
    Contract W Y.aDv 0 [.list (vs.map .int), .int s, .str m, .bool true] [] [] (.list ((dv m vs s).map .int)) := by
  refine contract_of (xs := ["votes", "seats", "method", "tiesallowed"]) (dps := []) Y.fDv rfl (by rfl) (by rfl) (by rfl) (fun s vs kvs hI hv hkv => ?_) fun A hA st X hI ok hr => ?_
  · match vs, kvs, hv, hkv with
    | [u, v, y, z], [], _, _ =>
      obtain ⟨o, n, h1, h2⟩ := Y.dDv
      exact ⟨[], BindsTo.of_defaults rfl (hI.1 _ _ h1) h2 rfl rfl, .nil⟩
  obtain ⟨okA, okB, okC, okD, okF⟩ := dsOK hs
  have lz : (zeros vs).length = vs.length := by simp [zeros]
  have lo : (ones vs).length = vs.length := by simp [ones]
  refine Execs.cons (Exec.assignOwn (ns := zeros vs) (fun X => Evals.as (Evals.rep Evals.int rfl (Evals.len (.blt Y.len (fun _ h => h) rfl) (Evals.name rfl) (by simp; omega)) (by simp; omega)) (by simp [zeros])) (by rfl) (by rfl) rfl) ?_
  unfold dv
  have few : isIn nmA m = false → isIn nmB m = false → isIn nmC m = false → vs.length ≤ s := fun h1 h2 h3 => hfew.resolve_left (by unfold dvFew; rw [h1, h2, h3]; simp)
  refine Execs.cons (σ₁ := ⟨[("divisors", dsPV (dvData m vs s).2.1), ("votes", .list (vs.map .int)), ("seats", .int s), ("method", .str m), ("tiesallowed", .bool true)], some (Own.ints "representatives" (dvData m vs s).2.2 false), []⟩)
    (Exec.ite (b := isIn nmA m) (fun X => Tests.as (Tests.cmp (CmpSem.inStrs (ys := nmA)) (Evals.name rfl) (Evals.weak (Evals.list (EvalsL.cons Evals.str (EvalsL.cons Evals.str (EvalsL.cons Evals.str EvalsL.nil))) (by rw [List.length_map]; decide)))) rfl) (fun hA' => ?_) (fun hA' => Execs.cons (Exec.ite (b := isIn nmB m) (fun X => Tests.as (Tests.cmp (CmpSem.inStrs (ys := nmB)) (Evals.name rfl) (Evals.weak (Evals.list (EvalsL.cons Evals.str (EvalsL.cons Evals.str (EvalsL.cons Evals.str EvalsL.nil))) (by rw [List.length_map]; decide)))) rfl) (fun hB' => ?_) (fun hB' => Execs.cons (Exec.ite (b := isIn nmC m) (fun X => Tests.as (Tests.cmp (CmpSem.inStrs (ys := nmC)) (Evals.name rfl) (Evals.weak (Evals.list (EvalsL.cons Evals.str EvalsL.nil) (by rw [List.length_map]; decide)))) rfl) (fun hC' => ?_)
      (fun hC' => Execs.cons (Exec.ite (b := isIn nmD m) (fun X => Tests.as (Tests.cmp (CmpSem.inStrs (ys := nmD)) (Evals.name rfl) (Evals.weak (Evals.list (EvalsL.cons Evals.str (EvalsL.cons Evals.str (EvalsL.cons Evals.str EvalsL.nil))) (by rw [List.length_map]; decide)))) rfl) (fun hD' => ?_) (fun hD' => Execs.cons (Exec.ite (b := isIn nmE m) (fun X => Tests.as (Tests.cmp (CmpSem.inStrs (ys := nmE)) (Evals.name rfl) (Evals.weak (Evals.list (EvalsL.cons Evals.str (EvalsL.cons Evals.str EvalsL.nil)) (by rw [List.length_map]; decide)))) rfl) (fun hE' => ?_)
        (fun hE' => Execs.cons (Exec.ite (b := isIn nmF m) (fun X => Tests.as (Tests.cmp (CmpSem.inStrs (ys := nmF)) (Evals.name rfl) (Evals.weak (Evals.list (EvalsL.cons Evals.str (EvalsL.cons Evals.str EvalsL.nil)) (by rw [List.length_map]; decide)))) rfl) (fun hF' => ?_) (fun hF' => absurd hm (by unfold dvKnown; rw [hA', hB', hC', hD', hE', hF']; simp))) Execs.nil)) Execs.nil)) Execs.nil)) Execs.nil)) Execs.nil)) ?_
  · rw [show dvData m vs s = (false, dsA s, zeros vs) by unfold dvData; rw [if_pos hA']]
    apply Execs.wk
    refine Execs.cons (Exec.assign (pv := dsPV (dsA s)) (.inr ⟨_, fun X => Evals.as (Evals.compI (ns := upto s) (f := fun i => .tup [.int (i + 1), .int 1]) (CompOK.of (by rfl)) (Evals.range1 (.blt Y.range (fun _ h => h) rfl) (Evals.name rfl)) (items_range _) (by simp [rangeOK]; omega) (by rw [upto_len]; omega) (fun X C i hm => ?_)) (by simp [dsPV, dsA, dsOne, Function.comp_def])⟩) (by rfl) (by rfl) rfl) Execs.nil
    rotate_left
    exact (.cons rfl (.cons rfl (.cons rfl (.cons rfl (.cons rfl .nil)))))
    exact Evals.weak (Evals.tup (EvalsL.cons (Evals.add (Evals.name rfl) Evals.int) (EvalsL.cons Evals.int EvalsL.nil)) (by simp))
  · rw [show dvData m vs s = (false, dsB s, zeros vs) by unfold dvData; rw [hA', hB']; rfl]
    apply Execs.wk
    refine Execs.cons (Exec.assign (pv := dsPV (dsB s)) (.inr ⟨_, fun X => Evals.as (Evals.compI (ns := upto s) (f := fun i => .tup [.int (2 * i + 1), .int 1]) (CompOK.of (by rfl)) (Evals.range1 (.blt Y.range (fun _ h => h) rfl) (Evals.name rfl)) (items_range _) (by simp [rangeOK]; omega) (by rw [upto_len]; omega) (fun X C i hm => ?_)) (by simp [dsPV, dsB, dsOne, Function.comp_def])⟩) (by rfl) (by rfl) rfl) Execs.nil
    rotate_left
    exact (.cons rfl (.cons rfl (.cons rfl (.cons rfl (.cons rfl .nil)))))
    exact Evals.weak (Evals.tup (EvalsL.cons (Evals.add (Evals.mul Evals.int (Evals.name rfl) (.inl (by decide))) Evals.int) (EvalsL.cons Evals.int EvalsL.nil)) (by simp))
  · rw [show dvData m vs s = (false, dsC s, zeros vs) by unfold dvData; rw [hA', hB', hC']; rfl]
    apply Execs.wk
    refine Execs.cons (Exec.assign (pv := dsPV (dsC s)) (.inr ⟨_, fun X => Evals.as (Evals.cat (Evals.list (EvalsL.cons (Evals.tup (EvalsL.cons Evals.int (EvalsL.cons Evals.int EvalsL.nil)) (by simp)) EvalsL.nil) (by simp)) (Evals.compI (ns := from1 s) (f := fun i => .tup [.int (2 * i + 1), .int 1]) (CompOK.of (by rfl)) (Evals.range2 (.blt Y.range (fun _ h => h) rfl) Evals.int (Evals.name rfl)) (items_from1 hs.1) (by simp [rangeOK]; omega) (by simp [from1]; omega) (fun X C i hm => ?_)) (by simp [from1]; omega)) (by simp [dsPV, dsC, Function.comp_def])⟩) (by rfl) (by rfl) rfl) Execs.nil
    rotate_left
    exact (.cons rfl (.cons rfl (.cons rfl (.cons rfl (.cons rfl .nil)))))
    exact Evals.weak (Evals.tup (EvalsL.cons (Evals.add (Evals.mul Evals.int (Evals.name rfl) (.inl (by decide))) Evals.int) (EvalsL.cons Evals.int EvalsL.nil)) (by simp))
  · rw [show dvData m vs s = (true, dsD s, ones vs) by unfold dvData; rw [hA', hB', hC', hD']; rfl]
    apply Execs.wk
    refine Execs.cons (Exec.ite (b := decide ((s : Int) < vs.length)) (fun X => Tests.as (Tests.cmp CmpSem.lt (Evals.name rfl) (Evals.len (.blt Y.len (fun _ h => h) rfl) (Evals.name rfl) (by simp; omega))) (by simp)) (fun h => absurd (of_decide_eq_true h) (by have := few hA' hB' hC'; omega)) (fun h => ?_)) Execs.nil
    refine Execs.cons (Exec.assignOwn (ns := ones vs) (fun X => Evals.as (Evals.compI (ns := vs) (f := fun p => .int (if 0 < p then 1 else 0)) (CompOK.of (by rfl)) (Evals.name rfl) rfl trivial (by omega) (fun X C p hm => ?_)) (by simp [ones, Function.comp_def])) (by rfl) (by rfl) rfl) ?_
    · refine Evals.ite (b := decide (0 < p)) (Tests.cmp CmpSem.gt (Evals.name rfl) Evals.int) (fun h => ?_) (fun h => ?_)
      · rw [if_pos (of_decide_eq_true h)]; exact Evals.weak Evals.int
      · rw [if_neg (of_decide_eq_false h)]; exact Evals.weak Evals.int
    refine Execs.cons (Exec.assign (pv := dsPV (dsD s)) (.inr ⟨_, fun X => Evals.as (Evals.compI (ns := upto s) (f := fun i => .tup [.int ((i + 1) * (i + 2)), .int 1]) (CompOK.of (by rfl)) (Evals.range1 (.blt Y.range (fun _ h => h) rfl) (Evals.name rfl)) (items_range _) (by simp [rangeOK]; omega) (by rw [upto_len]; omega) (fun X C i hm => ?_)) (by simp [dsPV, dsD, dsOne, Function.comp_def])⟩) (by rfl) (by rfl) rfl) Execs.nil
    · exact Evals.weak (Evals.tup (EvalsL.cons (Evals.mul (Evals.add (Evals.name rfl) Evals.int) (Evals.add (Evals.name rfl) Evals.int) (.inr (by obtain ⟨k, rfl, hk⟩ := upto_mem hm; omega))) (EvalsL.cons Evals.int EvalsL.nil)) (by simp))
    exact (.cons rfl (.cons rfl (.cons rfl (.cons rfl (.cons rfl .nil)))))
  · rw [show dvData m vs s = (false, dsA s, ones vs) by unfold dvData; rw [hA', hB', hC', hD', hE']; rfl]
    apply Execs.wk
    refine Execs.cons (Exec.ite (b := decide ((s : Int) < vs.length)) (fun X => Tests.as (Tests.cmp CmpSem.lt (Evals.name rfl) (Evals.len (.blt Y.len (fun _ h => h) rfl) (Evals.name rfl) (by simp; omega))) (by simp)) (fun h => absurd (of_decide_eq_true h) (by have := few hA' hB' hC'; omega)) (fun h => ?_)) Execs.nil
    refine Execs.cons (Exec.assignOwn (ns := ones vs) (fun X => Evals.as (Evals.compI (ns := vs) (f := fun p => .int (if 0 < p then 1 else 0)) (CompOK.of (by rfl)) (Evals.name rfl) rfl trivial (by omega) (fun X C p hm => ?_)) (by simp [ones, Function.comp_def])) (by rfl) (by rfl) rfl) ?_
    · refine Evals.ite (b := decide (0 < p)) (Tests.cmp CmpSem.gt (Evals.name rfl) Evals.int) (fun h => ?_) (fun h => ?_)
      · rw [if_pos (of_decide_eq_true h)]; exact Evals.weak Evals.int
      · rw [if_neg (of_decide_eq_false h)]; exact Evals.weak Evals.int
    refine Execs.cons (Exec.assign (pv := dsPV (dsA s)) (.inr ⟨_, fun X => Evals.as (Evals.compI (ns := upto s) (f := fun i => .tup [.int (i + 1), .int 1]) (CompOK.of (by rfl)) (Evals.range1 (.blt Y.range (fun _ h => h) rfl) (Evals.name rfl)) (items_range _) (by simp [rangeOK]; omega) (by rw [upto_len]; omega) (fun X C i hm => ?_)) (by simp [dsPV, dsA, dsOne, Function.comp_def])⟩) (by rfl) (by rfl) rfl) Execs.nil
    · exact Evals.weak (Evals.tup (EvalsL.cons (Evals.add (Evals.name rfl) Evals.int) (EvalsL.cons Evals.int EvalsL.nil)) (by simp))
    exact (.cons rfl (.cons rfl (.cons rfl (.cons rfl (.cons rfl .nil)))))
  · rw [show dvData m vs s = (false, dsF s, ones vs) by unfold dvData; rw [hA', hB', hC', hD', hE']; rfl]
    apply Execs.wk
    refine Execs.cons (Exec.ite (b := decide ((s : Int) < vs.length)) (fun X => Tests.as (Tests.cmp CmpSem.lt (Evals.name rfl) (Evals.len (.blt Y.len (fun _ h => h) rfl) (Evals.name rfl) (by simp; omega))) (by simp)) (fun h => absurd (of_decide_eq_true h) (by have := few hA' hB' hC'; omega)) (fun h => ?_)) Execs.nil
    refine Execs.cons (Exec.assignOwn (ns := ones vs) (fun X => Evals.as (Evals.compI (ns := vs) (f := fun p => .int (if 0 < p then 1 else 0)) (CompOK.of (by rfl)) (Evals.name rfl) rfl trivial (by omega) (fun X C p hm => ?_)) (by simp [ones, Function.comp_def])) (by rfl) (by rfl) rfl) ?_
    · refine Evals.ite (b := decide (0 < p)) (Tests.cmp CmpSem.gt (Evals.name rfl) Evals.int) (fun h => ?_) (fun h => ?_)
      · rw [if_pos (of_decide_eq_true h)]; exact Evals.weak Evals.int
      · rw [if_neg (of_decide_eq_false h)]; exact Evals.weak Evals.int
    refine Execs.cons (Exec.assign (pv := dsPV (dsF s)) (.inr ⟨_, fun X => Evals.as (Evals.compI (ns := upto s) (f := fun i => .tup [.int (2 * (i + 1) * (i + 2)), .int (2 * (i + 1) + 1)]) (CompOK.of (by rfl)) (Evals.range1 (.blt Y.range (fun _ h => h) rfl) (Evals.name rfl)) (items_range _) (by simp [rangeOK]; omega) (by rw [upto_len]; omega) (fun X C i hm => ?_)) (by simp [dsPV, dsF, dsOne, Function.comp_def])⟩) (by rfl) (by rfl) rfl) Execs.nil
    · exact Evals.weak (Evals.tup (EvalsL.cons (Evals.mul (Evals.mul Evals.int (Evals.add (Evals.name rfl) Evals.int) (.inl (by decide))) (Evals.add (Evals.name rfl) Evals.int) (.inr (by obtain ⟨k, rfl, hk⟩ := upto_mem hm; omega))) (EvalsL.cons (Evals.add (Evals.mul Evals.int (Evals.add (Evals.name rfl) Evals.int) (.inl (by decide))) Evals.int) EvalsL.nil)) (by simp))
    exact (.cons rfl (.cons rfl (.cons rfl (.cons rfl (.cons rfl .nil)))))
  · unfold dvData
    by_cases hA' : isIn nmA m = true
    · have hnD : isIn nmD m = false := by
        cases h : isIn nmD m with
        | false => rfl
        | true => rw [(hD h).1] at hA'; cases hA'
      rw [if_pos hA']; exact dv_end Y vs s m false (dsA s) (zeros vs) hn okA hs lz hv (by rw [zeros_sum]; omega) hnD
    rw [if_neg hA']
    by_cases hB' : isIn nmB m = true
    · have hnD : isIn nmD m = false := by
        cases h : isIn nmD m with
        | false => rfl
        | true => rw [(hD h).2.1] at hB'; cases hB'
      rw [if_pos hB']; exact dv_end Y vs s m false (dsB s) (zeros vs) hn okB hs lz hv (by rw [zeros_sum]; omega) hnD
    rw [if_neg hB']
    by_cases hC' : isIn nmC m = true
    · have hnD : isIn nmD m = false := by
        cases h : isIn nmD m with
        | false => rfl
        | true => rw [(hD h).2.2] at hC'; cases hC'
      rw [if_pos hC']; exact dv_end Y vs s m false (dsC s) (zeros vs) hn okC hs lz hv (by rw [zeros_sum]; omega) hnD
    rw [if_neg hC']
    by_cases hD' : isIn nmD m = true
    · rw [if_pos hD']; exact dv_end Y vs s m true (dsD s) (ones vs) hn okD hs lo hv (ones_sum vs) hD'
    rw [if_neg hD']
    have hnD : isIn nmD m = false := by simpa using hD'
    by_cases hE' : isIn nmE m = true
    · rw [if_pos hE']; exact dv_end Y vs s m false (dsA s) (ones vs) hn okA hs lo hv (ones_sum vs) hnD
    · rw [if_neg hE']; exact dv_end Y vs s m false (dsF s) (ones vs) hn okF hs lo hv (ones_sum vs) hnD
end Mine

set_option maxHeartbeats 400000
namespace Mine
open PySem PySem.Calls PyProof.Rows PyProof PySem.W

theorem Room.deeper {A : Around} {d d' : Nat} (r : Room A d) (h : d' < d) (env : Env) : Room (A.deeper env) d' := by
  refine ⟨r.1, ?_, ?_⟩
  · have := r.2.1
    rw [depth_deeper]; omega
  · have := r.2.2
    rw [units_deeper]; omega

def lawNames : List Str := ["jefferson", "hamilton", "quota", "dhondt", "lrm", "greatestdivisors", "largest_remainder", "webster", "saintelague", "majorfractions", "modified_saintelague", "adams", "smallestdivisor", "hill", "huntington", "equalproportions", "dean", "harmonicmean"]
def nmL : List Str := ["lrm", "hamilton", "largest_remainder"]
def nm14 : List Str := ["dhondt", "jefferson", "saintelague", "webster", "modified_saintelague", "huntington", "hill", "adams", "dean", "smallestdivisor", "harmonicmean", "equalproportions", "majorfractions", "greatestdivisors"]
def meth (m : Str) (vs : List Int) (s : Nat) : List Int := if m == "quota" then quo vs s else if isIn nmL m then lrm vs s else dv m vs s

structure Lay6 (W : Wd) extends Lay5 W where
  aCo : Addr
  rCo : Rest
  tCo : Addr
  gCo : W.mg "compute" = some (.ref aCo)
  fCo : FnK W aCo (fdOf (stmtAt 3) (.ref tCo) rCo)
  dCo : ∃ o n, W.K.lookup tCo = some o ∧ o.data = .seq #[.none, .bool true] n
  aNm : Addr
  rNm : Rest
  gNm : W.mg "_law_names" = some (.ref aNm)
  fNm : FnK W aNm (fdOf (stmtAt 23) .none rNm)

def isStrs : List Expr → List Str → Bool
  | [], [] => true
  | .Constant (.str x) _ _ :: es, y :: ys => x == y && isStrs es ys
  | _, _ => false
theorem evalsL_strs {Γ : Cx} : ∀ {es : List Expr} {ss : List Str}, isStrs es ss = true → EvalsL Γ es (ss.map .str)
  | [], [], _ => EvalsL.nil
  | [], _ :: _, h => by simp [isStrs] at h
  | e :: es, ss, h => by
    unfold isStrs at h
    split at h
    · rename_i h1; cases h1
    · rename_i h1
      cases h1
      rw [Bool.and_eq_true, beq_iff_eq] at h
      obtain ⟨rfl, h⟩ := h
      exact EvalsL.cons Evals.str (evalsL_strs h)
    · cases h
theorem Evals.strs {Γ : Cx} {es : List Expr} {pos : Pos} (ss : List Str) (h : isStrs es ss = true) (hsz : (ss.map PV.str).length ≤ 4096) : Evals Γ true (.List es pos) (.list (ss.map .str)) := Evals.list (evalsL_strs h) hsz
theorem Tests.inNames {Γ : Cx} {e : Expr} {es : List Expr} {pos p2 : Pos} {m : Str} {fr : Bool} (ss : List Str) (he : Evals Γ fr e (.str m)) (h : isStrs es ss = true) (hsz : (ss.map PV.str).length ≤ 4096) (hm : behindInMarks .In (.List es pos) = false) : Tests Γ (.Compare e [.In] [.List es pos] p2) (isIn ss m) :=
  Tests.cmp (CmpSem.inStrs (ys := ss)) he (Evals.weak (Evals.strs ss h hsz)) hm
theorem l14 : (nm14.map PV.str).length ≤ 4096 := by rw [List.length_map]; simp [nm14]
theorem lnl : (lawNames.map PV.str).length ≤ 4096 := by rw [List.length_map]; simp [lawNames]
theorem bind_none (r : Rest) : bindArgs (fdOf (stmtAt 23) .none r) ⟨[], []⟩ = pure [] := by
  simp only [fdOf, fnOf]
  rw [show argsOf (stmtAt 23) = { posonlyargs := [], args := [], vararg := none, kwonlyargs := [], kw_defaults := [], kwarg := none, defaults := [] } by rfl]
  rfl
theorem c_names {W : Wd} (Y : Lay6 W) : Contract W Y.aNm 0 [] [] [] (.list (lawNames.map .str)) := by
  refine contract_of (xs := []) (dps := []) Y.fNm rfl (by rfl) (by rfl) (by rfl) (fun s vs kvs hI hv hkv => ?_) fun A hA st X hI ok hr => ?_
  · match vs, kvs, hv, hkv with
    | [], [], _, _ => exact ⟨[], BindsTo.of_eq (bind_none _), .nil⟩
  · conv => arg 3; whnf
    with_reducible refine Execs.ret ?_
    with_reducible refine Exec.ret (fr := true) ?_
    intro X
    with_reducible refine Evals.strs lawNames ?_ lnl
    rfl

/-- a method may be run upon these votes -/
structure MOK (m : Str) (vs : List Int) (s : Nat) : Prop where
  len : 1 ≤ vs.length ∧ vs.length ≤ 6
  seats : 1 ≤ s ∧ s ≤ 5
  votes : ∀ v ∈ vs, 0 ≤ v ∧ v < 1000000
  sum : 0 < vs.sum ∧ vs.sum < 1000000
  lr : isIn nmL m = true → (lrR0 vs s).sum < s → (s : Int) ≤ vs.length + (lrR0 vs s).sum
  kind : (m == "quota") = true ∨ isIn nmL m = true ∨ (isIn nm14 m = true ∧ dvKnown m = true ∧ (dvFew m = true ∨ vs.length ≤ s) ∧ (isIn nmD m = true → isIn nmA m = false ∧ isIn nmB m = false ∧ isIn nmC m = false))

theorem c_co {W : Wd} (Y : Lay6 W) (m : Str) (vs zs : List Int) (s : Nat) (ks dps : List PV) (t : PV) (hk : (ks = [t] ∧ dps = [.bool true]) ∨ (ks = [] ∧ t = .none ∧ dps = [.none, .bool true]))
    (ct : Contract W Y.aThr 0 [.list (vs.map .int), t] [] [] (.list (zs.map .int))) (h : MOK m zs s) :
    Contract W Y.aCo 1 ([.str m, .list (vs.map .int), .int s] ++ ks) [] [] (.list ((meth m zs s).map .int)) := by
  have run : ∀ A hA st X hI ok, Room A 1 → Execs (frameOf W A hA (fdOf (stmtAt 3) (.ref Y.tCo) Y.rCo) Y.aCo st X hI (by rfl) Y.fCo.glob Y.fCo.blt ok) ⟨[("method", .str m), ("votes", .list (vs.map .int)), ("seats", .int s), ("threshold", t), ("tiesallowed", .bool true)], none, []⟩ (bodyOf (stmtAt 3)) (.ret (.list ((meth m zs s).map .int))) := by
    intro A hA st X hI ok hr
    have hin : ∀ X' ρ, ((frameOf W A hA (fdOf (stmtAt 3) (.ref Y.tCo) Y.rCo) Y.aCo st X hI (by rfl) Y.fCo.glob Y.fCo.blt ok).cx X' ρ).In W 0 := fun X' ρ => ⟨rfl, rfl, rfl, fun _ h => h, hr.deeper (by omega) _⟩
    refine Execs.cons (Exec.assign (pv := .list (zs.map .int)) (.inr ⟨_, fun X => Evals.call (hin _ _) Y.fThr ct (Nat.le_refl _) (.top Y.gThr (fun _ h => h) rfl) (EvalsL.cons (Evals.name rfl) (EvalsL.cons (Evals.name rfl) EvalsL.nil))⟩) (by rfl) (by rfl) rfl) ?_
    unfold meth
    refine Execs.ret (Exec.ite (b := m == "quota") (fun X => Tests.cmp CmpSem.eqs (Evals.name rfl) Evals.str) (fun hq => ?_) (fun hq => ?_))
    · rw [if_pos hq]
      have h0 : zs ≠ [] := fun e => by have := h.len.1; rw [e] at this; simp at this
      exact Execs.ret (Exec.ret fun X => Evals.call (hin _ _) Y.fQu (c_quota Y.toLay4 zs s (by have := h.len; omega) h0 h.votes (by have := h.seats; omega) h.sum) (Nat.le_refl _) (.top Y.gQu (fun _ h => h) rfl) (EvalsL.cons (Evals.name rfl) (EvalsL.cons (Evals.name rfl) (EvalsL.cons (Evals.name rfl) EvalsL.nil))))
    · rw [hq, if_neg (by simp)]
      refine Execs.ret (Exec.ite (b := isIn nmL m) (fun X => Tests.as (Tests.cmp (CmpSem.inStrs (ys := nmL)) (Evals.name rfl) (Evals.weak (Evals.list (EvalsL.cons Evals.str (EvalsL.cons Evals.str (EvalsL.cons Evals.str EvalsL.nil))) (by rw [List.length_map]; decide)))) rfl) (fun hl => ?_) (fun hl => ?_))
      · rw [if_pos hl]
        exact Execs.ret (Exec.ret fun X => Evals.call (hin _ _) Y.fLr (c_lr Y.toLay3 zs s (by have := h.len; omega) (by have := h.seats; omega) h.sum (h.lr hl)) (Nat.le_refl _) (.top Y.gLr (fun _ h => h) rfl) (EvalsL.cons (Evals.name rfl) (EvalsL.cons (Evals.name rfl) (EvalsL.cons (Evals.name rfl) EvalsL.nil))))
      · rw [hl, if_neg (by simp)]
        obtain ⟨h14, hkn, hfew, hD⟩ : isIn nm14 m = true ∧ dvKnown m = true ∧ (dvFew m = true ∨ zs.length ≤ s) ∧ (isIn nmD m = true → isIn nmA m = false ∧ isIn nmB m = false ∧ isIn nmC m = false) := by
          rcases h.kind with q | q | q
          · rw [hq] at q; cases q
          · rw [hl] at q; cases q
          · exact q
        with_reducible refine Execs.ret ?_
        with_reducible refine Exec.ite (b := isIn nm14 m) ?_ ?_ ?_
        · intro X
          with_reducible refine Tests.inNames (fr := false) nm14 ?_ ?_ l14 ?_
          · exact Evals.name rfl
          · rfl
          · with_unfolding_all rfl
        · intro _
          exact Execs.ret (Exec.ret fun X => Evals.call (hin _ _) Y.fDv (c_dv Y.toLay5 zs s m hkn h.len h.seats h.votes hfew hD) (Nat.le_refl _) (.top Y.gDv (fun _ h => h) rfl) (EvalsL.cons (Evals.name rfl) (EvalsL.cons (Evals.name rfl) (EvalsL.cons (Evals.name rfl) (EvalsL.cons (Evals.name rfl) EvalsL.nil)))))
        · intro q; rw [h14] at q; cases q
  rcases hk with ⟨rfl, rfl⟩ | ⟨rfl, rfl, rfl⟩
  · refine contract_of (xs := ["method", "votes", "seats", "threshold", "tiesallowed"]) (dps := [.bool true]) Y.fCo rfl (by rfl) (by rfl) (by rfl) (fun s vs kvs hI hv hkv => ?_) fun A hA st X hI ok hr => run A hA st X hI ok hr
    match vs, kvs, hv, hkv with
    | [u, v, y, z], [], _, _ =>
      obtain ⟨o, n, h1, h2⟩ := Y.dCo
      exact ⟨[.bool true], BindsTo.of_defaults rfl (hI.1 _ _ h1) h2 rfl rfl, .cons (.bool _) .nil⟩
  · refine contract_of (xs := ["method", "votes", "seats", "threshold", "tiesallowed"]) (dps := [.none, .bool true]) Y.fCo rfl (by rfl) (by rfl) (by rfl) (fun s vs kvs hI hv hkv => ?_) fun A hA st X hI ok hr => run A hA st X hI ok hr
    match vs, kvs, hv, hkv with
    | [u, v, y], [], _, _ =>
      obtain ⟨o, n, h1, h2⟩ := Y.dCo
      exact ⟨[.none, .bool true], BindsTo.of_defaults rfl (hI.1 _ _ h1) h2 rfl rfl, .cons .none (.cons (.bool _) .nil)⟩
end Mine

namespace Mine
open PySem PySem.Calls PyProof.Rows PyProof PySem.W

/-- a frame whose caller's things date from s₀ -/
def frameFrom (W : Wd) (A : Around) (hA : A.handled = none) (fd : FuncData) (a : Addr) (L : Addr) (s₀ : Shared) (X : Addr → Prop) (hI : W.I s₀.heap) (hk : fd.scope.kind = .function) (hg : fd.globals = mainGlobals) (hb : fd.builtins = builtinsNs) (ok : EnvOK fd a L) : Fm :=
  { prog := W.prog, w := W.w, T := W.T, A := A.deeper (callEnvC fd L a), env := callEnvC fd L a, I := W.I, Ist := W.Ist, hh := hA, hk := hk, hg := hg, hb := hb, ap := ok.ap, nf := ok.nf, s₀ := s₀, Xc := X, I₀ := hI }

/-- what a body leaves, told to its caller -/
def Left (T : Addr → Prop) (B : Addr → Prop) (s₀ : Shared) (D : Addr → Prop) (s : Shared) : Out → Value → Shared → Prop
  | .next σ', v, s' => v = .none ∧ Kp T D No s s' ∧ ∃ D', (∀ b, D' b → D b ∨ s.heap.get? b = none) ∧ (∀ b, D' b → s₀.heap.get? b = none ∧ (s'.heap.get? b).isSome = true) ∧ match σ'.own with
    | none => True
    | some w => ∃ u, w.P s'.heap u D' ∧ ∀ x, σ'.pins.lookup w.name = some x → u = x
  | .ret pv, v, s' => Kp T D No s s' ∧ VR s'.heap (fun b => B b ∧ (s'.heap.get? b).isSome = true) pv v
  | .cont _, _, _ => False

/-- a function is entered -/
theorem enterC {W : Wd} {A : Around} {s s₀ : Shared} {a : Addr} {fd : FuncData} {body : List Stmt} {d : Nat} {xs : List Str} {vs us : List Value} {kws : List (Str × Value)} {Xc D : Addr → Prop} {σ : St} {R : Result → Shared → Prop}
    (fn : FnK W a fd) (hbody : fd.body = .stmts body) (hsc : scopeOK fd.scope = true) (hbs : bindsOK fd.scope xs = true) (hk : fd.scope.kind = .function)
    (hr : Room A d) (k0 : K0 W.T s₀ s) (hI : W.I s₀.heap) (hbind : BindsTo s fd ⟨vs, kws⟩ (xs.zip us))
    (hD : ∀ b, D b → s₀.heap.get? b = none ∧ (s.heap.get? b).isSome = true)
    (hρ : ∀ x pv, σ.ρ.lookup x = some pv → ∃ v, (x, v) ∈ xs.zip us ∧ VR s.heap (fun b => (Xc b ∨ s₀.heap.get? b = none) ∧ ¬ D b) pv v)
    (ho : match σ.own with | none => ∀ b, ¬ D b | some w => ∃ v, (w.name, v) ∈ xs.zip us ∧ w.P s.heap v D)
    (hp : ∀ x v, σ.pins.lookup x = some v → (x, v) ∈ xs.zip us)
    (run : ∀ ok s₁ E', (frameFrom W A hr.1 fd a s.heap.objs.size s₀ Xc hI hk fn.glob fn.blt ok).Ok σ D s₁ → K0 W.T s s₁ → (∀ b, (frameFrom W A hr.1 fd a s.heap.objs.size s₀ Xc hI hk fn.glob fn.blt ok).Fr b → s.heap.get? b = none) →
      wpAny (model W.prog W.w) (A.deeper (callEnvC fd s.heap.objs.size a)) (execs body (callEnvC fd s.heap.objs.size a)) (fun f s' => R (.ok (.ret (match f with | .ret v => v | _ => .none))) s') E' s₁) : codeAny (model W.prog W.w) A (.call (.ref a) ⟨vs, kws⟩) R s := by
  have hIs := W.Ist _ _ k0 hI
  obtain ⟨o, hob, hdata⟩ := fn.at_
  have ho' := hIs.1 a o hob
  have ok := envOK (a := a) hsc s
  have hsc' := hsc
  simp only [bindsOK, Bool.and_eq_true, decide_eq_true_eq, List.all_eq_true, Bool.or_eq_true, beq_iff_eq] at hbs
  simp only [scopeOK, Bool.and_eq_true, decide_eq_true_eq, List.all_eq_true, bne_iff_ne, ne_eq] at hsc
  obtain ⟨⟨⟨⟨_, hg⟩, hc⟩, hn⟩, hf⟩ := hsc
  refine codeAny_call_function (by have := hr.2.1; omega) ho' hdata hc hg hbody (codeRec_of hIs.1 fn.code) (hbind _ _ _ _ ?_)
  rw [fn.clo]
  have hcl : ∀ x, (x, NameKind.cell) ∈ fd.scope.names → ((cellsFrom (s.heap.objs.size + 1) fd.scope.names []).lookup x).isSome = true := fun x hx => by
    obtain ⟨c, h1, _⟩ := cellsFrom_cell x fd.scope.names (s.heap.push { cls := .type "frame", data := .dict #[] }) [] hx hn
    rw [Heap.size_push] at h1
    rw [h1]; rfl
  refine wpAny_newFunctionEnv_cells hk (fun p hp => ?_) fun env he s' x => ?_
  · obtain ⟨y, u⟩ := p
    rcases hbs.2 y (List.of_mem_zip hp).1 with h | h
    · exact .inl h
    · exact .inr ⟨h, hcl y (mem_of_lookup h)⟩
  subst he
  refine ⟨hIs.2.2.2.1.keeps x.toInCall.keep, codeAny_func ?_⟩
  obtain ⟨h', tk, rfl⟩ := x.toInCall.same
  have keep := x.toInCall.keep
  let F := frameFrom W A hr.1 fd a s.heap.objs.size s₀ Xc hI hk fn.glob fn.blt ok
  have kk : K0 W.T s { s with heap := h', toks := tk } := K0.of_keep keep
  have frs : ∀ b, F.Fr b → s.heap.get? b = none := fun b hb => by
    rcases hb with rfl | ⟨y, hky, hc⟩
    · exact Heap.get?_none_of_le x.toInCall.fresh
    · exact Heap.get?_none_of_le (Nat.le_trans x.toInCall.fresh (Nat.le_of_lt (x.above y b (mem_of_lookup hc))))
  have nd : (((xs.zip us).map (·.1))).Nodup := nodup_fst_zip hbs.1
  have var : ∀ y v, (y, v) ∈ xs.zip us → VarAt F.env h' y v := fun y v hm => by
    rcases hbs.2 y (List.of_mem_zip hm).1 with h | h
    · exact .inl ⟨h, _, x.toInCall.ns, bindL_get h nd hm⟩
    · obtain ⟨c, hc⟩ := Option.isSome_iff_exists.mp (hcl y (mem_of_lookup h))
      refine .inr ⟨.inl h, c, hc, ?_⟩
      have e1 : bindC (callEnvC fd s.heap.objs.size a).kindOf (xs.zip us) (fun _ => none) y = some v := bindC_get (show (callEnvC fd s.heap.objs.size a).kindOf y ≠ some .local from fun q => by rw [show (callEnvC fd s.heap.objs.size a).kindOf y = some .cell from h] at q; cases q) nd hm
      have e2 := x.cell y c hc
      show h'.IsCell c (some v)
      rw [← e1]; exact e2
  have okF : F.Ok σ D { s with heap := h', toks := tk } := by
    refine ⟨k0.trans kk, fun b hb => none_of_K k0 (frs b hb), ⟨_, x.toInCall.ns⟩, fun y hy => ?_, fun y pv e => ?_, ?_, fun y v e => var y v (hp y v e), fun b h => ⟨(hD b h).1, fun q => ?_, kk.live b (hD b h).2⟩⟩
    · have hy : fd.scope.names.lookup y = some .cell := hy
      obtain ⟨c, hc⟩ := Option.isSome_iff_exists.mp (hcl y (mem_of_lookup hy))
      exact ⟨c, _, hc, x.cell y c hc⟩
    · obtain ⟨v, hm, hvr⟩ := hρ y pv e
      refine ⟨v, hvr.live.mono (fun b ob _ e _ => keep b ob e) (fun b hb => ⟨hb.1.1, fun q => ?_⟩), var y v hm⟩
      rcases q with q | q
      · have := hb.2; rw [frs b q] at this; cases this
      · exact hb.1.2 q
    · split at ho
      · rename_i e; (try rw [e]); exact ho
      · rename_i w e
        try rw [e]
        obtain ⟨v, hm, hw⟩ := ho
        exact ⟨v, w.loc _ _ _ _ (fun b ob _ e _ => keep b ob e) hw, var _ v hm⟩
    · have := (hD b h).2; rw [frs b q] at this; cases this
  exact run ok _ _ okF kk frs

/-- a function is entered -/
theorem enterW {W : Wd} {A : Around} {E : Value → Shared → Prop} {s s₀ : Shared} {a : Addr} {fd : FuncData} {body : List Stmt} {d : Nat} {xs : List Str} {vs us : List Value} {kws : List (Str × Value)} {Xc D : Addr → Prop} {σ : St} {Q : Value → Shared → Prop}
    (fn : FnK W a fd) (hbody : fd.body = .stmts body) (hsc : scopeOK fd.scope = true) (hbs : bindsOK fd.scope xs = true) (hk : fd.scope.kind = .function)
    (hr : Room A d) (k0 : K0 W.T s₀ s) (hI : W.I s₀.heap) (hbind : BindsTo s fd ⟨vs, kws⟩ (xs.zip us))
    (hD : ∀ b, D b → s₀.heap.get? b = none ∧ (s.heap.get? b).isSome = true)
    (hρ : ∀ x pv, σ.ρ.lookup x = some pv → ∃ v, (x, v) ∈ xs.zip us ∧ VR s.heap (fun b => (Xc b ∨ s₀.heap.get? b = none) ∧ ¬ D b) pv v)
    (ho : match σ.own with | none => ∀ b, ¬ D b | some w => ∃ v, (w.name, v) ∈ xs.zip us ∧ w.P s.heap v D)
    (hp : ∀ x v, σ.pins.lookup x = some v → (x, v) ∈ xs.zip us)
    (run : ∀ ok s₁ E', (frameFrom W A hr.1 fd a s.heap.objs.size s₀ Xc hI hk fn.glob fn.blt ok).Ok σ D s₁ → K0 W.T s s₁ → (∀ b, (frameFrom W A hr.1 fd a s.heap.objs.size s₀ Xc hI hk fn.glob fn.blt ok).Fr b → s.heap.get? b = none) →
      wpAny (model W.prog W.w) (A.deeper (callEnvC fd s.heap.objs.size a)) (execs body (callEnvC fd s.heap.objs.size a)) (fun f s' => Q (match f with | .ret v => v | _ => .none) s') E' s₁) : wpAny (model W.prog W.w) A (call (.ref a) vs kws) Q E s := by
  exact wpAny_call (enterC fn hbody hsc hbs hk hr k0 hI hbind hD hρ ho hp run)

/-- a function is entered -/
theorem enter {W : Wd} {A : Around} {E : Value → Shared → Prop} {s s₀ : Shared} {a : Addr} {fd : FuncData} {body : List Stmt} {d : Nat} {xs : List Str} {vs us : List Value} {kws : List (Str × Value)} {Xc D : Addr → Prop} {σ : St} {out : Out} {Q : Value → Shared → Prop}
    (fn : FnK W a fd) (hbody : fd.body = .stmts body) (hsc : scopeOK fd.scope = true) (hbs : bindsOK fd.scope xs = true) (hk : fd.scope.kind = .function)
    (hr : Room A d) (k0 : K0 W.T s₀ s) (hI : W.I s₀.heap) (hbind : BindsTo s fd ⟨vs, kws⟩ (xs.zip us))
    (hD : ∀ b, D b → s₀.heap.get? b = none ∧ (s.heap.get? b).isSome = true)
    (hρ : ∀ x pv, σ.ρ.lookup x = some pv → ∃ v, (x, v) ∈ xs.zip us ∧ VR s.heap (fun b => (Xc b ∨ s₀.heap.get? b = none) ∧ ¬ D b) pv v)
    (ho : match σ.own with | none => ∀ b, ¬ D b | some w => ∃ v, (w.name, v) ∈ xs.zip us ∧ w.P s.heap v D)
    (hp : ∀ x v, σ.pins.lookup x = some v → (x, v) ∈ xs.zip us)
    (run : ∀ ok, Execs (frameFrom W A hr.1 fd a s.heap.objs.size s₀ Xc hI hk fn.glob fn.blt ok) σ body out)
    (hout : ∀ σ', out ≠ .cont σ') (hQ : ∀ v s', Left W.T (fun b => Xc b ∨ s₀.heap.get? b = none) s₀ D s out v s' → Q v s') : wpAny (model W.prog W.w) A (call (.ref a) vs kws) Q E s := by
  refine enterW fn hbody hsc hbs hk hr k0 hI hbind hD hρ ho hp fun ok s₁ E' okF kk frs => ?_
  let F := frameFrom W A hr.1 fd a s.heap.objs.size s₀ Xc hI hk fn.glob fn.blt ok
  refine wpAny_mono (run ok _ D _ okF) (fun f s₂ h₂ => ?_) fun _ _ e => e
  have kpD : ∀ {s₂}, Kp W.T (F.Mut D) No s₁ s₂ → Kp W.T D No s s₂ := fun kp => kk.of0.comp kp fun b h => by
    rcases h with h | h
    · exact .inr (frs b h)
    · exact .inl h
  cases out with
  | next σ' => cases f with
    | next =>
      obtain ⟨D', g⟩ := h₂
      refine hQ _ _ ⟨rfl, kpD g.kp, D', fun b hb => (g.new b hb).imp id fun h => none_of_K kk h, fun b hb => ⟨(g.ok.dF b hb).1, (g.ok.dF b hb).2.2⟩, ?_⟩
      have ow := g.ok.own
      split at ow
      · rename_i e; (try rw [e]); trivial
      · rename_i w e
        try rw [e]
        obtain ⟨u, hu, hva⟩ := ow
        exact ⟨u, hu, fun z hz => varAt_ref hva (g.ok.pins _ _ hz)⟩
    | _ => exact h₂.elim
  | cont σ' => cases f with
    | cont => exact absurd rfl (hout σ')
    | _ => exact h₂.elim
  | ret pv => cases f with
    | ret v =>
      obtain ⟨kp, vr⟩ := h₂
      exact hQ _ _ ⟨kpD kp, vr.live.mono (fun _ _ _ h _ => h) fun b hb => ⟨hb.1.1, hb.2⟩⟩
    | _ => exact h₂.elim
end Mine

set_option maxHeartbeats 2000000
namespace Mine
open PySem PySem.Calls PyProof.Rows PyProof PySem.W

section
variable {prog : Program} {w : World} {A : Around} {E : Value → Shared → Prop} {s : Shared} {K : Frag} {x dx C : Addr} {ox : Obj} {es es' : List DictEntry} {n n' : Nat} {name : Str} {v : Value}

/-- an attribute is laid into an object's own dict, and nothing else is touched -/
theorem setAttr_own {Q : Unit → Shared → Prop} (X : K.In s.heap) (I : InstAt s.heap x ox C (some (dictOf es n))) (hd : ox.dict = some dx)
    (hs : findIn K (.ref C) "__setattr__" = some (some (.builtin "object.__setattr__"))) (hp : plainOver K C = true) (ht : takerIn K C name = some none) (hh : hasDictIn K C = true)
    (hl : (getL name es).isSome = true) (e : (putL name (PyData.keyHash w.params name) (.str name (s.toks + 1)) v es, putN name es n) = (es', n')) (hz : es'.length ≤ 1000)
    (h : ∀ h', h'.get? dx = some (dictOf es' n') → Heap.SameBut dx s.heap h' → Q () { s with heap := h', toks := s.toks + 2 }) :
    wpAny (model prog w) A (setAttr (.ref x) name v) Q E s := by
  refine set_plain X I hs (osa_open (s := { s with toks := s.toks + 1 }) X I hp ht fun b => ?_)
  obtain ⟨cd, hc, hd'⟩ := any_some hh
  obtain ⟨hx, hcl, hn, hD⟩ := I
  obtain ⟨oc, odi, oda, osl⟩ := ox
  dsimp only at hcl hd hD
  subst hcl hd
  dsimp only at hD
  obtain ⟨e1, e2⟩ := Prod.mk.inj e
  refine wpAny_bind (wpAny_pure (wpAny_bind (wpAny_bind (wpAny_loadPart hx (wpAny_bind (Looks.here (s := { s with toks := s.toks + 1 }) (looks_clsIn X hc) ?_))))))
  rw [hd']
  refine wpAny_pure (a := some dx) (wpAny_bind (wpAny_pure (wpAny_bind ?_)))
  unfold nsSet
  refine wpAny_bind (wpAny_bind (wpAny_askSetting (wpAny_pure (wpAny_bind (wpAny_mkText (wpAny_bind (wpAny_loadPart hD ?_)))))))
  have c : (!(es.toArray).any (·.key.isStr name) && (es.toArray).any (·.refKey)) = false := by
    unfold getL at hl
    rw [← Array.any_toList, ← Array.any_toList]
    show (!es.any (·.key.isStr name) && es.any (·.refKey)) = false
    cases hf : es.find? (·.key.isStr name) with
    | some en => rw [List.any_eq_true.mpr ⟨en, List.mem_of_find?_eq_some hf, List.find?_some hf⟩]; rfl
    | none =>
      rw [hf] at hl
      cases hr : es.any (·.refKey) with
      | false => rw [Bool.and_false]
      | true => dsimp only at hl; rw [hr, if_pos rfl] at hl; cases hl
  dsimp only
  rw [aRefKeyMayBeTheName_at, c]
  have ho : Obj.putName name (PyData.keyHash w.params name) (.str name (s.toks + 1)) v (dictOf es n) = dictOf es' n' := by rw [putName_dict, e1, e2]
  have hself : (s.heap.update dx (Obj.putName name (PyData.keyHash w.params name) (.str name (s.toks + 1)) v)).get? dx = some (dictOf es' n') := by
    rw [Heap.get?_update_self _ hD (by rw [ho]; rfl), ho]
  refine wpAny_updatePart hD ?_
  refine wpAny_bind (wpAny_lookBehind hself (pastItsLine_dict (by rw [List.size_toArray, sizeLine_eq]; omega)) ?_)
  exact wpAny_pure (h _ hself (Heap.SameBut.update ..))
end
end Mine

namespace Mine
open PySem PySem.Calls PyProof.Rows PyProof PySem.W

/-- an object that is the frame's own, its fields known; D holds all that it reaches -/
def Own.inst (nm : Str) (C : Addr) (ks : List Str) (fs : List PV) : Own where
  name := nm
  pv := .inst C ks fs
  P := fun h v D => (∀ b, D b → ∃ o, h.get? b = some o ∧ tab o = false) ∧ ∃ x dx sl es n vs, v = .ref x ∧ D x ∧ D dx ∧ h.get? x = some ⟨.ref C, some dx, .plain, sl⟩ ∧ h.get? dx = some (dictOf es n) ∧ fieldsOK ks vs es ∧ es.length = ks.length ∧ VRs h (fun b => D b ∧ b ≠ x ∧ b ≠ dx) fs vs
  read := fun h v D ⟨_, x, dx, sl, es, n, vs, e, hx, hdx, h1, h2, hf, _, hv⟩ => by subst e; exact .inst hx hdx h1 h2 hf (hv.mono (fun _ _ _ h _ => h) fun _ h => h.1)
  loc := fun h h' v D hk ⟨hl, x, dx, sl, es, n, vs, e, hx, hdx, h1, h2, hf, hz, hv⟩ => ⟨fun b hb => by
      obtain ⟨o, ho, ht⟩ := hl b hb
      exact ⟨o, hk b o hb ho ht, ht⟩, x, dx, sl, es, n, vs, e, hx, hdx, hk _ _ hx h1 rfl, hk _ _ hdx h2 rfl, hf, hz, hv.mono (fun b o hb e ht => hk b o hb.1 e ht) fun _ h => h⟩
  live := fun h v D ⟨hl, _⟩ b hb => by
    obtain ⟨o, ho, _⟩ := hl b hb
    rw [ho]; rfl

/-- one more name in an object's dict -/
theorem fieldsOK_put {ks : List Str} {vs : List Value} {es : List DictEntry} {name : Str} {hash : Int} {t : Tok} {v : Value} (hf : fieldsOK ks vs es) (hl : vs.length = ks.length) (hnew : ks.contains name = false) :
    fieldsOK (ks ++ [name]) (vs ++ [v]) (putL name hash (.str name t) v es) ∧ putL name hash (.str name t) v es = es ++ [⟨hash, .str name t, v⟩] := by
  have hno := hf name
  have hk : (ks.zip vs).lookup name = none := by
    rw [List.lookup_eq_none_iff]
    intro p hp
    obtain ⟨y, u⟩ := p
    have hy := (List.of_mem_zip hp).1
    simp only [bne_iff_ne, ne_eq, beq_eq_false_iff_ne, bne_self_eq_false]
    intro e
    have e : name = y := by simpa using e
    subst e
    rw [List.contains_iff_mem.mpr hy] at hnew; cases hnew
  rw [hk] at hno
  have h1 : es.find? (·.key.isStr name) = none ∧ es.any (·.refKey) = false := by
    unfold getL at hno
    split at hno
    · cases hno
    · rename_i h
      split at hno
      · cases hno
      · rename_i h2; exact ⟨h, by simpa using h2⟩
  have hput : putL name hash (.str name t) v es = es ++ [⟨hash, .str name t, v⟩] := by
    have hn := h1.1
    clear hf hno h1 hk
    induction es with
    | nil => rfl
    | cons e r ih =>
      rw [List.find?_cons] at hn
      unfold putL
      split at hn
      · cases hn
      · rename_i he
        rw [he, if_neg (by simp), ih hn]; rfl
  refine ⟨fun m => ?_, hput⟩
  rw [hput, List.zip_append (by omega : ks.length = vs.length)]
  have hm := hf m
  unfold getL at hm ⊢
  rw [List.find?_append, List.any_append, h1.2]
  rw [h1.2] at hm
  rw [List.lookup_append]
  cases hfm : es.find? (·.key.isStr m) with
  | some en =>
    rw [hfm] at hm
    have : (ks.zip vs).lookup m = some en.val := (Option.some.inj hm).symm
    rw [this]; rfl
  | none =>
    rw [hfm] at hm
    have : (ks.zip vs).lookup m = none := by
      have := hm
      simp at this
      exact this.symm
    rw [this]
    by_cases e : m = name
    · subst e
      simp [Value.isStr]
    · have e' : (m == name) = false := by simpa using e
      have e'' : (Value.str name t).isStr m = false := by
        unfold Value.isStr
        simp; exact fun q => e q.symm
      simp [e'', DictEntry.refKey, List.lookup_cons, e']
end Mine

set_option maxHeartbeats 2000000
namespace Mine
open PySem PySem.Calls PyProof.Rows PyProof PySem.W

mutual
theorem VR.firm {h : Heap} {X : Addr → Prop} : ∀ {p : PV} {v : Value}, VR h X p v → VR h (fun b => X b ∧ ∃ o, h.get? b = some o ∧ tab o = false) p v
  | _, _, .none => .none
  | _, _, .bool b => .bool b
  | _, _, .int i t => .int i t
  | _, _, .str x t => .str x t
  | _, _, .list x ho hc hd hv => .list ⟨x, _, ho, tab_of_cls hc⟩ ho hc hd (VRs.firm hv)
  | _, _, .tup x ho hc hd hv => .tup ⟨x, _, ho, tab_of_cls hc⟩ ho hc hd (VRs.firm hv)
  | _, _, .range x hr => .range ⟨x, _, hr, rfl⟩ hr
  | _, _, .obj x ho ht hi hP => .obj ⟨x, _, ho, ht⟩ ho ht hi hP
  | _, _, .inst x xd hx hd hf hv => .inst ⟨x, _, hx, rfl⟩ ⟨xd, _, hd, rfl⟩ hx hd hf (VRs.firm hv)
theorem VRs.firm {h : Heap} {X : Addr → Prop} : ∀ {p : List PV} {v : List Value}, VRs h X p v → VRs h (fun b => X b ∧ ∃ o, h.get? b = some o ∧ tab o = false) p v
  | _, _, .nil => .nil
  | _, _, .cons a b => .cons (VR.firm a) (VRs.firm b)
end

/-- the value is new, all of it -/
def NewVal (F : Fm) (σ : St) (e : Expr) (pv : PV) : Prop := ∀ (E : Value → Shared → Prop) D s, F.Ok σ D s → wpAny F.M F.A (eval e F.env) (fun v s' => K0 F.T s s' ∧ VR s'.heap (fun b => s.heap.get? b = none) pv v) E s
theorem NewVal.scalar {F : Fm} {σ : St} {e : Expr} {pv : PV} {fr : Bool} (h : ∀ X, Evals (F.cx X σ.rho) fr e pv) (hp : isScalar pv = true) : NewVal F σ e pv := fun E D s o =>
  wpAny_mono (h _ E s o.cx) (fun v s' q => ⟨q.1, up_scalar' hp q.2.1⟩) fun _ _ e => e

/-- what is looked up of a class, to lay a name into an object -/
structure Lays (K : Frag) (C : Addr) (name : Str) : Prop where
  sa : findIn K (.ref C) "__setattr__" = some (some (.builtin "object.__setattr__"))
  over : plainOver K C = true
  take : takerIn K C name = some none
  dict : hasDictIn K C = true

theorem dict_inst {h : Heap} {x dx C : Addr} {sl : Array (Option Value)} {es : List DictEntry} {n : Nat} (h1 : h.get? x = some ⟨.ref C, some dx, .plain, sl⟩) (h2 : h.get? dx = some (dictOf es n)) : InstAt h x ⟨.ref C, some dx, .plain, sl⟩ C (some (dictOf es n)) := ⟨h1, rfl, rfl, h2⟩

/-- self.name = e -/
theorem Exec.setAttr {F : Fm} {ρ : List (Str × PV)} {pins : List (Str × Value)} {nm name : Str} {C : Addr} {ks : List Str} {fs : List PV} {e : Expr} {pv : PV} {K : Frag} {pn pa pos : Pos} (hK : ∀ h, F.I h → K.In h) (L : Lays K C name)
    (he : NewVal F ⟨ρ, some (Own.inst nm C ks fs), pins⟩ e pv) (hnew : ks.contains name = false) (hlen : fs.length = ks.length) (hsz : ks.length ≤ 90)
    (hs : swapsWith e (some (.Attribute (.Name nm pn) name pa)) pos.line F.env = pure false) (hd : (nm == ("__debug__" : Str)) = false := by decide) (hc : (nm == ("__classdict__" : Str)) = false := by decide) (hmany : True := trivial) :
    Exec F ⟨ρ, some (Own.inst nm C ks fs), pins⟩ (.Assign [.Attribute (.Name nm pn) name pa] e pos) (.next ⟨ρ, some (Own.inst nm C (ks ++ [name]) (fs ++ [pv])), pins⟩) := fun E D s o => by
  refine plainObj_wpAny_Assign_Attribute (wpAny_mono (he E D s o) (fun v s₁ h₁ => ?_) fun _ _ e => e) hs
  obtain ⟨k, hv⟩ := h₁
  have o₁ := o.step k
  obtain ⟨u, ⟨hfirm, x, dx, sl, es, n, vs, rfl, hDx, hDd, hx, hdx, hf, hz, hvs⟩, hua⟩ := o₁.own
  have hvl : vs.length = ks.length := by rw [hvs.length]; exact hlen
  refine load_own hua ?_ hd hc
  have I := dict_inst hx hdx
  have hxd : x ≠ dx := fun q => by subst q; rw [hx] at hdx; cases hdx
  obtain ⟨hput, eput⟩ := fieldsOK_put (hash := PyData.keyHash F.w.params name) (t := s₁.toks + 1) (v := v) hf hvl hnew
  refine setAttr_own (hK _ o₁.base) I rfl L.sa L.over L.take L.dict (by rw [hf name]; rfl) rfl (by rw [eput, List.length_append, hz]; simp; omega) fun h' hd' hsb => ?_
  have hk : ∀ b ob, b ≠ dx → s₁.heap.get? b = some ob → h'.get? b = some ob := fun b ob hb e => hsb.extBut b ob hb e
  let D' : Addr → Prop := fun b => D b ∨ (s.heap.get? b = none ∧ ∃ o, s₁.heap.get? b = some o ∧ tab o = false)
  have hnd : ∀ b, s.heap.get? b = none → b ≠ dx := fun b hb q => by
    have := (o.dF dx hDd).2.2
    rw [← q, hb] at this; cases this
  have k1 : K0 F.T s { s₁ with toks := s₁.toks + 2 } := k.tok
  have kp1 : Kp F.T D No { s₁ with toks := s₁.toks + 2 } { s₁ with heap := h', toks := s₁.toks + 2 } := Kp.of_but (tk := s₁.toks + 2) hsb hDd (by rw [hd']; rfl) fun o' e => by rw [hdx] at e; cases e; rfl
  have hnx : ∀ b, s.heap.get? b = none → b ≠ x := fun b hb q => by
    have := (o.dF x hDx).2.2
    rw [← q, hb] at this; cases this
  have vNew : VR h' (fun b => D' b ∧ b ≠ x ∧ b ≠ dx) pv v := hv.firm.mono (fun b ob hb e _ => hk b ob (hnd b hb.1) e) fun b hb => ⟨.inr hb, hnx b hb.1, hnd b hb.1⟩
  have vOld : VRs h' (fun b => D' b ∧ b ≠ x ∧ b ≠ dx) fs vs := hvs.mono (fun b ob hb e _ => hk b ob hb.2.2 e) fun b hb => ⟨.inl hb.1, hb.2⟩
  have hF : ∀ b, F.Fr b → b ≠ dx := fun b h q => (o.dF dx hDd).2.1 (q ▸ h)
  have vars : ∀ y u, VarAt F.env s₁.heap y u → VarAt F.env h' y u := fun y u h => by
    rcases h with ⟨h1, m', h2, h3⟩ | ⟨h1, c, h2, h3⟩
    · exact .inl ⟨h1, m', h2.at' fun ob e => hk _ ob (hF _ (.inl rfl)) e, h3⟩
    · rcases h1 with h1 | h1
      · refine .inr ⟨.inl h1, c, h2, ?_⟩
        obtain ⟨ob, e1, e2⟩ := h3
        exact ⟨ob, hk _ _ (hF _ (.inr ⟨y, h1, h2⟩)) e1, e2⟩
      · exact absurd h1 (F.nf y)
  have kpAll : Kp F.T (F.Mut D) No s { s₁ with heap := h', toks := s₁.toks + 2 } := k1.of0.trans (kp1.mono (fun _ h => .inr h) fun _ h => h)
  refine ⟨D', ⟨⟨o.k0.fresh kpAll fun b h => o.mutF h, o.frF, ?_, fun y hy => ?_, fun y pv' e => ?_, ⟨.ref x, ⟨fun b hb => ?_, x, dx, sl, _, _, vs ++ [v], rfl, .inl hDx, .inl hDd, hk _ _ hxd hx, hd', hput, by rw [eput, List.length_append, List.length_append, hz]; rfl, vOld.snoc vNew⟩, vars _ _ hua⟩, fun y u e => vars _ _ (o₁.pins y u e), fun b hb => ?_⟩, kpAll, fun b hb => hb.imp id fun h => h.1⟩⟩
  · exact o₁.ns.imp fun m h => h.at' fun ob e => hk _ ob (hF _ (.inl rfl)) e
  · obtain ⟨c, u, h1, ob, e1, e2⟩ := o₁.cells y hy
    exact ⟨c, u, h1, ob, hk _ _ (hF _ (.inr ⟨y, hy, h1⟩)) e1, e2⟩
  · obtain ⟨u, h1, h2⟩ := o.vars y pv' e
    refine ⟨u, h1.live.mono (fun b ob hb e ht => hk b ob (fun q => hb.1.2 (.inr (by rw [q]; exact hDd))) (k.get e ht)) (fun b hb => ⟨hb.1.1, fun q => ?_⟩), vars _ _ (h2.step k)⟩
    rcases q with q | q | q
    · exact hb.1.2 (.inl q)
    · exact hb.1.2 (.inr q)
    · have := hb.2; rw [q.1] at this; cases this
  · rcases hb with hb | ⟨hb, ob, e, ht⟩
    · by_cases q : b = dx
      · subst q; exact ⟨_, hd', rfl⟩
      · obtain ⟨ob, e, ht⟩ := hfirm b hb
        exact ⟨ob, hk b ob q e, ht⟩
    · exact ⟨ob, hk b ob (hnd b hb) e, ht⟩
  · rcases hb with hb | ⟨hb, ob, e, ht⟩
    · obtain ⟨p, q, r⟩ := o₁.dF b hb
      refine ⟨p, q, ?_⟩
      by_cases q : b = dx
      · subst q
        show (h'.get? b).isSome = true
        rw [hd']; rfl
      · obtain ⟨ob, e⟩ := Option.isSome_iff_exists.mp r
        show (h'.get? b).isSome = true
        rw [hk b ob q e]; rfl
    · refine ⟨none_of_K o.k0 hb, fun q => ?_, ?_⟩
      · have := o.frL q; rw [hb] at this; cases this
      · show (h'.get? b).isSome = true
        rw [hk b ob (hnd b hb) e]; rfl
end Mine

set_option maxHeartbeats 2000000
namespace Mine
open PySem PySem.Calls PyProof.Rows PyProof PySem.W

theorem make_weight (C : Addr) (l : List Value) (kw : List (Str × Value)) : (Code.builtin "type.__call__" ⟨.ref C :: l, kw⟩).weight = 1 ∧ (Code.builtin "type.__call__" ⟨.ref C :: l, kw⟩).cUnits = 1 := ⟨by kernel_rfl, by kernel_rfl⟩
theorem Room.make {A : Around} {d d' : Nat} (r : Room A d) (h : d' < d) (C : Addr) (l : List Value) (kw : List (Str × Value)) : Room (A.under (.builtin "type.__call__" ⟨.ref C :: l, kw⟩)) d' := by
  obtain ⟨w1, w2⟩ := make_weight C l kw
  refine ⟨r.1, ?_, ?_⟩
  · have := r.2.1
    show A.depth + (Code.builtin "type.__call__" ⟨.ref C :: l, kw⟩).weight + 10 * d' + 10 < recursionLimit
    rw [w1]; omega
  · have := r.2.2
    show A.units + (Code.builtin "type.__call__" ⟨.ref C :: l, kw⟩).cUnits + 50 * d' + 200 < cLine
    rw [w2]; omega

/-- a class of the top's, made by a plain __init__ -/
structure MakesK (W : Wd) (C fI : Addr) : Prop where
  makes : makesIn W.K C = true
  init : findIn W.K (.ref C) "__init__" = some (some (.ref fI))
  fn : typeIn W.K (.ref fI) = some (.type "function")
  keep : keepIn W.K (.ref C) = true

/-- what a call of a class gives -/
def MakeContract (W : Wd) (C : Addr) (d : Nat) (ps : List PV) (ks : List Str) (kps : List PV) (nks : List Str) (fs : List PV) : Prop :=
  ∀ (A : Around) (E : Value → Shared → Prop) (X : Addr → Prop) (s : Shared) (vs kvs : List Value), Room A d → W.I s.heap → VRs s.heap X ps vs → VRs s.heap X kps kvs →
    wpAny (model W.prog W.w) A (call (.ref C) vs (ks.zip kvs)) (fun v s' => K0 W.T s s' ∧ VR s'.heap (fun b => s.heap.get? b = none) (.inst C nks fs) v) E s

theorem make_of {W : Wd} {C fI : Addr} {fd : FuncData} {body : List Stmt} {d d' : Nat} (hdd : d' < d) {ys : List Str} {ps kps dps : List PV} {ks nks : List Str} {fs : List PV} {ρ' : List (Str × PV)} (mk : MakesK W C fI) (fn : FnK W fI fd) (hbody : fd.body = .stmts body) (hsc : scopeOK fd.scope = true) (hbs : bindsOK fd.scope (("self" : Str) :: ys) = true) (hk : fd.scope.kind = .function)
    (hbind : ∀ (s : Shared) (self : Value) (vs kvs : List Value), W.I s.heap → vs.length = ps.length → kvs.length = kps.length → ∃ dvs, BindsTo s fd ⟨self :: vs, ks.zip kvs⟩ ((("self" : Str) :: ys).zip (self :: (vs ++ kvs ++ dvs))) ∧ VRs s.heap No dps dvs)
    (run : ∀ A hA L s₀ X hI ok x, Room A d' → Execs (frameFrom W A hA fd fI L s₀ X hI hk fn.glob fn.blt ok) ⟨ys.zip (ps ++ kps ++ dps), some (Own.inst "self" C [] []), [("self", .ref x)]⟩ body (.next ⟨ρ', some (Own.inst "self" C nks fs), [("self", .ref x)]⟩)) : MakeContract W C d ps ks kps nks fs := fun A E X s vs kvs hr hI hv hkv => by
  refine wpAny_call ?_
  obtain ⟨hh, g, dr, tk, os⟩ := s
  refine make_core (makes_of hI.1 mk.makes) (looks_findIn hI.1 mk.init) (fun self => bind_fn hI.1 self mk.fn) (.inl rfl) ?_
  have hr' := hr.make hdd C vs (ks.zip kvs)
  let s₂ : Shared := ⟨(hh.push emptyDict).push (instObj C hh.objs.size), g, dr, tk, os⟩
  have old : ∀ b o, hh.get? b = some o → s₂.heap.get? b = some o := fun b o e => Heap.get?_push_of_some _ (Heap.get?_push_of_some _ e)
  have k0 : K0 W.T (⟨hh, g, dr, tk, os⟩ : Shared) s₂ := K0.of_keep (tk := tk) old
  have ed : s₂.heap.get? hh.objs.size = some emptyDict := Heap.get?_push_of_some _ (Heap.get?_push_size _ rfl)
  have sz : (hh.push emptyDict).objs.size = hh.objs.size + 1 := Heap.size_push ..
  have ei : s₂.heap.get? (hh.objs.size + 1) = some (instObj C hh.objs.size) := by rw [← sz]; exact Heap.get?_push_size _ rfl
  have n1 : hh.get? hh.objs.size = none := get_size _
  have n2 : hh.get? (hh.objs.size + 1) = none := Heap.get?_none_of_le (Nat.le_succ _)
  let D : Addr → Prop := fun b => b = hh.objs.size ∨ b = hh.objs.size + 1
  have nD : ∀ b, (hh.get? b).isSome = true → ¬ D b := fun b hb q => by
    rcases q with rfl | rfl
    · rw [n1] at hb; cases hb
    · rw [n2] at hb; cases hb
  obtain ⟨dvs, hb, hdv⟩ := hbind s₂ (.ref (hh.objs.size + 1)) vs kvs (W.Ist _ _ k0 hI) hv.length hkv.length
  have all : VRs s₂.heap (fun b => (X b ∨ hh.get? b = none) ∧ ¬ D b) (ps ++ kps ++ dps) (vs ++ kvs ++ dvs) :=
    ((hv.append hkv).live.mono (fun b o _ e _ => old b o e) fun b hb => ⟨.inl hb.1, nD b hb.2⟩).append (hdv.mono (fun _ _ h => h.elim) fun _ h => h.elim)
  refine enterC (σ := ⟨ys.zip (ps ++ kps ++ dps), some (Own.inst "self" C [] []), [("self", .ref (hh.objs.size + 1))]⟩) (D := D) (Xc := X) (s₀ := ⟨hh, g, dr, tk, os⟩) (s := s₂) fn hbody hsc hbs hk hr' k0 hI hb (fun b h => ?_) (fun y pv e => ?_) ?_ (fun y v e => ?_) fun ok s₃ E' okF kk frs => ?_
  · rcases h with rfl | rfl
    · exact ⟨n1, by rw [ed]; rfl⟩
    · exact ⟨n2, by rw [ei]; rfl⟩
  · obtain ⟨v, h1, h2⟩ := all.zip e
    exact ⟨v, .tail _ h1, h2⟩
  · refine ⟨.ref (hh.objs.size + 1), .head _, fun b h => ?_, hh.objs.size + 1, hh.objs.size, #[], [], 0, [], rfl, .inr rfl, .inl rfl, ei, ed, fun _ => rfl, rfl, .nil⟩
    rcases h with rfl | rfl
    · exact ⟨_, ed, rfl⟩
    · exact ⟨_, ei, rfl⟩
  · have : y = "self" ∧ v = .ref (hh.objs.size + 1) := by
      rw [List.lookup_cons] at e
      split at e
      · rename_i h; exact ⟨by simpa using h, (Option.some.inj e).symm⟩
      · cases e
    rw [this.1, this.2]; exact .head _
  · refine wpAny_mono (run _ hr'.1 _ _ X hI ok (hh.objs.size + 1) hr' E' D s₃ okF) (fun f s' h' => ?_) fun _ _ e => e
    cases f with
    | next =>
      obtain ⟨D', gg⟩ := h'
      obtain ⟨u, hu, hua⟩ := gg.ok.own
      have eu := varAt_ref hua (gg.ok.pins "self" (.ref (hh.objs.size + 1)) rfl)
      subst eu
      refine ⟨rfl, ?_, ?_⟩
      · refine (k0.trans kk).fresh gg.kp fun b h => ?_
        rcases h with h | h
        · exact none_of_K k0 (frs b h)
        · rcases h with rfl | rfl
          · exact n1
          · exact n2
      · exact ((Own.inst "self" C nks fs).read _ _ _ hu).mono (fun _ _ _ h _ => h) fun b h => (gg.ok.dF b h).1
    | _ => exact h'.elim
end Mine

namespace Mine
open PySem PySem.Calls PyProof.Rows PyProof PySem.W

theorem VRs.zipL {h : Heap} {X : Addr → Prop} : ∀ {xs : List Str} {ps : List PV} {vs : List Value} {x : Str} {p : PV}, VRs h X ps vs → (xs.zip ps).lookup x = some p → ∃ v, (xs.zip vs).lookup x = some v ∧ VR h X p v
  | [], _, _, x, p, _, e => by simp at e
  | y :: xs, _, _, x, p, .nil, e => by simp at e
  | y :: xs, _, _, x, p, .cons a b, e => by
    rw [List.zip_cons_cons, List.lookup_cons] at e
    rw [List.zip_cons_cons, List.lookup_cons]
    by_cases hy : x = y
    · subst hy
      simp at e; subst e
      exact ⟨_, by simp, a⟩
    · have hy' : (x == y) = false := by simpa using hy
      rw [hy'] at e ⊢
      exact VRs.zipL b e
theorem VR.handed {h : Heap} {X : Addr → Prop} {p : PV} {v : Value} (x : VR h X p v) : handedIn v = true := by cases x <;> rfl

section
variable {Γ : Cx}
/-- a class is called -/
theorem Evals.make {W : Wd} {d d' : Nat} {C fI : Addr} {x : Str} {np pos : Pos} {es : List Expr} {ps : List PV} {nks : List Str} {fs : List PV} (hin : Γ.In W d') (mk : MakesK W C fI) (c : MakeContract W C d ps [] [] nks fs) (hd' : d ≤ d') (g : Γ.Glob x (.ref C)) (ha : EvalsL Γ es ps)
    (hp : (starEach es Γ.env).any (·.1) = false := by rfl) (hd : (x == ("__debug__" : Str)) = false := by decide) :
    Evals Γ true (.Call (.Name x np) es [] pos) (.inst C nks fs) := fun E s o => by
  refine wpAny_Call_NameR (glob_name g o ?_ hd)
  refine callWith_of (P := W.K.In) (by rw [any_backTo, hp]; rfl) (keeps_K mk.keep) (evalArgs_all (by rw [any_backTo]; exact hp) (wpAny_mono (ha E s pos o) (fun vs s₁ h₁ => ?_) fun _ _ e => e))
  obtain ⟨k, hv⟩ := h₁
  have hI := hin.I _ (Γ.Ist _ _ k o.base)
  refine ⟨hI.1, ?_⟩
  have c' := c Γ.A E (Up Γ.X s s₁) s₁ vs [] (hin.room.mono hd') hI hv .nil
  have eM : Γ.M = model W.prog W.w := by unfold Cx.M; rw [hin.prog, hin.w]
  rw [eM]
  refine wpAny_mono c' (fun v s' h' => ?_) fun _ _ e => e
  rw [← hin.T] at h'
  refine ⟨k.trans h'.1, h'.2.live.mono (fun _ _ _ h _ => h) fun b h => .inr ⟨none_of_K k h.1, h.2⟩, fun _ a e => ?_⟩
  subst e
  cases h'.2 with
  | inst hX _ _ _ _ _ => exact none_of_K k hX

/-- a field is read -/
theorem Evals.attr {W : Wd} {d : Nat} {C : Addr} {e : Expr} {ks : List Str} {fs : List PV} {name : Str} {p : PV} {fr : Bool} {apos : Pos} {attr : Option Value} (hin : Γ.In W d) (he : Evals Γ fr e (.inst C ks fs)) (hp : (ks.zip fs).lookup name = some p)
    (hg : plainGet W.K C name = true) (hh : hasDictIn W.K C = true) (ha : findIn W.K (.ref C) name = some attr) (hn : noGet W.K attr = true)
    (hE : eval (.Attribute e name apos) Γ.env = (do
      let o ← eval e Γ.env
      standAt apos.atName
      let r ← holding [o] (getAttr o name true)
      letTemporaryGo e o r
      pure r) := by with_unfolding_all rfl) :
    Evals Γ false (.Attribute e name apos) p := fun E s o => by
  refine Attribute_any_ (prog := Γ.prog) (w := Γ.w) (wpAny_mono (he E s o) (fun v s₁ h₁ => ?_) fun _ _ e => e) hE
  obtain ⟨k, hv, _⟩ := h₁
  have hI := hin.I _ (Γ.Ist _ _ k o.base)
  cases hv with
  | @inst _ x dx sl es n _ vs _ hX hXd hx hd hf hvs =>
    obtain ⟨v, hm, hvr⟩ := hvs.zipL hp
    refine get_value hI.1 (dict_inst hx hd) (plainGet_of hg).1 (findObj_own hh ha hn (by show getL name es = _; rw [hf name, hm])) hvr.handed ⟨k.tok, hvr, fun h => nomatch h⟩
end
end Mine

namespace Mine
open PySem PySem.Calls PyProof.Rows PyProof PySem.W

/-! Fraction's reduction, in ints -/
def gcdGo : Nat → Int → Int → Int
  | 0, a, _ => a
  | n + 1, a, b => if b = 0 then a else gcdGo n b (a.fmod b)
theorem fmod_nat {a b : Int} (ha : 0 ≤ a) (hb : 0 < b) : a.fmod b = ((a.toNat % b.toNat : Nat) : Int) := by
  rw [Int.fmod_eq_emod_of_nonneg _ (Int.le_of_lt hb)]
  obtain ⟨m, rfl⟩ := Int.eq_ofNat_of_zero_le ha
  obtain ⟨n, rfl⟩ := Int.eq_ofNat_of_zero_le (Int.le_of_lt hb)
  simp
theorem gcdGo_is : ∀ (n : Nat) (a b : Int), 0 ≤ a → 0 ≤ b → b.toNat < n → gcdGo n a b = (Nat.gcd b.toNat a.toNat : Int)
  | 0, a, b, _, _, h => by omega
  | n + 1, a, b, ha, hb, h => by
    unfold gcdGo
    by_cases h0 : b = 0
    · subst h0
      rw [if_pos rfl]; simp; omega
    · rw [if_neg h0]
      have hb' : 0 < b := by omega
      have e := fmod_nat ha hb'
      have hlt : a.toNat % b.toNat < b.toNat := Nat.mod_lt _ (by omega)
      rw [gcdGo_is n b (a.fmod b) hb (by rw [e]; exact Int.natCast_nonneg _) (by rw [e, Int.toNat_natCast]; omega), e]
      congr 1
      rw [Int.toNat_natCast, ← Nat.gcd_rec]
end Mine

set_option maxHeartbeats 400000
namespace Mine
open PySem PySem.Calls PyProof.Rows PyProof PySem.W

section
variable {F : Fm} {σ σ' : St} {D : Addr → Prop} {s s₁ s' : Shared}

/-- two stores, one after the other -/
theorem pair_store {x y : Str} {p q : PV} {v₁ v₂ : Value} {E : Value → Shared → Prop} {t₁ t₂ : Value → Sem Unit} (o : F.Ok σ D s)
    (ht₁ : ∀ (Q : Unit → Shared → Prop) s, wpAny F.M F.A (storeName F.env x v₁) Q E s → wpAny F.M F.A (t₁ v₁) Q E s)
    (ht₂ : ∀ (Q : Unit → Shared → Prop) s, wpAny F.M F.A (storeName F.env y v₂) Q E s → wpAny F.M F.A (t₂ v₂) Q E s)
    (h1 : VR s.heap (fun b => F.B b ∧ ¬ F.Mut D b) p v₁) (h2 : VR s.heap (fun b => F.B b ∧ ¬ F.Mut D b) q v₂)
    (hx : varKind F.env x = true) (hy : varKind F.env y = true) (hf : freeOf σ x = true) (hg : freeOf σ y = true) :
    wpAny F.M F.A (assignInOrder [t₁, t₂] [v₁, v₂]) (fun _ s' => Goes F ⟨(y, q) :: (x, p) :: σ.ρ, σ.own, σ.pins⟩ D s D s') E s := by
  obtain ⟨hpx, hox⟩ := freeOf.of hf
  obtain ⟨hpy, hoy⟩ := freeOf.of hg
  refine wpAny_assignInOrder_more (ht₁ _ _ (Stored.of o (varKind.of hx) fun a s₃ st => ?_))
  have up : ∀ {p v}, VR s.heap (fun b => F.B b ∧ ¬ F.Mut D b) p v → VR s₃.heap (fun b => F.B b ∧ ¬ F.Mut D b) p v := fun h => h.mono (fun b ob hb e ht => st.kp.keep b ob (fun q => hb.2 (.inl (by rw [q]; exact st.fr))) e ht) fun _ h => h
  have g₁ := st.shared o (up h1) hpx hox
  refine wpAny_assignInOrder_more (ht₂ _ _ (Stored.of g₁.ok (varKind.of hy) fun a' s₄ st' => ?_))
  have g₂ := st'.shared g₁.ok ((up h2).mono (fun b ob hb e ht => st'.kp.keep b ob (fun q => hb.2 (.inl (by rw [q]; exact st'.fr))) e ht) fun _ h => h) hpy hoy
  exact wpAny_assignInOrder_none (g₁.trans g₂)

/-- x, y = (e, f): two scalars -/
theorem Exec.assignPair {x y : Str} {px py pos tp vp : Pos} {k kv : Nat} {e₁ e₂ : Expr} {p q : PV} {fr : Bool} (he : ∀ X, Evals (F.cx X σ.rho) fr (.Tuple [e₁, e₂] kv vp) (.tup [p, q])) (hp : isScalar p = true) (hq : isScalar q = true)
    (hx : varKind F.env x = true) (hy : varKind F.env y = true) (hf : freeOf σ x = true) (hg : freeOf σ y = true)
    (hs : swapsWithSole [.Tuple [.Name x px, .Name y py] k tp] (.Tuple [e₁, e₂] kv vp) pos.line F.env = pure false)
    (hw : swappedStores [.Tuple [.Name x px, .Name y py] k tp] (.Tuple [e₁, e₂] kv vp) F.env = pure (some [x, y])) :
    Exec F σ (.Assign [.Tuple [.Name x px, .Name y py] k tp] (.Tuple [e₁, e₂] kv vp) pos) (.next ⟨(x, p) :: (y, q) :: σ.ρ, σ.own, σ.pins⟩) := by
  intro E D s o
  refine Assign_Tuple_swapped (names := [x, y]) (wpAny_mono (he _ E s o.cx) (fun v s₁ h₁ => ?_) fun _ _ e => e) hs hw
  obtain ⟨k₁, hv, _⟩ := h₁
  obtain ⟨t, vs, rfl, _, ht, hvs⟩ := hv.isTup
  cases hvs with
  | cons h1 r =>
  cases r with
  | cons h2 r =>
  cases r
  rename_i v₁ v₂
  refine unpackItems_tuple (items := #[v₁, v₂]) F.hh ht fun h' hext => ?_
  have k₂ : K0 F.T s₁ { s₁ with heap := h' } := K0.of_keep (tk := s₁.toks) fun b ob e => hext b ob (fun q => by rw [q, get_size] at e; cases e) e
  have o₂ := (o.step k₁).step k₂
  have st := pair_store (x := y) (y := x) (E := E) o₂ (t₁ := fun v => bindName F.env y v) (t₂ := fun v => bindName F.env x v) (fun Q s h => bindName_ h) (fun Q s h => bindName_ h) (up_scalar' hq h2) (up_scalar' hp h1) hy hx hg hf
  exact wpAny_mono st (fun _ s₄ g => ⟨D, g.before (k₁.trans k₂)⟩) fun _ _ e => e
end
end Mine

set_option maxHeartbeats 1000000
namespace Mine
open PySem PySem.Calls PyProof.Rows PyProof PySem.W

/-- a plain class of the top's -/
structure PlainK (K : Frag) (C : Addr) : Prop where
  cls : (clsIn K C).isSome = true
  ty : typeIn K (.ref C) = some (.type "type")
  it : instIn K (.ref C) (.type "type") = some true
  ga : findIn K (.ref C) "__getattribute__" = some (some (.builtin "object.__getattribute__"))
  gh : findIn K (.ref C) "__getattr__" = some none
  dct : hasDictIn K C = true
  cl : findIn K (.ref C) "__class__" = some (some (.builtin "object.__class__"))
  cg : specialIn K (.builtin "object.__class__") "__get__" = some (some (.builtin "getset_descriptor.__get__"))
  ct : takesIn K (.builtin "object.__class__") = some true
  ob : mroIn K C (.type "object") = some true
  noInt : subIn K (.ref C) (.type "int") = some false
  intNo : subIn K (.type "int") (.ref C) = some false

section
variable {prog : Program} {w : World} {A : Around} {E : Value → Shared → Prop} {s : Shared} {K : Frag} {x C : Addr} {ox : Obj} {od : Option Obj}

theorem inst_cls {Q : Option Value → Shared → Prop} (X : K.In s.heap) (I : InstAt s.heap x ox C od) (P : PlainK K C) (h : Q (some (.ref C)) { s with toks := s.toks + 1 }) :
    wpAny (model prog w) A (getAttr? (.ref x) "__class__") Q E s := by
  obtain ⟨hh, g, d, t, os⟩ := s
  have L0 := I.type (M := model prog w)
  have L1 := looks_findIn (M := model prog w) X P.ga
  have L2 := looks_findIn (M := model prog w) X P.gh
  unfold getAttr? getAttrBy? getAttrBy
  refine wpAny_bind (wpAny_mkText (wpAny_bind (wpAny_attempt (wpAny_holding (wpAny_bind (L0.at (wpAny_bind (L1.at ?_))))))))
  show wpAny _ _ (getAttrEveryday _ _ _) _ _ _
  refine wpAny_bind (wpAny_onRaise (wpAny_runValue (codeAny_builtin F.plainObj_entry_getattr_hooked ?_)))
  have hf' : findObj K C od "__class__" = some (.bind (.builtin "getset_descriptor.__get__") (.builtin "object.__class__")) := by
    obtain ⟨cd, hc⟩ := Option.isSome_iff_exists.mp P.cls
    unfold findObj
    rw [hc, Option.bind_some, P.cl, Option.bind_some]
    simp [P.cg, P.ct]
  have L3 := looks_find (M := model prog w) X I hf'
  refine wpAny_bind (wpAny_pure (wpAny_bind (L0.at (wpAny_bind (L3.at (wpAny_bind (L2.at ?_)))))))
  show wpAny _ _ (holding [Value.builtin "object.__class__"] (call (.builtin "getset_descriptor.__get__") [.builtin "object.__class__", .ref x, .ref C]) >>= ret) _ _ _
  refine wpAny_bind (wpAny_holding (wpAny_call (class_get (s := ⟨hh, g, d, t + 1, os⟩) X I P.ob ?_)))
  refine wpAny_pure ?_
  exact handed_on rfl (wpAny_pure h)

/-- an object is no int -/
theorem inst_not_int {dep : Int} {tk : Tok} {Q : Fin → Shared → Prop} (X : K.In s.heap) (I : InstAt s.heap x ox C od) (P : PlainK K C) (h : Q (.done (.ret (.bool false))) { s with toks := s.toks + 1 }) :
    wpAny (model prog w) A (Builtin.«isinstance.nested» ⟨[.ref x, .type "int", .int dep tk], []⟩) Q E s := by
  obtain ⟨hh, g, d, tt, os⟩ := s
  have L0 := I.type (M := model prog w)
  unfold Builtin.«isinstance.nested»
  refine wpAny_bind (L0.at ?_)
  rw [if_neg (fun q => by cases beq_iff_eq.mp q)]
  have e0 := P.cls
  have L1 := looks_instIn (M := model prog w) X P.it
  have L4 : Looks (model prog w) hh (isSubtype (.ref C) (.type "int")) false := looks_subIn X P.noInt
  have L3 : Looks (model prog w) hh (isInstance (.ref x) (.type "int")) false := L0.andThen L4
  refine wpAny_bind (wpAny_of_eq PySem.F.isi_meta_int ?_)
  rw [if_pos (by decide)]
  k_delta "plainIsInstance"
  unfold isType
  refine wpAny_bind (wpAny_bind (wpAny_pure ?_))
  refine wpAny_bind (L3.at ?_)
  simp only [Bool.false_eq_true, if_false]
  refine wpAny_bind (inst_cls (s := ⟨hh, g, d, tt, os⟩) X I P ?_)
  unfold clsIn at e0
  split at e0
  · rename_i ho
    refine wpAny_bind (wpAny_bind (nd_load (X _ _ ho) (nd_pure (wpAny_pure ?_))))
    simp only [Bool.not_true, Bool.false_eq_true, if_false]
    refine wpAny_bind (wpAny_rule ?_)
    refine L4.at ?_
    exact wpAny_pure h
  · cases e0
end
end Mine

set_option maxHeartbeats 1000000
namespace Mine
open PySem PySem.Calls PyProof.Rows PyProof PySem.W

section
variable {prog : Program} {w : World} {A : Around} {E : Value → Shared → Prop}

theorem isi_tuple_nested {P : Shared → Prop} (hP : ∀ s tk, P s → P { s with toks := tk }) {x t : Value} {tp : Addr} {cs : List Value} {vs : List Bool} {tk : Tok} {s : Shared} {Q : Fin → Shared → Prop}
    (L0 : Looks (model prog w) s.heap (typeOf x) t) (hne : (t == .ref tp) = false) (htp : s.heap.get? tp = some { cls := .type "tuple", data := .seq cs.toArray }) (ha : AnswersAll P x cs vs) (hs : P s)
    (hq : ∀ tk', Q (.done (.ret (.bool (vs.any id)))) { s with toks := tk' }) : wpAny (model prog w) A (Builtin.«isinstance.nested» ⟨[x, .ref tp, .int 0 tk], []⟩) Q E s := by
  obtain ⟨h, g, d, t', os⟩ := s
  have hT2 : (⟨h, g, d, t', os⟩ : Shared).TypeIs (.ref tp) "tuple" := ⟨_, htp, rfl⟩
  have f1 := F.isi_sub_tuple
  unfold Builtin.«isinstance.nested»
  refine wpAny_bind (L0.at ?_)
  rw [hne, if_neg (by simp)]
  repeat (any_goals (first | assumption | wp_step))
  refine wpAny_arrayLoop ?_
  simp only [Option.getD_some, List.toList_toArray]
  refine isinstance_items (dep := 0) hP cs vs _ _ ha hs fun tk' => ?_
  cases hv : vs.any id with
  | true =>
    simp only [if_true]
    repeat (any_goals (first | assumption | wp_step))
    exact hv ▸ hq tk'
  | false =>
    simp only [Bool.false_eq_true, if_false]
    repeat (any_goals (first | assumption | wp_step))
    exact hv ▸ hq tk'
end

theorem int_is_int {n : Int} {u : Tok} {s : Shared} : s.TypeIs (.int n u) "int" := rfl

section
variable {Γ : Cx}
/-- an expression whose value is told raw -/
def EvRaw (Γ : Cx) (e : Expr) (P : Shared → Value → Prop) : Prop := ∀ (E : Value → Shared → Prop) s, Γ.Ok s → wpAny Γ.M Γ.A (eval e Γ.env) (fun v s' => K0 Γ.T s s' ∧ P s' v) E s

theorem EvRaw.glob {x : Str} {v : Value} {pos : Pos} (g : Γ.Glob x v) (hd : (x == ("__debug__" : Str)) = false := by decide) : EvRaw Γ (.Name x pos) (fun _ u => u = v) := fun E s o =>
  glob_name g o ⟨Kp.refl, rfl⟩ hd
theorem EvRaw.pair {e c : Expr} {u v : Value} {k : Nat} {pos : Pos} (h1 : EvRaw Γ e (fun _ x => x = u)) (h2 : EvRaw Γ c (fun _ x => x = v)) (hc : starEach [e, c] Γ.env = [(false, eval e Γ.env), (false, eval c Γ.env)] := by rfl) :
    EvRaw Γ (.Tuple [e, c] k pos) (fun s' x => ∃ tp, x = .ref tp ∧ s'.heap.get? tp = some { cls := .type "tuple", data := .seq #[u, v] }) := fun E s o => by
  refine Tuple_ ?_
  rw [hc]
  refine spliced_cons (x := eval e Γ.env) (rest := backTo pos [(false, eval c Γ.env)]) (wpAny_mono (h1 E s o) (fun a s₁ h₁ => ?_) fun _ _ e => e)
  obtain ⟨k₁, rfl⟩ := h₁
  refine spliced_cons (x := eval c Γ.env) (rest := backTo pos []) (wpAny_mono (h2 E s₁ (o.step k₁)) (fun b s₂ h₂ => ?_) fun _ _ e => e)
  obtain ⟨k₂, rfl⟩ := h₂
  refine spliced_nil (wpAny_newObj_type ?_ (by size_fits))
  exact ⟨(k₁.trans k₂).trans (K0.push _), _, rfl, Heap.get?_push_size _ rfl⟩

theorem call_raw2 {x : Str} {id : String} {np pos : Pos} {e c : Expr} {p : PV} {fr : Bool} {P : Shared → Value → Prop} {s : Shared} {E : Value → Shared → Prop} {Q : Value → Shared → Prop} (g : Γ.Glob x (.builtin id)) (o : Γ.Ok s) (he : Evals Γ fr e p) (hc : EvRaw Γ c P)
    (hP : ∀ v u s₁ s₂, K0 Γ.T s s₁ → VR s₁.heap (Up Γ.X s s₁) p v → K0 Γ.T s₁ s₂ → P s₂ u → wpAny Γ.M Γ.A (call (.builtin id) [v, u]) Q E s₂)
    (hs : starEach [e, c] Γ.env = [(false, eval e Γ.env), (false, eval c Γ.env)]) (hd : (x == ("__debug__" : Str)) = false := by decide) :
    wpAny Γ.M Γ.A (eval (.Call (.Name x np) [e, c] [] pos) Γ.env) Q E s := by
  have ha : (backTo pos (starEach [e, c] Γ.env)).any (·.1) = false := by rw [hs]; rfl
  refine wpAny_Call_NameR (glob_name g o (callWith_builtin ha (evalArgs_all ha ?_)) hd)
  rw [hs]
  refine spliced_cons (x := eval e Γ.env) (rest := backTo pos [(false, eval c Γ.env)]) (wpAny_mono (he E s o) (fun a s₁ h₁ => ?_) fun _ _ e => e)
  obtain ⟨k₁, hv, _⟩ := h₁
  refine spliced_cons (x := eval c Γ.env) (rest := backTo pos []) (wpAny_mono (hc E s₁ (o.step k₁)) (fun b s₂ h₂ => ?_) fun _ _ e => e)
  exact spliced_nil (hP _ _ _ _ k₁ hv h₂.1 h₂.2)

/-- what isobject says -/
def IsiSem (Γ : Cx) (p : PV) (P : Shared → Value → Prop) (b : Bool) : Prop :=
  ∀ (X : Addr → Prop) (v u : Value) (Q : Value → Shared → Prop) (E : Value → Shared → Prop) (s : Shared), VR s.heap X p v → P s u → Γ.I s.heap → (∀ s', K0 Γ.T s s' → Q (.bool b) s') → wpAny Γ.M Γ.A (call (.builtin "isinstance") [v, u]) Q E s

theorem Evals.isi {np pos : Pos} {e c : Expr} {p : PV} {fr b : Bool} {P : Shared → Value → Prop} (g : Γ.Glob "isinstance" (.builtin "isinstance")) (hi : IsiSem Γ p P b) (he : Evals Γ fr e p) (hc : EvRaw Γ c P)
    (hs : starEach [e, c] Γ.env = [(false, eval e Γ.env), (false, eval c Γ.env)] := by rfl) : Evals Γ true (.Call (.Name "isinstance" np) [e, c] [] pos) (.bool b) := fun E s o =>
  call_raw2 g o he hc (fun v u s₁ s₂ k₁ hv k₂ hu => hi _ _ _ _ _ _ (hv.step k₂) hu ((o.step k₁).step k₂).base fun s' k₃ => ⟨(k₁.trans k₂).trans k₃, .bool b, fun _ _ h => nomatch h⟩) hs

theorem IsiSem.intInt {n : Int} : IsiSem Γ (.int n) (fun _ u => u = .type "int") true := fun X v u Q E s hv hu _ h => by
  cases hv
  subst hu
  exact call_isinstance_yes int_is_int PySem.F.isi_meta_int PySem.F.isi_self_int (h _ Kp.refl)
theorem IsiSem.instYes {K : Frag} {C : Addr} {ks : List Str} {fs : List PV} (hK : ∀ h, Γ.I h → K.In h) : IsiSem Γ (.inst C ks fs) (fun _ u => u = .ref C) true := fun X v u Q E s hv hu hI h => by
  cases hv with
  | inst hX hXd hx hd hf hvs =>
    subst hu
    exact isi_call (t := .ref C) (hK _ hI) (fun M => (dict_inst hx hd).type) (by unfold PySem.W.isIn; simp) (by intro e; cases e) (h _ Kp.refl)
theorem IsiSem.intNo {K : Frag} {C : Addr} {n : Int} (hK : ∀ h, Γ.I h → K.In h) (P : PlainK K C) : IsiSem Γ (.int n) (fun _ u => u = .ref C) false := fun X v u Q E s hv hu hI h => by
  cases hv
  subst hu
  exact isn_call (P := fun _ => True) (hK _ hI) (fun M => Looks.of_pure rfl) (by unfold isNotIn; simp [P.cls, P.ty, P.it, P.intNo]) (by intro e; cases e) trivial int_cls (h _ K0.toks_)

theorem IsiSem.intTup {K : Frag} {C : Addr} {n : Int} (hK : ∀ h, Γ.I h → K.In h) (P : PlainK K C) : IsiSem Γ (.int n) (fun s x => ∃ tp, x = .ref tp ∧ s.heap.get? tp = some { cls := .type "tuple", data := .seq #[.type "int", .ref C] }) true := fun X v u Q E s hv hu hI h => by
  cases hv
  obtain ⟨tp, rfl, htp⟩ := hu
  refine call_isinstance_of (isi_tuple_nested (P := fun s => K.In s.heap) (fun _ _ h => h) (t := .type "int") (cs := [.type "int", .ref C]) (vs := [true, false]) (Looks.of_pure rfl) rfl htp ⟨?_, ?_, trivial⟩ (hK _ hI) fun tk' => h _ K0.toks_) (by intro e; cases e)
  · exact fun dep tk prog w A R s hs => isinstance_nested_true rfl int_is_int PySem.F.isi_meta_int PySem.F.isi_self_int (hs.2 s.toks)
  · exact fun dep tk prog w A R s hs => isn_nested (P := fun _ => True) hs.1 (Looks.of_pure rfl) (by unfold isNotIn; simp [P.cls, P.ty, P.it, P.intNo]) trivial int_cls (hs.2 _)
theorem IsiSem.instTup {K : Frag} {C : Addr} {ks : List Str} {fs : List PV} (hK : ∀ h, Γ.I h → K.In h) (P : PlainK K C) : IsiSem Γ (.inst C ks fs) (fun s x => ∃ tp, x = .ref tp ∧ s.heap.get? tp = some { cls := .type "tuple", data := .seq #[.type "int", .ref C] }) true := fun X v u Q E s hv hu hI h => by
  cases hv with
  | @inst _ x dx sl es n _ vs _ hX hXd hx hd hf hvs =>
    obtain ⟨tp, rfl, htp⟩ := hu
    have hne : (Value.ref C == Value.ref tp) = false := by
      rw [beq_eq_false_iff_ne]
      intro e; cases e
      have e0 := P.cls
      unfold clsIn at e0
      split at e0
      · rename_i ho
        have := hK _ hI _ _ ho
        rw [htp] at this; cases this
      · cases e0
    refine call_isinstance_of (isi_tuple_nested (P := fun s => K.In s.heap ∧ InstAt s.heap x _ C _) (fun _ _ h => h) (t := .ref C) (cs := [.type "int", .ref C]) (vs := [false, true]) (dict_inst hx hd).type hne htp ⟨?_, ?_, trivial⟩ ⟨hK _ hI, dict_inst hx hd⟩ fun tk' => h _ K0.toks_) (by intro e; cases e)
    · exact fun dep tk prog w A R s hs => inst_not_int hs.1.1 hs.1.2 P (hs.2 _)
    · exact fun dep tk prog w A R s hs => isi_nested (t := .ref C) hs.1.1 hs.1.2.type (by unfold PySem.W.isIn; simp) (hs.2 s.toks)
end
end Mine

namespace Mine
open PySem PySem.Calls PyProof.Rows PyProof PySem.W

/-! zeros among the votes -/
def pos (zs : List Int) : List Int := zs.filter fun z => decide (0 < z)
def spread : List Int → List Int → List Int
  | [], _ => []
  | z :: zs, rs => if 0 < z then rs.headD 0 :: spread zs rs.tail else 0 :: spread zs rs
def rank (zs : List Int) (i : Nat) : Nat := (pos (zs.take i)).length

theorem pos_cons_pos {z : Int} {zs : List Int} (h : 0 < z) : pos (z :: zs) = z :: pos zs := by simp [pos, h]
theorem pos_cons_neg {z : Int} {zs : List Int} (h : ¬ 0 < z) : pos (z :: zs) = pos zs := by simp [pos, h]
theorem rank_zero {zs : List Int} : rank zs 0 = 0 := by simp [rank, pos]
theorem rank_cons_pos {z : Int} {zs : List Int} {i : Nat} (h : 0 < z) : rank (z :: zs) (i + 1) = rank zs i + 1 := by
  unfold rank; rw [List.take_succ_cons, pos_cons_pos h, List.length_cons]
theorem rank_cons_neg {z : Int} {zs : List Int} {i : Nat} (h : ¬ 0 < z) : rank (z :: zs) (i + 1) = rank zs i := by
  unfold rank; rw [List.take_succ_cons, pos_cons_neg h]
theorem rank_len {zs : List Int} : rank zs zs.length = (pos zs).length := by unfold rank; rw [List.take_length]

theorem spread_len : ∀ {zs rs : List Int}, (spread zs rs).length = zs.length
  | [], _ => rfl
  | z :: zs, rs => by unfold spread; split <;> simp [spread_len]

theorem spread_sum : ∀ {zs rs : List Int}, rs.length = (pos zs).length → (spread zs rs).sum = rs.sum
  | [], rs, h => by
    have : rs = [] := List.length_eq_zero_iff.mp (by simpa [pos] using h)
    subst this; rfl
  | z :: zs, rs, h => by
    unfold spread
    by_cases hz : 0 < z
    · rw [if_pos hz]
      rw [pos_cons_pos hz] at h
      cases rs with
      | nil => simp at h
      | cons r rs => rw [List.sum_cons, List.headD_cons, List.tail_cons, spread_sum (by simpa using h), List.sum_cons]
    · rw [if_neg hz]
      rw [pos_cons_neg hz] at h
      rw [List.sum_cons, spread_sum h, Int.zero_add]

theorem pos_at : ∀ {zs : List Int} {i : Nat}, 0 < zs.getD i 0 → rank zs i < (pos zs).length ∧ (pos zs).getD (rank zs i) 0 = zs.getD i 0
  | [], i, h => by simp at h
  | z :: zs, 0, h => by
    have hz : 0 < z := by simpa using h
    rw [rank_zero, pos_cons_pos hz]; simp
  | z :: zs, i + 1, h => by
    have h' : 0 < zs.getD i 0 := by simpa using h
    obtain ⟨h1, h2⟩ := pos_at h'
    by_cases hz : 0 < z
    · rw [rank_cons_pos hz, pos_cons_pos hz]
      exact ⟨by simpa using h1, by simpa using h2⟩
    · rw [rank_cons_neg hz, pos_cons_neg hz]
      exact ⟨h1, by simpa using h2⟩

theorem spread_at : ∀ {zs rs : List Int} {i : Nat}, (spread zs rs).getD i 0 = if 0 < zs.getD i 0 then rs.getD (rank zs i) 0 else 0
  | [], rs, i => by simp [spread]
  | z :: zs, rs, 0 => by
    unfold spread
    by_cases hz : 0 < z
    · rw [if_pos hz, rank_zero]
      cases rs <;> simp [hz]
    · rw [if_neg hz]; simp [hz]
  | z :: zs, rs, i + 1 => by
    unfold spread
    by_cases hz : 0 < z
    · rw [if_pos hz, rank_cons_pos hz, List.getD_cons_succ, List.getD_cons_succ, spread_at]
      cases rs <;> simp
    · rw [if_neg hz, rank_cons_neg hz, List.getD_cons_succ, List.getD_cons_succ, spread_at]

theorem spread_set : ∀ {zs rs : List Int} {i : Nat} {x : Int}, rs.length = (pos zs).length → 0 < zs.getD i 0 → (spread zs rs).set i x = spread zs (rs.set (rank zs i) x)
  | [], rs, i, x, _, h => by simp at h
  | z :: zs, rs, 0, x, hl, h => by
    have hz : 0 < z := by simpa using h
    rw [pos_cons_pos hz] at hl
    cases rs with
    | nil => simp at hl
    | cons r rs => unfold spread; rw [if_pos hz, if_pos hz, rank_zero]; simp
  | z :: zs, rs, i + 1, x, hl, h => by
    have h' : 0 < zs.getD i 0 := by simpa using h
    by_cases hz : 0 < z
    · rw [pos_cons_pos hz] at hl
      cases rs with
      | nil => simp at hl
      | cons r rs =>
        unfold spread
        rw [if_pos hz, if_pos hz, rank_cons_pos hz, List.set_cons_succ, List.tail_cons, List.set_cons_succ, List.headD_cons, List.headD_cons, List.tail_cons, spread_set (by simpa using hl) h']
    · rw [pos_cons_neg hz] at hl
      unfold spread
      rw [if_neg hz, if_neg hz, rank_cons_neg hz, List.set_cons_succ, spread_set hl h']

theorem rank_succ : ∀ {zs : List Int} {i : Nat}, i < zs.length → rank zs (i + 1) = if 0 < zs.getD i 0 then rank zs i + 1 else rank zs i
  | [], i, h => by simp at h
  | z :: zs, 0, h => by
    by_cases hz : 0 < z
    · rw [rank_cons_pos hz]; simp [hz, rank_zero]
    · rw [rank_cons_neg hz]; simp [hz, rank_zero]
  | z :: zs, i + 1, h => by
    have ih := rank_succ (zs := zs) (i := i) (by simpa using h)
    by_cases hz : 0 < z
    · rw [rank_cons_pos hz, rank_cons_pos hz, ih, List.getD_cons_succ]; split <;> rfl
    · rw [rank_cons_neg hz, rank_cons_neg hz, ih, List.getD_cons_succ]

theorem pos_sum : ∀ {zs : List Int}, (∀ z ∈ zs, 0 ≤ z) → (pos zs).sum = zs.sum
  | [], _ => rfl
  | z :: zs, h => by
    have ih := pos_sum fun y hy => h y (.tail _ hy)
    by_cases hz : 0 < z
    · rw [pos_cons_pos hz, List.sum_cons, List.sum_cons, ih]
    · have := h z (.head _)
      rw [pos_cons_neg hz, List.sum_cons, ih]; omega

/-- a map that gives 0 for 0 -/
theorem spread_map {f : Int → Int} (h0 : f 0 = 0) : ∀ {zs : List Int}, (∀ z ∈ zs, 0 ≤ z) → zs.map f = spread zs ((pos zs).map f)
  | [], _ => rfl
  | z :: zs, h => by
    have ih := spread_map h0 (zs := zs) fun y hy => h y (.tail _ hy)
    unfold spread
    by_cases hz : 0 < z
    · rw [if_pos hz, pos_cons_pos hz, List.map_cons, ih]; simp
    · have : z = 0 := by have := h z (.head _); omega
      rw [if_neg hz, pos_cons_neg hz, List.map_cons, ih, this, h0]

/-! the k-th largest -/
def cntGt (l : List Int) (x : Int) : Nat := l.countP fun y => decide (x < y)
def cntGe (l : List Int) (x : Int) : Nat := l.countP fun y => decide (x ≤ y)
theorem kth_uniq {l : List Int} {k : Nat} {x y : Int} (h1 : cntGt l x < k) (h2 : k ≤ cntGe l x) (h3 : cntGt l y < k) (h4 : k ≤ cntGe l y) : x = y := by
  have mono : ∀ a b : Int, a < b → cntGe l b ≤ cntGt l a := fun a b hab => by
    unfold cntGe cntGt
    apply List.countP_mono_left
    intro z _ hz
    simp only [decide_eq_true_eq] at hz ⊢
    omega
  rcases Int.lt_trichotomy x y with h | h | h
  · have := mono x y h; omega
  · exact h
  · have := mono y x h; omega

theorem kth_spec {l : List Int} {j : Nat} (hj : j < l.length) : cntGt l ((sortI l).getD j 0) < l.length - j ∧ l.length - j ≤ cntGe l ((sortI l).getD j 0) := by
  have hp := sortI_perm l
  have hs := sortI_sorted l
  have hl := hp.length_eq
  have e1 : cntGt l ((sortI l).getD j 0) = cntGt (sortI l) ((sortI l).getD j 0) := (hp.countP_eq _).symm
  have e2 : cntGe l ((sortI l).getD j 0) = cntGe (sortI l) ((sortI l).getD j 0) := (hp.countP_eq _).symm
  rw [e1, e2, ← hl]
  rw [← hl] at hj
  generalize sortI l = m at hj hs
  clear hp hl e1 e2 l
  have ex : m.getD j 0 = m[j] := by rw [List.getD_eq_getElem?_getD, List.getElem?_eq_getElem hj]; rfl
  rw [ex]
  have split : m = m.take j ++ m.drop j := (List.take_append_drop j m).symm
  have hlt : (m.take (j + 1)).length = j + 1 := by rw [List.length_take]; omega
  rw [List.pairwise_iff_getElem] at hs
  constructor
  · have : cntGt m m[j] = cntGt (m.take (j + 1)) m[j] + cntGt (m.drop (j + 1)) m[j] := by
      unfold cntGt
      rw [← List.countP_append, List.take_append_drop]
    rw [this]
    have z : cntGt (m.take (j + 1)) m[j] = 0 := by
      unfold cntGt
      rw [List.countP_eq_zero]
      intro y hy
      obtain ⟨i, hi, rfl⟩ := List.getElem_of_mem hy
      rw [hlt] at hi
      rw [List.getElem_take]
      simp only [decide_eq_true_eq]
      rcases Nat.lt_or_eq_of_le (Nat.le_of_lt_succ hi) with h | h
      · have := hs i j (by omega) hj h; omega
      · subst h; omega
    have le : cntGt (m.drop (j + 1)) m[j] ≤ (m.drop (j + 1)).length := List.countP_le_length
    rw [List.length_drop] at le
    omega
  · have : cntGe m m[j] = cntGe (m.take j) m[j] + cntGe (m.drop j) m[j] := by
      unfold cntGe
      rw [← List.countP_append, List.take_append_drop]
    rw [this]
    have z : cntGe (m.drop j) m[j] = (m.drop j).length := by
      unfold cntGe
      rw [List.countP_eq_length]
      intro y hy
      obtain ⟨i, hi, rfl⟩ := List.getElem_of_mem hy
      rw [List.length_drop] at hi
      rw [List.getElem_drop]
      simp only [decide_eq_true_eq]
      rcases Nat.eq_zero_or_pos i with h | h
      · subst h; simp
      · exact hs j (j + i) hj (by omega) (by omega)
    rw [z, List.length_drop]; omega
end Mine

namespace Mine
open PySem PySem.Calls PyProof.Rows PyProof PySem.W

theorem cntGt_spread {x : Int} (hx : 0 ≤ x) : ∀ {zs l : List Int}, l.length = (pos zs).length → cntGt (spread zs l) x = cntGt l x
  | [], l, h => by
    have : l = [] := List.length_eq_zero_iff.mp (by simpa [pos] using h)
    subst this; rfl
  | z :: zs, l, h => by
    unfold spread
    by_cases hz : 0 < z
    · rw [if_pos hz]
      rw [pos_cons_pos hz] at h
      cases l with
      | nil => simp at h
      | cons a l =>
        have ih := cntGt_spread hx (zs := zs) (l := l) (by simpa using h)
        unfold cntGt at ih ⊢
        rw [List.headD_cons, List.tail_cons, List.countP_cons, List.countP_cons, ih]
    · rw [if_neg hz]
      rw [pos_cons_neg hz] at h
      have ih := cntGt_spread hx (zs := zs) (l := l) h
      unfold cntGt at ih ⊢
      rw [List.countP_cons, ih, if_neg (by simp; omega)]; rfl
theorem cntGe_spread {x : Int} (hx : 0 < x) : ∀ {zs l : List Int}, l.length = (pos zs).length → cntGe (spread zs l) x = cntGe l x
  | [], l, h => by
    have : l = [] := List.length_eq_zero_iff.mp (by simpa [pos] using h)
    subst this; rfl
  | z :: zs, l, h => by
    unfold spread
    by_cases hz : 0 < z
    · rw [if_pos hz]
      rw [pos_cons_pos hz] at h
      cases l with
      | nil => simp at h
      | cons a l =>
        have ih := cntGe_spread hx (zs := zs) (l := l) (by simpa using h)
        unfold cntGe at ih ⊢
        rw [List.headD_cons, List.tail_cons, List.countP_cons, List.countP_cons, ih]
    · rw [if_neg hz]
      rw [pos_cons_neg hz] at h
      have ih := cntGe_spread hx (zs := zs) (l := l) h
      unfold cntGe at ih ⊢
      rw [List.countP_cons, ih, if_neg (by simp; omega)]; rfl

/-! largest remainder -/
theorem lrQ_pos {zs : List Int} (h : ∀ z ∈ zs, 0 ≤ z) (s : Int) : lrQ (pos zs) s = lrQ zs s := by
  funext v; unfold lrQ; rw [pos_sum h]
theorem lrR0_spread {zs : List Int} (h : ∀ z ∈ zs, 0 ≤ z) (s : Int) : lrR0 zs s = spread zs (lrR0 (pos zs) s) := by
  unfold lrR0
  rw [lrQ_pos h]
  exact spread_map (by unfold lrQ; rw [Int.zero_mul, Int.zero_fdiv]) h
theorem lrRem_spread {zs : List Int} (h : ∀ z ∈ zs, 0 ≤ z) (s : Int) : lrRem zs s = spread zs (lrRem (pos zs) s) := by
  unfold lrRem
  rw [lrQ_pos h, pos_sum h]
  exact spread_map (by unfold lrQ; rw [Int.zero_mul, Int.zero_fdiv, Int.zero_mul]; rfl) h

theorem lrQ_bounds {vs : List Int} {s v : Int} (hS : 0 < vs.sum) : 0 ≤ v * s - lrQ vs s v * vs.sum ∧ v * s - lrQ vs s v * vs.sum < vs.sum := by
  unfold lrQ
  have h1 := Int.mul_fdiv_add_fmod (v * s) vs.sum
  have h2 := Int.fmod_nonneg_of_pos (v * s) hS
  have h3 := Int.fmod_lt_of_pos (v * s) hS
  rw [Int.mul_comm] at h1
  omega

theorem sum_map_sub {f g : Int → Int} : ∀ {l : List Int}, (l.map fun v => f v - g v).sum = (l.map f).sum - (l.map g).sum
  | [] => rfl
  | a :: l => by simp only [List.map_cons, List.sum_cons, sum_map_sub]; omega
theorem sum_map_mul {f : Int → Int} {c : Int} : ∀ {l : List Int}, (l.map fun v => f v * c).sum = (l.map f).sum * c
  | [] => by simp
  | a :: l => by simp only [List.map_cons, List.sum_cons, sum_map_mul, Int.add_mul]
theorem sum_map_id {c : Int} : ∀ {l : List Int}, (l.map fun v => v * c).sum = l.sum * c
  | [] => by simp
  | a :: l => by simp only [List.map_cons, List.sum_cons, sum_map_id, Int.add_mul]

theorem lrRem_sum (vs : List Int) (s : Int) : (lrRem vs s).sum = (s - (lrR0 vs s).sum) * vs.sum := by
  unfold lrRem lrR0
  rw [sum_map_sub (f := fun v => v * s) (g := fun v => lrQ vs s v * vs.sum), sum_map_id, sum_map_mul, Int.sub_mul, Int.mul_comm]

theorem cnt_pos {S : Int} : ∀ {l : List Int}, (∀ x ∈ l, 0 ≤ x ∧ x < S) → l.sum ≤ (S - 1) * (cntGe l 1 : Int)
  | [], _ => by simp [cntGe]
  | a :: l, h => by
    have ih := cnt_pos fun y hy => h y (.tail _ hy)
    have ha := h a (.head _)
    unfold cntGe at ih ⊢
    rw [List.sum_cons, List.countP_cons]
    by_cases h1 : 1 ≤ a
    · rw [if_pos (by simpa using h1)]
      push_cast
      rw [Int.mul_add]; omega
    · rw [if_neg (by simpa using h1), Nat.add_zero]; omega

theorem lr_few {vs : List Int} {s : Int} (hS : 0 < vs.sum) (hk : (lrR0 vs s).sum < s) : s - (lrR0 vs s).sum ≤ (cntGe (lrRem vs s) 1 : Int) := by
  have h1 := cnt_pos (S := vs.sum) (l := lrRem vs s) (fun x hx => by
    obtain ⟨v, _, rfl⟩ := List.mem_map.mp hx
    exact lrQ_bounds hS)
  rw [lrRem_sum] at h1
  rcases Int.lt_or_le (cntGe (lrRem vs s) 1 : Int) (s - (lrR0 vs s).sum) with q | q
  · exfalso
    have h2 : (vs.sum - 1) * (cntGe (lrRem vs s) 1 : Int) ≤ (vs.sum - 1) * (s - (lrR0 vs s).sum) := Int.mul_le_mul_of_nonneg_left (by omega) (by omega)
    have h3 : (vs.sum - 1) * (s - (lrR0 vs s).sum) = (s - (lrR0 vs s).sum) * vs.sum - (s - (lrR0 vs s).sum) := by
      rw [Int.sub_mul, Int.one_mul, Int.mul_comm]
    omega
  · exact q

theorem cntGe_le {l : List Int} {x : Int} : cntGe l x ≤ l.length := List.countP_le_length
theorem lrRem_len {vs : List Int} {s : Int} : (lrRem vs s).length = vs.length := by simp [lrRem]

theorem lrCut_spec {vs : List Int} {s : Int} (hS : 0 < vs.sum) (hk : (lrR0 vs s).sum < s) : (cntGt (lrRem vs s) (lrCut vs s) : Int) < s - (lrR0 vs s).sum ∧ s - (lrR0 vs s).sum ≤ (cntGe (lrRem vs s) (lrCut vs s) : Int) ∧ 0 < lrCut vs s := by
  have hf := lr_few hS hk
  have hle := cntGe_le (l := lrRem vs s) (x := 1)
  rw [lrRem_len] at hle
  have sp := kth_spec (l := lrRem vs s) (j := (vs.length + (lrR0 vs s).sum - s).toNat) (by rw [lrRem_len]; omega)
  rw [lrRem_len] at sp
  have e : lrCut vs s = (sortI (lrRem vs s)).getD (vs.length + (lrR0 vs s).sum - s).toNat 0 := rfl
  rw [← e] at sp
  refine ⟨by omega, by omega, ?_⟩
  rcases Int.lt_or_le 0 (lrCut vs s) with q | q
  · exact q
  · exfalso
    have : cntGe (lrRem vs s) 1 ≤ cntGt (lrRem vs s) (lrCut vs s) := by
      unfold cntGe cntGt
      apply List.countP_mono_left
      intro z _ hz
      simp only [decide_eq_true_eq] at hz ⊢
      omega
    omega

theorem lrGo_spread {zs l r0 : List Int} {cut s : Int} (hc : 0 < cut) (hl : l.length = (pos zs).length) (hr : r0.length = (pos zs).length) : ∀ i, i ≤ zs.length → lrGo (spread zs l) cut s (spread zs r0) i = (spread zs (lrGo l cut s r0 (rank zs i)).1, (lrGo l cut s r0 (rank zs i)).2)
  | 0, _ => by rw [rank_zero]; rfl
  | i + 1, hi => by
    have ih := lrGo_spread hc hl hr (s := s) i (by omega)
    have hlen : (lrGo l cut s r0 (rank zs i)).1.length = (pos zs).length := by rw [lrGo_len]; exact hr
    rw [rank_succ (by omega)]
    conv => lhs; unfold lrGo
    dsimp only
    rw [ih]
    dsimp only
    rw [spread_sum hlen, spread_at]
    by_cases hz : 0 < zs.getD i 0
    · simp only [if_pos hz]
      conv => rhs; unfold lrGo
      dsimp only
      rw [spread_set hlen hz, spread_at, if_pos hz]
      split
      · rfl
      · split <;> rfl
    · simp only [if_neg hz]
      rw [if_neg (by omega), if_neg (by omega)]

theorem lrm_spread {zs : List Int} {s : Int} (h : ∀ z ∈ zs, 0 ≤ z) (hS : 0 < zs.sum) : lrm zs s = spread zs (lrm (pos zs) s) := by
  have l0 : (lrR0 (pos zs) s).length = (pos zs).length := by simp [lrR0]
  have lR : (lrRem (pos zs) s).length = (pos zs).length := by simp [lrRem]
  have hsum : (lrR0 zs s).sum = (lrR0 (pos zs) s).sum := by rw [lrR0_spread h, spread_sum l0]
  have hS' : 0 < (pos zs).sum := by rw [pos_sum h]; exact hS
  unfold lrm
  rw [hsum]
  split
  · rename_i hk
    obtain ⟨a1, a2, a3⟩ := lrCut_spec hS' hk
    obtain ⟨b1, b2, b3⟩ := lrCut_spec hS (by rw [hsum]; exact hk)
    rw [hsum] at b1 b2
    have ec : lrCut zs s = lrCut (pos zs) s := by
      refine kth_uniq (l := lrRem zs s) (k := (s - (lrR0 (pos zs) s).sum).toNat) (by omega) (by omega) ?_ ?_
      · rw [lrRem_spread h, cntGt_spread (by omega) lR]; omega
      · rw [lrRem_spread h, cntGe_spread a3 lR]; omega
    rw [ec, lrR0_spread h, lrRem_spread h, lrGo_spread a3 lR l0 zs.length (Nat.le_refl _), rank_len]
  · exact lrR0_spread h s
end Mine

namespace Mine
open PySem PySem.Calls PyProof.Rows PyProof PySem.W

theorem ext_getD {l m : List Int} (hl : l.length = m.length) (h : ∀ i, i < l.length → l.getD i 0 = m.getD i 0) : l = m := by
  apply List.ext_getElem hl
  intro i h1 h2
  have := h i h1
  simpa [List.getD_eq_getElem?_getD, List.getElem?_eq_getElem h1, List.getElem?_eq_getElem h2] using this

/-- the divisors divide the common multiple -/
def dsDiv (ds : List (Int × Int)) : Bool := decide (0 < dvCommon ds) && ds.all fun d => decide (0 < d.1) && decide (0 < d.2) && decide (dvCommon ds % d.1 = 0)
theorem dsDiv_all {s : Nat} (h : 1 ≤ s ∧ s ≤ 5) : dsDiv (dsA s) = true ∧ dsDiv (dsB s) = true ∧ dsDiv (dsC s) = true ∧ dsDiv (dsD s) = true ∧ dsDiv (dsF s) = true := by
  have : s = 1 ∨ s = 2 ∨ s = 3 ∨ s = 4 ∨ s = 5 := by omega
  rcases this with rfl | rfl | rfl | rfl | rfl <;> decide
theorem dsDiv.of {ds : List (Int × Int)} (h : dsDiv ds = true) : 0 < dvCommon ds ∧ ∀ d ∈ ds, 0 < d.1 ∧ 0 < d.2 ∧ ∃ q, dvCommon ds = q * d.1 ∧ 0 < q := by
  unfold dsDiv at h
  simp only [Bool.and_eq_true, decide_eq_true_eq, List.all_eq_true] at h
  refine ⟨h.1, fun d hd => ⟨(h.2 d hd).1.1, (h.2 d hd).1.2, dvCommon ds / d.1, ?_, ?_⟩⟩
  · exact (Int.ediv_mul_cancel (Int.dvd_of_emod_eq_zero (h.2 d hd).2)).symm
  · have h1 := (h.2 d hd).1.1
    have h2 := Int.dvd_of_emod_eq_zero (h.2 d hd).2
    exact Int.ediv_pos_of_pos_of_dvd h.1 (Int.le_of_lt h1) h2

theorem fdiv_exact {a d : Int} (hd : 0 < d) : (a * d).fdiv d = a := by
  rw [Int.fdiv_eq_ediv_of_nonneg _ (Int.le_of_lt hd)]
  exact Int.mul_ediv_cancel _ (by omega)

theorem dvW_zero {sq : Bool} {ds : List (Int × Int)} : ∀ w ∈ dvW sq ds 0, w = 0 := fun w hw => by
  obtain ⟨d, _, rfl⟩ := List.mem_map.mp hw
  have : (if sq = true then (0 : Int) * 0 else 0) = 0 := by split <;> rfl
  rw [this, Int.zero_mul, Int.zero_mul, Int.zero_fdiv]
theorem dvW_pos {sq : Bool} {ds : List (Int × Int)} (hd : dsDiv ds = true) {v : Int} (hv : 0 < v) : ∀ w ∈ dvW sq ds v, 1 ≤ w := fun w hw => by
  obtain ⟨hc, ha⟩ := dsDiv.of hd
  obtain ⟨d, hdm, rfl⟩ := List.mem_map.mp hw
  obtain ⟨h1, h2, q, hq, hq0⟩ := ha d hdm
  have hx : 0 < (if sq = true then v * v else v) := by split; exact Int.mul_pos hv hv; exact hv
  rw [hq, ← Int.mul_assoc, fdiv_exact h1]
  have := Int.mul_pos (Int.mul_pos hx h2) hq0
  omega

theorem cnt_append {l m : List Int} {x : Int} : cntGt (l ++ m) x = cntGt l x + cntGt m x ∧ cntGe (l ++ m) x = cntGe l x + cntGe m x := ⟨List.countP_append, List.countP_append⟩
theorem dvFlat_cons {sq : Bool} {ds : List (Int × Int)} {v : Int} {vs : List Int} : dvFlat sq ds (v :: vs) = dvW sq ds v ++ dvFlat sq ds vs := by simp [dvFlat]

theorem flat_gt {sq : Bool} {ds : List (Int × Int)} {x : Int} (hx : 0 ≤ x) : ∀ {zs : List Int}, (∀ z ∈ zs, 0 ≤ z) → cntGt (dvFlat sq ds zs) x = cntGt (dvFlat sq ds (pos zs)) x
  | [], _ => rfl
  | z :: zs, h => by
    have ih := flat_gt hx (sq := sq) (ds := ds) (zs := zs) fun y hy => h y (.tail _ hy)
    by_cases hz : 0 < z
    · rw [pos_cons_pos hz, dvFlat_cons, dvFlat_cons, cnt_append.1, cnt_append.1, ih]
    · have : z = 0 := by have := h z (.head _); omega
      rw [pos_cons_neg hz, dvFlat_cons, cnt_append.1, ih, this]
      have : cntGt (dvW sq ds 0) x = 0 := by
        unfold cntGt
        rw [List.countP_eq_zero]
        intro w hw
        rw [dvW_zero w hw]; simp; omega
      omega
theorem flat_ge {sq : Bool} {ds : List (Int × Int)} {x : Int} (hx : 0 < x) : ∀ {zs : List Int}, (∀ z ∈ zs, 0 ≤ z) → cntGe (dvFlat sq ds zs) x = cntGe (dvFlat sq ds (pos zs)) x
  | [], _ => rfl
  | z :: zs, h => by
    have ih := flat_ge hx (sq := sq) (ds := ds) (zs := zs) fun y hy => h y (.tail _ hy)
    by_cases hz : 0 < z
    · rw [pos_cons_pos hz, dvFlat_cons, dvFlat_cons, cnt_append.2, cnt_append.2, ih]
    · have : z = 0 := by have := h z (.head _); omega
      rw [pos_cons_neg hz, dvFlat_cons, cnt_append.2, ih, this]
      have : cntGe (dvW sq ds 0) x = 0 := by
        unfold cntGe
        rw [List.countP_eq_zero]
        intro w hw
        rw [dvW_zero w hw]; simp; omega
      omega
theorem flat_many {sq : Bool} {ds : List (Int × Int)} (hd : dsDiv ds = true) : ∀ {zs : List Int}, (∃ z ∈ zs, 0 < z) → ds.length ≤ cntGe (dvFlat sq ds zs) 1
  | [], h => by obtain ⟨z, hz, _⟩ := h; cases hz
  | z :: zs, h => by
    rw [dvFlat_cons, cnt_append.2]
    by_cases hz : 0 < z
    · have : cntGe (dvW sq ds z) 1 = ds.length := by
        unfold cntGe
        rw [← dvW_len (sq := sq) (ds := ds) (p := z), List.countP_eq_length]
        intro w hw
        simpa using dvW_pos hd hz w hw
      omega
    · have := flat_many hd (sq := sq) (zs := zs) (by
        obtain ⟨y, hy, hy0⟩ := h
        rcases List.mem_cons.mp hy with rfl | hy
        · exact absurd hy0 hz
        · exact ⟨y, hy, hy0⟩)
      omega

theorem dvMin_spec {sq : Bool} {ds : List (Int × Int)} {vs r0 : List Int} {s : Int} (hd : dsDiv ds = true) (hp : ∃ z ∈ vs, 0 < z) (hds : (ds.length : Int) = s) (h0 : 0 ≤ r0.sum) (hk : r0.sum < s) :
    (cntGt (dvFlat sq ds vs) (dvMin sq ds vs s r0) : Int) < s - r0.sum ∧ s - r0.sum ≤ (cntGe (dvFlat sq ds vs) (dvMin sq ds vs s r0) : Int) ∧ 0 < dvMin sq ds vs s r0 := by
  have hm := flat_many hd (sq := sq) hp
  have hle := cntGe_le (l := dvFlat sq ds vs) (x := 1)
  have sp := kth_spec (l := dvFlat sq ds vs) (j := ((dvFlat sq ds vs).length - s + r0.sum).toNat) (by omega)
  have e : dvMin sq ds vs s r0 = (sortI (dvFlat sq ds vs)).getD ((dvFlat sq ds vs).length - s + r0.sum).toNat 0 := rfl
  rw [← e] at sp
  refine ⟨by omega, by omega, ?_⟩
  rcases Int.lt_or_le 0 (dvMin sq ds vs s r0) with q | q
  · exact q
  · exfalso
    have : cntGe (dvFlat sq ds vs) 1 ≤ cntGt (dvFlat sq ds vs) (dvMin sq ds vs s r0) := by
      unfold cntGe cntGt
      apply List.countP_mono_left
      intro z _ hz
      simp only [decide_eq_true_eq] at hz ⊢
      omega
    omega

theorem dvGo_spread {zs r0 : List Int} {mem mem' : Nat → Bool} {s : Int} (hr : r0.length = (pos zs).length) (h1 : ∀ i, 0 < zs.getD i 0 → mem i = mem' (rank zs i)) (h0 : ∀ i, i < zs.length → ¬ 0 < zs.getD i 0 → mem i = false) :
    ∀ i, i ≤ zs.length → dvGo mem s (spread zs r0) i = (spread zs (dvGo mem' s r0 (rank zs i)).1, (dvGo mem' s r0 (rank zs i)).2)
  | 0, _ => by rw [rank_zero]; rfl
  | i + 1, hi => by
    have ih := dvGo_spread hr h1 h0 (s := s) i (by omega)
    have hlen : (dvGo mem' s r0 (rank zs i)).1.length = (pos zs).length := by rw [dvGo_len]; exact hr
    rw [rank_succ (by omega)]
    conv => lhs; unfold dvGo
    dsimp only
    rw [ih]
    dsimp only
    rw [spread_sum hlen]
    by_cases hz : 0 < zs.getD i 0
    · simp only [if_pos hz]
      conv => rhs; unfold dvGo
      dsimp only
      rw [spread_set hlen hz, spread_at, if_pos hz, h1 i hz]
      split <;> rfl
    · simp only [if_neg hz]
      rw [h0 i (by omega) hz]
      simp

theorem dvTail_spread {sq : Bool} {ds : List (Int × Int)} {zs r0 : List Int} {s : Int} (h : ∀ z ∈ zs, 0 ≤ z) (hp : ∃ z ∈ zs, 0 < z) (hd : dsDiv ds = true) (hds : (ds.length : Int) = s) (hr : r0.length = (pos zs).length) (h0 : 0 ≤ r0.sum) :
    dvTail sq ds zs s (spread zs r0) = spread zs (dvTail sq ds (pos zs) s r0) := by
  have hp' : ∃ z ∈ pos zs, 0 < z := by
    obtain ⟨z, hz, hz0⟩ := hp
    exact ⟨z, List.mem_filter.mpr ⟨hz, by simpa using hz0⟩, hz0⟩
  have hsum : (spread zs r0).sum = r0.sum := spread_sum hr
  unfold dvTail
  rw [hsum]
  split
  · rename_i hk
    obtain ⟨a1, a2, a3⟩ := dvMin_spec (sq := sq) hd hp' hds h0 hk
    obtain ⟨b1, b2, b3⟩ := dvMin_spec (sq := sq) (r0 := spread zs r0) hd hp hds (by rw [hsum]; exact h0) (by rw [hsum]; exact hk)
    rw [hsum] at b1 b2
    have em : dvMin sq ds zs s (spread zs r0) = dvMin sq ds (pos zs) s r0 := by
      refine kth_uniq (l := dvFlat sq ds zs) (k := (s - r0.sum).toNat) (by omega) (by omega) ?_ ?_
      · rw [flat_gt (by omega) h]; omega
      · rw [flat_ge a3 h]; omega
    have eA : ∀ i, 0 < zs.getD i 0 → dvAt sq ds zs i = dvAt sq ds (pos zs) (rank zs i) := fun i hi => by
      unfold dvAt; rw [(pos_at hi).2]
    have eZ : ∀ i, i < zs.length → ¬ 0 < zs.getD i 0 → dvAt sq ds zs i = dvW sq ds 0 := fun i hi hz => by
      have := h _ (getD_mem hi)
      unfold dvAt; rw [show zs.getD i 0 = 0 by omega]
    have lR : (dvR1 sq ds (pos zs) s r0).length = (pos zs).length := by simp [dvR1, upto_len]
    have uptoD : ∀ n i, i < n → (upto n).getD i 0 = (i : Int) := fun n i hi => by simp [upto, List.getD_eq_getElem?_getD, hi]
    have eR : dvR1 sq ds zs s (spread zs r0) = spread zs (dvR1 sq ds (pos zs) s r0) := by
      apply ext_getD
      · rw [spread_len]; simp [dvR1, upto_len]
      · intro i hi
        have hi' : i < zs.length := by simpa [dvR1, upto_len] using hi
        rw [spread_at]
        conv => lhs; unfold dvR1
        rw [getD_map (by rw [upto_len]; exact hi'), uptoD _ _ hi', show (i : Int).toNat = i by simp, spread_at, em]
        by_cases hz : 0 < zs.getD i 0
        · have hr' := (pos_at hz).1
          rw [if_pos hz, if_pos hz, eA i hz]
          conv => rhs; unfold dvR1
          rw [getD_map (by rw [upto_len]; exact hr'), uptoD _ _ hr', show (rank zs i : Int).toNat = rank zs i by simp]
        · rw [if_neg hz, if_neg hz, eZ i hi' hz]
          have : (dvW sq ds 0).filter (fun w => decide (dvMin sq ds (pos zs) s r0 < w)) = [] := by
            rw [List.filter_eq_nil_iff]
            intro w hw
            rw [dvW_zero w hw]; simp; omega
          rw [this]; rfl
    rw [eR, spread_sum lR]
    split
    · rw [dvGo_spread (mem' := dvMem sq ds (pos zs) s r0) lR (fun i hi => ?_) (fun i hi hz => ?_) zs.length (Nat.le_refl _), rank_len]
      · unfold dvMem; rw [eA i hi, em]
      · unfold dvMem
        rw [eZ i hi hz, em]
        rw [List.any_eq_false]
        intro w hw
        rw [dvW_zero w hw]; simp; omega
    · rfl
  · rfl

theorem zeros_spread {zs : List Int} (h : ∀ z ∈ zs, 0 ≤ z) : zeros zs = spread zs (zeros (pos zs)) := by
  have e : ∀ l : List Int, zeros l = l.map fun _ => 0 := fun l => by unfold zeros; rw [List.map_const']
  rw [e, e]
  exact spread_map (f := fun _ => 0) rfl h
theorem ones_spread {zs : List Int} (h : ∀ z ∈ zs, 0 ≤ z) : ones zs = spread zs (ones (pos zs)) := spread_map (f := fun p => if 0 < p then 1 else 0) rfl h

theorem dv_spread {m : Str} {zs : List Int} {s : Nat} (hs : 1 ≤ s ∧ s ≤ 5) (h : ∀ z ∈ zs, 0 ≤ z) (hp : ∃ z ∈ zs, 0 < z) : dv m zs s = spread zs (dv m (pos zs) s) := by
  obtain ⟨dA, dB, dC, dD, dF⟩ := dsDiv_all hs
  have len : ∀ ds, dsOKb ds s = true → (ds.length : Int) = (s : Int) := fun ds h => by
    unfold dsOKb at h
    simp only [Bool.and_eq_true, decide_eq_true_eq] at h
    rw [h.1.1.1]
  obtain ⟨lA, lB, lC, lD, lF⟩ := dsOK hs
  have lz : (zeros (pos zs)).length = (pos zs).length := by simp [zeros]
  have lo : (ones (pos zs)).length = (pos zs).length := by simp [ones]
  have z0 : 0 ≤ (zeros (pos zs)).sum := by rw [zeros_sum]; omega
  have o0 := ones_sum (pos zs)
  unfold dv dvData
  repeat' split
  · rw [zeros_spread h]; exact dvTail_spread h hp dA (len _ lA) lz z0
  · rw [zeros_spread h]; exact dvTail_spread h hp dB (len _ lB) lz z0
  · rw [zeros_spread h]; exact dvTail_spread h hp dC (len _ lC) lz z0
  · rw [ones_spread h]; exact dvTail_spread h hp dD (len _ lD) lo o0
  · rw [ones_spread h]; exact dvTail_spread h hp dA (len _ lA) lo o0
  · rw [ones_spread h]; exact dvTail_spread h hp dF (len _ lF) lo o0
end Mine

namespace Mine
open PySem PySem.Calls PyProof.Rows PyProof PySem.W

theorem foldl_succ (c : Int) : ∀ (rs : List Int), rs.foldl (fun c r => c * (r + 1)) c = c * prodSucc rs
  | [] => by simp [prodSucc]
  | r :: rs => by
    unfold prodSucc
    rw [List.foldl_cons, List.foldl_cons, foldl_succ, foldl_succ (1 * (r + 1)), Int.one_mul, Int.mul_assoc]
theorem prodSucc_cons {r : Int} {rs : List Int} : prodSucc (r :: rs) = (r + 1) * prodSucc rs := by
  conv => lhs; unfold prodSucc
  rw [List.foldl_cons, foldl_succ, Int.one_mul]
theorem prodSucc_spread : ∀ {zs rs : List Int}, rs.length = (pos zs).length → prodSucc (spread zs rs) = prodSucc rs
  | [], rs, h => by
    have : rs = [] := List.length_eq_zero_iff.mp (by simpa [pos] using h)
    subst this; rfl
  | z :: zs, rs, h => by
    unfold spread
    by_cases hz : 0 < z
    · rw [if_pos hz]
      rw [pos_cons_pos hz] at h
      cases rs with
      | nil => simp at h
      | cons r rs => rw [List.headD_cons, List.tail_cons, prodSucc_cons, prodSucc_cons, prodSucc_spread (by simpa using h)]
    · rw [if_neg hz]
      rw [pos_cons_neg hz] at h
      rw [prodSucc_cons, prodSucc_spread h]; simp
theorem prodSucc_pos : ∀ {rs : List Int}, (∀ r ∈ rs, 0 ≤ r) → 0 < prodSucc rs
  | [], _ => by simp [prodSucc]
  | r :: rs, h => by
    rw [prodSucc_cons]
    exact Int.mul_pos (by have := h r (.head _); omega) (prodSucc_pos fun y hy => h y (.tail _ hy))
theorem prodSucc_dvd : ∀ {rs : List Int}, (∀ r ∈ rs, 0 ≤ r) → ∀ r ∈ rs, ∃ q, 0 < q ∧ prodSucc rs = q * (r + 1)
  | [], _, _, h => by cases h
  | a :: rs, h, r, hr => by
    rw [prodSucc_cons]
    rcases List.mem_cons.mp hr with rfl | hr
    · exact ⟨prodSucc rs, prodSucc_pos fun y hy => h y (.tail _ hy), Int.mul_comm _ _⟩
    · obtain ⟨q, hq, e⟩ := prodSucc_dvd (fun y hy => h y (.tail _ hy)) r hr
      exact ⟨(a + 1) * q, Int.mul_pos (by have := h a (.head _); omega) hq, by rw [e, Int.mul_assoc]⟩

theorem filter_first {p : Int → Bool} : ∀ (n a : Nat) {k : Nat} {r : List Int}, ((List.range' a n).map fun i : Nat => (i : Int)).filter p = (k : Int) :: r → a ≤ k ∧ k < a + n ∧ p k = true ∧ ∀ j, a ≤ j → j < k → p j = false
  | 0, a, k, r, h => by simp at h
  | n + 1, a, k, r, h => by
    rw [List.range'_succ, List.map_cons, List.filter_cons] at h
    split at h
    · rename_i hp
      have e : (a : Int) = k := (List.cons.inj h).1
      have e : a = k := by omega
      subst e
      exact ⟨Nat.le_refl _, by omega, hp, fun j h1 h2 => by omega⟩
    · rename_i hp
      obtain ⟨h1, h2, h3, h4⟩ := filter_first n (a + 1) h
      refine ⟨by omega, by omega, h3, fun j hj1 hj2 => ?_⟩
      rcases Nat.lt_or_eq_of_le hj1 with q | q
      · exact h4 j q hj2
      · subst q; simpa using hp

/-- the first of the best -/
theorem qNext_first {vs rs : List Int} (h : vs ≠ []) : qNext vs rs < vs.length ∧ qCut vs rs (qNext vs rs) = maxOf (qList vs rs) ∧ ∀ j : Nat, j < qNext vs rs → qCut vs rs j ≠ maxOf (qList vs rs) := by
  obtain ⟨k, r, hf, hk, e⟩ := qNext_ex (rs := rs) h
  rw [e]
  have hf' : ((List.range' 0 vs.length).map fun i : Nat => (i : Int)).filter (fun i => qCut vs rs i == maxOf (qList vs rs)) = (k : Int) :: r := by
    rw [← List.range_eq_range']; exact hf
  obtain ⟨_, h2, h3, h4⟩ := filter_first _ _ hf'
  exact ⟨by omega, by simpa using h3, fun j hj => by simpa using h4 j (Nat.zero_le _) hj⟩

theorem qList_mem {vs rs : List Int} {x : Int} : x ∈ qList vs rs ↔ ∃ k : Nat, k < vs.length ∧ x = qCut vs rs k := by
  unfold qList
  constructor
  · intro h
    obtain ⟨i, hi, e⟩ := List.mem_map.mp h
    obtain ⟨k, rfl, hk⟩ := upto_mem hi
    exact ⟨k, hk, e.symm⟩
  · rintro ⟨k, hk, rfl⟩
    exact List.mem_map.mpr ⟨k, List.mem_map.mpr ⟨k, List.mem_range.mpr hk, rfl⟩, rfl⟩

theorem sum_le {l m : List Int} (hl : l.length = m.length) (h : ∀ i, i < l.length → l.getD i 0 ≤ m.getD i 0) : l.sum ≤ m.sum := by
  induction l generalizing m with
  | nil => cases m with
    | nil => simp
    | cons => simp at hl
  | cons a l ih =>
    cases m with
    | nil => simp at hl
    | cons b m =>
      have h0 := h 0 (by simp)
      have := ih (m := m) (by simpa using hl) fun i hi => by simpa using h (i + 1) (by simpa using hi)
      simp only [List.sum_cons]
      simp at h0
      omega

theorem qUp_ge {vs rs : List Int} (hS : 0 < vs.sum) (v : Int) : v * (rs.sum + 1) ≤ qUp vs rs v * vs.sum ∧ qUp vs rs v * vs.sum < v * (rs.sum + 1) + vs.sum := by
  unfold qUp
  have h1 := Int.mul_fdiv_add_fmod (-v * (rs.sum + 1)) vs.sum
  have h2 := Int.fmod_nonneg_of_pos (-v * (rs.sum + 1)) hS
  have h3 := Int.fmod_lt_of_pos (-v * (rs.sum + 1)) hS
  rw [Int.mul_comm] at h1
  have h4 : -v * (rs.sum + 1) = -(v * (rs.sum + 1)) := Int.neg_mul _ _
  rw [Int.neg_mul]
  omega

/-- who is eligible -/
theorem qUp_iff {vs rs : List Int} (hS : 0 < vs.sum) (v r : Int) : qUp vs rs v ≤ r ↔ v * (rs.sum + 1) ≤ r * vs.sum := by
  obtain ⟨h1, h2⟩ := qUp_ge (rs := rs) hS v
  constructor
  · intro h
    have := Int.mul_le_mul_of_nonneg_right h (Int.le_of_lt hS)
    omega
  · intro h
    rcases Int.lt_or_le r (qUp vs rs v) with q | q
    · have := Int.mul_le_mul_of_nonneg_right (show r + 1 ≤ qUp vs rs v by omega) (Int.le_of_lt hS)
      rw [Int.add_mul] at this; omega
    · exact q

theorem some_below {vs rs : List Int} (hl : rs.length = vs.length) (hS : 0 < vs.sum) : ∃ i, i < vs.length ∧ rs.getD i 0 < qUp vs rs (vs.getD i 0) := by
  apply Classical.byContradiction
  intro hn
  have hall : ∀ i, i < vs.length → qUp vs rs (vs.getD i 0) ≤ rs.getD i 0 := fun i hi => by
    rcases Int.lt_or_le (rs.getD i 0) (qUp vs rs (vs.getD i 0)) with q | q
    · exact absurd ⟨i, hi, q⟩ hn
    · exact q
  have h1 : (vs.map fun v => v * (rs.sum + 1)).sum ≤ (rs.map fun r => r * vs.sum).sum := by
    refine sum_le (by simp [hl]) fun i hi => ?_
    rw [List.length_map] at hi
    rw [getD_map hi, getD_map (by omega)]
    exact (qUp_iff hS _ _).1 (hall i hi)
  rw [sum_map_id, sum_map_id] at h1
  have : vs.sum * (rs.sum + 1) = vs.sum * rs.sum + vs.sum := by rw [Int.mul_add, Int.mul_one]
  rw [Int.mul_comm rs.sum] at h1
  omega

theorem qRaw_pos {vs rs : List Int} (hr : ∀ r ∈ rs, 0 ≤ r) {i : Nat} (hi : i < rs.length) : ∃ q, 0 < q ∧ prodSucc rs = q * (rs.getD i 0 + 1) ∧ qRaw vs rs i = vs.getD i 0 * q := by
  obtain ⟨q, hq, e⟩ := prodSucc_dvd hr _ (getD_mem hi)
  refine ⟨q, hq, e, ?_⟩
  unfold qRaw
  rw [show (i : Int).toNat = i by simp, e, ← Int.mul_assoc]
  exact fdiv_exact (by have := hr _ (getD_mem hi); omega)

theorem qMax_pos {vs rs : List Int} (hv : ∀ v ∈ vs, 0 < v) (hl : rs.length = vs.length) (hr : ∀ r ∈ rs, 0 ≤ r) (hS : 0 < vs.sum) : 0 < maxOf (qList vs rs) := by
  obtain ⟨i, hi, hb⟩ := some_below hl hS
  have hm : qCut vs rs i ∈ qList vs rs := qList_mem.2 ⟨i, hi, rfl⟩
  have := le_maxOf hm
  obtain ⟨q, hq, _, e⟩ := qRaw_pos (vs := vs) hr (by omega : i < rs.length)
  have e2 : qCut vs rs i = vs.getD i 0 * q := by
    unfold qCut
    rw [show (i : Int).toNat = i by simp, if_neg (by omega), e]
  have := Int.mul_pos (hv _ (getD_mem hi)) hq
  omega

theorem rank_inv : ∀ {zs : List Int} {r : Nat}, r < (pos zs).length → ∃ i, i < zs.length ∧ 0 < zs.getD i 0 ∧ rank zs i = r
  | [], r, h => by simp [pos] at h
  | z :: zs, r, h => by
    by_cases hz : 0 < z
    · cases r with
      | zero => exact ⟨0, by simp, by simpa using hz, rank_zero⟩
      | succ r =>
        rw [pos_cons_pos hz] at h
        obtain ⟨i, h1, h2, h3⟩ := rank_inv (zs := zs) (r := r) (by simpa using h)
        exact ⟨i + 1, by simpa using h1, by simpa using h2, by rw [rank_cons_pos hz, h3]⟩
    · rw [pos_cons_neg hz] at h
      obtain ⟨i, h1, h2, h3⟩ := rank_inv (zs := zs) (r := r) h
      exact ⟨i + 1, by simpa using h1, by simpa using h2, by rw [rank_cons_neg hz, h3]⟩
theorem rank_mono {zs : List Int} : ∀ {i j : Nat}, i ≤ j → j ≤ zs.length → rank zs i ≤ rank zs j := by
  intro i j hij
  induction j with
  | zero => intro _; have : i = 0 := by omega
            subst this; exact Nat.le_refl _
  | succ j ih =>
    intro hj
    rcases Nat.lt_or_eq_of_le hij with h | h
    · have := ih (by omega) (by omega)
      rw [rank_succ (by omega)]; split <;> omega
    · subst h; exact Nat.le_refl _

theorem qStep_spread {zs rs : List Int} (h : ∀ z ∈ zs, 0 ≤ z) (hS : 0 < zs.sum) (hl : rs.length = (pos zs).length) (hr : ∀ r ∈ rs, 0 ≤ r) : qStep zs (spread zs rs) = spread zs (qStep (pos zs) rs) := by
  have hS' : 0 < (pos zs).sum := by rw [pos_sum h]; exact hS
  have hp : ∀ v ∈ pos zs, 0 < v := fun v hv => by simpa using (List.mem_filter.mp hv).2
  have hne : zs ≠ [] := fun e => by subst e; simp at hS
  have hne' : pos zs ≠ [] := fun e => by rw [e] at hS'; simp at hS'
  have hM := qMax_pos hp hl hr hS'
  have eU : ∀ v, qUp zs (spread zs rs) v = qUp (pos zs) rs v := fun v => by unfold qUp; rw [spread_sum hl, pos_sum h]
  have c1 : ∀ i : Nat, 0 < zs.getD i 0 → qCut zs (spread zs rs) i = qCut (pos zs) rs (rank zs i : Nat) := fun i hi => by
    unfold qCut qRaw
    simp only [show (i : Int).toNat = i by simp, show ((rank zs i : Nat) : Int).toNat = rank zs i by simp]
    rw [eU, spread_at, if_pos hi, (pos_at hi).2, prodSucc_spread hl]
  have c0 : ∀ i : Nat, i < zs.length → ¬ 0 < zs.getD i 0 → qCut zs (spread zs rs) i = 0 := fun i hi hz => by
    have : zs.getD i 0 = 0 := by have := h _ (getD_mem hi); omega
    unfold qCut
    simp only [show (i : Int).toNat = i by simp]
    rw [spread_at, if_neg hz, this, if_pos]
    exact (qUp_iff hS _ _).2 (by simp)
  have eM : maxOf (qList zs (spread zs rs)) = maxOf (qList (pos zs) rs) := by
    refine Int.le_antisymm ?_ ?_
    · have nn : qList zs (spread zs rs) ≠ [] := fun e => by
        have := congrArg List.length e
        simp only [qList, List.length_map, upto_len, List.length_nil] at this
        exact hne (List.length_eq_zero_iff.mp this)
      obtain ⟨k, hk, e⟩ := qList_mem.1 (maxOf_mem nn)
      rw [e]
      by_cases hz : 0 < zs.getD k 0
      · rw [c1 k hz]; exact le_maxOf (qList_mem.2 ⟨_, (pos_at hz).1, rfl⟩)
      · rw [c0 k hk hz]; omega
    · have nn : qList (pos zs) rs ≠ [] := fun e => by
        have := congrArg List.length e
        simp only [qList, List.length_map, upto_len, List.length_nil] at this
        exact hne' (List.length_eq_zero_iff.mp this)
      obtain ⟨r, hr', e⟩ := qList_mem.1 (maxOf_mem nn)
      obtain ⟨i, hi, hz, er⟩ := rank_inv hr'
      rw [e, ← er, ← c1 i hz]
      exact le_maxOf (qList_mem.2 ⟨i, hi, rfl⟩)
  obtain ⟨k1, k2, k3⟩ := qNext_first (rs := spread zs rs) hne
  obtain ⟨j1, j2, j3⟩ := qNext_first (rs := rs) hne'
  rw [eM] at k2 k3
  generalize hkk : qNext zs (spread zs rs) = k at k1 k2 k3
  have hz : 0 < zs.getD k 0 := by
    apply Classical.byContradiction
    intro q; rw [c0 k k1 q] at k2; omega
  have ek : qNext (pos zs) rs = rank zs k := by
    rcases Nat.lt_trichotomy (qNext (pos zs) rs) (rank zs k) with q | q | q
    · obtain ⟨i, hi, hzi, er⟩ := rank_inv j1
      have hik : i < k := by
        apply Classical.byContradiction
        intro hn
        have := rank_mono (zs := zs) (i := k) (j := i) (by omega) (by omega)
        omega
      refine absurd ?_ (k3 i hik)
      rw [c1 i hzi, er]; exact j2
    · exact q
    · exact absurd (by rw [← c1 k hz]; exact k2) (j3 _ q)
  unfold qStep
  rw [hkk, ek, spread_at, if_pos hz, spread_set hl hz]

theorem quo_spread {zs : List Int} (h : ∀ z ∈ zs, 0 ≤ z) (hS : 0 < zs.sum) : ∀ i, quo zs i = spread zs (quo (pos zs) i)
  | 0 => zeros_spread h
  | i + 1 => by
    have hS' : 0 < (pos zs).sum := by rw [pos_sum h]; exact hS
    have hne' : pos zs ≠ [] := fun e => by rw [e] at hS'; simp at hS'
    show qStep zs (quo zs i) = spread zs (qStep (pos zs) (quo (pos zs) i))
    rw [quo_spread h hS i]
    exact qStep_spread h hS (quo_len _ _) fun r hr => ((quo_ok hne' i).2 r hr).1

/-- zeros among the votes do not matter -/
theorem meth_spread {m : Str} {zs : List Int} {s : Nat} (hs : 1 ≤ s ∧ s ≤ 5) (h : ∀ z ∈ zs, 0 ≤ z) (hS : 0 < zs.sum) : meth m zs s = spread zs (meth m (pos zs) s) := by
  have hp : ∃ z ∈ zs, 0 < z := by
    apply Classical.byContradiction
    intro hn
    have : ∀ z ∈ zs, z = 0 := fun z hz => by
      have h1 := h z hz
      rcases Int.lt_or_le 0 z with q | q
      · exact absurd ⟨z, hz, q⟩ hn
      · omega
    have : zs.sum = 0 := by
      clear hS hn h
      induction zs with
      | nil => rfl
      | cons a l ih => rw [List.sum_cons, ih fun y hy => this y (.tail _ hy), this a (.head _)]; rfl
    omega
  unfold meth
  split
  · exact quo_spread h hS s
  · split
    · exact lrm_spread h hS
    · exact dv_spread hs h hp
end Mine

namespace Mine
open PySem PySem.Calls PyProof.Rows PyProof PySem.W

def sumN (n : Nat) (f : Nat → Int) : Int := ((List.range n).map f).sum
theorem sumN_succ {n : Nat} {f : Nat → Int} : sumN (n + 1) f = sumN n f + f n := by
  unfold sumN; rw [List.range_succ, List.map_append, List.sum_append]; simp
theorem sumN_list : ∀ (l : List Int), l.sum = sumN l.length fun k => l.getD k 0 := by
  intro l
  unfold sumN
  congr 1
  apply List.ext_getElem
  · simp
  · intro i h1 h2
    simp [List.getD_eq_getElem?_getD, h1]
theorem sumN_congr {n : Nat} {f g : Nat → Int} (h : ∀ k, k < n → f k = g k) : sumN n f = sumN n g := by
  unfold sumN
  congr 1
  apply List.map_congr_left
  intro k hk
  exact h k (List.mem_range.mp hk)
theorem sumN_sub {f g : Nat → Int} : ∀ {n : Nat}, sumN n (fun k => f k - g k) = sumN n f - sumN n g
  | 0 => rfl
  | n + 1 => by rw [sumN_succ, sumN_succ, sumN_succ, sumN_sub]; omega
theorem sumN_mul {f : Nat → Int} {c : Int} : ∀ {n : Nat}, sumN n (fun k => f k * c) = sumN n f * c
  | 0 => by simp [sumN]
  | n + 1 => by rw [sumN_succ, sumN_succ, sumN_mul, Int.add_mul]
theorem sumN_le {f : Nat → Int} : ∀ {n : Nat}, (∀ k, k < n → f k ≤ 0) → sumN n f ≤ 0
  | 0, _ => by simp [sumN]
  | n + 1, h => by
    rw [sumN_succ]
    have := sumN_le (f := f) (n := n) fun k hk => h k (by omega)
    have := h n (by omega)
    omega
theorem sumN_lt {f : Nat → Int} : ∀ {n : Nat}, (∀ k, k < n → f k ≤ 0) → ∀ i, i < n → f i < 0 → sumN n f < 0
  | 0, _, i, hi, _ => by omega
  | n + 1, h, i, hi, hf => by
    rw [sumN_succ]
    have h1 := sumN_le (f := f) (n := n) fun k hk => h k (by omega)
    have h2 := h n (by omega)
    rcases Nat.lt_or_eq_of_le (Nat.le_of_lt_succ hi) with q | q
    · have := sumN_lt (f := f) (n := n) (fun k hk => h k (by omega)) i q hf
      omega
    · subst q; omega

/-- the shares add up: if one is far below, one is above -/
theorem some_above {vs t : List Int} {s : Int} (hl : t.length = vs.length) (hs : t.sum = s) (hS : 0 < vs.sum) {i : Nat} (hi : i < vs.length) (hb : t.getD i 0 * vs.sum < vs.getD i 0 * s) : ∃ j, j < vs.length ∧ vs.getD j 0 * s < t.getD j 0 * vs.sum := by
  apply Classical.byContradiction
  intro hn
  have h1 : sumN vs.length (fun k => t.getD k 0 * vs.sum - vs.getD k 0 * s) < 0 := by
    refine sumN_lt (fun k hk => ?_) i hi (by omega)
    rcases Int.lt_or_le (vs.getD k 0 * s) (t.getD k 0 * vs.sum) with q | q
    · exact absurd ⟨k, hk, q⟩ hn
    · omega
  rw [sumN_sub, sumN_mul, sumN_mul, ← sumN_list vs] at h1
  have h2 : sumN vs.length (fun k => t.getD k 0) = t.sum := by rw [sumN_list t, hl]
  rw [h2, hs, Int.mul_comm] at h1
  omega

theorem sum_nonneg : ∀ {l : List Int}, (∀ v ∈ l, 0 ≤ v) → 0 ≤ l.sum
  | [], _ => by simp
  | a :: l, h => by
    have := sum_nonneg fun v hv => h v (.tail a hv)
    have := h a (.head _)
    rw [List.sum_cons]; omega
theorem getD_le_sum : ∀ {vs : List Int} {i : Nat}, (∀ v ∈ vs, 0 ≤ v) → i < vs.length → vs.getD i 0 ≤ vs.sum
  | [], i, _, h => by simp at h
  | a :: l, 0, h, _ => by
    have := sum_nonneg fun v hv => h v (.tail a hv)
    simp; omega
  | a :: l, i + 1, h, hi => by
    have := getD_le_sum (vs := l) (i := i) (fun v hv => h v (.tail _ hv)) (by simpa using hi)
    have := h a (.head _)
    rw [List.getD_cons_succ, List.sum_cons]; omega

/-! the quota method keeps the lower quota -/
section
variable {vs : List Int}

theorem quo_step (hv : ∀ v ∈ vs, 0 < v) (hS : 0 < vs.sum) (t : Nat) : ∃ c, c < vs.length ∧ quo vs (t + 1) = (quo vs t).set c ((quo vs t).getD c 0 + 1) ∧ (quo vs t).getD c 0 * vs.sum < vs.getD c 0 * (t + 1) ∧
    ∀ k, k < vs.length → (quo vs t).getD k 0 * vs.sum < vs.getD k 0 * (t + 1) → vs.getD k 0 * ((quo vs t).getD c 0 + 1) ≤ vs.getD c 0 * ((quo vs t).getD k 0 + 1) := by
  have hne : vs ≠ [] := fun e => by subst e; simp at hS
  obtain ⟨hsum, hr⟩ := quo_ok hne t
  have hl := quo_len vs t
  obtain ⟨k1, k2, _⟩ := qNext_first (rs := quo vs t) hne
  have hM := qMax_pos hv hl (fun r h => (hr r h).1) hS
  have el : ∀ k, k < vs.length → (qUp vs (quo vs t) (vs.getD k 0) ≤ (quo vs t).getD k 0 ↔ ¬ (quo vs t).getD k 0 * vs.sum < vs.getD k 0 * (t + 1)) := fun k hk => by
    rw [qUp_iff hS, hsum]; omega
  refine ⟨qNext vs (quo vs t), k1, rfl, ?_, fun k hk hek => ?_⟩
  · apply Classical.byContradiction
    intro q
    have : qCut vs (quo vs t) (qNext vs (quo vs t)) = 0 := by
      unfold qCut
      simp only [show ((qNext vs (quo vs t) : Nat) : Int).toNat = qNext vs (quo vs t) by simp]
      rw [if_pos ((el _ k1).2 q)]
    omega
  · obtain ⟨qk, hqk, ek, rk⟩ := qRaw_pos (vs := vs) (fun r h => (hr r h).1) (by omega : k < (quo vs t).length)
    obtain ⟨qc, hqc, ec, rc⟩ := qRaw_pos (vs := vs) (fun r h => (hr r h).1) (by omega : qNext vs (quo vs t) < (quo vs t).length)
    have hk2 : qCut vs (quo vs t) k = vs.getD k 0 * qk := by
      unfold qCut
      simp only [show (k : Int).toNat = k by simp]
      rw [if_neg (fun q => (el k hk).1 q hek), rk]
    have hc2 : qCut vs (quo vs t) (qNext vs (quo vs t)) ≤ vs.getD (qNext vs (quo vs t)) 0 * qc := by
      unfold qCut
      simp only [show ((qNext vs (quo vs t) : Nat) : Int).toNat = qNext vs (quo vs t) by simp]
      split
      · exact Int.mul_nonneg (Int.le_of_lt (hv _ (getD_mem k1))) (Int.le_of_lt hqc)
      · rw [rc]; exact Int.le_refl _
    have hle : vs.getD k 0 * qk ≤ vs.getD (qNext vs (quo vs t)) 0 * qc := by
      have := le_maxOf (qList_mem.2 ⟨k, hk, rfl⟩ : qCut vs (quo vs t) k ∈ qList vs (quo vs t))
      rw [hk2] at this
      rw [← k2] at this
      omega
    have hPk := (hr _ (getD_mem (by omega : k < (quo vs t).length))).1
    have hPc := (hr _ (getD_mem (by omega : qNext vs (quo vs t) < (quo vs t).length))).1
    generalize (quo vs t).getD k 0 = a at *
    generalize (quo vs t).getD (qNext vs (quo vs t)) 0 = b at *
    generalize vs.getD k 0 = x at *
    generalize vs.getD (qNext vs (quo vs t)) 0 = y at *
    have hP : 0 < prodSucc (quo vs t) := prodSucc_pos fun r h => (hr r h).1
    generalize prodSucc (quo vs t) = P at *
    -- x*qk <= y*qc, P = qk*(a+1) = qc*(b+1)
    have h1 : x * qk * ((a + 1) * (b + 1)) ≤ y * qc * ((a + 1) * (b + 1)) := Int.mul_le_mul_of_nonneg_right hle (Int.mul_nonneg (by omega) (by omega))
    have h2 : x * qk * ((a + 1) * (b + 1)) = x * (b + 1) * P := by
      rw [ek]; simp only [Int.mul_assoc, Int.mul_comm, Int.mul_left_comm]
    have h3 : y * qc * ((a + 1) * (b + 1)) = y * (a + 1) * P := by
      rw [ec]; simp only [Int.mul_assoc, Int.mul_comm, Int.mul_left_comm]
    rw [h2, h3] at h1
    exact Int.le_of_mul_le_mul_right h1 hP
end
end Mine

namespace Mine
open PySem PySem.Calls PyProof.Rows PyProof PySem.W

theorem exists_last {P : Nat → Prop} : ∀ {s : Nat}, (∃ t, t < s ∧ P t) → ∃ t, t < s ∧ P t ∧ ∀ t', t < t' → t' < s → ¬ P t'
  | 0, h => by obtain ⟨t, ht, _⟩ := h; omega
  | s + 1, h => by
    by_cases hp : P s
    · exact ⟨s, by omega, hp, fun t' h1 h2 => by omega⟩
    · obtain ⟨t, ht, hpt⟩ := h
      have hts : t < s := by
        rcases Nat.lt_or_eq_of_le (Nat.le_of_lt_succ ht) with q | q
        · exact q
        · subst q; exact absurd hpt hp
      obtain ⟨t1, h1, h2, h3⟩ := exists_last ⟨t, hts, hpt⟩
      exact ⟨t1, by omega, h2, fun t' q1 q2 => by
        rcases Nat.lt_or_eq_of_le (Nat.le_of_lt_succ q2) with q | q
        · exact h3 t' q1 q
        · subst q; exact hp⟩

/-- Balinski and Young: the quota method keeps the lower quota -/
theorem quo_lower {vs : List Int} (hv : ∀ v ∈ vs, 0 < v) (hS : 0 < vs.sum) (s : Nat) {i : Nat} (hi : i < vs.length) : vs.getD i 0 * s < ((quo vs s).getD i 0 + 1) * vs.sum := by
  apply Classical.byContradiction
  intro hbad
  have hne : vs ≠ [] := fun e => by subst e; simp at hS
  have steps := quo_step hv hS
  let c : Nat → Nat := fun t => Classical.choose (steps t)
  have hc : ∀ t, c t < vs.length ∧ quo vs (t + 1) = (quo vs t).set (c t) ((quo vs t).getD (c t) 0 + 1) ∧ (quo vs t).getD (c t) 0 * vs.sum < vs.getD (c t) 0 * (t + 1) ∧
    ∀ k, k < vs.length → (quo vs t).getD k 0 * vs.sum < vs.getD k 0 * (t + 1) → vs.getD k 0 * ((quo vs t).getD (c t) 0 + 1) ≤ vs.getD (c t) 0 * ((quo vs t).getD k 0 + 1) := fun t => Classical.choose_spec (steps t)
  generalize c = c at hc
  have hl := quo_len vs
  -- the seats of k after t steps
  have upd : ∀ t k, (quo vs (t + 1)).getD k 0 = if k = c t then (quo vs t).getD k 0 + 1 else (quo vs t).getD k 0 := fun t k => by
    rw [(hc t).2.1]
    by_cases h : k = c t
    · subst h
      rw [if_pos rfl]
      have : c t < (quo vs t).length := by rw [hl]; exact (hc t).1
      simp [List.getD_eq_getElem?_getD, List.getElem?_set_self this]
    · rw [if_neg h]
      simp [List.getD_eq_getElem?_getD, List.getElem?_set_ne (Ne.symm h)]
  have mono1 : ∀ t k, (quo vs t).getD k 0 ≤ (quo vs (t + 1)).getD k 0 := fun t k => by rw [upd]; split <;> omega
  have mono : ∀ k t d, (quo vs t).getD k 0 ≤ (quo vs (t + d)).getD k 0 := fun k t d => by
    induction d with
    | zero => exact Int.le_refl _
    | succ d ih => exact Int.le_trans ih (mono1 (t + d) k)
  have const : ∀ k t d, (∀ u, t ≤ u → u < t + d → c u ≠ k) → (quo vs (t + d)).getD k 0 = (quo vs t).getD k 0 := fun k t d => by
    induction d with
    | zero => intro _; rfl
    | succ d ih =>
      intro h
      show (quo vs (t + d + 1)).getD k 0 = _
      rw [upd, if_neg (Ne.symm (h (t + d) (by omega) (by omega)))]
      exact ih fun u h1 h2 => h u h1 (by omega)
  have sums : ∀ t, sumN vs.length (fun k => (quo vs t).getD k 0) = t := fun t => by
    have := sumN_list (quo vs t)
    rw [hl] at this
    rw [← this, (quo_ok hne t).1]
  have nn : ∀ t k, k < vs.length → 0 ≤ (quo vs t).getD k 0 := fun t k hk => ((quo_ok hne t).2 _ (getD_mem (by rw [hl]; exact hk))).1
  -- someone is above
  have hdist : ((quo vs s).getD i 0 + 1) * vs.sum = (quo vs s).getD i 0 * vs.sum + vs.sum := by rw [Int.add_mul, Int.one_mul]
  obtain ⟨j, hj, hjJ⟩ := some_above (t := quo vs s) (s := s) (hl s) (quo_ok hne s).1 hS hi (by omega)
  let J : Nat → Prop := fun k => vs.getD k 0 * s < (quo vs s).getD k 0 * vs.sum
  have hex : ∃ t, t < s ∧ J (c t) := by
    apply Classical.byContradiction
    intro hn
    have e := const j 0 s fun u _ hu q => hn ⟨u, by omega, by show J (c u); rw [q]; exact hjJ⟩
    rw [Nat.zero_add] at e
    have : (quo vs 0).getD j 0 = 0 := by
      have := (quo_ok hne 0).2 _ (getD_mem (by rw [hl]; exact hj) : (quo vs 0).getD j 0 ∈ quo vs 0)
      omega
    rw [e, this, Int.zero_mul] at hjJ
    have := Int.mul_nonneg (Int.le_of_lt (hv _ (getD_mem hj))) (Int.natCast_nonneg s)
    omega
  obtain ⟨t, hts, htJ, hlast⟩ := exists_last hex
  obtain ⟨ct, _, helig, hmax⟩ := hc t
  have hh : s = (t + 1) + (s - (t + 1)) := by omega
  have keepJ : ∀ k, J k → (quo vs s).getD k 0 = (quo vs (t + 1)).getD k 0 := fun k hk => by
    have := const k (t + 1) (s - (t + 1)) fun u h1 h2 q => hlast u (by omega) (by omega) (by rw [q]; exact hk)
    rwa [← hh] at this
  have hle : ∀ k, (quo vs (t + 1)).getD k 0 ≤ (quo vs s).getD k 0 := fun k => by
    have := mono k (t + 1) (s - (t + 1))
    rwa [← hh] at this
  have ha0 : (quo vs s).getD (c t) 0 = (quo vs t).getD (c t) 0 + 1 := by
    rw [keepJ _ htJ, upd, if_pos rfl]
  have J0 : vs.getD (c t) 0 * s < ((quo vs t).getD (c t) 0 + 1) * vs.sum := by rw [← ha0]; exact htJ
  -- who could have had that seat
  have elM : ∀ k, k < vs.length → (quo vs t).getD k 0 * vs.sum < vs.getD k 0 * (t + 1) → vs.getD k 0 * s < ((quo vs t).getD k 0 + 1) * vs.sum := fun k hk he => by
    have h1 := hmax k hk he
    have hr0 := nn t (c t) ct
    have hrk := nn t k hk
    generalize (quo vs t).getD (c t) 0 = b at *
    generalize (quo vs t).getD k 0 = r at *
    generalize vs.getD k 0 = x at *
    generalize vs.getD (c t) 0 = y at *
    generalize vs.sum = S at *
    -- x*(b+1) <= y*(r+1), y*s < (b+1)*S
    have h2 : x * s * (b + 1) < (r + 1) * S * (b + 1) := by
      have e1 : x * s * (b + 1) = x * (b + 1) * s := by simp only [Int.mul_assoc, Int.mul_comm, Int.mul_left_comm]
      have e2 : (r + 1) * S * (b + 1) = (b + 1) * S * (r + 1) := by simp only [Int.mul_assoc, Int.mul_comm, Int.mul_left_comm]
      have h3 : x * (b + 1) * s ≤ y * (r + 1) * s := Int.mul_le_mul_of_nonneg_right h1 (Int.natCast_nonneg s)
      have e3 : y * (r + 1) * s = y * s * (r + 1) := by simp only [Int.mul_assoc, Int.mul_comm, Int.mul_left_comm]
      have h4 : y * s * (r + 1) < (b + 1) * S * (r + 1) := Int.mul_lt_mul_of_pos_right J0 (by omega)
      rw [e1, e2]; omega
    exact Int.lt_of_mul_lt_mul_right h2 (by omega)
  have hst : ((t + 1 : Nat) : Int) ≤ s := by omega
  have total : sumN vs.length (fun k => ((quo vs s).getD k 0 - (quo vs (t + 1)).getD k 0) * vs.sum - vs.getD k 0 * ((s : Int) - (t + 1 : Nat))) = 0 := by
    rw [sumN_sub, sumN_mul, sumN_mul, sumN_sub, sums, sums, ← sumN_list vs, Int.mul_comm]; omega
  have neg : ∀ k, k < vs.length → ((quo vs s).getD k 0 - (quo vs (t + 1)).getD k 0) * vs.sum - vs.getD k 0 * ((s : Int) - (t + 1 : Nat)) ≤ 0 ∧ (k = i → ((quo vs s).getD k 0 - (quo vs (t + 1)).getD k 0) * vs.sum - vs.getD k 0 * ((s : Int) - (t + 1 : Nat)) < 0) := fun k hk => by
    have hvk := hv _ (getD_mem hk)
    have hd : 0 ≤ vs.getD k 0 * ((s : Int) - (t + 1 : Nat)) := Int.mul_nonneg (Int.le_of_lt hvk) (by omega)
    have iJ : k = i → ¬ J k := fun q hJ => by
      subst q
      have hJ : vs.getD k 0 * s < (quo vs s).getD k 0 * vs.sum := hJ
      omega
    by_cases hJ : J k
    · rw [keepJ k hJ, Int.sub_self, Int.zero_mul]
      exact ⟨by omega, fun q => absurd hJ (iJ q)⟩
    · have hJ' : (quo vs s).getD k 0 * vs.sum ≤ vs.getD k 0 * s := by
        rcases Int.lt_or_le (vs.getD k 0 * s) ((quo vs s).getD k 0 * vs.sum) with q | q
        · exact absurd q hJ
        · exact q
      have hb1 := mono1 t k
      have hb2 := hle k
      by_cases he : (quo vs t).getD k 0 * vs.sum < vs.getD k 0 * (t + 1)
      · have h1 := elM k hk he
        have h2 : (quo vs s).getD k 0 < (quo vs t).getD k 0 + 1 := Int.lt_of_mul_lt_mul_right (Int.lt_of_le_of_lt hJ' h1) (Int.le_of_lt hS)
        have h3 : (quo vs s).getD k 0 = (quo vs (t + 1)).getD k 0 := by omega
        refine ⟨by rw [h3, Int.sub_self, Int.zero_mul]; omega, fun q => ?_⟩
        subst q
        have h4 : ((quo vs t).getD k 0 + 1) * vs.sum ≤ ((quo vs s).getD k 0 + 1) * vs.sum := Int.mul_le_mul_of_nonneg_right (by omega) (Int.le_of_lt hS)
        omega
      · have h1 : vs.getD k 0 * (t + 1) ≤ (quo vs (t + 1)).getD k 0 * vs.sum := by
          have := Int.mul_le_mul_of_nonneg_right hb1 (Int.le_of_lt hS)
          omega
        have e1 : ((quo vs s).getD k 0 - (quo vs (t + 1)).getD k 0) * vs.sum = (quo vs s).getD k 0 * vs.sum - (quo vs (t + 1)).getD k 0 * vs.sum := Int.sub_mul ..
        have e2 : vs.getD k 0 * ((s : Int) - (t + 1 : Nat)) = vs.getD k 0 * s - vs.getD k 0 * (t + 1) := by rw [Int.mul_sub]; push_cast; rfl
        rw [e1, e2]
        refine ⟨by omega, fun q => ?_⟩
        subst q
        omega
  have := sumN_lt (fun k hk => (neg k hk).1) i hi ((neg i hi).2 rfl)
  omega
end Mine

namespace Mine
open PySem PySem.Calls PyProof.Rows PyProof PySem.W

/-! largest remainder: the seats add up, and each has its floor -/
theorem cntGe_take_succ {l : List Int} {x : Int} {i : Nat} (hi : i < l.length) : cntGe (l.take (i + 1)) x = cntGe (l.take i) x + (if x ≤ l.getD i 0 then 1 else 0) := by
  unfold cntGe
  rw [List.take_add_one, List.getElem?_eq_getElem hi, Option.toList_some, List.countP_append]
  have : l.getD i 0 = l[i] := by rw [List.getD_eq_getElem?_getD, List.getElem?_eq_getElem hi]; rfl
  rw [this]
  simp [List.countP_cons]

theorem lrGo_sum {rem r0 : List Int} {cut s : Int} (hl : rem.length = r0.length) (h0 : r0.sum ≤ s) : ∀ i, i ≤ r0.length → (lrGo rem cut s r0 i).1.sum = min s (r0.sum + cntGe (rem.take i) cut)
  | 0, _ => by
    show r0.sum = _
    simp only [List.take_zero, cntGe, List.countP_nil]
    omega
  | i + 1, hi => by
    have ih := lrGo_sum (cut := cut) hl h0 i (by omega)
    have hlen := lrGo_len rem cut s r0 i
    rw [cntGe_take_succ (by omega)]
    unfold lrGo
    dsimp only
    generalize lrGo rem cut s r0 i = q at ih hlen
    by_cases hc : cut ≤ rem.getD i 0
    · rw [if_pos hc]
      by_cases hs : q.1.sum = s
      · rw [if_pos ⟨hs, hc⟩]
        show q.1.sum = _
        push_cast; omega
      · rw [if_neg (fun h => hs h.1), if_pos ⟨by omega, hc⟩]
        show (q.1.set i (q.1.getD i 0 + 1)).sum = _
        rw [sum_set (by omega)]
        push_cast; omega
    · rw [if_neg hc, if_neg (fun h => hc h.2), if_neg (fun h => hc h.2), ih]; rfl

theorem lrGo_ge {rem r0 : List Int} {cut s : Int} : ∀ i k, k < r0.length → r0.getD k 0 ≤ (lrGo rem cut s r0 i).1.getD k 0
  | 0, k, _ => Int.le_refl _
  | i + 1, k, hk => by
    have ih := lrGo_ge (rem := rem) (cut := cut) (s := s) i k hk
    have hlen := lrGo_len rem cut s r0 i
    unfold lrGo
    dsimp only
    generalize lrGo rem cut s r0 i = q at ih hlen
    split
    · exact ih
    · split
      · show _ ≤ (q.1.set i (q.1.getD i 0 + 1)).getD k 0
        by_cases e : i = k
        · subst e
          have : i < q.1.length := by omega
          simp only [List.getD_eq_getElem?_getD, List.getElem?_set_self this, Option.getD_some] at ih ⊢
          omega
        · simpa [List.getD_eq_getElem?_getD, List.getElem?_set_ne e] using ih
      · exact ih

theorem lrR0_le {vs : List Int} {s : Int} (hS : 0 < vs.sum) : (lrR0 vs s).sum ≤ s := by
  have h := lrRem_sum vs s
  have h0 : 0 ≤ (lrRem vs s).sum := sum_nonneg fun x hx => by
    obtain ⟨v, _, rfl⟩ := List.mem_map.mp hx
    exact (lrQ_bounds hS).1
  rw [h] at h0
  rcases Int.lt_or_le s (lrR0 vs s).sum with q | q
  · have := Int.mul_neg_of_neg_of_pos (show s - (lrR0 vs s).sum < 0 by omega) hS
    omega
  · exact q

theorem lrm_len {vs : List Int} {s : Int} : (lrm vs s).length = vs.length := by
  unfold lrm
  split
  · rw [lrGo_len]; simp [lrR0]
  · simp [lrR0]
theorem lrm_ok {vs : List Int} {s : Int} (hv : ∀ v ∈ vs, 0 ≤ v) (hs : 0 ≤ s) (hS : 0 < vs.sum) : (lrm vs s).sum = s ∧ ∀ i, i < vs.length → 0 ≤ (lrm vs s).getD i 0 ∧ vs.getD i 0 * s < ((lrm vs s).getD i 0 + 1) * vs.sum := by
  have l0 : (lrR0 vs s).length = vs.length := by simp [lrR0]
  have hle := lrR0_le (s := s) hS
  have base : ∀ i, i < vs.length → 0 ≤ (lrR0 vs s).getD i 0 ∧ vs.getD i 0 * s < ((lrR0 vs s).getD i 0 + 1) * vs.sum := fun i hi => by
    unfold lrR0
    rw [getD_map hi]
    have := (lrQ_bounds (s := s) (v := vs.getD i 0) hS).2
    refine ⟨?_, by rw [Int.add_mul, Int.one_mul]; omega⟩
    unfold lrQ
    rw [Int.fdiv_eq_ediv_of_nonneg _ (Int.le_of_lt hS)]
    exact Int.ediv_nonneg (Int.mul_nonneg (hv _ (getD_mem hi)) hs) (Int.le_of_lt hS)
  unfold lrm
  split
  · rename_i hk
    refine ⟨?_, fun i hi => ?_⟩
    · obtain ⟨_, h2, _⟩ := lrCut_spec hS hk
      rw [lrGo_sum (by rw [lrRem_len, l0]) hle vs.length (by omega)]
      have : (lrRem vs s).take vs.length = lrRem vs s := by rw [← lrRem_len (s := s), List.take_length]
      rw [this]; omega
    · have hg := lrGo_ge (rem := lrRem vs s) (cut := lrCut vs s) (s := s) (r0 := lrR0 vs s) vs.length i (by omega)
      obtain ⟨b1, b2⟩ := base i hi
      refine ⟨by omega, Int.lt_of_lt_of_le b2 (Int.mul_le_mul_of_nonneg_right (by omega) (Int.le_of_lt hS))⟩
  · exact ⟨by omega, base⟩

/-! d'Hondt -/
theorem cnt_prefix {x : Int} : ∀ {l : List Int}, l.Pairwise (fun a b => b ≤ a) → ∀ k, k < l.length → (x < l.getD k 0 ↔ k < (l.filter fun w => decide (x < w)).length)
  | [], _, k, hk => by simp at hk
  | a :: l, h, k, hk => by
    rw [List.pairwise_cons] at h
    by_cases ha : x < a
    · rw [List.filter_cons_of_pos (by simpa using ha), List.length_cons]
      cases k with
      | zero => simp [ha]
      | succ k =>
        have := cnt_prefix (x := x) h.2 k (by simpa using hk)
        rw [List.getD_cons_succ, this]; omega
    · have : (a :: l).filter (fun w => decide (x < w)) = [] := by
        rw [List.filter_eq_nil_iff]
        intro w hw
        rcases List.mem_cons.mp hw with rfl | hw
        · simpa using ha
        · have := h.1 w hw
          simp; omega
      rw [this]
      cases k with
      | zero => simp; omega
      | succ k =>
        have hk' : k < l.length := by simpa using hk
        have := h.1 _ (getD_mem hk')
        rw [List.getD_cons_succ]
        exact ⟨fun h => by omega, fun h => absurd h (by simp)⟩

theorem strict_one {x : Int} : ∀ {l : List Int}, l.Pairwise (fun a b => b < a) → cntGe l x ≤ cntGt l x + (if l.any (· == x) = true then 1 else 0)
  | [], _ => by simp [cntGe]
  | a :: l, h => by
    rw [List.pairwise_cons] at h
    have ih := strict_one (x := x) h.2
    unfold cntGe cntGt at ih ⊢
    rw [List.countP_cons, List.countP_cons, List.any_cons]
    rcases Int.lt_trichotomy x a with q | q | q
    · rw [if_pos (by simp; omega), if_pos (by simpa using q)]
      have : (a == x) = false := by simp; omega
      rw [this, Bool.false_or]
      omega
    · subst q
      have z : l.countP (fun y => decide (x ≤ y)) = 0 := by
        rw [List.countP_eq_zero]
        intro w hw
        have := h.1 w hw
        simp; omega
      rw [z]
      simp
    · have z : l.countP (fun y => decide (x ≤ y)) = 0 := by
        rw [List.countP_eq_zero]
        intro w hw
        have := h.1 w hw
        simp; omega
      rw [z, if_neg (by simp; omega)]; omega
end Mine

namespace Mine
open PySem PySem.Calls PyProof.Rows PyProof PySem.W

def mc (mem : Nat → Bool) (i : Nat) : Int := sumN i fun k => if mem k = true then 1 else 0

theorem dvGo_sum {mem : Nat → Bool} {s : Int} {r0 : List Int} (h0 : r0.sum ≤ s) : ∀ i, i ≤ r0.length → (dvGo mem s r0 i).1.sum = min s (r0.sum + mc mem i)
  | 0, _ => by
    show r0.sum = _
    simp only [mc, sumN, List.range_zero, List.map_nil, List.sum_nil]; omega
  | i + 1, hi => by
    have ih := dvGo_sum (mem := mem) h0 i (by omega)
    have hlen := dvGo_len mem s r0 i
    have e : mc mem (i + 1) = mc mem i + if mem i = true then 1 else 0 := sumN_succ
    have hm : 0 ≤ mc mem i := by
      unfold mc
      clear ih hlen e
      induction i with
      | zero => simp [sumN]
      | succ i ih2 => rw [sumN_succ]; have := ih2 (by omega); split <;> omega
    unfold dvGo
    dsimp only
    generalize dvGo mem s r0 i = q at ih hlen
    by_cases hc : mem i = true
    · rw [e, if_pos hc]
      by_cases hs : q.1.sum < s
      · rw [if_pos ⟨hs, hc⟩, sum_set (by omega)]; omega
      · rw [if_neg (fun h => hs h.1)]; omega
    · rw [e, if_neg hc, if_neg (fun h => hc h.2)]; omega

theorem dvGo_at {mem : Nat → Bool} {s : Int} {r0 : List Int} : ∀ i, i ≤ r0.length → ∀ k, k < r0.length → (dvGo mem s r0 i).1.getD k 0 = r0.getD k 0 ∨ (k < i ∧ mem k = true ∧ (dvGo mem s r0 i).1.getD k 0 = r0.getD k 0 + 1)
  | 0, _, k, _ => .inl rfl
  | i + 1, hi, k, hk => by
    have ih := dvGo_at (mem := mem) (s := s) (r0 := r0) i (by omega) k hk
    have hlen := dvGo_len mem s r0 i
    unfold dvGo
    dsimp only
    generalize dvGo mem s r0 i = q at ih hlen
    by_cases hc : q.1.sum < s ∧ mem i = true
    · rw [if_pos hc]
      by_cases e : i = k
      · subst e
        have hk' : i < q.1.length := by omega
        have : (q.1.set i (q.1.getD i 0 + 1)).getD i 0 = q.1.getD i 0 + 1 := by
          simp [List.getD_eq_getElem?_getD, List.getElem?_set_self hk']
        rw [this]
        rcases ih with h | ⟨h, _⟩
        · exact .inr ⟨by omega, hc.2, by rw [h]⟩
        · omega
      · have : (q.1.set i (q.1.getD i 0 + 1)).getD k 0 = q.1.getD k 0 := by
          simp [List.getD_eq_getElem?_getD, List.getElem?_set_ne e]
        rw [this]
        rcases ih with h | ⟨h1, h2, h3⟩
        · exact .inl h
        · exact .inr ⟨by omega, h2, h3⟩
    · rw [if_neg hc]
      rcases ih with h | ⟨h1, h2, h3⟩
      · exact .inl h
      · exact .inr ⟨by omega, h2, h3⟩

/-- d'Hondt's weights -/
theorem wA_len {s : Nat} {v : Int} : (dvW false (dsA s) v).length = s := by
  rw [dvW_len]; simp [dsA, dsOne, upto_len]
theorem wA_at {s : Nat} (hs : 1 ≤ s ∧ s ≤ 5) {v : Int} {k : Nat} (hk : k < s) : (dvW false (dsA s) v).getD k 0 * ((k : Int) + 1) = v * dvCommon (dsA s) := by
  obtain ⟨hc, ha⟩ := dsDiv.of (dsDiv_all hs).1
  have hd : (dsA s)[k]? = some ((k : Int) + 1, 1) := by simp [dsA, dsOne, upto, hk]
  obtain ⟨h1, h2, q, hq, _⟩ := ha _ (List.mem_of_getElem? hd)
  have : (dvW false (dsA s) v).getD k 0 = (v * 1 * dvCommon (dsA s)).fdiv ((k : Int) + 1) := by
    unfold dvW
    rw [List.getD_eq_getElem?_getD, List.getElem?_map, hd]
    simp
  rw [this, hq, Int.mul_one, ← Int.mul_assoc, fdiv_exact (by omega)]

theorem wA_strict {s : Nat} (hs : 1 ≤ s ∧ s ≤ 5) {v : Int} (hv : 0 < v) : (dvW false (dsA s) v).Pairwise fun a b => b < a := by
  rw [List.pairwise_iff_getElem]
  intro i j hi hj hij
  have h1 := wA_at hs (v := v) (k := i) (by rw [wA_len] at hi; exact hi)
  have h2 := wA_at hs (v := v) (k := j) (by rw [wA_len] at hj; exact hj)
  have e1 : (dvW false (dsA s) v).getD i 0 = (dvW false (dsA s) v)[i] := by rw [List.getD_eq_getElem?_getD, List.getElem?_eq_getElem hi]; rfl
  have e2 : (dvW false (dsA s) v).getD j 0 = (dvW false (dsA s) v)[j] := by rw [List.getD_eq_getElem?_getD, List.getElem?_eq_getElem hj]; rfl
  have hp := dvW_pos (sq := false) (dsDiv_all hs).1 hv _ (List.getElem_mem hj)
  rw [e1] at h1
  rw [e2] at h2
  generalize (dvW false (dsA s) v)[i] = a at *
  generalize (dvW false (dsA s) v)[j] = b at *
  have h3 : b * ((i : Int) + 1) < b * ((j : Int) + 1) := Int.mul_lt_mul_of_pos_left (by omega) (by omega)
  have h4 : b * ((i : Int) + 1) < a * ((i : Int) + 1) := by omega
  exact Int.lt_of_mul_lt_mul_right h4 (by omega)

theorem flat_cnt {sq : Bool} {ds : List (Int × Int)} {x : Int} : ∀ {vs : List Int}, ((cntGt (dvFlat sq ds vs) x : Nat) : Int) = (vs.map fun v => ((cntGt (dvW sq ds v) x : Nat) : Int)).sum ∧ ((cntGe (dvFlat sq ds vs) x : Nat) : Int) = (vs.map fun v => ((cntGe (dvW sq ds v) x : Nat) : Int)).sum
  | [] => by simp [dvFlat, cntGt, cntGe]
  | v :: vs => by
    obtain ⟨h1, h2⟩ := flat_cnt (sq := sq) (ds := ds) (x := x) (vs := vs)
    rw [dvFlat_cons, cnt_append.1, cnt_append.2, List.map_cons, List.map_cons, List.sum_cons, List.sum_cons, ← h1, ← h2]
    exact ⟨by push_cast; rfl, by push_cast; rfl⟩

theorem sumN_mono {f g : Nat → Int} : ∀ {n : Nat}, (∀ k, k < n → f k ≤ g k) → sumN n f ≤ sumN n g
  | 0, _ => by simp [sumN]
  | n + 1, h => by
    rw [sumN_succ, sumN_succ]
    have := sumN_mono (f := f) (g := g) (n := n) fun k hk => h k (by omega)
    have := h n (by omega)
    omega
theorem sumN_add {f g : Nat → Int} : ∀ {n : Nat}, sumN n (fun k => f k + g k) = sumN n f + sumN n g
  | 0 => rfl
  | n + 1 => by rw [sumN_succ, sumN_succ, sumN_succ, sumN_add]; omega
theorem sum_map_N {f : Int → Int} {vs : List Int} : (vs.map f).sum = sumN vs.length fun k => f (vs.getD k 0) := by
  rw [sumN_list, List.length_map]
  exact sumN_congr fun k hk => getD_map hk
theorem countP_filter_len {l : List Int} {x : Int} : (l.filter fun w => decide (x < w)).length = cntGt l x := by
  unfold cntGt; rw [List.countP_eq_length_filter]

theorem dh_ok {vs : List Int} {s : Nat} (hv : ∀ v ∈ vs, 0 < v) (hs : 1 ≤ s ∧ s ≤ 5) (hS : 0 < vs.sum) :
    (dvTail false (dsA s) vs s (zeros vs)).length = vs.length ∧ (dvTail false (dsA s) vs s (zeros vs)).sum = s ∧ ∀ i, i < vs.length → 0 ≤ (dvTail false (dsA s) vs s (zeros vs)).getD i 0 ∧ vs.getD i 0 * s < ((dvTail false (dsA s) vs s (zeros vs)).getD i 0 + 1) * vs.sum := by
  have hne : vs ≠ [] := fun e => by subst e; simp at hS
  have hp : ∃ z ∈ vs, 0 < z := by
    cases vs with
    | nil => exact absurd rfl hne
    | cons a l => exact ⟨a, .head _, hv a (.head _)⟩
  have lD : (dsA s).length = s := by simp [dsA, dsOne, upto_len]
  obtain ⟨m1, m2, m3⟩ := dvMin_spec (sq := false) (vs := vs) (r0 := zeros vs) (s := s) (dsDiv_all hs).1 hp (by rw [lD]) (by rw [zeros_sum]; omega) (by rw [zeros_sum]; omega)
  rw [zeros_sum, Int.sub_zero] at m1 m2
  unfold dvTail
  rw [zeros_sum, if_pos (by omega)]
  have l1 : (dvR1 false (dsA s) vs s (zeros vs)).length = vs.length := by simp [dvR1, upto_len]
  have memE : ∀ i, dvMem false (dsA s) vs s (zeros vs) i = (dvW false (dsA s) (vs.getD i 0)).any (· == dvMin false (dsA s) vs s (zeros vs)) := fun i => rfl
  have r1 : ∀ i, i < vs.length → (dvR1 false (dsA s) vs s (zeros vs)).getD i 0 = ((cntGt (dvW false (dsA s) (vs.getD i 0)) (dvMin false (dsA s) vs s (zeros vs)) : Nat) : Int) := fun i hi => by
    unfold dvR1
    rw [getD_map (by rw [upto_len]; exact hi), show (upto vs.length).getD i 0 = (i : Int) by simp [upto, List.getD_eq_getElem?_getD, hi], show (i : Int).toNat = i by simp]
    have : (zeros vs).getD i 0 = 0 := by simp [zeros, List.getD_eq_getElem?_getD, hi]
    rw [this, Int.zero_add, countP_filter_len]; rfl
  generalize dvMin false (dsA s) vs s (zeros vs) = μ at *
  generalize dvMem false (dsA s) vs s (zeros vs) = mem at *
  generalize dvR1 false (dsA s) vs s (zeros vs) = R at *
  have sR : R.sum = ((cntGt (dvFlat false (dsA s) vs) μ : Nat) : Int) := by
    rw [flat_cnt.1, sum_map_N, sumN_list, l1]
    exact sumN_congr fun k hk => r1 k hk
  have sM : ((cntGe (dvFlat false (dsA s) vs) μ : Nat) : Int) ≤ R.sum + mc mem vs.length := by
    rw [flat_cnt.2, sum_map_N, sR, flat_cnt.1, sum_map_N]
    unfold mc
    rw [← sumN_add]
    refine sumN_mono fun k hk => ?_
    rw [memE k]
    have := strict_one (x := μ) (wA_strict hs (hv _ (getD_mem hk)))
    split at this
    · rename_i h; rw [if_pos h]; omega
    · rename_i h; rw [if_neg h]; omega
  rw [if_pos (by omega)]
  have hsum := dvGo_sum (mem := mem) (s := (s : Int)) (r0 := R) (by omega) vs.length (by omega)
  have hat := dvGo_at (mem := mem) (s := (s : Int)) (r0 := R) vs.length (by omega)
  have hlen := dvGo_len mem (s : Int) R vs.length
  generalize (dvGo mem (s : Int) R vs.length).1 = t at hsum hat hlen
  have tsum : t.sum = s := by rw [hsum]; omega
  have hlen : t.length = vs.length := by rw [hlen, l1]
  have hat : ∀ k, k < vs.length → t.getD k 0 = R.getD k 0 ∨ (mem k = true ∧ t.getD k 0 = R.getD k 0 + 1) := fun k hk => (hat k (by omega)).imp id fun h => h.2
  refine ⟨hlen, tsum, fun i hi => ⟨?_, ?_⟩⟩
  · have := r1 i hi
    rcases hat i hi with h | ⟨_, h⟩ <;> omega
  · apply Classical.byContradiction
    intro hbad
    have hc : 0 < dvCommon (dsA s) := (dsDiv.of (dsDiv_all hs).1).1
    have hdist : (t.getD i 0 + 1) * vs.sum = t.getD i 0 * vs.sum + vs.sum := by rw [Int.add_mul, Int.one_mul]
    obtain ⟨j, hj, hjJ⟩ := some_above hlen tsum hS hi (by omega)
    have hvj := hv _ (getD_mem hj)
    have hvi := hv _ (getD_mem hi)
    have pre : ∀ k, k < vs.length → ∀ n, n < s → (μ < (dvW false (dsA s) (vs.getD k 0)).getD n 0 ↔ (n : Int) < R.getD k 0) := fun k hk n hn => by
      rw [r1 k hk, ← countP_filter_len]
      have := cnt_prefix (x := μ) ((wA_strict hs (hv _ (getD_mem hk))).imp fun h => Int.le_of_lt h) n (by rw [wA_len]; exact hn)
      rw [this]; omega
    have Rle : ∀ k, k < vs.length → 0 ≤ R.getD k 0 ∧ R.getD k 0 ≤ s := fun k hk => by
      rw [r1 k hk]
      have : cntGt (dvW false (dsA s) (vs.getD k 0)) μ ≤ (dvW false (dsA s) (vs.getD k 0)).length := List.countP_le_length
      rw [wA_len] at this
      omega
    -- the last seat of j
    have A : μ * t.getD j 0 ≤ vs.getD j 0 * dvCommon (dsA s) ∧ 0 < t.getD j 0 := by
      have tj : 0 < t.getD j 0 := by
        apply Classical.byContradiction
        intro q
        have h1 : t.getD j 0 * vs.sum ≤ 0 := Int.mul_nonpos_of_nonpos_of_nonneg (by omega) (Int.le_of_lt hS)
        have h2 := Int.mul_nonneg (Int.le_of_lt hvj) (Int.natCast_nonneg s)
        omega
      refine ⟨?_, tj⟩
      obtain ⟨R0, Rs⟩ := Rle j hj
      obtain ⟨n, hn⟩ := Int.eq_ofNat_of_zero_le R0
      rcases hat j hj with h | ⟨hm, h⟩
      · obtain ⟨p, rfl⟩ : ∃ p, n = p + 1 := ⟨n - 1, by omega⟩
        have hw := (pre j hj p (by omega)).2 (by omega)
        have he := wA_at hs (v := vs.getD j 0) (k := p) (by omega)
        rw [h, hn, ← he]
        have := Int.mul_le_mul_of_nonneg_right (Int.le_of_lt hw) (show 0 ≤ (p : Int) + 1 by omega)
        push_cast at this ⊢
        exact this
      · rw [memE j, List.any_eq_true] at hm
        obtain ⟨w, hw, ew⟩ := hm
        obtain ⟨k, hk, rfl⟩ := List.getElem_of_mem hw
        have ew : (dvW false (dsA s) (vs.getD j 0))[k] = μ := by simpa using ew
        have hk' : k < s := by rw [wA_len] at hk; exact hk
        have eg : (dvW false (dsA s) (vs.getD j 0)).getD k 0 = μ := by rw [List.getD_eq_getElem?_getD, List.getElem?_eq_getElem hk]; exact ew
        have hkn : ¬ (k : Int) < R.getD j 0 := fun q => by
          have := (pre j hj k hk').2 q
          omega
        have hkn2 : k = n := by
          rcases Nat.lt_or_ge n k with q | q
          · exfalso
            have hst := wA_strict hs hvj
            rw [List.pairwise_iff_getElem] at hst
            have h3 := hst n k (by omega) hk q
            have e3 : (dvW false (dsA s) (vs.getD j 0)).getD n 0 = (dvW false (dsA s) (vs.getD j 0))[n] := by rw [List.getD_eq_getElem?_getD, List.getElem?_eq_getElem (by omega)]; rfl
            have := (pre j hj n (by omega)).1 (by omega)
            omega
          · omega
        subst hkn2
        have he := wA_at hs (v := vs.getD j 0) (k := k) hk'
        rw [h, hn, ← he, eg]
        exact Int.le_refl _
    -- the next seat of i
    have ti : 0 ≤ t.getD i 0 := by
      have := (Rle i hi).1
      rcases hat i hi with h | ⟨_, h⟩ <;> omega
    have hsi : t.getD i 0 + 1 ≤ s := by
      have h1 := getD_le_sum (vs := vs) (fun v h => Int.le_of_lt (hv v h)) hi
      have h2 : vs.getD i 0 * s ≤ vs.sum * s := Int.mul_le_mul_of_nonneg_right h1 (Int.natCast_nonneg s)
      have h3 : (t.getD i 0 + 1) * vs.sum ≤ s * vs.sum := by rw [Int.mul_comm (s : Int)]; omega
      exact Int.le_of_mul_le_mul_right h3 hS
    have B : vs.getD i 0 * dvCommon (dsA s) ≤ μ * (t.getD i 0 + 1) := by
      obtain ⟨n, hn⟩ := Int.eq_ofNat_of_zero_le ti
      have he := wA_at hs (v := vs.getD i 0) (k := n) (by omega)
      have hw : (dvW false (dsA s) (vs.getD i 0)).getD n 0 ≤ μ := by
        rcases Int.lt_or_le μ ((dvW false (dsA s) (vs.getD i 0)).getD n 0) with q | q
        · have := (pre i hi n (by omega)).1 q
          rcases hat i hi with h | ⟨_, h⟩ <;> omega
        · exact q
      rw [hn, ← he]
      exact Int.mul_le_mul_of_nonneg_right hw (by omega)
    obtain ⟨A1, A2⟩ := A
    have hbad : (t.getD i 0 + 1) * vs.sum ≤ vs.getD i 0 * s := by omega
    generalize dvCommon (dsA s) = c at *
    generalize t.getD j 0 = y at *
    generalize t.getD i 0 = x at *
    generalize vs.getD j 0 = vj at *
    generalize vs.getD i 0 = vi at *
    generalize vs.sum = S at *
    have s0 : (0 : Int) ≤ s := Int.natCast_nonneg s
    -- mu*y <= vj*c, vj*s < y*S ; vi*c <= mu*(x+1), (x+1)*S <= vi*s
    have h1 : μ * s * y < c * S * y := by
      have a1 : μ * y * s ≤ vj * c * s := Int.mul_le_mul_of_nonneg_right A1 s0
      have a2 : vj * s * c < y * S * c := Int.mul_lt_mul_of_pos_right hjJ hc
      have e1 : μ * s * y = μ * y * s := by simp only [Int.mul_assoc, Int.mul_comm, Int.mul_left_comm]
      have e2 : vj * c * s = vj * s * c := by simp only [Int.mul_assoc, Int.mul_comm, Int.mul_left_comm]
      have e3 : c * S * y = y * S * c := by simp only [Int.mul_assoc, Int.mul_comm, Int.mul_left_comm]
      omega
    have h1 := Int.lt_of_mul_lt_mul_right h1 (Int.le_of_lt A2)
    have h2 : c * S * (x + 1) ≤ μ * s * (x + 1) := by
      have a1 : (x + 1) * S * c ≤ vi * s * c := Int.mul_le_mul_of_nonneg_right hbad (Int.le_of_lt hc)
      have a2 : vi * c * s ≤ μ * (x + 1) * s := Int.mul_le_mul_of_nonneg_right B s0
      have e1 : c * S * (x + 1) = (x + 1) * S * c := by simp only [Int.mul_assoc, Int.mul_comm, Int.mul_left_comm]
      have e2 : vi * s * c = vi * c * s := by simp only [Int.mul_assoc, Int.mul_comm, Int.mul_left_comm]
      have e3 : μ * s * (x + 1) = μ * (x + 1) * s := by simp only [Int.mul_assoc, Int.mul_comm, Int.mul_left_comm]
      omega
    have h2 := Int.le_of_mul_le_mul_right h2 (by omega)
    omega
end Mine

namespace Mine
open PySem PySem.Calls PyProof.Rows PyProof PySem.W

theorem dvTail_len {sq : Bool} {ds : List (Int × Int)} {vs r0 : List Int} {s : Int} (h : r0.length = vs.length) : (dvTail sq ds vs s r0).length = vs.length := by
  have l1 : (dvR1 sq ds vs s r0).length = vs.length := by simp [dvR1, upto_len]
  unfold dvTail
  split
  · split
    · rw [dvGo_len, l1]
    · exact l1
  · exact h
theorem dvTail_nonneg {sq : Bool} {ds : List (Int × Int)} {vs r0 : List Int} {s : Int} (h : r0.length = vs.length) (h0 : ∀ r ∈ r0, 0 ≤ r) : ∀ r ∈ dvTail sq ds vs s r0, 0 ≤ r := by
  have l1 : (dvR1 sq ds vs s r0).length = vs.length := by simp [dvR1, upto_len]
  have n1 : ∀ r ∈ dvR1 sq ds vs s r0, 0 ≤ r := fun r hr => by
    unfold dvR1 at hr
    obtain ⟨i, hi, rfl⟩ := List.mem_map.mp hr
    obtain ⟨k, rfl, hk⟩ := upto_mem hi
    have := h0 _ (getD_mem (show k < r0.length by omega))
    rw [show (k : Int).toNat = k by simp]; omega
  unfold dvTail
  split
  · split
    · have key : ∀ i, ∀ r ∈ (dvGo (dvMem sq ds vs s r0) s (dvR1 sq ds vs s r0) i).1, 0 ≤ r := fun i => by
        induction i with
        | zero => exact n1
        | succ i ih =>
          intro r hr
          unfold dvGo at hr
          dsimp only at hr
          split at hr
          · rcases mem_set_cases hr with rfl | hr
            · rcases Nat.lt_or_ge i (dvGo (dvMem sq ds vs s r0) s (dvR1 sq ds vs s r0) i).1.length with q | q
              · have := ih _ (getD_mem q); omega
              · rw [List.getD_eq_getElem?_getD, List.getElem?_eq_none q]; simp
            · exact ih r hr
          · exact ih r hr
      exact key vs.length
    · exact n1
  · exact h0
theorem zeros_nonneg {vs : List Int} : ∀ r ∈ zeros vs, 0 ≤ r := fun r hr => by
  have := List.eq_of_mem_replicate hr; omega
theorem ones_nonneg {vs : List Int} : ∀ r ∈ ones vs, 0 ≤ r := fun r hr => by
  obtain ⟨p, _, rfl⟩ := List.mem_map.mp hr
  split <;> omega

theorem meth_len {m : Str} {vs : List Int} {s : Nat} : (meth m vs s).length = vs.length := by
  unfold meth
  split
  · exact quo_len _ _
  · split
    · exact lrm_len
    · unfold dv dvData
      repeat' split
      all_goals exact dvTail_len (by simp [zeros, ones])
theorem meth_nonneg {m : Str} {vs : List Int} {s : Nat} (hv : ∀ v ∈ vs, 0 ≤ v) (hS : 0 < vs.sum) : ∀ r ∈ meth m vs s, 0 ≤ r := by
  have hne : vs ≠ [] := fun e => by subst e; simp at hS
  unfold meth
  split
  · exact fun r hr => ((quo_ok hne s).2 r hr).1
  · split
    · intro r hr
      obtain ⟨i, hi, rfl⟩ := List.getElem_of_mem hr
      rw [lrm_len] at hi
      have := ((lrm_ok (s := (s : Int)) hv (by omega) hS).2 i hi).1
      rw [List.getD_eq_getElem?_getD, List.getElem?_eq_getElem (by rw [lrm_len]; exact hi)] at this
      exact this
    · unfold dv dvData
      repeat' split
      all_goals first | exact dvTail_nonneg (by simp [zeros]) zeros_nonneg | exact dvTail_nonneg (by simp [ones]) ones_nonneg

/-- the seven methods that the committee is held to -/
theorem seven_ok {m : Str} (hm : m ∈ lawNames.take 7) {vs : List Int} {s : Nat} (hv : ∀ v ∈ vs, 0 < v) (hs : 1 ≤ s ∧ s ≤ 5) (hS : 0 < vs.sum) :
    (meth m vs s).sum = s ∧ ∀ i, i < vs.length → vs.getD i 0 * s < ((meth m vs s).getD i 0 + 1) * vs.sum := by
  have hne : vs ≠ [] := fun e => by subst e; simp at hS
  have qu : (quo vs s).sum = s ∧ ∀ i, i < vs.length → vs.getD i 0 * s < ((quo vs s).getD i 0 + 1) * vs.sum := ⟨(quo_ok hne s).1, fun i hi => quo_lower hv hS s hi⟩
  have lr : (lrm vs s).sum = s ∧ ∀ i, i < vs.length → vs.getD i 0 * s < ((lrm vs s).getD i 0 + 1) * vs.sum := by
    have := lrm_ok (s := (s : Int)) (fun v h => Int.le_of_lt (hv v h)) (by omega) hS
    exact ⟨this.1, fun i hi => (this.2 i hi).2⟩
  have dh : ∀ m, isIn nmA m = true → (dv m vs s).sum = s ∧ ∀ i, i < vs.length → vs.getD i 0 * s < ((dv m vs s).getD i 0 + 1) * vs.sum := fun m h => by
    have := dh_ok hv hs hS
    unfold dv dvData
    rw [if_pos h]
    exact ⟨this.2.1, fun i hi => (this.2.2 i hi).2⟩
  have hm : m = "jefferson" ∨ m = "hamilton" ∨ m = "quota" ∨ m = "dhondt" ∨ m = "lrm" ∨ m = "greatestdivisors" ∨ m = "largest_remainder" := by
    simpa [lawNames] using hm
  unfold meth
  rcases hm with rfl | rfl | rfl | rfl | rfl | rfl | rfl
  · rw [if_neg (by decide), if_neg (by decide)]; exact dh _ (by decide)
  · rw [if_neg (by decide), if_pos (by decide)]; exact lr
  · rw [if_pos (by decide)]; exact qu
  · rw [if_neg (by decide), if_neg (by decide)]; exact dh _ (by decide)
  · rw [if_neg (by decide), if_pos (by decide)]; exact lr
  · rw [if_neg (by decide), if_neg (by decide)]; exact dh _ (by decide)
  · rw [if_neg (by decide), if_pos (by decide)]; exact lr

theorem seven_zs {m : Str} (hm : m ∈ lawNames.take 7) {zs : List Int} {s : Nat} (h : ∀ z ∈ zs, 0 ≤ z) (hs : 1 ≤ s ∧ s ≤ 5) (hS : 0 < zs.sum) :
    (meth m zs s).sum = s ∧ ∀ i, i < zs.length → zs.getD i 0 * s < ((meth m zs s).getD i 0 + 1) * zs.sum := by
  have hp : ∀ v ∈ pos zs, 0 < v := fun v hv => by simpa using (List.mem_filter.mp hv).2
  have hS' : 0 < (pos zs).sum := by rw [pos_sum h]; exact hS
  obtain ⟨h1, h2⟩ := seven_ok hm hp hs hS'
  rw [meth_spread hs h hS]
  refine ⟨by rw [spread_sum meth_len, h1], fun i hi => ?_⟩
  rw [spread_at]
  by_cases hz : 0 < zs.getD i 0
  · rw [if_pos hz]
    obtain ⟨a, b⟩ := pos_at hz
    have := h2 _ a
    rw [b, pos_sum h] at this
    exact this
  · have : zs.getD i 0 = 0 := by have := h _ (getD_mem hi); omega
    rw [if_neg hz, this]; omega

/-! the law's own lists -/
def zsOf (vs : List Int) (least : Int) : List Int := vs.map fun v => if 2 * v < least then 0 else v
theorem thr_zs {vs : List Int} {least : Int} (hS : 0 < vs.sum) : thr vs least (2 * vs.sum) = zsOf vs least := by
  unfold thr zsOf
  apply List.map_congr_left
  intro v _
  have e1 : v * (2 * vs.sum) = 2 * v * vs.sum := by simp only [Int.mul_comm, Int.mul_left_comm, Int.mul_assoc]
  have e2 : vs.sum * least = least * vs.sum := Int.mul_comm _ _
  rw [e1, e2]
  by_cases h : 2 * v < least
  · rw [if_pos h, if_pos (Int.mul_lt_mul_of_pos_right h hS)]
  · rw [if_neg h, if_neg (fun q => h (Int.lt_of_mul_lt_mul_right q (Int.le_of_lt hS)))]
theorem pos_zs {vs : List Int} {least : Int} (hv : ∀ v ∈ vs, 0 < v) : pos (zsOf vs least) = vs.filter fun v => decide (least ≤ 2 * v) := by
  induction vs with
  | nil => rfl
  | cons a l ih =>
    have ih := ih fun v h => hv v (.tail _ h)
    have ha := hv a (.head _)
    unfold zsOf at ih ⊢
    rw [List.map_cons]
    by_cases h : 2 * a < least
    · rw [if_pos h, pos_cons_neg (by omega), ih, List.filter_cons_of_neg (by simp; omega)]
    · rw [if_neg h, pos_cons_pos ha, ih, List.filter_cons_of_pos (by simp; omega)]

/-- the list that the law builds: an own seat, or -1 -/
def dueOf (zs alone : List Int) (i : Nat) : List Int := (upto i).map fun k => if 0 < zs.getD k.toNat 0 then alone.getD (rank zs k.toNat) 0 else -1
theorem dueOf_succ {zs alone : List Int} {i : Nat} : dueOf zs alone (i + 1) = dueOf zs alone i ++ [if 0 < zs.getD i 0 then alone.getD (rank zs i) 0 else -1] := by
  unfold dueOf upto
  rw [List.range_succ, List.map_append, List.map_append]; simp
theorem due_count {zs alone : List Int} (hl : alone.length = (pos zs).length) (h0 : ∀ r ∈ alone, 0 ≤ r) : ∀ i, i ≤ zs.length → ((dueOf zs alone i).filter fun w => decide (0 ≤ w)).length = rank zs i
  | 0, _ => by rw [rank_zero]; rfl
  | i + 1, hi => by
    rw [dueOf_succ, List.filter_append, List.length_append, due_count hl h0 i (by omega), rank_succ (by omega)]
    by_cases hz : 0 < zs.getD i 0
    · rw [if_pos hz, if_pos hz]
      have : 0 ≤ alone.getD (rank zs i) 0 := h0 _ (getD_mem (by rw [hl]; exact (pos_at hz).1))
      rw [List.filter_cons_of_pos (by simpa using this)]; rfl
    · rw [if_neg hz, if_neg hz, List.filter_cons_of_neg (by simp)]; rfl
theorem due_told {zs alone : List Int} (hl : alone.length = (pos zs).length) (h0 : ∀ r ∈ alone, 0 ≤ r) : (dueOf zs alone zs.length).map (fun w => max 0 w) = spread zs alone := by
  apply ext_getD
  · rw [spread_len]; simp [dueOf, upto_len]
  · intro i hi
    have hi' : i < zs.length := by simpa [dueOf, upto_len] using hi
    rw [spread_at, getD_map (by simpa [dueOf, upto_len] using hi')]
    unfold dueOf
    rw [getD_map (by rw [upto_len]; exact hi'), show (upto zs.length).getD i 0 = (i : Int) by simp [upto, List.getD_eq_getElem?_getD, hi'], show (i : Int).toNat = i by simp]
    by_cases hz : 0 < zs.getD i 0
    · rw [if_pos hz, if_pos hz]
      have : 0 ≤ alone.getD (rank zs i) 0 := h0 _ (getD_mem (by rw [hl]; exact (pos_at hz).1))
      omega
    · rw [if_neg hz, if_neg hz]; rfl

/-- what the two checks come to -/
theorem checks_just {vs told : List Int} {least : Int} {s : Nat} (hv : ∀ v ∈ vs, 0 < v) (hz0 : ∀ i, i < vs.length → (zsOf vs least).getD i 0 = 0 → told.getD i 0 = 0) (ht : ∀ i, i < vs.length → 0 ≤ told.getD i 0)
    (hlow : ∀ i, i < vs.length → (zsOf vs least).getD i 0 * s < (told.getD i 0 + 1) * (zsOf vs least).sum) :
    ((∃ i, i < vs.length ∧ told.getD i 0 = 0 ∧ vs.sum ≤ vs.getD i 0 * s) ↔ ∃ v ∈ vs, 2 * v < least ∧ vs.sum ≤ v * s) ∧
    ((∃ i, i < vs.length ∧ vs.sum * (told.getD i 0 + 1) ≤ vs.getD i 0 * s) ↔ ∃ v ∈ vs, 2 * v < least ∧ vs.sum ≤ v * s) := by
  have hle : (zsOf vs least).sum ≤ vs.sum := by
    refine sum_le (by simp [zsOf]) fun i hi => ?_
    have hi : i < vs.length := by simpa [zsOf] using hi
    unfold zsOf
    rw [getD_map hi]
    have := hv _ (getD_mem hi)
    split <;> omega
  have inc : ∀ i, i < vs.length → ¬ 2 * vs.getD i 0 < least → vs.getD i 0 * s < vs.sum * (told.getD i 0 + 1) := fun i hi h => by
    have h1 := hlow i hi
    have e : (zsOf vs least).getD i 0 = vs.getD i 0 := by unfold zsOf; rw [getD_map hi, if_neg h]
    rw [e] at h1
    have h2 := Int.mul_le_mul_of_nonneg_left hle (show 0 ≤ told.getD i 0 + 1 by have := ht i hi; omega)
    rw [Int.mul_comm vs.sum]; omega
  have exc : ∀ i, i < vs.length → 2 * vs.getD i 0 < least → told.getD i 0 = 0 := fun i hi h => hz0 i hi (by unfold zsOf; rw [getD_map hi, if_pos h])
  have idx : ∀ v ∈ vs, ∃ i, i < vs.length ∧ vs.getD i 0 = v := fun v hv => by
    obtain ⟨i, hi, rfl⟩ := List.getElem_of_mem hv
    exact ⟨i, hi, by rw [List.getD_eq_getElem?_getD, List.getElem?_eq_getElem hi]; rfl⟩
  constructor
  · constructor
    · rintro ⟨i, hi, h0, hq⟩
      refine ⟨_, getD_mem hi, ?_, hq⟩
      apply Classical.byContradiction
      intro h
      have := inc i hi h
      rw [h0] at this; omega
    · rintro ⟨v, hvm, h1, h2⟩
      obtain ⟨i, hi, rfl⟩ := idx v hvm
      exact ⟨i, hi, exc i hi h1, h2⟩
  · constructor
    · rintro ⟨i, hi, hq⟩
      have h : 2 * vs.getD i 0 < least := by
        apply Classical.byContradiction
        intro h
        have := inc i hi h
        omega
      refine ⟨_, getD_mem hi, h, ?_⟩
      rw [exc i hi h] at hq; omega
    · rintro ⟨v, hvm, h1, h2⟩
      obtain ⟨i, hi, rfl⟩ := idx v hvm
      exact ⟨i, hi, by rw [exc i hi h1]; omega⟩
end Mine

namespace Mine
open PySem PySem.Calls PyProof.Rows PyProof PySem.W

def lawName (p : Nat) : Str := lawNames.getD p ""

def kindB (p : Nat) : Bool := (lawName p == "quota") || isIn nmL (lawName p) || (isIn nm14 (lawName p) && dvKnown (lawName p) && (dvFew (lawName p) || decide (10 < p)) && (!isIn nmD (lawName p) || (!isIn nmA (lawName p) && !isIn nmB (lawName p) && !isIn nmC (lawName p))))
theorem kindB_all : ∀ p, p < 18 → kindB p = true := by decide

theorem mok {p : Nat} (hp : p < 18) {vs : List Int} {s : Nat} (hl : 1 ≤ vs.length ∧ vs.length ≤ 6) (hs : 1 ≤ s ∧ s ≤ 5) (hv : ∀ v ∈ vs, 0 ≤ v ∧ v < 1000000) (hS : 0 < vs.sum ∧ vs.sum < 1000000) (hps : 10 < p → vs.length ≤ s) : MOK (lawName p) vs s where
  len := hl
  seats := hs
  votes := hv
  sum := hS
  lr := fun _ hk => by
    have h1 := lr_few hS.1 hk
    have h2 := cntGe_le (l := lrRem vs s) (x := 1)
    rw [lrRem_len] at h2
    omega
  kind := by
    have h := kindB_all p hp
    unfold kindB at h
    simp only [Bool.or_eq_true, Bool.and_eq_true, Bool.not_eq_true', decide_eq_true_eq] at h
    rcases h with (h | h) | h
    · exact .inl h
    · exact .inr (.inl h)
    · refine .inr (.inr ⟨h.1.1.1, h.1.1.2, h.1.2.imp id hps, fun hD => ?_⟩)
      rcases h.2 with q | q
      · rw [hD] at q; cases q
      · exact ⟨q.1.1, q.1.2, q.2⟩
theorem lawName_seven {p : Nat} (h : p ≤ 6) : lawName p ∈ lawNames.take 7 := by
  have : p = 0 ∨ p = 1 ∨ p = 2 ∨ p = 3 ∨ p = 4 ∨ p = 5 ∨ p = 6 := by omega
  rcases this with rfl | rfl | rfl | rfl | rfl | rfl | rfl <;> simp [lawName, lawNames]
end Mine

set_option maxHeartbeats 2000000
namespace Mine
open PySem PySem.Calls PyProof.Rows PyProof PySem.W

structure Lay7 (W : Wd) extends Lay6 W where
  aLaw : Addr
  rLaw : Rest
  fLaw : FnK W aLaw (fdOf (stmtAt 25) .none rLaw)

def pickOf (ns : List Int) : Nat := ((lawAt ns 0).fmod 18).toNat
def sizeOf (ns : List Int) : Nat := (2 + (lawAt ns 1).fmod 3).toNat
def seats0 (ns : List Int) : Nat := (1 + (lawAt ns 2).fmod 5).toNat
def seatsOf (ns : List Int) : Nat := if 10 < pickOf ns then max (seats0 ns) (sizeOf ns) else seats0 ns
def votesOf (ns : List Int) : List Int := (upto (sizeOf ns)).map fun i => 1 + (lawAt ns (3 + i.toNat)).fmod 50
def least0 (ns : List Int) : Int := 2 * (votesOf ns).getD ((lawAt ns 7).fmod (sizeOf ns)).toNat 0
def leastOf (ns : List Int) : Int := if least0 ns < 2 * maxOf (votesOf ns) then least0 ns + (lawAt ns 8).fmod 2 else least0 ns
def toldOf (ns : List Int) : List Int := meth (lawName (pickOf ns)) (zsOf (votesOf ns) (leastOf ns)) (seatsOf ns)

theorem Fm.Ok.noOwn {F : Fm} {ρ : List (Str × PV)} {w : Option Own} {pins : List (Str × Value)} {D : Addr → Prop} {s : Shared} (o : F.Ok ⟨ρ, w, pins⟩ D s) : F.Ok ⟨ρ, none, pins⟩ No s where
  k0 := o.k0
  frF := o.frF
  ns := o.ns
  cells := o.cells
  vars := fun x pv e => let ⟨v, a, b⟩ := o.vars x pv e; ⟨v, a.mono (fun _ _ _ h _ => h) fun b h => ⟨h.1, fun q => h.2 (q.imp id fun h => h.elim)⟩, b⟩
  own := fun _ h => h
  pins := o.pins
  dF := fun b h => h.elim
theorem Goes.more {F : Fm} {σ : St} {D₁ D D' : Addr → Prop} {s s' : Shared} (g : Goes F σ D₁ s D' s') (h : ∀ b, D₁ b → D b) : Goes F σ D s D' s' :=
  ⟨g.ok, g.kp.mono (fun b q => q.imp id (h b)) fun _ h => h, fun b q => (g.new b q).imp (h b) id⟩
theorem Execs.noOwn {F : Fm} {ρ : List (Str × PV)} {w : Option Own} {pins : List (Str × Value)} {st : List Stmt} {out : Out} (h : Execs F ⟨ρ, none, pins⟩ st out) : Execs F ⟨ρ, w, pins⟩ st out := fun E D s o =>
  wpAny_mono (h E No s o.noOwn) (fun f s' h' => by
    cases out with
    | next σ' => cases f with
      | next => obtain ⟨D', g⟩ := h'; exact ⟨D', g.more fun _ h => h.elim⟩
      | _ => exact h'.elim
    | cont σ' => cases f with
      | cont => obtain ⟨D', g⟩ := h'; exact ⟨D', g.more fun _ h => h.elim⟩
      | _ => exact h'.elim
    | ret pv => cases f with
      | ret v => exact ⟨h'.1.mono (fun b q => q.imp id fun h => h.elim) fun _ h => h, h'.2⟩
      | _ => exact h'.elim) fun _ _ e => e

theorem fmod_b (a : Int) {n : Int} (h : 0 < n) : 0 ≤ a.fmod n ∧ a.fmod n < n := ⟨Int.fmod_nonneg_of_pos a h, Int.fmod_lt_of_pos a h⟩

/-- the law's frame -/
abbrev lawFrame (W : Wd) (Y : Lay7 W) (A : Around) (hA : A.handled = none) (st : Shared) (X : Addr → Prop) (hI : W.I st.heap) (ok : EnvOK (fdOf (stmtAt 25) .none Y.rLaw) Y.aLaw st.heap.objs.size) : Fm :=
  frameOf W A hA (fdOf (stmtAt 25) .none Y.rLaw) Y.aLaw st X hI rfl Y.fLaw.glob Y.fLaw.blt ok

abbrev lawBody : List Stmt := bodyOf (stmtAt 25)

/-- what the law knows when it comes to the committee -/
def lawRho (ns : List Int) : List (Str × PV) := [("told", .list ((toldOf ns).map .int)), ("least", .int (leastOf ns)), ("whole", .int (votesOf ns).sum), ("votes", .list ((votesOf ns).map .int)), ("seats", .int (seatsOf ns)), ("size", .int (sizeOf ns))]

theorem law_walk {W : Wd} (Y : Lay7 W) (ns : List Int) (hns : ns.length ≤ 63)
    (tail : pickOf ns ≤ 6 → ∀ A hA st X hI ok, Room A 12 → Execs (lawFrame W Y A hA st X hI ok) ⟨lawRho ns, none, []⟩ (lawBody.drop 14) (.ret (.bool true))) :
    Contract W Y.aLaw 12 [.list (ns.map .int)] [] [] (.bool true) := by
  have p1 := fmod_b (lawAt ns 0) (n := 18) (by omega)
  have p2 := fmod_b (lawAt ns 1) (n := 3) (by omega)
  have p3 := fmod_b (lawAt ns 2) (n := 5) (by omega)
  have ePick : (lawAt ns 0).fmod 18 = (pickOf ns : Int) := by unfold pickOf; omega
  have eSize : 2 + (lawAt ns 1).fmod 3 = (sizeOf ns : Int) := by unfold sizeOf; omega
  have eSeats : 1 + (lawAt ns 2).fmod 5 = (seats0 ns : Int) := by unfold seats0; omega
  have bPick : pickOf ns < 18 := by omega
  have bSize : 2 ≤ sizeOf ns ∧ sizeOf ns ≤ 4 := by omega
  have bSeats0 : 1 ≤ seats0 ns ∧ seats0 ns ≤ 5 := by omega
  have bSeats : 1 ≤ seatsOf ns ∧ seatsOf ns ≤ 5 ∧ (10 < pickOf ns → sizeOf ns ≤ seatsOf ns) := by unfold seatsOf; split <;> omega
  have lV : (votesOf ns).length = sizeOf ns := by simp [votesOf, upto_len]
  have bV : ∀ v ∈ votesOf ns, 1 ≤ v ∧ v ≤ 50 := fun v hv => by
    unfold votesOf at hv
    obtain ⟨i, _, rfl⟩ := List.mem_map.mp hv
    have := fmod_b (lawAt ns (3 + i.toNat)) (n := 50) (by omega)
    omega
  refine contract_of (xs := ["script"]) (dps := []) Y.fLaw rfl (by rfl) (by rfl) (by rfl) (fun s vs kvs hI hv hkv => ?_) fun A hA st X hI ok hr => ?_
  · match vs, kvs, hv, hkv with
    | [u], [], _, _ => exact ⟨[], BindsTo.of_eq rfl, .nil⟩
  have hin : ∀ X' ρ, ((lawFrame W Y A hA st X hI ok).cx X' ρ).In W 4 := fun X' ρ => ⟨rfl, rfl, rfl, fun _ h => h, hr.deeper (by omega) _⟩
  have cAt : ∀ k : Nat, k ≤ 100 → Contract W Y.aLawAt 0 [.list (ns.map .int), .int k] [] [] (.int (lawAt ns k)) := fun k hk => c_lawAt Y.toLay ns k (by omega) hk
  conv => arg 3; whnf
  refine Execs.cons (Exec.assign (pv := .int (pickOf ns)) (.inr ⟨_, fun X => Evals.as (Evals.fmod (Evals.call (hin _ _) Y.fLawAt (cAt 0 (by omega)) (by omega) (.top Y.gLawAt (fun _ h => h) rfl) (EvalsL.cons (Evals.name rfl) (EvalsL.cons Evals.int EvalsL.nil))) Evals.int (by omega)) (by rw [ePick])⟩) (by rfl) (by rfl) rfl) ?_
  refine Execs.cons (Exec.assign (pv := .int (sizeOf ns)) (.inr ⟨_, fun X => Evals.as (Evals.add Evals.int (Evals.fmod (Evals.call (hin _ _) Y.fLawAt (cAt 1 (by omega)) (by omega) (.top Y.gLawAt (fun _ h => h) rfl) (EvalsL.cons (Evals.name rfl) (EvalsL.cons Evals.int EvalsL.nil))) Evals.int (by omega))) (by rw [eSize])⟩) (by rfl) (by rfl) rfl) ?_
  refine Execs.cons (Exec.assign (pv := .int (seats0 ns)) (.inr ⟨_, fun X => Evals.as (Evals.add Evals.int (Evals.fmod (Evals.call (hin _ _) Y.fLawAt (cAt 2 (by omega)) (by omega) (.top Y.gLawAt (fun _ h => h) rfl) (EvalsL.cons (Evals.name rfl) (EvalsL.cons Evals.int EvalsL.nil))) Evals.int (by omega))) (by rw [eSeats])⟩) (by rfl) (by rfl) rfl) ?_
  refine Execs.cons (σ₁ := ⟨[("seats", .int (seatsOf ns)), ("size", .int (sizeOf ns)), ("pick", .int (pickOf ns)), ("script", .list (ns.map .int))], none, []⟩) (Exec.ite (b := decide ((10 : Int) < pickOf ns)) (fun X => Tests.cmp CmpSem.gt (Evals.name rfl) Evals.int) (fun h => ?_) (fun h => ?_)) ?_
  · have h := of_decide_eq_true h
    apply Execs.wk
    refine Execs.cons (Exec.assign (pv := .int (seatsOf ns)) (.inr ⟨_, fun X => Evals.as (Evals.max2 (.blt Y.max (fun _ h => h) rfl) (Evals.name rfl) (Evals.name rfl)) (by unfold seatsOf; rw [if_pos (by omega)]; congr 1; omega)⟩) (by rfl) (by rfl) rfl) Execs.nil
    exact .cons rfl (.cons rfl (.cons rfl (.cons rfl .nil)))
  · have h := of_decide_eq_false h
    have : seatsOf ns = seats0 ns := by unfold seatsOf; rw [if_neg (by omega)]
    rw [this]
    exact Execs.nil.wk (.cons rfl (.cons rfl (.cons rfl (.cons rfl .nil))))
  refine Execs.cons (Exec.compI (ns := upto (sizeOf ns)) (f := fun i => 1 + (lawAt ns (3 + i.toNat)).fmod 50) (CompOK.of (by rfl)) (fun X => Evals.range1 (.blt Y.range (fun _ h => h) rfl) (Evals.name rfl)) (items_range _) (by simp [rangeOK]; omega) (by rw [upto_len]; omega) (fun X X' C i hi => ?_) (ms := votesOf ns) rfl rfl (by rfl) (by rfl)) ?_
  · obtain ⟨k, rfl, hk⟩ := upto_mem hi
    rw [show (k : Int).toNat = k by simp]
    exact Evals.weak (Evals.add Evals.int (Evals.fmod (Evals.call (W := W) (d' := 4) ⟨rfl, rfl, rfl, fun _ h => h, hr.deeper (by omega) _⟩ Y.fLawAt (cAt (3 + k) (by omega)) (by omega) (.top Y.gLawAt (fun _ h => h) rfl) (EvalsL.cons (Evals.name rfl) (EvalsL.cons (Evals.as (Evals.add Evals.int (Evals.name rfl)) (by push_cast; rfl)) EvalsL.nil))) Evals.int (by omega)))
  have p7 := fmod_b (lawAt ns 7) (n := (sizeOf ns : Int)) (by omega)
  have p8 := fmod_b (lawAt ns 8) (n := 2) (by omega)
  have hneV : votesOf ns ≠ [] := fun e => by rw [e] at lV; simp at lV; omega
  have sumB : ∀ l : List Int, (∀ v ∈ l, 1 ≤ v ∧ v ≤ 50) → (l.length : Int) ≤ l.sum ∧ l.sum ≤ 50 * l.length := fun l => by
    induction l with
    | nil => intro _; simp
    | cons a l ih =>
      intro h
      have h1 := ih fun v hv => h v (.tail _ hv)
      have h2 := h a (.head _)
      rw [List.sum_cons, List.length_cons]; push_cast; omega
  have bW := sumB (votesOf ns) bV
  rw [lV] at bW
  have bL0 : ∀ k, k < sizeOf ns → 1 ≤ (votesOf ns).getD k 0 ∧ (votesOf ns).getD k 0 ≤ 50 := fun k hk => bV _ (getD_mem (by rw [lV]; exact hk))
  have bLeast : 0 ≤ leastOf ns ∧ leastOf ns ≤ 1000 ∧ leastOf ns ≤ 2 * maxOf (votesOf ns) := by
    have h1 := bL0 ((lawAt ns 7).fmod (sizeOf ns)).toNat (by omega)
    have h2 := le_maxOf (getD_mem (l := votesOf ns) (j := ((lawAt ns 7).fmod (sizeOf ns)).toNat) (by rw [lV]; omega))
    unfold leastOf least0
    split <;> omega
  refine Execs.cons (Exec.assign (.inr ⟨_, fun X => Evals.sum (.blt Y.sum (fun _ h => h) rfl) (Evals.name rfl)⟩) (by rfl) (by rfl) rfl) ?_
  refine Execs.cons (Exec.assign (pv := .int (least0 ns)) (.inr ⟨_, fun X => Evals.mul Evals.int (Evals.item (j := ((lawAt ns 7).fmod (sizeOf ns)).toNat) (Evals.name rfl) (Evals.fmod (Evals.call (hin _ _) Y.fLawAt (cAt 7 (by omega)) (by omega) (.top Y.gLawAt (fun _ h => h) rfl) (EvalsL.cons (Evals.name rfl) (EvalsL.cons Evals.int EvalsL.nil))) (Evals.name rfl) (by omega)) (by simp; omega) (.inl ⟨p7.1, rfl⟩) (pv_get (by rw [lV]; omega))) (.inl (by decide))⟩) (by rfl) (by rfl) rfl) ?_
  refine Execs.cons (σ₁ := ⟨[("least", .int (leastOf ns)), ("whole", .int (votesOf ns).sum), ("votes", .list ((votesOf ns).map .int)), ("seats", .int (seatsOf ns)), ("size", .int (sizeOf ns)), ("pick", .int (pickOf ns)), ("script", .list (ns.map .int))], none, []⟩) (Exec.ite (b := decide (least0 ns < 2 * maxOf (votesOf ns))) (fun X => Tests.cmp CmpSem.lt (Evals.name rfl) (Evals.mul Evals.int (Evals.max1 (.blt Y.max (fun _ h => h) rfl) (Evals.name rfl) hneV) (.inl (by decide)))) (fun h => ?_) (fun h => ?_)) ?_
  · have h := of_decide_eq_true h
    apply Execs.wk
    refine Execs.cons (Exec.assign (pv := .int (leastOf ns)) (.inr ⟨_, fun X => Evals.as (Evals.add (Evals.name rfl) (Evals.fmod (Evals.call (hin _ _) Y.fLawAt (cAt 8 (by omega)) (by omega) (.top Y.gLawAt (fun _ h => h) rfl) (EvalsL.cons (Evals.name rfl) (EvalsL.cons Evals.int EvalsL.nil))) Evals.int (by omega))) (by unfold leastOf; rw [if_pos h])⟩) (by rfl) (by rfl) rfl) Execs.nil
    exact .cons rfl (.cons rfl (.cons rfl (.cons rfl (.cons rfl (.cons rfl (.cons rfl .nil))))))
  · have h := of_decide_eq_false h
    have : leastOf ns = least0 ns := by unfold leastOf; rw [if_neg h]
    rw [this]
    exact Execs.nil.wk (.cons rfl (.cons rfl (.cons rfl (.cons rfl (.cons rfl (.cons rfl (.cons rfl .nil)))))))
  -- the two runs
  have zs0 : ∀ z ∈ zsOf (votesOf ns) (leastOf ns), 0 ≤ z ∧ z ≤ 50 := fun z hz => by
    obtain ⟨v, hv, rfl⟩ := List.mem_map.mp hz
    have := bV v hv
    split <;> omega
  have lZ : (zsOf (votesOf ns) (leastOf ns)).length = sizeOf ns := by simp [zsOf, lV]
  have zsS : 0 < (zsOf (votesOf ns) (leastOf ns)).sum := by
    obtain ⟨k, hk, e⟩ := List.getElem_of_mem (maxOf_mem hneV)
    have e1 : (votesOf ns).getD k 0 = maxOf (votesOf ns) := by rw [List.getD_eq_getElem?_getD, List.getElem?_eq_getElem hk]; exact e
    have e2 : (zsOf (votesOf ns) (leastOf ns)).getD k 0 = maxOf (votesOf ns) := by
      unfold zsOf
      rw [getD_map hk, e1, if_neg (by omega)]
    have := getD_le_sum (vs := zsOf (votesOf ns) (leastOf ns)) (i := k) (fun v h => (zs0 v h).1) (by rw [lZ, ← lV]; exact hk)
    have := bV _ (maxOf_mem hneV)
    omega
  have zsS2 : (zsOf (votesOf ns) (leastOf ns)).sum ≤ (votesOf ns).sum := by
    refine sum_le (by simp [zsOf]) fun i hi => ?_
    have hi : i < (votesOf ns).length := by simpa [zsOf] using hi
    unfold zsOf
    rw [getD_map hi]
    have := bV _ (getD_mem hi)
    split <;> omega
  have vpos : ∀ v ∈ votesOf ns, 0 < v := fun v h => by have := bV v h; omega
  have hfs := pos_zs (least := leastOf ns) vpos
  have fsS : (pos (zsOf (votesOf ns) (leastOf ns))).sum = (zsOf (votesOf ns) (leastOf ns)).sum := pos_sum fun z h => (zs0 z h).1
  have lF : (pos (zsOf (votesOf ns) (leastOf ns))).length ≤ sizeOf ns := by
    rw [← lZ]; exact List.length_filter_le _ _
  have fsne : 1 ≤ (pos (zsOf (votesOf ns) (leastOf ns))).length := by
    cases h : pos (zsOf (votesOf ns) (leastOf ns)) with
    | nil => rw [h] at fsS; simp at fsS; omega
    | cons a l => simp
  have okT : MOK (lawName (pickOf ns)) (zsOf (votesOf ns) (leastOf ns)) (seatsOf ns) := mok bPick (by omega) (by omega) (fun v h => by have := zs0 v h; omega) (by omega) (fun h => by have := bSeats.2.2 h; omega)
  have okA : MOK (lawName (pickOf ns)) (pos (zsOf (votesOf ns) (leastOf ns))) (seatsOf ns) := mok bPick (by omega) (by omega) (fun v h => by have := zs0 v (List.mem_filter.mp h).1; omega) (by omega) (fun h => by have := bSeats.2.2 h; omega)
  have eNm : (lawNames.map PV.str)[pickOf ns]? = some (.str (lawName (pickOf ns))) := by
    have : pickOf ns < lawNames.length := bPick
    unfold lawName
    rw [List.getElem?_map, List.getD_eq_getElem?_getD, List.getElem?_eq_getElem this]; rfl
  have eThr := thr_zs (vs := votesOf ns) (least := leastOf ns) (by omega)
  have cT := c_thr Y.toLay2 (votesOf ns) (leastOf ns) (2 * (votesOf ns).sum) (by omega) (by omega) (by omega)
  rw [eThr] at cT
  refine Execs.cons (Exec.assign (pv := .list ((toldOf ns).map .int)) (.inr ⟨_, fun X => Evals.call (hin _ _) Y.fCo (c_co Y.toLay6 (lawName (pickOf ns)) (votesOf ns) (zsOf (votesOf ns) (leastOf ns)) (seatsOf ns) _ [.bool true] (.tup [.int (leastOf ns), .int (2 * (votesOf ns).sum)]) (.inl ⟨rfl, rfl⟩) cT okT) (by omega) (.top Y.gCo (fun _ h => h) rfl) (EvalsL.cons (Evals.item (j := pickOf ns) (Evals.call (hin _ _) Y.fNm (c_names Y.toLay6) (by omega) (.top Y.gNm (fun _ h => h) rfl) EvalsL.nil) (Evals.name rfl) lnl (.inl ⟨by omega, by omega⟩) eNm) (EvalsL.cons (Evals.name rfl) (EvalsL.cons (Evals.name rfl) (EvalsL.cons (Evals.tup (EvalsL.cons (Evals.name rfl) (EvalsL.cons (Evals.mul Evals.int (Evals.name rfl) (.inl (by decide))) EvalsL.nil)) (by simp)) EvalsL.nil))))⟩) (by rfl) (by rfl) rfl) ?_
  have lT : (toldOf ns).length = sizeOf ns := by unfold toldOf; rw [meth_len, lZ]
  have cA := c_thrNone Y.toLay2 (pos (zsOf (votesOf ns) (leastOf ns)))
  refine Execs.cons (Exec.assign (pv := .list ((meth (lawName (pickOf ns)) (pos (zsOf (votesOf ns) (leastOf ns))) (seatsOf ns)).map .int)) (.inr ⟨_, fun X => Evals.call (hin _ _) Y.fCo (c_co Y.toLay6 (lawName (pickOf ns)) (pos (zsOf (votesOf ns) (leastOf ns))) (pos (zsOf (votesOf ns) (leastOf ns))) (seatsOf ns) _ [.none, .bool true] .none (.inr ⟨rfl, rfl, rfl⟩) cA okA) (by omega) (.top Y.gCo (fun _ h => h) rfl) (EvalsL.cons (Evals.item (j := pickOf ns) (Evals.call (hin _ _) Y.fNm (c_names Y.toLay6) (by omega) (.top Y.gNm (fun _ h => h) rfl) EvalsL.nil) (Evals.name rfl) lnl (.inl ⟨by omega, by omega⟩) eNm) (EvalsL.cons (Evals.as (Evals.compF (ns := votesOf ns) (f := .int) (k := fun v => decide (leastOf ns ≤ 2 * v)) (CompOK.of (by rfl)) (Evals.name rfl) rfl trivial (by omega) (fun X C n hn => Tests.cmp CmpSem.ge (Evals.mul Evals.int (Evals.name rfl) (.inl (by decide))) (Evals.name rfl)) (fun X C n hn => Evals.name rfl)) (by rw [hfs])) (EvalsL.cons (Evals.name rfl) EvalsL.nil)))⟩) (by rfl) (by rfl) rfl) ?_
  have eT : toldOf ns = spread (zsOf (votesOf ns) (leastOf ns)) (meth (lawName (pickOf ns)) (pos (zsOf (votesOf ns) (leastOf ns))) (seatsOf ns)) := meth_spread ⟨bSeats.1, bSeats.2.1⟩ (fun z h => (zs0 z h).1) zsS
  have lA : (meth (lawName (pickOf ns)) (pos (zsOf (votesOf ns) (leastOf ns))) (seatsOf ns)).length = (pos (zsOf (votesOf ns) (leastOf ns))).length := meth_len
  have a0 : ∀ r ∈ meth (lawName (pickOf ns)) (pos (zsOf (votesOf ns) (leastOf ns))) (seatsOf ns), 0 ≤ r := meth_nonneg (fun v h => (zs0 v (List.mem_filter.mp h).1).1) (by omega)
  generalize meth (lawName (pickOf ns)) (pos (zsOf (votesOf ns) (leastOf ns))) (seatsOf ns) = al at eT lA a0
  have hzk : ∀ k, k < sizeOf ns → (0 < (zsOf (votesOf ns) (leastOf ns)).getD k 0 ↔ leastOf ns ≤ 2 * (votesOf ns).getD k 0) := fun k hk => by
    have := bL0 k hk
    unfold zsOf
    rw [getD_map (by omega)]
    split <;> omega
  have dT := due_told lA a0
  have dC := due_count lA a0
  rw [lZ] at dT dC
  have lDue : ∀ i, (dueOf (zsOf (votesOf ns) (leastOf ns)) al i).length = i := fun i => by simp [dueOf, upto_len]
  generalize zsOf (votesOf ns) (leastOf ns) = zs at *
  refine Execs.cons (Exec.assignNil (by rfl) (by rfl)) ?_
  refine Execs.cons (Exec.forK (fun i => some (Own.ints "due" (dueOf zs al i) true)) (.inr ⟨_, fun X => Evals.name rfl⟩) rfl trivial (by rfl) (fun i => by rfl) (by rfl) (fun i p hp => ?_) rfl) ?_
  · have hil : i < (votesOf ns).length := by
      have := (List.getElem?_eq_some_iff.mp hp).1
      simpa using this
    rw [pv_get hil] at hp
    cases hp
    rw [dueOf_succ]
    refine Execs.cons (Exec.append (fr := false) (by rw [lDue]; omega) (fun X => ?_)) Execs.nil
    refine Evals.ite (b := decide (leastOf ns ≤ 2 * (votesOf ns).getD i 0)) (Tests.cmp CmpSem.ge (Evals.mul Evals.int (Evals.name rfl) (.inl (by decide))) (Evals.name rfl)) (fun h => ?_) (fun h => ?_)
    · have h := (hzk i (by omega)).2 (of_decide_eq_true h)
      rw [if_pos h]
      have hc := dC i (by omega)
      have hrk := (pos_at h).1
      refine Evals.item (j := rank zs i) (Evals.name rfl) (Evals.len (xs := ((dueOf zs al i).filter fun w => decide (0 ≤ w)).map .int) (.blt Y.len (fun _ h => h) rfl) (Evals.compF (ns := dueOf zs al i) (f := .int) (k := fun w => decide (0 ≤ w)) (CompOK.of (by rfl)) (Evals.name rfl) rfl trivial (by rw [lDue]; omega) (fun X C n hn => Tests.cmp CmpSem.ge (Evals.name rfl) Evals.int) (fun X C n hn => Evals.name rfl)) (by rw [List.length_map, hc]; omega)) (by rw [List.length_map]; omega) (.inl ⟨by omega, by rw [List.length_map, hc]; simp⟩) (pv_get (by rw [lA]; exact hrk))
    · have h : ¬ 0 < zs.getD i 0 := fun q => of_decide_eq_false h ((hzk i (by omega)).1 q)
      rw [if_neg h]
      exact Evals.weak (Evals.neg Evals.int)
  rw [List.length_map, lV]
  refine Execs.cons (Exec.ite (b := !decide (toldOf ns = (dueOf zs al (sizeOf ns)).map fun w => max 0 w)) (fun X => Tests.cmp (CmpSem.neInts (by have := hr.2.2; show A.units + 3 + 64 < cLine; omega)) (Evals.name rfl) (Evals.as (Evals.compI (ns := dueOf zs al (sizeOf ns)) (f := fun w => .int (max 0 w)) (CompOK.of (by rfl)) (Evals.name rfl) rfl trivial (by rw [lDue]; omega) (fun X C n hn => Evals.weak (Evals.max2 (.blt Y.max (fun _ h => h) rfl) Evals.int (Evals.name rfl)))) (by simp [Function.comp_def]))) (fun h => ?_) (fun h => Execs.nil)) ?_
  · rw [eT, dT] at h; simp at h
  by_cases h6 : 6 < pickOf ns
  · refine Execs.ret (Exec.ite (b := decide ((6 : Int) < pickOf ns)) (fun X => Tests.cmp CmpSem.gt (Evals.name rfl) Evals.int) (fun h => ?_) (fun h => absurd (of_decide_eq_false h) (by omega)))
    exact Execs.ret (Exec.ret fun X => Evals.bool)
  · refine Execs.cons (Exec.ite (b := decide ((6 : Int) < pickOf ns)) (fun X => Tests.cmp CmpSem.gt (Evals.name rfl) Evals.int) (fun h => absurd (of_decide_eq_true h) (by omega)) (fun h => Execs.nil)) ?_
    refine Execs.noOwn (Execs.wkFrom (tail (by omega) A hA st X hI ok hr) ?_)
    exact .cons rfl (.cons rfl (.cons rfl (.cons rfl (.cons rfl (.cons rfl .nil)))))
end Mine

set_option maxHeartbeats 1000000
namespace Mine
open PySem PySem.Calls PyProof.Rows PyProof PySem.W

def clsBody : Stmt → List Stmt
  | .ClassDef _ _ _ b _ _ _ _ _ _ _ => b
  | _ => []
def methAt (i j : Nat) : Stmt := ((clsBody (stmtAt i))[j]?).getD (.Pass default)
/-- the function of a method -/
abbrev fdM (st : Stmt) (qual : Str) (dV : Value) (r : Rest) : FuncData := fnOf (nameOf st) qual (argsOf st) (bodyOf st) (scopeOf st) dV r.kV r.doc r.pm r.an r.cdv r.ct

/-- a method found upon a class -/
def Has (K : Frag) (C : Addr) (name : Str) (f : Addr) : Prop := findIn K (.ref C) name = some (some (.ref f)) ∧ typeIn K (.ref f) = some (.type "function")
/-- a field's name -/
structure FieldK (K : Frag) (C : Addr) (name : Str) : Prop where
  lays : Lays K C name
  find : findIn K (.ref C) name = some none

structure Lay8 (W : Wd) extends Lay7 W where
  isi : W.mg "isinstance" = none ∧ W.mb "isinstance" = some (.builtin "isinstance")
  -- Fraction
  aFr : Addr
  gFr : W.mg "Fraction" = some (.ref aFr)
  pFr : PlainK W.K aFr
  aFI : Addr
  rFI : Rest
  tFI : Addr
  dFI : ∃ o n t₀ t₁, W.K.lookup tFI = some o ∧ o.data = .seq #[.int 0 t₀, .int 1 t₁] n
  fFI : FnK W aFI (fdM (methAt 12 0) "Fraction.__init__" (.ref tFI) rFI)
  mFr : MakesK W aFr aFI
  nuFr : FieldK W.K aFr "numerator"
  deFr : FieldK W.K aFr "denominator"

def frKs : List Str := ["numerator", "denominator"]
def Lay8.fr {W : Wd} (Y : Lay8 W) (n d : Int) : PV := .inst Y.aFr frKs [.int n, .int d]

/-! the reduction -/
def gst (d r : Int) : Nat → Int × Int
  | 0 => (d, r)
  | i + 1 => gst r (d.fmod r) i
theorem gst_succ : ∀ (i : Nat) (d r : Int), gst d r (i + 1) = ((gst d r i).2, (gst d r i).1.fmod (gst d r i).2)
  | 0, d, r => rfl
  | i + 1, d, r => by
    show gst r (d.fmod r) (i + 1) = _
    rw [gst_succ i]; rfl
theorem gcd_turns : ∀ (m : Nat) (d r B : Int), 0 < d → 0 ≤ r → d ≤ B → r ≤ B → r.toNat < m →
    ∃ n, (∀ i, i < n → (gst d r i).2 ≠ 0) ∧ (gst d r n).2 = 0 ∧ (gst d r n).1 = (Nat.gcd r.toNat d.toNat : Int) ∧ ∀ i, i ≤ n → 0 < (gst d r i).1 ∧ 0 ≤ (gst d r i).2 ∧ (gst d r i).2 ≤ B
  | 0, _, _, _, _, _, _, _, h => by omega
  | m + 1, d, r, B, hd, hr, hdB, hrB, h => by
    by_cases h0 : r = 0
    · subst h0
      refine ⟨0, fun i hi => by omega, rfl, ?_, fun i hi => ?_⟩
      · show d = _
        simp; omega
      · have : i = 0 := by omega
        subst this
        exact ⟨hd, Int.le_refl _, hrB⟩
    · have hr' : 0 < r := by omega
      have e := fmod_nat (Int.le_of_lt hd) hr'
      have hlt : d.toNat % r.toNat < r.toNat := Nat.mod_lt _ (by omega)
      obtain ⟨n, h1, h2, h3, h4⟩ := gcd_turns m r (d.fmod r) B hr' (by rw [e]; exact Int.natCast_nonneg _) hrB (by rw [e]; omega) (by rw [e, Int.toNat_natCast]; omega)
      refine ⟨n + 1, fun i hi => ?_, h2, ?_, fun i hi => ?_⟩
      · cases i with
        | zero => exact h0
        | succ i => exact h1 i (by omega)
      · show (gst r (d.fmod r) n).1 = _
        rw [h3, e, Int.toNat_natCast, Nat.gcd_rec r.toNat d.toNat]
      · cases i with
        | zero => exact ⟨hd, hr, hrB⟩
        | succ i => exact h4 i (by omega)

def frG (u l : Int) : Int := (Nat.gcd u.toNat l.toNat : Int)
def frN (u l : Int) : Int := u.fdiv (frG u l)
def frD (u l : Int) : Int := l.fdiv (frG u l)
theorem frG_pos {u l : Int} (hl : 0 < l) : 0 < frG u l := by
  unfold frG
  have : 0 < Nat.gcd u.toNat l.toNat := Nat.gcd_pos_of_pos_right _ (by omega)
  omega
theorem fdiv_gcd {a g : Int} (ha : 0 ≤ a) (hg : 0 < g) (hd : g.toNat ∣ a.toNat) : a.fdiv g * g = a := by
  obtain ⟨k, hk⟩ := hd
  have e : a = g * (k : Int) := by
    have := congrArg (Nat.cast : Nat → Int) hk
    push_cast at this
    rw [Int.toNat_of_nonneg ha, Int.toNat_of_nonneg (Int.le_of_lt hg)] at this
    exact this
  rw [e, Int.fdiv_eq_ediv_of_nonneg _ (Int.le_of_lt hg), Int.mul_ediv_cancel_left _ (by omega), Int.mul_comm]
theorem fr_spec {u l : Int} (hu : 0 ≤ u) (hl : 0 < l) : frN u l * frG u l = u ∧ frD u l * frG u l = l := by
  have g0 := frG_pos (u := u) hl
  refine ⟨fdiv_gcd hu g0 ?_, fdiv_gcd (Int.le_of_lt hl) g0 ?_⟩
  · unfold frG; rw [Int.toNat_natCast]; exact Nat.gcd_dvd_left _ _
  · unfold frG; rw [Int.toNat_natCast]; exact Nat.gcd_dvd_right _ _
theorem fr_bounds {u l : Int} (hu : 0 ≤ u) (hl : 0 < l) : 0 ≤ frN u l ∧ frN u l ≤ u ∧ 0 < frD u l ∧ frD u l ≤ l := by
  obtain ⟨h1, h2⟩ := fr_spec hu hl
  have g0 := frG_pos (u := u) hl
  have n0 : 0 ≤ frN u l := by
    rcases Int.lt_or_le (frN u l) 0 with h | h
    · have := Int.mul_neg_of_neg_of_pos h g0; omega
    · exact h
  have d0 : 0 < frD u l := by
    rcases Int.lt_or_le 0 (frD u l) with h | h
    · exact h
    · have := Int.mul_nonpos_of_nonpos_of_nonneg h (Int.le_of_lt g0); omega
  refine ⟨n0, ?_, d0, ?_⟩
  · have := Int.mul_le_mul_of_nonneg_left (show (1 : Int) ≤ frG u l by omega) n0
    rw [h1] at this; omega
  · have := Int.mul_le_mul_of_nonneg_left (show (1 : Int) ≤ frG u l by omega) (Int.le_of_lt d0)
    rw [h2] at this; omega
theorem fr_le {u l w : Int} (hu : 0 ≤ u) (hl : 0 < l) : frN u l ≤ w * frD u l ↔ u ≤ w * l := by
  obtain ⟨h1, h2⟩ := fr_spec hu hl
  have g0 := frG_pos (u := u) hl
  generalize frN u l = n at *
  generalize frD u l = d at *
  generalize frG u l = g at *
  subst h1 h2
  rw [← Int.mul_assoc]
  exact ⟨fun h => Int.mul_le_mul_of_nonneg_right h (Int.le_of_lt g0), fun h => Int.le_of_mul_le_mul_right h g0⟩
theorem fr_floor {u l : Int} (hu : 0 ≤ u) (hl : 0 < l) : (frN u l).fdiv (frD u l) = u.fdiv l := by
  obtain ⟨h1, h2⟩ := fr_spec hu hl
  have g0 := frG_pos (u := u) hl
  have d0 := (fr_bounds hu hl).2.2.1
  rw [Int.fdiv_eq_ediv_of_nonneg _ (Int.le_of_lt d0), Int.fdiv_eq_ediv_of_nonneg _ (Int.le_of_lt hl)]
  clear d0
  generalize frN u l = n at *
  generalize frD u l = d at *
  generalize frG u l = g at *
  subst h1 h2
  rw [Int.mul_ediv_mul_of_pos_left _ _ g0]
end Mine

set_option maxHeartbeats 1000000
namespace Mine
open PySem PySem.Calls PyProof.Rows PyProof PySem.W

theorem Tests.int {Γ : Cx} {e : Expr} {n : Int} {fr : Bool} (h : Evals Γ fr e (.int n)) (hs : ∀ whole, isTrue e Γ.env whole = (do let v ← whole; standAt e.pos; holding [v] (truthy v)) := by intro _; rfl) : Tests Γ e (n != 0) := fun E s o => by
  rw [hs]
  refine wpAny_bind (wpAny_mono (h E s o) (fun v s₁ h₁ => ?_) fun _ _ e => e)
  obtain ⟨k, hv, _⟩ := h₁
  cases hv
  exact wpAny_bind (wpAny_standAt (wpAny_holding (PyProof.Rows.truthy_int ⟨k, rfl⟩)))

abbrev frFrame (W : Wd) (Y : Lay8 W) (A : Around) (hA : A.handled = none) (L : Addr) (s₀ : Shared) (X : Addr → Prop) (hI : W.I s₀.heap) (ok : EnvOK (fdM (methAt 12 0) "Fraction.__init__" (.ref Y.tFI) Y.rFI) Y.aFI L) : Fm :=
  frameFrom W A hA (fdM (methAt 12 0) "Fraction.__init__" (.ref Y.tFI) Y.rFI) Y.aFI L s₀ X hI rfl Y.fFI.glob Y.fFI.blt ok

section
variable {W : Wd} (Y : Lay8 W) {A : Around} {hA : A.handled = none} {L : Addr} {s₀ : Shared} {X : Addr → Prop} {hI : W.I s₀.heap} {ok : EnvOK (fdM (methAt 12 0) "Fraction.__init__" (.ref Y.tFI) Y.rFI) Y.aFI L}

abbrev frSelf (ks : List Str) (fs : List PV) : Own := Own.inst "self" Y.aFr ks fs
abbrev frBody : List Stmt := bodyOf (methAt 12 0)

theorem fr_tail {x : Addr} {u l : Int} (hu : 0 ≤ u ∧ u ≤ 1000000) (hl : 0 < l ∧ l ≤ 1000000) :
    Execs (frFrame W Y A hA L s₀ X hI ok) ⟨[("lower", .int l), ("upper", .int u)], some (frSelf Y [] []), [("self", .ref x)]⟩ (frBody.drop 7)
      (.next ⟨[], some (frSelf Y frKs [.int (frN u l), .int (frD u l)]), [("self", .ref x)]⟩) := by
  have e := fmod_b u hl.1
  obtain ⟨n, h1, h2, h3, h4⟩ := gcd_turns ((u.fmod l).toNat + 1) l (u.fmod l) 1000000 hl.1 e.1 hl.2 (by omega) (Nat.lt_succ_self _)
  have hg : (gst l (u.fmod l) n).1 = frG u l := by
    rw [h3, fmod_nat hu.1 hl.1, Int.toNat_natCast]
    unfold frG
    congr 1
    rw [← Nat.gcd_rec, Nat.gcd_comm]
  have g0 := frG_pos (u := u) hl.1
  have gl : frG u l ≤ 1000000 := by
    have := Nat.gcd_le_right u.toNat (n := l.toNat) (by omega)
    unfold frG; omega
  conv => arg 3; whnf
  refine Execs.cons (Exec.ite (b := (l == 0)) (fun X => Tests.cmp CmpSem.eq (Evals.name rfl) Evals.int) (fun h => absurd h (by simp; omega)) fun _ => Execs.nil) ?_
  refine Execs.cons (Exec.ite (b := decide (l < 0)) (fun X => Tests.cmp CmpSem.lt (Evals.name rfl) Evals.int) (fun h => absurd h (by simp; omega)) fun _ => Execs.nil) ?_
  refine Execs.cons (Exec.assign (pv := .int l) (.inl ⟨_, fun X => Evals.name rfl, rfl⟩) (by rfl) (by rfl) rfl) ?_
  refine Execs.cons (Exec.assign (pv := .int (u.fmod l)) (.inl ⟨_, fun X => Evals.fmod (Evals.name rfl) (Evals.name rfl) ⟨hl.1, by omega⟩, rfl⟩) (by rfl) (by rfl) rfl) ?_
  refine Execs.cons (σ₁ := ⟨[("divisor", .int (frG u l)), ("lower", .int l), ("upper", .int u)], some (frSelf Y [] []), [("self", .ref x)]⟩) ?_ ?_
  · refine Exec.weakTo (σ' := ⟨[("rest", .int (gst l (u.fmod l) n).2), ("divisor", .int (gst l (u.fmod l) n).1), ("lower", .int l), ("upper", .int u)], some (frSelf Y [] []), [("self", .ref x)]⟩) (Exec.while n (fun i => ⟨[("rest", .int (gst l (u.fmod l) i).2), ("divisor", .int (gst l (u.fmod l) i).1), ("lower", .int l), ("upper", .int u)], some (frSelf Y [] []), [("self", .ref x)]⟩) (fun i hi X => Tests.as (Tests.int (Evals.name rfl)) (by simpa using h1 i hi)) (fun i hi => ?_) (fun X => Tests.as (Tests.int (Evals.name rfl)) (by simp [h2])) rfl) ?_
    · have hb := h4 i (by omega)
      have hn := h1 i hi
      apply Execs.wk
      refine Execs.cons (Exec.assignPair (p := .int (gst l (u.fmod l) (i + 1)).1) (q := .int (gst l (u.fmod l) (i + 1)).2) (fr := true) (fun X => ?_) rfl rfl (by rfl) (by rfl) (by rfl) (by rfl) (by rfl) (by rfl)) Execs.nil
      · rw [gst_succ]
        exact Evals.tup (EvalsL.cons (Evals.name rfl) (EvalsL.cons (Evals.fmod (Evals.name rfl) (Evals.name rfl) ⟨by omega, by omega⟩) EvalsL.nil)) (by simp)
      · exact .cons rfl (.cons rfl (.cons rfl (.cons rfl .nil)))
    · rw [hg]
      exact .cons rfl (.cons rfl (.cons rfl .nil))
  · have hK : ∀ h, (frFrame W Y A hA L s₀ X hI ok).I h → W.K.In h := fun h q => q.1
    refine Execs.cons (Exec.setAttr (pv := .int (frN u l)) hK Y.nuFr.lays (NewVal.scalar (fun X => Evals.fdiv (Evals.name rfl) (Evals.name rfl) ⟨g0, by omega⟩) rfl) (by rfl) rfl (by decide) (by rfl)) ?_
    apply Execs.wk
    refine Execs.cons (Exec.setAttr (pv := .int (frD u l)) hK Y.deFr.lays (NewVal.scalar (fun X => Evals.fdiv (Evals.name rfl) (Evals.name rfl) ⟨g0, by omega⟩) rfl) (by rfl) rfl (by decide) (by rfl)) Execs.nil
    exact .nil
end
end Mine

set_option maxHeartbeats 1000000
namespace Mine
open PySem PySem.Calls PyProof.Rows PyProof PySem.W

theorem PlainK.pg {K : Frag} {C : Addr} (P : PlainK K C) (name : Str) : plainGet K C name = true := by unfold plainGet; rw [P.ga, P.gh]; rfl

theorem Evals.field {Γ : Cx} {W : Wd} {d : Nat} {C : Addr} {e : Expr} {ks : List Str} {fs : List PV} {name : Str} {p : PV} {fr : Bool} {apos : Pos} (hin : Γ.In W d) (P : PlainK W.K C) (N : FieldK W.K C name) (he : Evals Γ fr e (.inst C ks fs)) (hp : (ks.zip fs).lookup name = some p)
    (hE : eval (.Attribute e name apos) Γ.env = (do
      let o ← eval e Γ.env
      standAt apos.atName
      let r ← holding [o] (getAttr o name true)
      letTemporaryGo e o r
      pure r) := by with_unfolding_all rfl) : Evals Γ false (.Attribute e name apos) p :=
  Evals.attr hin he hp (P.pg name) P.dct N.find rfl hE

section
variable {W : Wd} (Y : Lay8 W) {A : Around} {hA : A.handled = none} {L : Addr} {s₀ : Shared} {X : Addr → Prop} {hI : W.I s₀.heap} {ok : EnvOK (fdM (methAt 12 0) "Fraction.__init__" (.ref Y.tFI) Y.rFI) Y.aFI L}

abbrev isTup (C : Addr) : Shared → Value → Prop := fun s x => ∃ tp, x = .ref tp ∧ s.heap.get? tp = some { cls := .type "tuple", data := .seq #[.type "int", .ref C] }

variable {Y} in
theorem Lay8.tup {Γ : Cx} {d : Nat} (hin : Γ.In W d) {pi pf pt : Pos} {k : Nat} (h1 : Γ.env.kindOf "int" = some .globalImplicit) (h2 : Γ.env.kindOf "Fraction" = some .globalImplicit)
    (hc : starEach [.Name "int" pi, .Name "Fraction" pf] Γ.env = [(false, eval (.Name "int" pi) Γ.env), (false, eval (.Name "Fraction" pf) Γ.env)] := by rfl) : EvRaw Γ (.Tuple [.Name "int" pi, .Name "Fraction" pf] k pt) (isTup Y.aFr) :=
  EvRaw.pair (EvRaw.glob (.blt Y.int hin.I h1)) (EvRaw.glob (.top Y.gFr hin.I h2)) hc

theorem fr_ii {x : Addr} {u l : Int} (hr : Room A 1) (hu : 0 ≤ u ∧ u ≤ 1000000) (hl : 0 < l ∧ l ≤ 1000000) :
    Execs (frFrame W Y A hA L s₀ X hI ok) ⟨[("numerator", .int u), ("denominator", .int l)], some (frSelf Y [] []), [("self", .ref x)]⟩ frBody
      (.next ⟨[], some (frSelf Y frKs [.int (frN u l), .int (frD u l)]), [("self", .ref x)]⟩) := by
  have hin : ∀ X' ρ, ((frFrame W Y A hA L s₀ X hI ok).cx X' ρ).In W 0 := fun X' ρ => ⟨rfl, rfl, rfl, fun _ h => h, hr.deeper (by omega) _⟩
  have hK : ∀ h, (frFrame W Y A hA L s₀ X hI ok).I h → W.K.In h := fun h q => q.1
  conv => arg 3; whnf
  refine Execs.cons (Exec.ite (b := !true) (fun X => Tests.not (Tests.val (Evals.isi (.blt Y.isi (fun _ h => h) rfl) (IsiSem.intTup hK Y.pFr) (Evals.name rfl) (Y.tup (hin _ _) rfl rfl)))) (fun h => nomatch h) fun _ => Execs.nil) ?_
  refine Execs.cons (Exec.ite (b := !true) (fun X => Tests.not (Tests.val (Evals.isi (.blt Y.isi (fun _ h => h) rfl) (IsiSem.intTup hK Y.pFr) (Evals.name rfl) (Y.tup (hin _ _) rfl rfl)))) (fun h => nomatch h) fun _ => Execs.nil) ?_
  refine Execs.cons (Exec.assign (pv := .int u) (.inl ⟨_, fun X => Evals.name rfl, rfl⟩) (by rfl) (by rfl) rfl) ?_
  refine Execs.cons (Exec.assign (pv := .int l) (.inl ⟨_, fun X => Evals.name rfl, rfl⟩) (by rfl) (by rfl) rfl) ?_
  refine Execs.cons (Exec.ite (b := false) (fun X => Tests.val (Evals.isi (.blt Y.isi (fun _ h => h) rfl) (IsiSem.intNo hK Y.pFr) (Evals.name rfl) (EvRaw.glob (.top Y.gFr (fun _ h => h) rfl)))) (fun h => nomatch h) fun _ => Execs.nil) ?_
  refine Execs.cons (Exec.ite (b := false) (fun X => Tests.val (Evals.isi (.blt Y.isi (fun _ h => h) rfl) (IsiSem.intNo hK Y.pFr) (Evals.name rfl) (EvRaw.glob (.top Y.gFr (fun _ h => h) rfl)))) (fun h => nomatch h) fun _ => Execs.nil) ?_
  refine Execs.cons (Exec.ite (b := false) (fun X => Tests.val (Evals.isi (.blt Y.isi (fun _ h => h) rfl) (IsiSem.intNo hK Y.pFr) (Evals.name rfl) (EvRaw.glob (.top Y.gFr (fun _ h => h) rfl)))) (fun h => nomatch h) fun _ => Execs.nil) ?_
  exact Execs.wkFrom (fr_tail Y hu hl) (.cons rfl (.cons rfl .nil))

theorem fr_fi {x : Addr} {n d : Int} (hr : Room A 1) (hu : 0 ≤ n ∧ n ≤ 1000000) (hl : 0 < d ∧ d ≤ 1000000) :
    Execs (frFrame W Y A hA L s₀ X hI ok) ⟨[("numerator", Y.fr n d), ("denominator", .int 1)], some (frSelf Y [] []), [("self", .ref x)]⟩ frBody
      (.next ⟨[], some (frSelf Y frKs [.int (frN n (1 * d)), .int (frD n (1 * d))]), [("self", .ref x)]⟩) := by
  have hin : ∀ X' ρ, ((frFrame W Y A hA L s₀ X hI ok).cx X' ρ).In W 0 := fun X' ρ => ⟨rfl, rfl, rfl, fun _ h => h, hr.deeper (by omega) _⟩
  have hK : ∀ h, (frFrame W Y A hA L s₀ X hI ok).I h → W.K.In h := fun h q => q.1
  conv => arg 3; whnf
  refine Execs.cons (Exec.ite (b := !true) (fun X => Tests.not (Tests.val (Evals.isi (p := Y.fr n d) (.blt Y.isi (fun _ h => h) rfl) (IsiSem.instTup hK Y.pFr) (Evals.name rfl) (Y.tup (hin _ _) rfl rfl)))) (fun h => nomatch h) fun _ => Execs.nil) ?_
  refine Execs.cons (Exec.ite (b := !true) (fun X => Tests.not (Tests.val (Evals.isi (.blt Y.isi (fun _ h => h) rfl) (IsiSem.intTup hK Y.pFr) (Evals.name rfl) (Y.tup (hin _ _) rfl rfl)))) (fun h => nomatch h) fun _ => Execs.nil) ?_
  refine Execs.cons (Exec.assign (pv := Y.fr n d) (.inr ⟨_, fun X => Evals.name rfl⟩) (by rfl) (by rfl) rfl) ?_
  refine Execs.cons (Exec.assign (pv := .int 1) (.inl ⟨_, fun X => Evals.name rfl, rfl⟩) (by rfl) (by rfl) rfl) ?_
  refine Execs.cons (Exec.ite (b := true) (out := .next ⟨[("upper", .int n), ("lower", .int 1), ("numerator", Y.fr n d), ("denominator", .int 1)], some (frSelf Y [] []), [("self", .ref x)]⟩) (fun X => Tests.val (Evals.isi (p := Y.fr n d) (.blt Y.isi (fun _ h => h) rfl) (IsiSem.instYes hK) (Evals.name rfl) (EvRaw.glob (.top Y.gFr (fun _ h => h) rfl)))) (fun _ => ?_) fun h => nomatch h) ?_
  · apply Execs.wk
    refine Execs.cons (Exec.assign (pv := .int n) (.inl ⟨_, fun X => Evals.field (hin _ _) Y.pFr Y.nuFr (Evals.name rfl) rfl, rfl⟩) (by rfl) (by rfl) rfl) Execs.nil
    exact .cons rfl (.cons rfl (.cons rfl (.cons rfl .nil)))
  refine Execs.cons (Exec.ite (b := false) (fun X => Tests.val (Evals.isi (.blt Y.isi (fun _ h => h) rfl) (IsiSem.intNo hK Y.pFr) (Evals.name rfl) (EvRaw.glob (.top Y.gFr (fun _ h => h) rfl)))) (fun h => nomatch h) fun _ => Execs.nil) ?_
  refine Execs.cons (Exec.ite (b := true) (out := .next ⟨[("lower", .int (1 * d)), ("upper", .int n)], some (frSelf Y [] []), [("self", .ref x)]⟩) (fun X => Tests.val (Evals.isi (p := Y.fr n d) (.blt Y.isi (fun _ h => h) rfl) (IsiSem.instYes hK) (Evals.name rfl) (EvRaw.glob (.top Y.gFr (fun _ h => h) rfl)))) (fun _ => ?_) fun h => nomatch h) ?_
  · apply Execs.wk
    refine Execs.cons (Exec.assign (pv := .int (1 * d)) (.inl ⟨_, fun X => Evals.mul (Evals.name rfl) (Evals.field (hin _ _) Y.pFr Y.deFr (Evals.name rfl) rfl) (.inl (by decide)), rfl⟩) (by rfl) (by rfl) rfl) Execs.nil
    exact .cons rfl (.cons rfl .nil)
  exact Execs.wkFrom (fr_tail Y hu (by omega)) (.cons rfl (.cons rfl .nil))

theorem fr_if {x : Addr} {u n d : Int} (hr : Room A 1) (hu : 0 ≤ u * d ∧ u * d ≤ 1000000) (hl : 0 < n ∧ n ≤ 1000000) (hb : -(2 ^ 62) < u ∧ u < 2 ^ 62) :
    Execs (frFrame W Y A hA L s₀ X hI ok) ⟨[("numerator", .int u), ("denominator", Y.fr n d)], some (frSelf Y [] []), [("self", .ref x)]⟩ frBody
      (.next ⟨[], some (frSelf Y frKs [.int (frN (u * d) n), .int (frD (u * d) n)]), [("self", .ref x)]⟩) := by
  have hin : ∀ X' ρ, ((frFrame W Y A hA L s₀ X hI ok).cx X' ρ).In W 0 := fun X' ρ => ⟨rfl, rfl, rfl, fun _ h => h, hr.deeper (by omega) _⟩
  have hK : ∀ h, (frFrame W Y A hA L s₀ X hI ok).I h → W.K.In h := fun h q => q.1
  conv => arg 3; whnf
  refine Execs.cons (Exec.ite (b := !true) (fun X => Tests.not (Tests.val (Evals.isi (.blt Y.isi (fun _ h => h) rfl) (IsiSem.intTup hK Y.pFr) (Evals.name rfl) (Y.tup (hin _ _) rfl rfl)))) (fun h => nomatch h) fun _ => Execs.nil) ?_
  refine Execs.cons (Exec.ite (b := !true) (fun X => Tests.not (Tests.val (Evals.isi (p := Y.fr n d) (.blt Y.isi (fun _ h => h) rfl) (IsiSem.instTup hK Y.pFr) (Evals.name rfl) (Y.tup (hin _ _) rfl rfl)))) (fun h => nomatch h) fun _ => Execs.nil) ?_
  refine Execs.cons (Exec.assign (pv := .int u) (.inl ⟨_, fun X => Evals.name rfl, rfl⟩) (by rfl) (by rfl) rfl) ?_
  refine Execs.cons (Exec.assign (pv := Y.fr n d) (.inr ⟨_, fun X => Evals.name rfl⟩) (by rfl) (by rfl) rfl) ?_
  refine Execs.cons (Exec.ite (b := false) (fun X => Tests.val (Evals.isi (.blt Y.isi (fun _ h => h) rfl) (IsiSem.intNo hK Y.pFr) (Evals.name rfl) (EvRaw.glob (.top Y.gFr (fun _ h => h) rfl)))) (fun h => nomatch h) fun _ => Execs.nil) ?_
  refine Execs.cons (Exec.ite (b := true) (out := .next ⟨[("lower", .int n), ("upper", .int (u * d)), ("numerator", .int u)], some (frSelf Y [] []), [("self", .ref x)]⟩) (fun X => Tests.val (Evals.isi (p := Y.fr n d) (.blt Y.isi (fun _ h => h) rfl) (IsiSem.instYes hK) (Evals.name rfl) (EvRaw.glob (.top Y.gFr (fun _ h => h) rfl)))) (fun _ => ?_) fun h => nomatch h) ?_
  · apply Execs.wk
    refine Execs.cons (Exec.assign (pv := .int (u * d)) (.inl ⟨_, fun X => Evals.mul (Evals.name rfl) (Evals.field (hin _ _) Y.pFr Y.deFr (Evals.name rfl) rfl) (.inl hb), rfl⟩) (by rfl) (by rfl) rfl) ?_
    refine Execs.cons (Exec.assign (pv := .int n) (.inl ⟨_, fun X => Evals.field (hin _ _) Y.pFr Y.nuFr (Evals.name rfl) rfl, rfl⟩) (by rfl) (by rfl) rfl) Execs.nil
    exact .cons rfl (.cons rfl (.cons rfl .nil))
  refine Execs.cons (Exec.ite (b := false) (fun X => Tests.val (Evals.isi (.blt Y.isi (fun _ h => h) rfl) (IsiSem.intNo hK Y.pFr) (Evals.name rfl) (EvRaw.glob (.top Y.gFr (fun _ h => h) rfl)))) (fun h => nomatch h) fun _ => Execs.nil) ?_
  exact Execs.wkFrom (fr_tail Y hu hl) (.cons rfl (.cons rfl .nil))
end

/-! Fraction(..) -/
theorem make_ii {W : Wd} (Y : Lay8 W) {u l : Int} (hu : 0 ≤ u ∧ u ≤ 1000000) (hl : 0 < l ∧ l ≤ 1000000) : MakeContract W Y.aFr 2 [.int u, .int l] [] [] frKs [.int (frN u l), .int (frD u l)] :=
  make_of (ys := ["numerator", "denominator"]) (dps := []) (by omega) Y.mFr Y.fFI rfl (by rfl) (by rfl) (by rfl) (fun s self vs kvs hI hv hkv => by
    match vs, kvs, hv, hkv with
    | [a, b], [], _, _ =>
      obtain ⟨o, n, t₀, t₁, h1, h2⟩ := Y.dFI
      exact ⟨[], BindsTo.of_defaults rfl (hI.1 _ _ h1) h2 rfl rfl, .nil⟩) fun A hA L s₀ X hI ok x hr => fr_ii Y hr hu hl
theorem make_fi {W : Wd} (Y : Lay8 W) {n d : Int} (hu : 0 ≤ n ∧ n ≤ 1000000) (hl : 0 < d ∧ d ≤ 1000000) : MakeContract W Y.aFr 2 [Y.fr n d] [] [] frKs [.int (frN n (1 * d)), .int (frD n (1 * d))] :=
  make_of (ys := ["numerator", "denominator"]) (dps := [.int 1]) (by omega) Y.mFr Y.fFI rfl (by rfl) (by rfl) (by rfl) (fun s self vs kvs hI hv hkv => by
    match vs, kvs, hv, hkv with
    | [a], [], _, _ =>
      obtain ⟨o, n, t₀, t₁, h1, h2⟩ := Y.dFI
      exact ⟨[.int 1 t₁], BindsTo.of_defaults rfl (hI.1 _ _ h1) h2 rfl rfl, .cons (.int _ _) .nil⟩) fun A hA L s₀ X hI ok x hr => fr_fi Y hr hu hl
theorem make_if {W : Wd} (Y : Lay8 W) {u n d : Int} (hu : 0 ≤ u * d ∧ u * d ≤ 1000000) (hl : 0 < n ∧ n ≤ 1000000) (hb : -(2 ^ 62) < u ∧ u < 2 ^ 62) : MakeContract W Y.aFr 2 [.int u, Y.fr n d] [] [] frKs [.int (frN (u * d) n), .int (frD (u * d) n)] :=
  make_of (ys := ["numerator", "denominator"]) (dps := []) (by omega) Y.mFr Y.fFI rfl (by rfl) (by rfl) (by rfl) (fun s self vs kvs hI hv hkv => by
    match vs, kvs, hv, hkv with
    | [a, b], [], _, _ =>
      obtain ⟨o, n, t₀, t₁, h1, h2⟩ := Y.dFI
      exact ⟨[], BindsTo.of_defaults rfl (hI.1 _ _ h1) h2 rfl rfl, .nil⟩) fun A hA L s₀ X hI ok x hr => fr_if Y hr hu hl hb
end Mine

set_option maxHeartbeats 1000000
namespace Mine
open PySem PySem.Calls PyProof.Rows PyProof PySem.W

theorem FnK.keep {W : Wd} {a : Addr} {fd : FuncData} (fn : FnK W a fd) : keepIn W.K (.ref a) = true := by
  obtain ⟨⟨oc, od, odt, os⟩, h1, h2⟩ := fn.at_
  dsimp only at h2
  subst h2
  unfold keepIn
  dsimp only
  rw [h1]

/-- a call that gives back what is new, all of it -/
def FContract (W : Wd) (a : Addr) (d : Nat) (ps : List PV) (ks : List Str) (kps : List PV) (res : PV) : Prop :=
  ∀ (A : Around) (E : Value → Shared → Prop) (X : Addr → Prop) (s : Shared) (vs kvs : List Value), Room A d → W.I s.heap → VRs s.heap X ps vs → VRs s.heap X kps kvs →
    wpAny (model W.prog W.w) A (call (.ref a) vs (ks.zip kvs)) (fun v s' => K0 W.T s s' ∧ VR s'.heap (fun b => s.heap.get? b = none) res v) E s

section
variable {Γ : Cx}

def EvalsN (Γ : Cx) (e : Expr) (pv : PV) : Prop := ∀ (E : Value → Shared → Prop) s, Γ.Ok s → wpAny Γ.M Γ.A (eval e Γ.env) (fun v s' => K0 Γ.T s s' ∧ VR s'.heap (fun b => s.heap.get? b = none) pv v) E s
theorem EvalsN.toE {e : Expr} {pv : PV} (h : EvalsN Γ e pv) : Evals Γ true e pv := fun E s o =>
  wpAny_mono (h E s o) (fun v s' h' => ⟨h'.1, h'.2.live.mono (fun _ _ _ h _ => h) fun b hb => .inr hb, fun _ a e => by
    subst e
    cases h'.2 with
    | list hX => exact hX
    | tup hX => exact hX
    | range hX => exact hX
    | obj hX => exact hX
    | inst hX => exact hX⟩) fun _ _ e => e
theorem EvalsN.toV {F : Fm} {σ : St} {e : Expr} {pv : PV} (h : ∀ X, EvalsN (F.cx X σ.rho) e pv) : NewVal F σ e pv := fun E D s o => h _ E s o.cx

/-- the arguments of a call -/
structure ArgsOK (Γ : Cx) (es : List Expr) (kws : List Keyword) (ps : List PV) (ks : List Str) (kps : List PV) : Prop where
  plain : ∀ pos, ((backTo pos (starEach es Γ.env)).any (·.1) || (backToKw pos (keywordEach kws Γ.env)).any (·.1.isNone)) = false
  run : ∀ (E : Value → Shared → Prop) s pos f, Γ.Ok s → wpAny Γ.M Γ.A (evalArgs f true (backTo pos (starEach es Γ.env)) (backToKw pos (keywordEach kws Γ.env)))
    (fun a s' => K0 Γ.T s s' ∧ ∃ vs kvs, a = ⟨vs, ks.zip kvs⟩ ∧ VRs s'.heap (Up Γ.X s s') ps vs ∧ VRs s'.heap (Up Γ.X s s') kps kvs) E s
theorem ArgsOK.pos {es : List Expr} {ps : List PV} (ha : EvalsL Γ es ps) (hp : (starEach es Γ.env).any (·.1) = false := by rfl) : ArgsOK Γ es [] ps [] [] where
  plain := fun pos => by rw [any_backTo, hp]; rfl
  run := fun E s pos f o => evalArgs_all (by rw [any_backTo]; exact hp) (wpAny_mono (ha E s pos o) (fun vs s₁ h₁ => ⟨h₁.1, vs, [], rfl, h₁.2, .nil⟩) fun _ _ e => e)

/-- keyword arguments -/
def EvalsK (Γ : Cx) (kws : List Keyword) (kps : List PV) : Prop := ∀ (E : Value → Shared → Prop) s pos, Γ.Ok s → wpAny Γ.M Γ.A (evalAll ((backToKw pos (keywordEach kws Γ.env)).map (·.2))) (fun vs s' => K0 Γ.T s s' ∧ VRs s'.heap (Up Γ.X s s') kps vs) E s
theorem EvalsK.nil : EvalsK Γ [] [] := fun E s pos o => kwAll_nil ⟨Kp.refl, .nil⟩
theorem EvalsK.cons {name : Str} {e : Expr} {p : Pos} {rest : List Keyword} {pv : PV} {ps : List PV} {fr : Bool} (h : Evals Γ fr e pv) (hr : EvalsK Γ rest ps) : EvalsK Γ (⟨some name, e, p⟩ :: rest) (pv :: ps) := fun E s pos o =>
  kwAll_cons (wpAny_mono (h E s o) (fun v s₁ h₁ => wpAny_mono (hr E s₁ pos (o.step h₁.1)) (fun vs s₂ h₂ => ⟨h₁.1.trans h₂.1, .cons (h₁.2.1.step h₂.1) (h₂.2.from h₁.1)⟩) fun _ _ e => e) fun _ _ e => e)
theorem ArgsOK.kw {e : Expr} {rest : List Expr} {kws : List Keyword} {ps : List PV} {ks : List Str} {kps : List PV} (ha : EvalsL Γ (e :: rest) ps) (hk : EvalsK Γ kws kps)
    (he : starEach (e :: rest) Γ.env = (false, eval e Γ.env) :: starEach rest Γ.env) (hp : (starEach (e :: rest) Γ.env).any (·.1) = false) (hn : kws.map (·.arg) = ks.map some) : ArgsOK Γ (e :: rest) kws ps ks kps := by
  have names : ∀ (kws : List Keyword) (ks : List Str), kws.map (·.arg) = ks.map some → ∀ pos, (backToKw pos (keywordEach kws Γ.env)).all (·.1.isSome) = true ∧ (backToKw pos (keywordEach kws Γ.env)).filterMap (·.1) = ks ∧ (backToKw pos (keywordEach kws Γ.env)).any (·.1.isNone) = false := by
    intro kws
    induction kws with
    | nil => intro ks h pos; cases ks with
      | nil => exact ⟨rfl, rfl, rfl⟩
      | cons => simp at h
    | cons k r ih =>
      intro ks h pos
      obtain ⟨n, v, p⟩ := k
      cases ks with
      | nil => simp at h
      | cons y ys =>
        simp only [List.map_cons, List.cons.injEq] at h
        obtain ⟨rfl, h⟩ := h
        obtain ⟨h1, h2, h3⟩ := ih ys h pos
        refine ⟨?_, ?_, ?_⟩
        · simp only [keywordEach, backToKw, List.map_cons, List.all_cons]
          exact h1
        · simp only [keywordEach, backToKw, List.map_cons, List.filterMap_cons]
          exact congrArg _ h2
        · simp only [keywordEach, backToKw, List.map_cons, List.any_cons]
          exact h3
  refine ⟨fun pos => ?_, fun E s pos f o => ?_⟩
  · rw [any_backTo, hp, (names kws ks hn pos).2.2]; rfl
  · refine evalArgs_kw2 (names kws ks hn pos).1 (wpAny_mono (ha E s pos o) (fun vs s₁ h₁ => wpAny_mono (hk E s₁ pos (o.step h₁.1)) (fun kvs s₂ h₂ => ?_) fun _ _ e => e) fun _ _ e => e) he
    rw [(names kws ks hn pos).2.1]
    exact ⟨h₁.1.trans h₂.1, vs, kvs, rfl, h₁.2.step h₂.1, h₂.2.from h₁.1⟩

theorem call_args {W : Wd} {d : Nat} {f : Value} {first : List Value} {pos : Pos} {es : List Expr} {kws : List Keyword} {ps : List PV} {ks : List Str} {kps : List PV} {s : Shared} {E : Value → Shared → Prop} {Q : Value → Shared → Prop} (hin : Γ.In W d) (o : Γ.Ok s) (hkeep : keepIn W.K f = true) (ha : ArgsOK Γ es kws ps ks kps)
    (h : ∀ vs kvs s₁, K0 Γ.T s s₁ → W.I s₁.heap → VRs s₁.heap (Up Γ.X s s₁) ps vs → VRs s₁.heap (Up Γ.X s s₁) kps kvs → wpAny (model W.prog W.w) Γ.A (call f (first ++ vs) (ks.zip kvs)) Q E s₁) :
    wpAny Γ.M Γ.A (callWith pos f first (backTo pos (starEach es Γ.env)) (backToKw pos (keywordEach kws Γ.env))) Q E s := by
  refine callWith_of (P := W.K.In) (ha.plain pos) (keeps_K hkeep) (wpAny_mono (ha.run E s pos f o) (fun a s₁ h₁ => ?_) fun _ _ e => e)
  obtain ⟨k, vs, kvs, rfl, hv, hkv⟩ := h₁
  have hI := hin.I _ (Γ.Ist _ _ k o.base)
  refine ⟨hI.1, ?_⟩
  have eM : Γ.M = model W.prog W.w := by unfold Cx.M; rw [hin.prog, hin.w]
  rw [eM]
  exact h vs kvs s₁ k hI hv hkv

theorem call_nameK {x : Str} {np pos : Pos} {es : List Expr} {kws : List Keyword} {v : Value} {s : Shared} {E : Value → Shared → Prop} {Q : Value → Shared → Prop} (g : Γ.Glob x v) (o : Γ.Ok s)
    (h : wpAny Γ.M Γ.A (callWith pos v [] (backTo pos (starEach es Γ.env)) (backToKw pos (keywordEach kws Γ.env))) Q E s) (hd : (x == ("__debug__" : Str)) = false := by decide) :
    wpAny Γ.M Γ.A (eval (.Call (.Name x np) es kws pos) Γ.env) Q E s := by
  show wpAny Γ.M Γ.A (do callWith pos (← eval (.Name x np) Γ.env) [] (backTo pos (starEach es Γ.env)) (backToKw pos (keywordEach kws Γ.env))) Q E s
  exact wpAny_bind (glob_name g o h hd)

theorem Evals.callK {W : Wd} {d d' : Nat} {a : Addr} {fd : FuncData} {x : Str} {np pos : Pos} {es : List Expr} {kws : List Keyword} {ps : List PV} {ks : List Str} {kps : List PV} {res : PV} (hin : Γ.In W d') (fn : FnK W a fd) (c : Contract W a d ps ks kps res) (hd' : d ≤ d') (g : Γ.Glob x (.ref a)) (ha : ArgsOK Γ es kws ps ks kps)
    (hd : (x == ("__debug__" : Str)) = false := by decide) : Evals Γ false (.Call (.Name x np) es kws pos) res := fun E s o =>
  call_nameK g o (call_args hin o fn.keep ha fun vs kvs s₁ k hI hv hkv => by
    refine wpAny_mono (c Γ.A E _ s₁ vs kvs (hin.room.mono hd') hI hv hkv) (fun v s' h' => ?_) fun _ _ e => e
    rw [← hin.T] at h'
    exact ⟨k.trans h'.1, VR.up2' k h'.2 h'.1, fun h => nomatch h⟩) hd
theorem EvalsN.callF {W : Wd} {d d' : Nat} {a : Addr} {fd : FuncData} {x : Str} {np pos : Pos} {es : List Expr} {kws : List Keyword} {ps : List PV} {ks : List Str} {kps : List PV} {res : PV} (hin : Γ.In W d') (fn : FnK W a fd) (c : FContract W a d ps ks kps res) (hd' : d ≤ d') (g : Γ.Glob x (.ref a)) (ha : ArgsOK Γ es kws ps ks kps)
    (hd : (x == ("__debug__" : Str)) = false := by decide) : EvalsN Γ (.Call (.Name x np) es kws pos) res := fun E s o =>
  call_nameK g o (call_args hin o fn.keep ha fun vs kvs s₁ k hI hv hkv => by
    refine wpAny_mono (c Γ.A E _ s₁ vs kvs (hin.room.mono hd') hI hv hkv) (fun v s' h' => ?_) fun _ _ e => e
    rw [← hin.T] at h'
    exact ⟨k.trans h'.1, h'.2.mono (fun _ _ _ h _ => h) fun b h => none_of_K k h⟩) hd
theorem EvalsN.makeK {W : Wd} {d d' : Nat} {C fI : Addr} {x : Str} {np pos : Pos} {es : List Expr} {kws : List Keyword} {ps : List PV} {ks : List Str} {kps : List PV} {nks : List Str} {fs : List PV} (hin : Γ.In W d') (mk : MakesK W C fI) (c : MakeContract W C d ps ks kps nks fs) (hd' : d ≤ d') (g : Γ.Glob x (.ref C)) (ha : ArgsOK Γ es kws ps ks kps)
    (hd : (x == ("__debug__" : Str)) = false := by decide) : EvalsN Γ (.Call (.Name x np) es kws pos) (.inst C nks fs) := fun E s o =>
  call_nameK g o (call_args hin o mk.keep ha fun vs kvs s₁ k hI hv hkv => by
    refine wpAny_mono (c Γ.A E _ s₁ vs kvs (hin.room.mono hd') hI hv hkv) (fun v s' h' => ?_) fun _ _ e => e
    rw [← hin.T] at h'
    exact ⟨k.trans h'.1, h'.2.mono (fun _ _ _ h _ => h) fun b h => none_of_K k h⟩) hd

theorem shadow_of {ks : List Str} {vs : List Value} {es : List DictEntry} {n : Nat} {name : Str} (hf : fieldsOK ks vs es) (hno : ks.contains name = false) : shadowIn (some (dictOf es n)) name = some false := by
  have h := hf name
  have : (ks.zip vs).lookup name = none := by
    rw [List.lookup_eq_none_iff]
    intro p hp
    obtain ⟨y, u⟩ := p
    have hy := (List.of_mem_zip hp).1
    simp only [bne_iff_ne, ne_eq, beq_eq_false_iff_ne, bne_self_eq_false]
    intro e
    have e : name = y := by simpa using e
    subst e
    rw [List.contains_iff_mem.mpr hy] at hno; cases hno
  rw [this] at h
  show (getL name es).map _ = _
  rw [h]; rfl

theorem method_run {W : Wd} {d : Nat} {C f : Addr} {name : Str} {apos pos : Pos} {e : Expr} {es : List Expr} {kws : List Keyword} {ks nks : List Str} {fs ps kps : List PV} {fr : Bool} {s : Shared} {E : Value → Shared → Prop} {Q : Value → Shared → Prop} {pl : Sem Bool} (hin : Γ.In W d) (P : PlainK W.K C) (H : Has W.K C name f) (hkeep : keepIn W.K (.ref f) = true)
    (hno : nks.contains name = false) (o : Γ.Ok s) (he : Evals Γ fr e (.inst C nks fs)) (ha : ArgsOK Γ es kws ps ks kps)
    (h : ∀ v vs kvs s₁, K0 Γ.T s s₁ → W.I s₁.heap → VR s₁.heap (Up Γ.X s s₁) (.inst C nks fs) v → VRs s₁.heap (Up Γ.X s s₁) ps vs → VRs s₁.heap (Up Γ.X s s₁) kps kvs → wpAny (model W.prog W.w) Γ.A (call (.ref f) (v :: vs) (ks.zip kvs)) Q E s₁)
    (hE : eval (.Call (.Attribute e name apos) es kws pos) Γ.env = (do
      let ov ← eval e Γ.env
      standAt apos.atName
      let (f, first) ← holding [ov] (getMethod ov name pl)
      callWith pos f first (backTo pos (starEach es Γ.env)) (backToKw pos (keywordEach kws Γ.env)))) :
    wpAny Γ.M Γ.A (eval (.Call (.Attribute e name apos) es kws pos) Γ.env) Q E s := by
  refine methodCall_KW (pl := pl) (wpAny_mono (he E s o) (fun v s₁ h₁ => ?_) fun _ _ e => e) hE
  obtain ⟨k, hv, _⟩ := h₁
  have hI := hin.I _ (Γ.Ist _ _ k o.base)
  cases id hv with
  | @inst _ x dx sl es' n _ vs _ hX hXd hx hd hf hvs =>
    refine method_fn hI.1 (dict_inst hx hd) P.ga P.gh H.1 H.2 (shadow_of hf hno) ?_
    refine call_args hin (o.step k) hkeep ha fun vs kvs s₂ k₂ hI₂ hvs hkvs => ?_
    exact h _ vs kvs s₂ (k.trans k₂) hI₂ (hv.step k₂) (hvs.from k) (hkvs.from k)

/-- a method of a shared object -/
theorem Evals.method {W : Wd} {d d' : Nat} {C f : Addr} {fd : FuncData} {name : Str} {apos pos : Pos} {e : Expr} {es : List Expr} {kws : List Keyword} {ks nks : List Str} {fs ps kps : List PV} {fr : Bool} {res : PV} (hin : Γ.In W d') (P : PlainK W.K C) (H : Has W.K C name f) (fn : FnK W f fd) (c : Contract W f d (.inst C nks fs :: ps) ks kps res) (hd' : d ≤ d')
    (hno : nks.contains name = false) (he : Evals Γ fr e (.inst C nks fs)) (ha : ArgsOK Γ es kws ps ks kps) {pl : Sem Bool}
    (hE : eval (.Call (.Attribute e name apos) es kws pos) Γ.env = (do
      let ov ← eval e Γ.env
      standAt apos.atName
      let (f, first) ← holding [ov] (getMethod ov name pl)
      callWith pos f first (backTo pos (starEach es Γ.env)) (backToKw pos (keywordEach kws Γ.env))) := by rfl) :
    Evals Γ false (.Call (.Attribute e name apos) es kws pos) res := fun E s o =>
  method_run hin P H fn.keep hno o he ha (fun v vs kvs s₁ k hI hv hvs hkvs => by
    refine wpAny_mono (c Γ.A E _ s₁ (v :: vs) kvs (hin.room.mono hd') hI (.cons hv hvs) hkvs) (fun v s' h' => ?_) fun _ _ e => e
    rw [← hin.T] at h'
    exact ⟨k.trans h'.1, VR.up2' k h'.2 h'.1, fun h => nomatch h⟩) hE
theorem EvalsN.methodF {W : Wd} {d d' : Nat} {C f : Addr} {fd : FuncData} {name : Str} {apos pos : Pos} {e : Expr} {es : List Expr} {kws : List Keyword} {ks nks : List Str} {fs ps kps : List PV} {fr : Bool} {res : PV} (hin : Γ.In W d') (P : PlainK W.K C) (H : Has W.K C name f) (fn : FnK W f fd) (c : FContract W f d (.inst C nks fs :: ps) ks kps res) (hd' : d ≤ d')
    (hno : nks.contains name = false) (he : Evals Γ fr e (.inst C nks fs)) (ha : ArgsOK Γ es kws ps ks kps) {pl : Sem Bool}
    (hE : eval (.Call (.Attribute e name apos) es kws pos) Γ.env = (do
      let ov ← eval e Γ.env
      standAt apos.atName
      let (f, first) ← holding [ov] (getMethod ov name pl)
      callWith pos f first (backTo pos (starEach es Γ.env)) (backToKw pos (keywordEach kws Γ.env))) := by rfl) :
    EvalsN Γ (.Call (.Attribute e name apos) es kws pos) res := fun E s o =>
  method_run hin P H fn.keep hno o he ha (fun v vs kvs s₁ k hI hv hvs hkvs => by
    refine wpAny_mono (c Γ.A E _ s₁ (v :: vs) kvs (hin.room.mono hd') hI (.cons hv hvs) hkvs) (fun v s' h' => ?_) fun _ _ e => e
    rw [← hin.T] at h'
    exact ⟨k.trans h'.1, h'.2.mono (fun _ _ _ h _ => h) fun b h => none_of_K k h⟩) hE
end
end Mine

set_option maxHeartbeats 1000000
namespace Mine
open PySem PySem.Calls PyProof.Rows PyProof PySem.W

section
variable {prog : Program} {w : World} {A : Around} {E : Value → Shared → Prop} {s : Shared} {K : Frag} {x C f : Addr} {ox : Obj} {od : Option Obj}

theorem cmp_own {op : CmpOp} {b : Value} {T : String} {Q : Value → Shared → Prop} (hu : A.units < cLine) (X : K.In s.heap) (I : InstAt s.heap x ox C od) (hb : Looks (model prog w) s.heap (typeOf b) (.type T)) (hn : subIn K (.type T) (.ref C) = some false)
    (H : Has K C (cmpInfo op).2.1 f) (h : wpAny (model prog w) A (call (.ref f) [.ref x, b]) (PySem.W.CmpBack Q) E s) : wpAny (model prog w) A (richCompare op (.ref x) b) Q E s := by
  have one : wpAny (model prog w) A (tryCompare (.ref x) (cmpInfo op).2.1 b) (fun r s' => ∃ v, r = some v ∧ Q v s') E s := by
    unfold tryCompare
    refine wpAny_bind (ifBound_K X I H.1 (beq_iff_eq.mpr H.2) (wpAny_mono h (fun v s' hv => ?_) fun _ _ e => e))
    cases v <;> first | exact hv.elim | exact wpAny_pure ⟨_, rfl, hv⟩
  unfold richCompare
  simp only [oneThing_ref]
  refine wpAny_holding (wpAny_bind (wpAny_cRoomFor hu (wpAny_bind (I.type.here (wpAny_bind (hb.here ?_))))))
  rw [if_pos (by simp)]
  refine wpAny_bind ((looks_subIn X hn).here ?_)
  simp only [Bool.false_eq_true, if_false]
  refine wpAny_bind (wpAny_mono one (fun r s' z => ?_) fun _ _ e => e)
  obtain ⟨v, rfl, hq⟩ := z
  exact wpAny_pure hq

theorem rmul_int : typeLookup (.type "int") "__rmul__" = pure (some (.builtin "int.__rmul__")) := by rw [typeLookup_type, builtinLookup_eq_fast]; kernel_rfl

theorem mul_own {b : Value} {fr : Addr} {Q : Value → Shared → Prop} (X : K.In s.heap) (I : InstAt s.heap x ox C od) (hb : Looks (model prog w) s.heap (typeOf b) (.type "int")) (hn : subIn K (.type "int") (.ref C) = some false) (hc : selfFirst K C = true)
    (H : Has K C "__mul__" f) (H' : Has K C "__rmul__" fr) (h : wpAny (model prog w) A (call (.ref f) [.ref x, b]) (PySem.W.CmpBack Q) E s) : wpAny (model prog w) A (binaryOp .Mult (.ref x) b) Q E s := by
  obtain ⟨cd, hcd, hm⟩ := any_some hc
  obtain ⟨rest, hm⟩ : ∃ rest, cd.mro = .ref C :: rest := by
    cases q : cd.mro with
    | nil => rw [q] at hm; cases hm
    | cons a r => rw [q] at hm; exact ⟨r, by rw [List.head?_cons] at hm; cases (beq_iff_eq.mp hm); rfl⟩
  have hfl : Looks (model prog w) s.heap (fillsNumberSlot (.ref C) "mul") true := fills_K (f := f) X hcd hm H.1
  have hpy : Looks (model prog w) s.heap (numberSlotInPython (.ref C) "mul") true := by
    intro A Q E s' k q
    unfold numberSlotInPython
    refine wpAny_bind (looks_findIn X H.1 A _ E s' k (wpAny_bind (wpAny_pure (wpAny_bind (looks_findIn X H'.1 A _ E s' k (wpAny_bind (wpAny_pure ?_)))))))
    simp only [Bool.or_self, if_true]
    exact wpAny_pure q
  unfold binaryOp
  refine wpAny_holding (wpAny_bind ?_)
  unfold binaryOp1
  refine wpAny_bind (I.type.here (wpAny_bind (hb.here (wpAny_bind (hfl.here ?_)))))
  rw [if_neg (by simp)]
  refine wpAny_bind (wpAny_of_eq F.fills_int_mul ?_)
  simp only [Bool.and_self, if_true]
  refine wpAny_bind ((looks_subIn X hn).here ?_)
  simp only [Bool.false_eq_true, if_false, Bool.not_false, Bool.and_self, if_true]
  refine wpAny_bind (hpy.here ?_)
  simp only [if_true]
  refine wpAny_bind (wpAny_of_eq (show numberSlotInPython (.type "int") "mul" = pure false from rfl) ?_)
  simp only [Bool.not_false, if_true]
  refine wpAny_bind (wpAny_of_eq rmul_int ?_)
  refine wpAny_bind (m := tryMethod (.ref x) _ b) ?_
  unfold tryMethod
  refine wpAny_bind (special_fn X I H.1 H.2 (wpAny_mono h (fun v s' hv => ?_) fun _ _ e => e))
  cases v <;> first | exact hv.elim | exact wpAny_pure (wpAny_pure (wpAny_pure hv))
end
end Mine

set_option maxHeartbeats 1000000
namespace Mine
open PySem PySem.Calls PyProof.Rows PyProof PySem.W

structure Lay9 (W : Wd) extends Lay8 W where
  aFf : Addr
  rFf : Rest
  fFf : FnK W aFf (fdM (methAt 12 2) "Fraction.floor" .none rFf)
  hFf : Has W.K aFr "floor" aFf
  aFm : Addr
  rFm : Rest
  fFm : FnK W aFm (fdM (methAt 12 10) "Fraction.__mul__" .none rFm)
  hFm : Has W.K aFr "__mul__" aFm
  aFr' : Addr
  hFr' : Has W.K aFr "__rmul__" aFr'
  sFr : selfFirst W.K aFr = true
  aFl : Addr
  rFl : Rest
  fFl : FnK W aFl (fdM (methAt 12 16) "Fraction.__le__" .none rFl)
  hFl : Has W.K aFr "__le__" aFl

section
variable {W : Wd} (Y : Lay9 W)
theorem c_floor {n d : Int} (hd : 0 < d ∧ d < 1073741824) : Contract W Y.aFf 1 [Y.fr n d] [] [] (.int (n.fdiv d)) := by
  refine contract_of (xs := ["self"]) (dps := []) Y.fFf rfl (by rfl) (by rfl) (by rfl) (fun s vs kvs hI hv hkv => ?_) fun A hA st X hI ok hr => ?_
  · match vs, kvs, hv, hkv with
    | [u], [], _, _ => exact ⟨[], BindsTo.of_eq rfl, .nil⟩
  · refine Execs.ret (Exec.ret (fr := true) fun X' => ?_)
    have hin : ∀ ρ, ((frameOf W A hA _ Y.aFf st X hI rfl Y.fFf.glob Y.fFf.blt ok).cx X' ρ).In W 0 := fun ρ => ⟨rfl, rfl, rfl, fun _ h => h, hr.deeper (by omega) _⟩
    exact Evals.fdiv (Evals.field (hin _) Y.pFr Y.nuFr (Evals.name rfl) rfl) (Evals.field (hin _) Y.pFr Y.deFr (Evals.name rfl) rfl) hd

theorem c_fle {n d w : Int} (hw : -(2 ^ 62) < w ∧ w < 2 ^ 62) : Contract W Y.aFl 1 [Y.fr n d, .int w] [] [] (.bool (decide (n ≤ w * d))) := by
  refine contract_of (xs := ["self", "other"]) (dps := []) Y.fFl rfl (by rfl) (by rfl) (by rfl) (fun s vs kvs hI hv hkv => ?_) fun A hA st X hI ok hr => ?_
  · match vs, kvs, hv, hkv with
    | [u, v], [], _, _ => exact ⟨[], BindsTo.of_eq rfl, .nil⟩
  · have hin : ∀ X' ρ, ((frameOf W A hA _ Y.aFl st X hI rfl Y.fFl.glob Y.fFl.blt ok).cx X' ρ).In W 0 := fun X' ρ => ⟨rfl, rfl, rfl, fun _ h => h, hr.deeper (by omega) _⟩
    refine Execs.ret (Exec.ite (b := true) (fun X => Tests.val (Evals.isi (.blt Y.isi (fun _ h => h) rfl) IsiSem.intInt (Evals.name rfl) (EvRaw.glob (.blt Y.int (fun _ h => h) rfl)))) (fun _ => ?_) fun h => nomatch h)
    refine Execs.ret (Exec.ret (fr := true) fun X' => ?_)
    exact Evals.cmp CmpSem.le (Evals.field (hin _ _) Y.pFr Y.nuFr (Evals.name rfl) rfl) (Evals.mul (Evals.name rfl) (Evals.field (hin _ _) Y.pFr Y.deFr (Evals.name rfl) rfl) (.inl hw))

theorem c_fmul {n d w : Int} (hw : -(2 ^ 62) < w ∧ w < 2 ^ 62) (hn : 0 ≤ n * w ∧ n * w ≤ 1000000) (hd : 0 < d ∧ d ≤ 1000000) : Contract W Y.aFm 4 [Y.fr n d, .int w] [] [] (Y.fr (frN (n * w) d) (frD (n * w) d)) := by
  refine contract_of (xs := ["self", "other"]) (dps := []) Y.fFm rfl (by rfl) (by rfl) (by rfl) (fun s vs kvs hI hv hkv => ?_) fun A hA st X hI ok hr => ?_
  · match vs, kvs, hv, hkv with
    | [u, v], [], _, _ => exact ⟨[], BindsTo.of_eq rfl, .nil⟩
  · have hin : ∀ X' ρ, ((frameOf W A hA _ Y.aFm st X hI rfl Y.fFm.glob Y.fFm.blt ok).cx X' ρ).In W 3 := fun X' ρ => ⟨rfl, rfl, rfl, fun _ h => h, hr.deeper (by omega) _⟩
    refine Execs.ret (Exec.ite (b := true) (fun X => Tests.val (Evals.isi (.blt Y.isi (fun _ h => h) rfl) IsiSem.intInt (Evals.name rfl) (EvRaw.glob (.blt Y.int (fun _ h => h) rfl)))) (fun _ => ?_) fun h => nomatch h)
    refine Execs.ret (Exec.ret (fr := true) fun X' => ?_)
    exact EvalsN.toE (EvalsN.makeK (hin _ _) Y.mFr (make_ii Y.toLay8 hn hd) (by omega) (.top Y.gFr (fun _ h => h) rfl) (ArgsOK.pos (EvalsL.cons (Evals.mul (Evals.field (hin _ _) Y.pFr Y.nuFr (Evals.name rfl) rfl) (Evals.name rfl) (.inr hw)) (EvalsL.cons (Evals.field (hin _ _) Y.pFr Y.deFr (Evals.name rfl) rfl) EvalsL.nil))))

variable {Γ : Cx}
theorem cmpBack_bool {Q : Value → Shared → Prop} {v : Value} {s : Shared} {h : Heap} {X : Addr → Prop} {p : PV} (hv : VR h X p v) (hq : Q v s) : PySem.W.CmpBack Q v s := by cases hv <;> exact hq

/-- a fraction <= an int -/
theorem Tests.fle {W : Wd} {Y : Lay9 W} {d' : Nat} {l r : Expr} {n d w : Int} {f₁ f₂ : Bool} {pos : Pos} (hin : Γ.In W d') (h1 : 1 ≤ d') (hw : -(2 ^ 62) < w ∧ w < 2 ^ 62) (hl : Evals Γ f₁ l (Y.fr n d)) (hr : Evals Γ f₂ r (.int w)) (hm : behindInMarks .LtE r = false := by with_unfolding_all rfl) :
    Tests Γ (.Compare l [.LtE] [r] pos) (decide (n ≤ w * d)) := fun E s o => by
  refine wpAny_isTrue_Compare1 (evals_two (tree := fun a b => compareOp .LtE a b) (Q := fun c s₃ => wpAny Γ.M Γ.A (truthy c) _ E s₃) o hl hr fun x y s₂ k hx hy => ?_) hm
  have hI := hin.I _ (Γ.Ist _ _ k o.base)
  cases id hy with
  | int _ ty =>
  cases id hx with
  | @inst _ a dx sl es n' _ vs _ hX hXd hxa hd hf hvs =>
    have eM : Γ.M = model W.prog W.w := by unfold Cx.M; rw [hin.prog, hin.w]
    show wpAny Γ.M Γ.A (richCompare .LtE (.ref a) (.int w ty)) _ E s₂
    rw [eM]
    refine cmp_own (by have := hin.room.2.2; omega) hI.1 (dict_inst hxa hd) (Looks.of_pure rfl) Y.pFr.intNo Y.hFl ?_
    refine wpAny_mono (c_fle Y hw Γ.A E _ s₂ [.ref a, .int w ty] [] (hin.room.mono h1) hI (.cons hx (.cons hy .nil)) .nil) (fun v s' h' => ?_) fun _ _ e => e
    rw [← hin.T] at h'
    obtain ⟨k', hv⟩ := h'
    cases hv
    exact wpAny_truthy_bool ⟨k.trans k', rfl⟩

/-- a fraction times an int -/
theorem Evals.fmul {W : Wd} {Y : Lay9 W} {d' : Nat} {l r : Expr} {n d w : Int} {f₁ f₂ : Bool} {pos : Pos} (hin : Γ.In W d') (h4 : 4 ≤ d') (hw : -(2 ^ 62) < w ∧ w < 2 ^ 62) (hn : 0 ≤ n * w ∧ n * w ≤ 1000000) (hd : 0 < d ∧ d ≤ 1000000) (hl : Evals Γ f₁ l (Y.fr n d)) (hr : Evals Γ f₂ r (.int w)) :
    Evals Γ false (.BinOp l .Mult r pos) (Y.fr (frN (n * w) d) (frD (n * w) d)) := fun E s o => by
  refine wpAny_BinOp (evals_two o hl hr fun x y s₂ k hx hy => ?_)
  have hI := hin.I _ (Γ.Ist _ _ k o.base)
  cases id hy with
  | int _ ty =>
  cases id hx with
  | @inst _ a dx sl es n' _ vs _ hX hXd hxa hd' hf hvs =>
    have eM : Γ.M = model W.prog W.w := by unfold Cx.M; rw [hin.prog, hin.w]
    rw [eM]
    refine mul_own hI.1 (dict_inst hxa hd') (Looks.of_pure rfl) Y.pFr.intNo Y.sFr Y.hFm Y.hFr' ?_
    refine wpAny_mono (c_fmul Y hw hn hd Γ.A E _ s₂ [.ref a, .int w ty] [] (hin.room.mono h4) hI (.cons hx (.cons hy .nil)) .nil) (fun v s' h' => ?_) fun _ _ e => e
    rw [← hin.T] at h'
    obtain ⟨k', hv⟩ := h'
    exact cmpBack_bool hv ⟨k.trans k', VR.up2' k hv k', fun h => nomatch h⟩
end
end Mine

set_option maxHeartbeats 3200000
namespace Mine
open PySem PySem.Calls PyProof.Rows PyProof PySem.W

/-- does the text tell the order of sets -/
abbrev byText (w : World) : Bool := w.params.followText "set-order"
abbrev newSetObj (w : World) : Obj := { cls := .type "set", dict := none, data := .set #[] 0 (.fresh 0 0 (!byText w)) }

section
variable {prog : Program} {w : World} {A : Around} {E : Value → Shared → Prop} {s : Shared}

theorem newSet_is {M : Model} {Q : Value → Shared → Prop} (h : Q (.ref s.heap.objs.size) { s with heap := s.heap.push (newSetObj M.w) }) :
    wpAny M A (newSet (.type "set")) Q E s := by
  unfold newSet setsByText
  refine wpAny_bind (wpAny_bind (wpAny_askSetting (wpAny_pure ?_)))
  dsimp only
  simp only [newObj]
  exact wpAny_bind (wpAny_alloc (wpAny_pure h))

theorem set_new_one (a : Value) {Q₁ : Value → Shared → Prop} (h : Q₁ (.ref s.heap.objs.size) { s with heap := s.heap.push (newSetObj w) }) :
    codeAny (model prog w) A (.call (.builtin "set.__new__") ⟨[.type "set", a], []⟩) (wants Q₁ E) s := by
  refine codeAny_of_tree ?_
  show wpAny _ A.in1 (do checkBuiltinCall "set.__new__" ⟨[.type "set", a], []⟩; again (.builtin "set.__new__" ⟨[.type "set", a], []⟩)) _ _ s
  refine wpAny_bind (wpAny_of_eq (PySem.F.newCall_set_1 a) (wpAny_pure ⟨plainId_quiet PySem.F.plain_set_new _, codeAny_builtin PySem.F.entry_set_new ?_⟩))
  rw [Around.under_plainId PySem.F.plain_set_new _]
  unfold Builtin.«set.__new__» Builtin.Frozenset.newClass
  have hsub := sub_set_self
  obtain ⟨hp, g, d, tk, os⟩ := s
  dsimp only
  generalize hN : newSet = N
  wp_walk
  subst hN
  refine newSet_is ?_
  exact wpAny_pure h

theorem call_set_one {x : Value} {Q : Value → Shared → Prop}
    (h : wpAny (model prog w) A.in1.in1 (Builtin.Frozenset.updateFrom "set.__init__" s.heap.objs.size x) (fun _ s' => (∃ o, s'.heap.get? s.heap.objs.size = some o ∧ o.cls = .type "set") ∧ Q (.ref s.heap.objs.size) s') E { s with heap := s.heap.push (newSetObj w) }) :
    wpAny (model prog w) A (call (.type "set") [x]) Q E s := by
  obtain ⟨c, tl, hmro⟩ := PySem.F.called_set.mro
  have hmade := PySem.F.called_set.made
  have hsub := PySem.F.called_set.sub
  refine wpAny_call (codeAny_of_tree ?_)
  show wpAny _ _ (callAny (.type "set") _) _ _ _
  refine wpAny_pure ⟨Code.quiet_builtin _ (by decide +kernel), codeAny_builtin PySem.F.entry_type_call ?_⟩
  rw [Around.under_plain (weight_type_call_type "set" [x] []) rfl]
  have h1 := PySem.F.called_set.notType
  have h2 := PySem.F.called_set.canCreate
  have hct := PySem.F.typeCall_set_1 x
  repeat (any_goals (first | assumption | wp_step))
  refine codeAny_mono (set_new_one x (E := E) (Q₁ := fun obj s₁ => obj = .ref s.heap.objs.size ∧ s₁ = { s with heap := s.heap.push (newSetObj w) }) ⟨rfl, rfl⟩) fun r s₁ hr => ?_
  cases r with
  | error e => exact hr
  | ok fl =>
    cases fl with
    | ret obj =>
      obtain ⟨rfl, rfl⟩ := hr
      have hS : (s.heap.push (newSetObj w)).get? s.heap.objs.size = some (newSetObj w) := Heap.get?_push_size _ rfl
      have hT : Shared.TypeIs { s with heap := s.heap.push (newSetObj w) } (.ref s.heap.objs.size) "set" := ⟨_, hS, rfl⟩
      have hli := PySem.F.called_set.init.lookup
      have hbi := PySem.F.called_set.init.bind (.ref s.heap.objs.size)
      repeat (any_goals (first | assumption | wp_step))
      refine codeAny_mono (codeAny_call_builtin (R := wants (fun r s₂ => r = .none ∧ (∃ o, s₂.heap.get? s.heap.objs.size = some o ∧ o.cls = .type "set") ∧ Q (.ref s.heap.objs.size) s₂) E) PySem.F.called_set.init.plain PySem.F.entry_set_init (check_set_init_1 hT ?_)) fun r₂ s₂ hr₂ => ?_
      · unfold Builtin.«set.__init__» noKeywords
        generalize hU : Builtin.Frozenset.updateFrom = U
        rw [hU] at h
        wp_walk
        exact wpAny_mono h (fun _ s' z => wpAny_pure ⟨rfl, z⟩) fun _ _ z => z
      · cases r₂ with
        | error e => exact hr₂
        | ok fl₂ =>
          cases fl₂ with
          | ret r =>
            obtain ⟨rfl, ⟨o, ho, hc⟩, hq⟩ := hr₂
            have hT2 : s₂.TypeIs (.ref s.heap.objs.size) "set" := ⟨_, ho, hc⟩
            repeat (any_goals (first | assumption | wp_step))
          | _ => exact hr₂.elim
    | _ => exact hr.elim
end
end Mine

set_option maxHeartbeats 1000000
namespace Mine
open PySem PySem.Calls PyProof.Rows PyProof PySem.W

/-- a set's entries, the ints told -/
inductive EntsAre : List (Int × Value) → List Int → Prop
  | nil : EntsAre [] []
  | cons (n : Int) (t : Tok) {es : List (Int × Value)} {ns : List Int} : EntsAre es ns → EntsAre ((hashInt n, .int n t) :: es) (n :: ns)

theorem EntsAre.length : ∀ {es : List (Int × Value)} {ns : List Int}, EntsAre es ns → es.length = ns.length
  | _, _, .nil => rfl
  | _, _, .cons _ _ r => by simp [EntsAre.length r]
theorem EntsAre.append : ∀ {es es' : List (Int × Value)} {ns ns' : List Int}, EntsAre es ns → EntsAre es' ns' → EntsAre (es ++ es') (ns ++ ns')
  | _, _, _, _, .nil, y => y
  | _, _, _, _, .cons n t r, y => .cons n t (r.append y)
theorem EntsAre.take : ∀ {es : List (Int × Value)} {ns : List Int} (k : Nat), EntsAre es ns → EntsAre (es.take k) (ns.take k)
  | _, _, 0, _ => by simp; exact .nil
  | _, _, k + 1, .nil => by simp; exact .nil
  | _, _, k + 1, .cons n t r => by simp only [List.take_succ_cons]; exact .cons n t (r.take k)
theorem EntsAre.drop : ∀ {es : List (Int × Value)} {ns : List Int} (k : Nat), EntsAre es ns → EntsAre (es.drop k) (ns.drop k)
  | _, _, 0, h => by simpa using h
  | _, _, k + 1, .nil => by simp; exact .nil
  | _, _, k + 1, .cons n t r => by simp only [List.drop_succ_cons]; exact r.drop k
theorem EntsAre.get : ∀ {es : List (Int × Value)} {ns : List Int}, EntsAre es ns → ∀ i : Nat, (es[i]? = none ∧ ns[i]? = none) ∨ ∃ n t, es[i]? = some (hashInt n, Value.int n t) ∧ ns[i]? = some n
  | _, _, .nil, i => .inl ⟨by simp, by simp⟩
  | _, _, .cons n t r, 0 => .inr ⟨n, t, rfl, rfl⟩
  | _, _, .cons n t r, i + 1 => by simpa using r.get i
theorem EntsAre.pick {es : List (Int × Value)} {ns : List Int} (h : EntsAre es ns) : ∀ (order : List Nat), EntsAre (order.filterMap (es[·]?)) (order.filterMap (ns[·]?))
  | [] => .nil
  | i :: r => by
    have ih := h.pick r
    rcases h.get i with ⟨h1, h2⟩ | ⟨n, t, h1, h2⟩
    · rw [List.filterMap_cons_none h1, List.filterMap_cons_none h2]; exact ih
    · rw [List.filterMap_cons_some h1, List.filterMap_cons_some h2]; exact .cons n t ih
theorem EntsAre.hashes : ∀ {es : List (Int × Value)} {ns : List Int}, EntsAre es ns → es.map (·.1) = ns.map hashInt
  | _, _, .nil => rfl
  | _, _, .cons n t r => by simp [EntsAre.hashes r]

section
variable {prog : Program} {w : World}
theorem EntsAre.elems : ∀ {es : List (Int × Value)} {ns : List Int}, EntsAre es ns → ElemsOf (intKind prog w) es
  | _, _, .nil => fun e he => by simp at he
  | _, _, .cons n t r => fun e he => by
    rcases List.mem_cons.mp he with rfl | he
    · exact ⟨⟨n, intKind_is _ _ _ _, rfl⟩, rfl⟩
    · exact EntsAre.elems r e he
theorem isInt_same {n m : Int} {t : Tok} : (intKind prog w).is m (.int n t) = decide (m = n) := KeyKind.is_eq_decide (intKind_is _ _ _ _) m
theorem EntsAre.find : ∀ {es : List (Int × Value)} {ns : List Int}, EntsAre es ns → ∀ n, (es.findIdx? fun e => (intKind prog w).is n e.2).isSome = ns.contains n
  | _, _, .nil, n => rfl
  | _, _, .cons m t r, n => by
    rw [List.findIdx?_cons, isInt_same]
    by_cases h : n = m
    · subst h; simp
    · simp only [h, decide_false, Bool.false_eq_true, if_false, Option.isSome_map, List.contains_cons]
      rw [EntsAre.find r n]
      simp [h]
theorem EntsAre.mem : ∀ {es : List (Int × Value)} {ns : List Int}, EntsAre es ns → ∀ n, ns.contains n = true ↔ ∃ e ∈ es, (intKind prog w).is n e.2 = true
  | _, _, .nil, n => by simp
  | _, _, .cons m t r, n => by
    rw [List.contains_cons, Bool.or_eq_true, EntsAre.mem r n]
    constructor
    · rintro (h | ⟨e, he, h⟩)
      · exact ⟨_, .head _, by rw [isInt_same]; simpa using h⟩
      · exact ⟨e, .tail _ he, h⟩
    · rintro ⟨e, he, h⟩
      rcases List.mem_cons.mp he with rfl | he
      · rw [isInt_same] at h
        exact .inl (by simpa using h)
      · exact .inr ⟨e, he, h⟩
end

/-! the table's own run, on ints alone -/
abbrev SK := List Int × SetTable
def layS (t : SetTable) (sk : List Int) (n : Int) : List Int × SetTable × Bool :=
  match t.freeSlot (hashInt n) with
  | some (slot, wd) => (sk.take (t.put slot).2 ++ n :: sk.drop (t.put slot).2, (t.put slot).1.orStandIn (sk.length + 1), wd)
  | none => (sk ++ [n], t.standIn (sk.length + 1), false)
def relayS (t : SetTable) (sk : List Int) (wanted : Nat) : SK :=
  match t.relaid (sk.map hashInt).toArray wanted with
  | some (t', order) => if coversAll order sk.length && t'.fits (order.toList.filterMap (sk[·]?)).length then (order.toList.filterMap (sk[·]?), t') else (sk, t.standIn sk.length)
  | none => (sk, t.standIn sk.length)
def addS (st : SK) (n : Int) : SK :=
  if st.1.contains n then st else
  if !(layS st.2 st.1 n).2.2 && (layS st.2 st.1 n).2.1.tooFull then relayS (layS st.2 st.1 n).2.1 (layS st.2 st.1 n).1 (SetTable.grown (layS st.2 st.1 n).1.length) else ((layS st.2 st.1 n).1, (layS st.2 st.1 n).2.1)

theorem layNew_S {es : Array (Int × Value)} {sk : List Int} (h : EntsAre es.toList sk) (t : SetTable) (n : Int) (tok : Tok) :
    EntsAre (layNew t es (hashInt n) (.int n tok)).1.toList (layS t sk n).1 ∧ (layNew t es (hashInt n) (.int n tok)).2.1 = (layS t sk n).2.1 ∧ (layNew t es (hashInt n) (.int n tok)).2.2.1 = (layS t sk n).2.2 := by
  have hl := h.length
  rw [Array.length_toList] at hl
  unfold layNew layS
  split
  · rename_i slot wd e
    rw [e]
    dsimp only
    refine ⟨?_, ?_, rfl⟩
    · rw [SetTable.toList_insertAt]
      exact (h.take _).append (.cons n tok (h.drop _))
    · congr 1
      rw [← Array.length_toList, SetTable.toList_insertAt, ← hl]
      simp only [List.length_append, List.length_take, List.length_cons, List.length_drop, Array.length_toList]
      omega
  · rename_i e
    rw [e]
    dsimp only
    refine ⟨?_, by rw [hl], rfl⟩
    rw [Array.toList_push]
    exact h.append (.cons n tok .nil)

theorem relayAll_S {es : Array (Int × Value)} {sk : List Int} (h : EntsAre es.toList sk) (t : SetTable) (wanted : Nat) :
    EntsAre (relayAll t es wanted).1.toList (relayS t sk wanted).1 ∧ (relayAll t es wanted).2.1 = (relayS t sk wanted).2 := by
  have hl := h.length
  rw [Array.length_toList] at hl
  have eh : es.map (·.1) = (sk.map hashInt).toArray := by
    rw [← h.hashes]
    exact Array.ext' (by rw [Array.toList_map])
  unfold relayAll relayS
  rw [eh]
  split
  · rename_i t' order e
    rw [e]
    dsimp only
    have hp := h.pick order.toList
    have e1 : (order.filterMap (es[·]?)).toList = order.toList.filterMap (es.toList[·]?) := by
      rw [Array.toList_filterMap]; simp
    have e2 : (order.filterMap (es[·]?)).size = (order.toList.filterMap (sk[·]?)).length := by
      rw [← Array.length_toList, e1, hp.length]
    rw [hl, e2]
    split
    · exact ⟨by rw [e1]; exact hp, rfl⟩
    · exact ⟨h, rfl⟩
  · rename_i e
    rw [e]
    exact ⟨h, by rw [hl]⟩
end Mine

set_option maxHeartbeats 1000000
namespace Mine
open PySem PySem.Calls PyProof.Rows PyProof PySem.W

/-- a set of ints, its entries and its table told -/
def SetIs (sk : List Int) (t : SetTable) (o : Obj) : Prop := o.ExactSet ∧ ∃ es ep, o.data = .set es ep t ∧ EntsAre es.toList sk ∧ t.fits sk.length = true

theorem SetIs.tab {sk : List Int} {t : SetTable} {o : Obj} (h : SetIs sk t o) : tab o = false := tab_of_cls h.1.1
theorem SetIs.it {sk : List Int} {t : SetTable} {o : Obj} (h : SetIs sk t o) : itCls o = false := by
  obtain ⟨⟨hc, _⟩, _⟩ := h
  unfold itCls; rw [hc]; rfl
theorem EntsAre.size {es : Array (Int × Value)} {sk : List Int} (h : EntsAre es.toList sk) : es.size = sk.length := by rw [← h.length, Array.length_toList]

section
variable {prog : Program} {w : World} {A : Around} {E : Value → Shared → Prop} {s : Shared} {a : Addr} {o : Obj} {sk : List Int} {t : SetTable}

theorem SetIs.setOf {h : Heap} (x : SetIs sk t o) (ho : h.get? a = some o) (hb : sk.length < scanBound) : h.SetOf (intKind prog w) a (fun n => sk.contains n) sk.length := by
  obtain ⟨hex, es, ep, hd, he, hf⟩ := x
  exact ⟨o, es, ep, t, ho, hex, hd, he.elems, he.mem, by rw [he.size]; exact hb, by rw [he.size]; exact hf, he.size⟩

theorem setState_S {Q : (Array (Int × Value) × Nat × SetTable) → Shared → Prop} (ho : s.heap.get? a = some o) (x : SetIs sk t o) (h : ∀ es ep, o.data = .set es ep t → EntsAre es.toList sk → Q (es, ep, t) s) : wpAny (model prog w) A (setState a) Q E s := by
  obtain ⟨hex, es, ep, hd, he, hf⟩ := x
  exact wpAny_setState_of ho hd (by rw [he.size]; exact hf) (h es ep hd he)

theorem storeSet_S {es es' : Array (Int × Value)} {ep : Nat} {sk' : List Int} {t' : SetTable} {Q : Unit → Shared → Prop} (ho : s.heap.get? a = some o) (hex : o.ExactSet) (hd : o.data = .set es ep t) (he : EntsAre es'.toList sk') (hf : t'.fits sk'.length = true) (hz : sk'.length < scanBound)
    (h : ∀ h' o', Heap.SameBut a s.heap h' → h'.get? a = some o' → SetIs sk' t' o' → o'.data = .set es' (ep + 1) t' → Q () { s with heap := h' }) : wpAny (model prog w) A (storeSet a es' t') Q E s := by
  refine wpAny_storeSet_of ho hd ?_ (fits_of_scanBound (by rw [he.size]; exact hz))
  have hg : (s.heap.update a (Obj.putSet es' t')).get? a = some { o with data := .set es' (ep + 1) t' } := by
    have := Heap.get?_update_self (Obj.putSet es' t') ho (by rw [putSet_of es' t' hd]; rfl)
    rw [putSet_of es' t' hd] at this; exact this
  exact h _ _ (Heap.SameBut.update ..) hg ⟨hex, es', ep + 1, rfl, he, hf⟩ rfl

theorem layS_len (t : SetTable) (sk : List Int) (n : Int) : (layS t sk n).1.length = sk.length + 1 := by
  unfold layS
  split
  · simp only [List.length_append, List.length_take, List.length_cons, List.length_drop]; omega
  · simp
theorem layS_fits (t : SetTable) (sk : List Int) (n : Int) : (layS t sk n).2.1.fits (sk.length + 1) = true := by
  unfold layS
  split
  · exact SetTable.orStandIn_fits ..
  · exact SetTable.standIn_fits ..

theorem relayS_len (t : SetTable) (sk : List Int) (wanted : Nat) : (relayS t sk wanted).1.length = sk.length := by
  unfold relayS
  split
  · rename_i t' order _
    split
    · rename_i hc
      simp only [coversAll, Bool.and_eq_true] at hc
      have hp : List.Perm order.toList (List.range sk.length) := List.isPerm_iff.mp hc.1
      rw [(hp.filterMap _).length_eq, List.filterMap_getElem?_range_length]
    · rfl
  · rfl
theorem relayS_fits (t : SetTable) (sk : List Int) (wanted : Nat) : (relayS t sk wanted).2.fits (relayS t sk wanted).1.length = true := by
  unfold relayS
  split
  · split
    · rename_i hc
      rw [Bool.and_eq_true] at hc
      exact hc.2
    · exact SetTable.standIn_fits ..
  · exact SetTable.standIn_fits ..

theorem setAdd_S {n : Int} {tok : Tok} {Q : Bool → Shared → Prop} (ho : s.heap.get? a = some o) (x : SetIs sk t o) (hb : sk.length + 1 < scanBound)
    (h : ∀ h' o', Heap.SameBut a s.heap h' → h'.get? a = some o' → SetIs (addS (sk, t) n).1 (addS (sk, t) n).2 o' → Q (!sk.contains n) { s with heap := h' }) :
    wpAny (model prog w) A (setAddHashed a (.int n tok) (hashInt n)) Q E s := by
  obtain ⟨hex, es, ep, hd, he, hf⟩ := id x
  have hkey : (intKind prog w).is n (.int n tok) = true := intKind_is _ _ _ _
  have hsc : (Value.int n tok).scannable = true := rfl
  have hf' : t.fits es.size = true := by rw [he.size]; exact hf
  unfold setAddHashed setAddHashedIn
  refine wpAny_holding (wpAny_bind (wpAny_setState_of ho hd hf' ?_))
  dsimp only
  rw [byScan_of (knd := intKind prog w) hsc (by rw [he.size]; omega) he.elems]
  simp only [↓reduceIte]
  unfold setAddByScan
  refine wpAny_bind (wpAny_bind (wpAny_rule (wpAny_bind (wpAny_setScan_of (knd := intKind prog w) hkey ho hd hf' he.elems ?_))))
  have hfind := he.find (prog := prog) (w := w) n
  cases hr : List.findIdx? (fun e => (intKind prog w).is n e.2) es.toList with
  | some j =>
    rw [hr] at hfind
    have hc : sk.contains n = true := hfind.symm
    dsimp only
    refine wpAny_pure (wpAny_pure ?_)
    have e : addS (sk, t) n = (sk, t) := by unfold addS; rw [if_pos hc]
    have e' : s = { s with heap := s.heap } := by cases s; rfl
    have := h s.heap o (Heap.SameBut.refl a s.heap) ho (by rw [e]; exact x)
    rw [hc] at this; rw [e']; exact this
  | none =>
    rw [hr] at hfind
    have hc : sk.contains n = false := hfind.symm
    dsimp only
    have hgw : ∀ (b : Bool) {s₁ : Shared} {Q' : Unit → Shared → Prop}, Q' () s₁ → wpAny (model prog w) A (match b with | true => rule "set.scan.the-table-gave-way" | false => pure ()) Q' E s₁ :=
      fun b s₁ Q' hq => by cases b <;> first | exact wpAny_pure hq | exact wpAny_rule hq
    obtain ⟨q1, q2, q3⟩ := layNew_S he t n tok
    have ql := layS_len t sk n
    have qf := layS_fits t sk n
    have eadd : addS (sk, t) n = if !(layS t sk n).2.2 && (layS t sk n).2.1.tooFull then relayS (layS t sk n).2.1 (layS t sk n).1 (SetTable.grown (layS t sk n).1.length) else ((layS t sk n).1, (layS t sk n).2.1) := by
      unfold addS
      simp only [hc, Bool.false_eq_true, if_false]
    rw [eadd] at h
    generalize layNew t es (hashInt n) (.int n tok) = L at q1 q2 q3 ⊢
    generalize layS t sk n = S at q1 q2 q3 ql qf h
    obtain ⟨es1, t1, wd, gave⟩ := L
    obtain ⟨sk1, t2, wd2⟩ := S
    dsimp only at q1 q2 q3 ql qf h ⊢
    subst q2 q3
    have fin : wpAny (model prog w) A (do
        storeSet a es1 t1
        if (!wd && t1.tooFull) = true then do
            (match (relayAll t1 es1 (SetTable.grown es1.size)).2.2 with | true => rule "set.scan.the-table-gave-way" | false => pure ())
            storeSet a (relayAll t1 es1 (SetTable.grown es1.size)).1 (relayAll t1 es1 (SetTable.grown es1.size)).2.1
            pure (some true)
          else pure (some true)) (fun r s' => wpAny (model prog w) A (match r with | some added => pure added | none => setAddHashedIn a (.int n tok) (hashInt n) 99999) Q E s') E s := by
      refine wpAny_bind (storeSet_S ho hex hd q1 (by rw [ql]; exact qf) (by omega) fun h₁ o₁ hs₁ ho₁ hx₁ hd₁ => ?_)
      by_cases hfull : (!wd && t1.tooFull) = true
      · rw [if_pos hfull] at h ⊢
        obtain ⟨r1, r2⟩ := relayAll_S q1 t1 (SetTable.grown es1.size)
        have rl := relayS_len t1 sk1 (SetTable.grown es1.size)
        have rf := relayS_fits t1 sk1 (SetTable.grown es1.size)
        rw [← q1.size] at h
        generalize relayAll t1 es1 (SetTable.grown es1.size) = R at r1 r2 ⊢
        generalize relayS t1 sk1 (SetTable.grown es1.size) = S2 at r1 r2 rl rf h
        obtain ⟨es2, t2, gv⟩ := R
        obtain ⟨sk2, t3⟩ := S2
        dsimp only at r1 r2 rl rf h ⊢
        subst r2
        refine wpAny_bind (hgw _ (wpAny_bind (storeSet_S ho₁ hx₁.1 hd₁ r1 rf (by omega) fun h₂ o₂ hs₂ ho₂ hx₂ hd₂ => ?_)))
        have := h h₂ o₂ (hs₁.trans hs₂) ho₂ hx₂
        rw [hc] at this
        exact wpAny_pure (wpAny_pure this)
      · rw [if_neg hfull] at h ⊢
        have := h h₁ o₁ hs₁ ho₁ hx₁
        rw [hc] at this
        exact wpAny_pure (wpAny_pure this)
    refine wpAny_bind (hgw _ ?_)
    split
    · refine wpAny_bind ?_
      rw [hashByValue_scannable 8 hsc]
      refine wpAny_pure ?_
      exact fin
    · refine wpAny_bind (wpAny_pure ?_)
      exact fin
end
end Mine

set_option maxHeartbeats 1000000
namespace Mine
open PySem PySem.Calls PyProof.Rows PyProof PySem.W

def runS (st : SK) (ns : List Int) : SK := ns.foldl addS st
abbrev fresh0 (w : World) : SetTable := .fresh 0 0 (!byText w)

theorem addS_len (st : SK) (n : Int) : (addS st n).1.length ≤ st.1.length + 1 := by
  unfold addS
  split
  · omega
  · have := layS_len st.2 st.1 n
    split
    · rw [relayS_len]; omega
    · show (layS st.2 st.1 n).1.length ≤ _; omega
theorem runS_len : ∀ (ns : List Int) (st : SK), (runS st ns).1.length ≤ st.1.length + ns.length
  | [], st => by simp [runS]
  | n :: ns, st => by
    have h1 := runS_len ns (addS st n)
    have h2 := addS_len st n
    show (runS (addS st n) ns).1.length ≤ _
    simp only [List.length_cons]; omega
theorem runS_snoc (st : SK) (ns : List Int) (n : Int) : runS st (ns ++ [n]) = addS (runS st ns) n := by unfold runS; rw [List.foldl_append]; rfl

theorem newSet_SetIs (w : World) : SetIs [] (fresh0 w) (newSetObj w) := ⟨⟨rfl, rfl, rfl⟩, #[], 0, rfl, .nil, rfl⟩

section
variable {prog : Program} {w : World} {A : Around} {E : Value → Shared → Prop} {s : Shared}


theorem update_loop {R : Result → Shared → Prop} {I l a : Addr} {vs : List Value} {ns : List Int} {t₀ : SetTable} (hh : A.handled = none) (hI : l ≠ I) (haI : a ≠ I) (hal : a ≠ l) (hi : IntsAre vs ns) (hb : ns.length < 1000) :
    ∀ (k i : Nat) (s : Shared), ns.length - i = k → i ≤ ns.length → s.heap.IsListIter I l i → s.heap.IsList l vs.toArray → (∃ o, s.heap.get? a = some o ∧ SetIs (runS ([], t₀) (ns.take i)).1 (runS ([], t₀) (ns.take i)).2 o) →
      (∀ h' tk o, (∀ b ob, b ≠ I → b ≠ a → s.heap.get? b = some ob → h'.get? b = some ob) → h'.get? a = some o → SetIs (runS ([], t₀) ns).1 (runS ([], t₀) ns).2 o → R (.ok (.ret .none)) { s with heap := h', toks := tk }) →
      codeAny (model prog w) A (.builtin "set.update.loop" ⟨[.ref a, .ref I], []⟩) R s := by
  have hlen := IntsAre.length hi
  have hh' : A.in1.handled = none := hh
  have W := Walks.list (prog := prog) (w := w) hh' I l hI vs.toArray
  intro k
  induction k with
  | zero =>
    intro i s hk hin hit hl hS hR
    have : i = ns.length := by omega
    subst this
    rw [List.take_length] at hS
    obtain ⟨o, ho, hx⟩ := hS
    refine codeAny_builtin PyProof.Rows.F.entry_set_update_loop ?_
    rw [Around.under_plainId PyProof.Rows.F.plain_set_update_loop _]
    show wpAny _ A.in1 (pyNext (.ref I) >>= _) _ _ s
    refine wpAny_bind (W.done s _ _ ⟨by rw [List.size_toArray, hlen]; exact hit, hl⟩ fun h' tk hk' => ?_)
    show wpAny _ A.in1 (ret Value.none) _ _ _
    exact wpAny_pure (hR h' tk o (fun b ob h1 _ e => hk' b ob (by simpa using h1) e) (hk' a o (by simpa using haI) ho) hx)
  | succ k ih =>
    intro i s hk hin hit hl hS hR
    have hlt : i < ns.length := by omega
    obtain ⟨o, ho, hx⟩ := hS
    refine codeAny_builtin PyProof.Rows.F.entry_set_update_loop ?_
    rw [Around.under_plainId PyProof.Rows.F.plain_set_update_loop _]
    show wpAny _ A.in1 (pyNext (.ref I) >>= _) _ _ s
    refine wpAny_bind (W.item i s _ _ (by rw [List.size_toArray, hlen]; exact hlt) ⟨hit, hl⟩ fun v h₁ tk₁ hv st₁ hk₁ => ?_)
    have hv' : vs[i]? = some v := by simpa using hv
    obtain ⟨n, tok, rfl, hn⟩ := IntsAre.at hi i v hv'
    have ho₁ : h₁.get? a = some o := hk₁ a o (by simpa using haI) ho
    show wpAny _ A.in1 (holding [Value.int n tok] (setAdd a (.int n tok)) >>= _) _ _ _
    refine wpAny_bind (wpAny_holding ?_)
    unfold setAdd
    refine wpAny_holding (wpAny_bind ((intKind prog w).pyHash (k := n) (intKind_is _ _ _ _) ?_))
    have hl2 := runS_len (ns.take i) ([], t₀)
    rw [List.length_take] at hl2
    have hbb : (runS ([], t₀) (ns.take i)).1.length + 1 < scanBound := by
      have : scanBound = 4096 := rfl
      rw [this]
      simp only [List.length_nil] at hl2
      omega
    refine setAdd_S (s := { s with heap := h₁, toks := tk₁ + 1 }) ho₁ hx hbb fun h₂ o₂ hs₂ ho₂ hx₂ => ?_
    have e : ns.take (i + 1) = ns.take i ++ [n] := by rw [List.take_add_one, hn]; rfl
    refine wpAny_pure ⟨plainId_quiet PyProof.Rows.F.plain_set_update_loop _, ih (i + 1) _ (by omega) hlt ?_ ?_ ⟨o₂, ho₂, ?_⟩ fun h' tk o' hk' ho' hx' => ?_⟩
    · exact st₁.1.at fun ob e => hs₂.extBut I ob (Ne.symm haI) e
    · exact st₁.2.extBut hs₂.extBut (Ne.symm hal)
    · rw [e, runS_snoc]; exact hx₂
    · exact hR h' tk o' (fun b ob h1 h2 e => hk' b ob h1 h2 (hs₂.extBut b ob h2 (hk₁ b ob (by simpa using h1) e))) ho' hx'

/-- set(l), l a list of ints -/
theorem call_setL {l : Addr} {vs : List Value} {ns : List Int} {Q : Value → Shared → Prop} (hh : A.handled = none) (hl : s.heap.IsList l vs.toArray) (hi : IntsAre vs ns) (hb : ns.length < 1000)
    (h : ∀ h' tk o, (∀ b ob, s.heap.get? b = some ob → h'.get? b = some ob) → h'.get? s.heap.objs.size = some o → SetIs (runS ([], fresh0 w) ns).1 (runS ([], fresh0 w) ns).2 o → Q (.ref s.heap.objs.size) { s with heap := h', toks := tk }) :
    wpAny (model prog w) A (call (.type "set") [.ref l]) Q E s := by
  refine call_set_one ?_
  have hll : l < s.heap.objs.size := by obtain ⟨o, ho, _⟩ := hl; exact Heap.lt_size ho
  have hS : (s.heap.push (newSetObj w)).get? s.heap.objs.size = some (newSetObj w) := Heap.get?_push_size _ rfl
  obtain ⟨ol, hol, hcl, nl, hdl⟩ := id hl
  obtain ⟨ocls, odict, odata, oslots⟩ := ol
  dsimp only at hcl hdl
  subst hcl hdl
  have hol' : (s.heap.push (newSetObj w)).get? l = some { cls := .type "list", dict := odict, data := .seq vs.toArray nl, slots := oslots } := Heap.get?_push_of_some _ hol
  have hsls := PySem.F.sub_list_set
  have hslf := PySem.F.sub_list_frozenset
  have hne : (Value.type "list" == Value.type "dict") = false := by decide
  have hl1 : (s.heap.push (newSetObj w)).IsList l vs.toArray := ⟨_, hol', rfl, nl, rfl⟩
  unfold Builtin.Frozenset.updateFrom
  generalize hPI : pyIter = PI
  have hT : Shared.TypeIs { s with heap := s.heap.push (newSetObj w) } (.ref l) "list" := ⟨_, hol', rfl⟩
  obtain ⟨hp, g, d, tk, os⟩ := s
  wp_walk
  subst hPI
  refine wpAny_pyIter_list hl1 ?_
  refine wpAny_bind (wpAny_runValue ?_)
  have hne1 : l ≠ (hp.push (newSetObj w)).objs.size := by rw [Heap.size_push]; exact Nat.ne_of_lt (Nat.lt_succ_of_lt hll)
  refine update_loop (A := A.in1.in1) (prog := prog) (w := w) (l := l) (a := hp.objs.size) (vs := vs) (ns := ns) (t₀ := fresh0 w) hh hne1 (by rw [Heap.size_push]; exact Nat.ne_of_lt (Nat.lt_succ_self _)) (Nat.ne_of_gt hll) hi hb ns.length 0 _ (by omega) (Nat.zero_le _) ?_ ?_ ?_ fun h' tk o hk ho hx => ?_
  · exact ⟨_, Heap.get?_push_size _ rfl, rfl, rfl⟩
  · exact hl1.push _
  · exact ⟨_, Heap.get?_push_of_some _ hS, newSet_SetIs w⟩
  refine wpAny_pure ⟨⟨o, ho, hx.1.1⟩, h h' tk o (fun b ob e => ?_) ho hx⟩
  refine hk b ob (fun q => ?_) (fun q => ?_) (Heap.get?_push_of_some _ (Heap.get?_push_of_some _ e))
  · subst q; have := Heap.lt_size e; rw [Heap.size_push] at this; exact absurd (Nat.lt_of_succ_lt this) (Nat.lt_irrefl _)
  · subst q; exact absurd (Heap.lt_size e) (Nat.lt_irrefl _)
end
end Mine

set_option maxHeartbeats 1000000
namespace Mine
open PySem PySem.Calls PyProof.Rows PyProof PySem.W

/-- an empty set's table, grown to take so many -/
def roomS (f : SetTable) (n : Nat) : Option SetTable :=
  match f.roomFor n with
  | some wanted => if SetTable.sizeAbove wanted ≤ sizeLine then (match f.relaid #[] wanted with | some (t1, order) => if (order.toList.filterMap (([] : List Int)[·]?)).length == 0 && t1.fits 0 then some t1 else none | none => none) else none
  | none => some f
/-- a set copied into an empty one -/
def copyS (f : SetTable) (sk : List Int) (t : SetTable) : Option SK :=
  if sk.isEmpty then some ([], f) else
  match roomS f sk.length with
  | none => none
  | some t1 => match t1.road t with
    | .slotForSlot => some (sk, { t with finger := t1.finger, led := t1.led && t.led, moves := t1.moves, plain := t1.plain && t.plain })
    | .clean => (match SetTable.laid t1.mask t1.finger t1.moves (t1.led && t.led) (t1.plain && t.plain) (sk.map hashInt).toArray with
      | some (t', order) => if (order.toList.filterMap (sk[·]?)).length == sk.length then some (order.toList.filterMap (sk[·]?), t') else none
      | none => none)
    | .oneByOne => none

section
variable {prog : Program} {w : World} {A : Around} {E : Value → Shared → Prop} {s : Shared} {a b : Addr} {oa ob : Obj} {sk : List Int} {t f : SetTable}

theorem isAnySet_set {Q : Bool → Shared → Prop} (hb : s.heap.get? b = some ob) (x : SetIs sk t ob) (h : Q true s) : wpAny (model prog w) A (Builtin.Frozenset.isAnySet (.ref b)) Q E s := by
  have hsub := sub_set_self
  have hT : s.TypeIs (.ref b) "set" := ⟨_, hb, x.1.1⟩
  unfold Builtin.Frozenset.isAnySet
  refine wpAny_bind (wpAny_isInstance hT hsub ?_)
  exact wpAny_pure h

theorem setRoom_S {n : Nat} {f' : SetTable} {Q : Unit → Shared → Prop} (ha : s.heap.get? a = some oa) (x : SetIs [] f oa) (hr : roomS f n = some f')
    (h : ∀ h' o', Heap.SameBut a s.heap h' → h'.get? a = some o' → SetIs [] f' o' → Q () { s with heap := h' }) : wpAny (model prog w) A (setRoomFor a n) Q E s := by
  unfold setRoomFor
  refine wpAny_bind (setState_S ha x fun es ep hd he => ?_)
  dsimp only
  unfold roomS at hr
  cases hw : f.roomFor n with
  | none =>
    rw [hw] at hr
    cases hr
    have e' : s = { s with heap := s.heap } := by cases s; rfl
    refine wpAny_pure ?_
    rw [e']
    exact h _ _ (Heap.SameBut.refl ..) ha x
  | some wanted =>
    rw [hw] at hr
    dsimp only at hr ⊢
    split at hr
    · rename_i hsz
      split at hr
      · rename_i t1 order hrl
        split at hr
        · rename_i hc
          cases hr
          rw [Bool.and_eq_true, beq_iff_eq] at hc
          unfold setRelay
          refine wpAny_bind (setState_S ha x fun es ep hd he => ?_)
          dsimp only
          rw [if_neg (Nat.not_lt.mpr hsz)]
          have ee : es = #[] := by
            have := he.size
            exact Array.eq_empty_of_size_eq_zero this
          subst ee
          have e1 : (#[] : Array (Int × Value)).map (·.1) = #[] := by simp
          rw [e1, hrl]
          k_delta "reordered"
          dsimp only
          have e2 : order.filterMap ((#[] : Array (Int × Value))[·]?) = #[] := by
            apply Array.ext'
            rw [Array.toList_filterMap]
            simp
          rw [e2]
          refine wpAny_bind ?_
          rw [if_neg (by simp)]
          refine wpAny_pure ?_
          refine storeSet_S (sk' := []) ha x.1 hd .nil hc.2 (by decide) fun h' o' hs ho hx _ => h h' o' hs ho hx
        · cases hr
      · cases hr
    · cases hr

/-- a set merged into an empty one -/
theorem setMerge_S {sk' : List Int} {t' : SetTable} {Q : Unit → Shared → Prop} (hab : a ≠ b) (ha : s.heap.get? a = some oa) (x : SetIs [] f oa) (hb : s.heap.get? b = some ob) (y : SetIs sk t ob) (hsz : sk.length < scanBound) (hc : copyS f sk t = some (sk', t')) (hf : t'.fits sk'.length = true) {each : Sem Unit}
    (h : ∀ h' o', Heap.SameBut a s.heap h' → h'.get? a = some o' → SetIs sk' t' o' → Q () { s with heap := h' }) : wpAny (model prog w) A (setMerge a b each) Q E s := by
  unfold setMerge
  have hne : (a == b) = false := by simpa using hab
  rw [hne]
  simp only [Bool.false_eq_true, if_false]
  refine wpAny_bind (setState_S hb y fun eo epo hdo heo => ?_)
  dsimp only
  unfold copyS at hc
  by_cases he : sk = []
  · subst he
    have : eo = #[] := Array.eq_empty_of_size_eq_zero heo.size
    subst this
    simp at hc
    obtain ⟨rfl, rfl⟩ := hc
    rw [if_pos (by rfl)]
    have e' : s = { s with heap := s.heap } := by cases s; rfl
    refine wpAny_pure ?_
    rw [e']
    exact h _ _ (Heap.SameBut.refl ..) ha x
  · have hemp : sk.isEmpty = false := by simpa using he
    have hemp' : eo.isEmpty = false := by
      have := heo.size
      rw [Array.isEmpty_eq_false_iff]
      intro q; subst q
      simp at this
      exact he (List.length_eq_zero_iff.mp this.symm)
    rw [hemp] at hc
    rw [hemp']
    simp only [Bool.false_eq_true, if_false] at hc ⊢
    split at hc
    · cases hc
    · rename_i t1 hr
      rw [heo.size]
      refine wpAny_bind (setRoom_S ha x hr fun h₁ o₁ hs₁ ho₁ hx₁ => ?_)
      have hb₁ : h₁.get? b = some ob := hs₁.extBut b ob (Ne.symm hab) hb
      refine wpAny_bind (setState_S (s := { s with heap := h₁ }) ho₁ hx₁ fun es₁ ep₁ hd₁ he₁ => ?_)
      dsimp only
      have hb2 : sk'.length < scanBound := by
        split at hc
        · cases hc; exact hsz
        · split at hc
          · split at hc
            · rename_i hl; cases hc; rw [beq_iff_eq] at hl; omega
            · cases hc
          · cases hc
        · cases hc
      split at hc
      · rename_i hroad
        cases hc
        rw [hroad]
        refine storeSet_S (s := { s with heap := h₁ }) ho₁ hx₁.1 hd₁ heo hf hb2 fun h' o' hs ho hx _ => ?_
        exact h h' o' (hs₁.trans hs) ho hx
      · rename_i hroad
        rw [hroad]
        dsimp only
        split at hc
        · rename_i t2 order hl
          split at hc
          · rename_i hlen
            cases hc
            have eh : eo.map (·.1) = (sk.map hashInt).toArray := by
              rw [← heo.hashes]
              exact Array.ext' (by rw [Array.toList_map])
            rw [eh, hl]
            k_delta "reordered"
            dsimp only
            have hp := heo.pick order.toList
            have e1 : (order.filterMap (eo[·]?)).toList = order.toList.filterMap (eo.toList[·]?) := by
              rw [Array.toList_filterMap]; simp
            have hsz2 : (order.filterMap (eo[·]?)).size = eo.size := by
              rw [← Array.length_toList, e1, hp.length, heo.size]
              exact beq_iff_eq.mp hlen
            refine wpAny_bind ?_
            rw [if_neg (by rw [hsz2]; simp)]
            refine wpAny_pure ?_
            refine storeSet_S (s := { s with heap := h₁ }) (es' := order.filterMap (eo[·]?)) ho₁ hx₁.1 hd₁ (by rw [e1]; exact hp) hf hb2 fun h' o' hs ho hx _ => ?_
            exact h h' o' (hs₁.trans hs) ho hx
          · cases hc
        · cases hc
      · cases hc

/-- set(b), b a set -/
theorem call_setS {sk' : List Int} {t' : SetTable} {Q : Value → Shared → Prop} (hb : s.heap.get? b = some ob) (y : SetIs sk t ob) (hsz : sk.length < scanBound) (hc : copyS (fresh0 w) sk t = some (sk', t')) (hf : t'.fits sk'.length = true)
    (h : ∀ h' o, (∀ c oc, s.heap.get? c = some oc → h'.get? c = some oc) → h'.get? s.heap.objs.size = some o → SetIs sk' t' o → Q (.ref s.heap.objs.size) { s with heap := h' }) :
    wpAny (model prog w) A (call (.type "set") [.ref b]) Q E s := by
  refine call_set_one ?_
  have hS : (s.heap.push (newSetObj w)).get? s.heap.objs.size = some (newSetObj w) := Heap.get?_push_size _ rfl
  have hb' : (s.heap.push (newSetObj w)).get? b = some ob := Heap.get?_push_of_some _ hb
  have hab : s.heap.objs.size ≠ b := fun q => absurd (Heap.lt_size hb) (by rw [q]; exact Nat.lt_irrefl _)
  unfold Builtin.Frozenset.updateFrom
  refine wpAny_bind (isAnySet_set (s := { s with heap := s.heap.push (newSetObj w) }) hb' y ?_)
  simp only [if_true]
  refine wpAny_bind (m := Builtin.Frozenset.addrOf (.ref b)) (wpAny_pure ?_)
  unfold Builtin.Frozenset.merge
  obtain ⟨hex, eo, epo, hdo, heo, hfo⟩ := id y
  refine wpAny_bind (wpAny_setEpoch_of (s := { s with heap := s.heap.push (newSetObj w) }) hb' hdo (by rw [heo.size]; exact hfo) ?_)
  refine setMerge_S (s := { s with heap := s.heap.push (newSetObj w) }) hab hS (newSet_SetIs w) hb' y hsz hc hf fun h' o' hs ho hx => ?_
  exact ⟨⟨o', ho, hx.1.1⟩, h h' o' (fun c oc e => hs.extBut c oc (fun q => by subst q; exact absurd (Heap.lt_size e) (Nat.lt_irrefl _)) (Heap.get?_push_of_some _ e)) ho hx⟩
end
end Mine

set_option maxHeartbeats 1000000
namespace Mine
open PySem PySem.Calls PyProof.Rows PyProof PySem.W

def slotAt (t : SetTable) : Nat → Nat
  | 0 => 0
  | i + 1 => t.place.getD i 0 + 1
def chain (t : SetTable) (n : Nat) : Bool := (List.range (n + 1)).all fun i => SetTable.below t.place (slotAt t i) == i
def runI (a n : Nat) : List Int := (List.range n).map fun i => ((a + i : Nat) : Int)
def runOK (led : Bool) (ns : List Int) : Bool :=
  let st := runS ([], .fresh 0 0 led) ns
  st.1.isPerm ns && st.2.plain && (st.2.led == led) && chain st.2 st.1.length && (match copyS (.fresh 0 0 led) st.1 st.2 with
    | some (sk', t') => sk'.isPerm ns && t'.fits sk'.length
    | none => false)
theorem runs_ok : ∀ led : Bool, ∀ a, a < 9 → ∀ n, n < 7 → runOK led (runI a n) = true := by decide +kernel
end Mine

set_option maxHeartbeats 1000000
namespace Mine
open PySem PySem.Calls PyProof.Rows PyProof PySem.W

namespace SI
theorem slot_next : PySem.Slot "set_iterator" "__next__" "set_iterator.__next__" :=
  .of (owner := "set_iterator") (n := "__next__") (by rw [typeLookup_type, builtinLookup_eq_fast]; kernel_rfl) (by decide +kernel) (by decide +kernel) (by decide +kernel)
    (by first | exact .inl (by decide +kernel) | exact .inr (by decide +kernel)) (by rw [isSubtype_type]; kernel_rfl)
theorem slot_iter : PySem.Slot "set_iterator" "__iter__" "set_iterator.__iter__" :=
  .of (owner := "set_iterator") (n := "__iter__") (by rw [typeLookup_type, builtinLookup_eq_fast]; kernel_rfl) (by decide +kernel) (by decide +kernel) (by decide +kernel)
    (by first | exact .inl (by decide +kernel) | exact .inr (by decide +kernel)) (by rw [isSubtype_type]; kernel_rfl)
theorem entry_next : entryFor table "set_iterator.__next__" = some Builtin.«set_iterator.__next__» := entryFor_of_fast (by kernel_rfl)
theorem entry_iter : entryFor table "set_iterator.__iter__" = some Builtin.«dict_keyiterator.__iter__» :=
  entryFor_alias (id' := "dict_keyiterator.__iter__") (by kernel_rfl) (by first | rfl | decide +kernel | (unfold String.splitOn; simp +decide [String.splitOnAux])) (by decide +kernel) (by kernel_rfl)
theorem args_next (a : Value) : argsOk "set_iterator.__next__" ⟨[a], []⟩ := by unfold argsOk; kernel_rfl
theorem args_iter (a : Value) : argsOk "set_iterator.__iter__" ⟨[a], []⟩ := by unfold argsOk; kernel_rfl
theorem entry_set : entryFor table "set.__iter__" = some Builtin.«frozenset.__iter__» :=
  entryFor_alias (id' := "frozenset.__iter__") (by kernel_rfl) (by first | rfl | decide +kernel | (unfold String.splitOn; simp +decide [String.splitOnAux])) (by decide +kernel) (by kernel_rfl)
end SI

abbrev IsSetIter (h : Heap) (I a : Addr) (slot i n ep : Nat) : Prop := h.get? I = some { cls := .type "set_iterator", dict := none, data := .fields #[rawInt slot, rawInt i, .ref a, rawInt n, rawInt ep], slots := #[] }

/-- the set may be walked: its order is told by the text, or its table is known -/
def GoodS (w : World) (sk : List Int) (t : SetTable) : Prop := byText w = true ∨ (byText w = false ∧ t.plain = true ∧ t.led = true ∧ t.place.size = sk.length ∧ chain t sk.length = true)

/-! the order that the text tells -/
theorem pick_go {α : Type} (next : Nat → Nat) : ∀ (fuel k : Nat) (left : List α) (out : Array α), fuel = left.length →
    (pickOrder.go next fuel k left out).size = out.size + left.length ∧ ∀ x ∈ (pickOrder.go next fuel k left out).toList, x ∈ out.toList ∨ x ∈ left
  | 0, k, left, out, h => by
    have : left = [] := List.length_eq_zero_iff.mp h.symm
    subst this
    exact ⟨by simp [pickOrder.go], fun x hx => .inl hx⟩
  | fuel + 1, k, left, out, h => by
    have hlt : next k % left.length < left.length := Nat.mod_lt _ (by omega)
    unfold pickOrder.go
    rw [List.getElem?_eq_getElem hlt]
    dsimp only
    have hl : (left.eraseIdx (next k % left.length)).length = left.length - 1 := List.length_eraseIdx_of_lt hlt
    obtain ⟨h1, h2⟩ := pick_go next fuel (k + 1) (left.eraseIdx (next k % left.length)) (out.push left[next k % left.length]) (by omega)
    refine ⟨by rw [h1, Array.size_push]; omega, fun x hx => ?_⟩
    rcases h2 x hx with h | h
    · rw [Array.toList_push, List.mem_append, List.mem_singleton] at h
      rcases h with h | h
      · exact .inl h
      · exact .inr (h ▸ List.getElem_mem hlt)
    · exact .inr (List.mem_of_mem_eraseIdx h)
theorem pick_size {α : Type} (next : Nat → Nat) (xs : Array α) : (pickOrder next xs).size = xs.size := by
  unfold pickOrder
  rw [(pick_go next xs.size 0 xs.toList #[] (by simp)).1]; simp
theorem pick_mem {α : Type} (next : Nat → Nat) (xs : Array α) (x : α) (h : x ∈ (pickOrder next xs).toList) : x ∈ xs.toList := by
  unfold pickOrder at h
  rcases (pick_go next xs.size 0 xs.toList #[] (by simp)).2 x h with h | h
  · simp at h
  · exact h

theorem EntsAre.int : ∀ {es : List (Int × Value)} {sk : List Int}, EntsAre es sk → ∀ e ∈ es, ∃ n t, e = (hashInt n, .int n t) ∧ n ∈ sk
  | _, _, .nil, e, h => by simp at h
  | _, _, .cons n t r, e, h => by
    rcases List.mem_cons.mp h with rfl | h
    · exact ⟨n, t, rfl, .head _⟩
    · obtain ⟨m, u, e, hm⟩ := EntsAre.int r e h
      exact ⟨m, u, e, .tail _ hm⟩

theorem EntsAre.of_all : ∀ {es : List (Int × Value)} {sk : List Int}, (∀ e ∈ es, ∃ n t, e = (hashInt n, Value.int n t) ∧ n ∈ sk) → ∃ order, EntsAre es order ∧ ∀ m ∈ order, m ∈ sk
  | [], _, _ => ⟨[], .nil, fun _ h => by cases h⟩
  | e :: es, sk, h => by
    obtain ⟨n, t, rfl, hn⟩ := h e (.head _)
    obtain ⟨order, h1, h2⟩ := EntsAre.of_all (es := es) fun e he => h e (.tail _ he)
    exact ⟨n :: order, .cons n t h1, fun m hm => by
      rcases List.mem_cons.mp hm with rfl | hm
      · exact hn
      · exact h2 m hm⟩
/-- the order in which a set is walked -/
def OrderIs (w : World) (a : Addr) (ep : Nat) (es : Array (Int × Value)) (sk order : List Int) : Prop :=
  (∀ m ∈ order, m ∈ sk) ∧ order.length = sk.length ∧ ((byText w = true ∧ EntsAre (pickOrder (w.params.setOrder a ep) es).toList order) ∨ (byText w = false ∧ order = sk))
theorem order_exists (w : World) (a : Addr) (ep : Nat) {es : Array (Int × Value)} {sk : List Int} (he : EntsAre es.toList sk) : ∃ order, OrderIs w a ep es sk order := by
  by_cases hb : byText w = true
  · obtain ⟨order, h1, h2⟩ := EntsAre.of_all (es := (pickOrder (w.params.setOrder a ep) es).toList) (sk := sk) fun e h => he.int e (pick_mem _ _ _ h)
    exact ⟨order, h2, by rw [← h1.length, Array.length_toList, pick_size, he.size], .inl ⟨hb, h1⟩⟩
  · exact ⟨sk, fun _ h => h, rfl, .inr ⟨Bool.eq_false_iff.mpr hb, rfl⟩⟩

def SlotOK (w : World) (t : SetTable) (i slot : Nat) : Prop := byText w = true ∨ slot = slotAt t i

section
variable {prog : Program} {w : World} {A : Around} {E : Value → Shared → Prop} {s : Shared} {a I : Addr} {o : Obj} {sk : List Int} {t : SetTable}

theorem chain_at {n i : Nat} (h : chain t n = true) (hi : i ≤ n) : SetTable.below t.place (slotAt t i) = i := by
  unfold chain at h
  rw [List.all_eq_true] at h
  exact beq_iff_eq.mp (h i (List.mem_range.mpr (by omega)))

theorem setNext_S {slot i ep : Nat} {es : Array (Int × Value)} {Q : Option (Value × Nat) → Shared → Prop} (ho : s.heap.get? a = some o) (x : SetIs sk t o) (hd : o.data = .set es ep t) (he : EntsAre es.toList sk) (g : GoodS w sk t) (hs : SlotOK w t i slot) (hi : i ≤ sk.length) {order : List Int} (hor : OrderIs w a ep es sk order)
    (h1 : i < sk.length → ∀ m tok slot', order[i]? = some m → SlotOK w t (i + 1) slot' → Q (some (.int m tok, slot')) s) (h0 : i = sk.length → Q none s) : wpAny (model prog w) A (setNext a slot i ep) Q E s := by
  unfold setNext
  refine wpAny_bind (wpAny_setState_of ho hd (by rw [he.size]; exact x.2.choose_spec.choose_spec.2.2) ?_)
  dsimp only
  unfold setsByText
  refine wpAny_bind (wpAny_bind (wpAny_askSetting (wpAny_pure ?_)))
  by_cases hb : byText w = true
  · have hb' : (model prog w).w.params.followText "set-order" = true := hb
    dsimp only
    rw [if_pos hb', if_neg (by simp)]
    unfold setWalk setsByText
    refine wpAny_bind (wpAny_bind (wpAny_setState_of ho hd (by rw [he.size]; exact x.2.choose_spec.choose_spec.2.2) ?_))
    dsimp only
    refine wpAny_bind (wpAny_bind (wpAny_askSetting (wpAny_pure ?_)))
    dsimp only
    rw [if_pos hb']
    refine wpAny_bind (wpAny_askSetting (wpAny_pure (wpAny_pure ?_)))
    dsimp only
    have hz := pick_size (w.params.setOrder a ep) es
    show Q (Option.map _ (pickOrder (w.params.setOrder a ep) es)[i]?) s
    rcases Nat.lt_or_ge i sk.length with hlt | hge
    · have hlt' : i < (pickOrder (w.params.setOrder a ep) es).size := by rw [hz, he.size]; exact hlt
      rw [Array.getElem?_eq_getElem hlt']
      have hE := (hor.2.2.resolve_right fun q => by rw [hb] at q; cases q.1).2
      rcases hE.get i with ⟨q, _⟩ | ⟨n, tok, q1, q2⟩
      · rw [Array.getElem?_toList, Array.getElem?_eq_getElem hlt'] at q; cases q
      · rw [Array.getElem?_toList, Array.getElem?_eq_getElem hlt'] at q1
        rw [Option.some.inj q1]
        exact h1 hlt n tok slot q2 (.inl hb)
    · rw [Array.getElem?_eq_none (by rw [hz, he.size]; omega)]
      exact h0 (by omega)
  · have hb' : (model prog w).w.params.followText "set-order" = false := Bool.eq_false_iff.mpr hb
    obtain ⟨_, g1, g2, g3, g4⟩ := g.resolve_left hb
    dsimp only
    rw [hb', if_neg (by simp)]
    k_delta "drawn"
    k_delta "mustBeLedForItsPlaces"
    rw [g1, g2]
    simp only [Bool.not_true, Bool.false_and, Bool.false_eq_true, if_false]
    refine wpAny_bind (wpAny_pure ?_)
    refine wpAny_bind (wpAny_pure ?_)
    have hsl := hs.resolve_left hb
    rw [hsl, chain_at g4 hi]
    refine wpAny_pure ?_
    rcases Nat.lt_or_ge i sk.length with hlt | hge
    · rcases he.get i with ⟨_, q⟩ | ⟨n, tok, q1, q2⟩
      · rw [List.getElem?_eq_getElem hlt] at q; cases q
      · rw [Array.getElem?_toList] at q1
        have hp : t.place[i]? = some (t.place.getD i 0) := by
          rw [Array.getD_eq_getD_getElem?, Array.getElem?_eq_getElem (by omega)]; rfl
        rw [q1, hp]
        have hE := (hor.2.2.resolve_left fun q => hb q.1).2
        exact h1 hlt n tok _ (by rw [hE]; exact q2) (.inr rfl)
    · rw [Array.getElem?_eq_none (by rw [he.size]; omega)]
      exact h0 (by omega)
end
end Mine

set_option maxHeartbeats 1000000
namespace Mine
open PySem PySem.Calls PyProof.Rows PyProof PySem.W

section
variable {prog : Program} {w : World} {A : Around} {E : Value → Shared → Prop} {s : Shared} {a I : Addr} {o : Obj} {sk : List Int} {t : SetTable}

theorem setNextIt_item {slot i ep : Nat} {es : Array (Int × Value)} {Q : Option Value → Shared → Prop} (haI : a ≠ I) (ho : s.heap.get? a = some o) (x : SetIs sk t o) (hd : o.data = .set es ep t) (he : EntsAre es.toList sk) (g : GoodS w sk t) (hs : SlotOK w t i slot) (hit : IsSetIter s.heap I a slot i sk.length ep) (hi : i < sk.length) {order : List Int} (hor : OrderIs w a ep es sk order)
    (h : ∀ m tok slot' h', order[i]? = some m → SlotOK w t (i + 1) slot' → IsSetIter h' I a slot' (i + 1) sk.length ep → Heap.SameBut I s.heap h' → Q (some (.int m tok)) { s with heap := h' }) :
    wpAny (model prog w) A (pyNext (.ref I)) Q E s := by
  have hT : s.TypeIs (.ref I) "set_iterator" := ⟨_, hit, rfl⟩
  have hf : t.fits es.size = true := by rw [he.size]; exact x.2.choose_spec.choose_spec.2.2
  unfold pyNext
  refine wpAny_bind (wpAny_attempt (wpAny_callSpecial?_slot (name := Str.ofString "__next__") hT SI.slot_next (wpAny_call_entry SI.slot_next hT SI.entry_next ?_ (SI.args_next _))))
  unfold Builtin.«set_iterator.__next__» slotArgs fieldsOf
  refine wpAny_bind (wpAny_pure ?_)
  dsimp only
  refine wpAny_bind (wpAny_bind (wpAny_load hit (wpAny_pure ?_)))
  dsimp only [rawInt]
  refine wpAny_bind (wpAny_setEntries_of ho hd hf ?_)
  rw [if_neg (by rw [he.size]; simp)]
  refine wpAny_bind (m := setNext a _ _ _) ?_
  simp only [Int.toNat_natCast]
  refine setNext_S ho x hd he g hs (Nat.le_of_lt hi) hor (fun _ m tok slot' hm hs' => ?_) (fun e => by omega)
  dsimp only
  refine wpAny_bind (wpAny_setField_rec hit (by simp) fun h₁ ho₁ hs₁ => ?_)
  refine wpAny_bind (wpAny_setField_rec (s := { s with heap := h₁ }) ho₁ (by simp) fun h₂ ho₂ hs₂ => ?_)
  refine wpAny_pure ⟨_, rfl, wpAny_pure (h m tok slot' h₂ hm hs' ?_ (hs₁.trans hs₂))⟩
  exact ho₂

theorem setNextIt_end {slot ep : Nat} {es : Array (Int × Value)} {Q : Option Value → Shared → Prop} (hh : A.handled = none) (haI : a ≠ I) (ho : s.heap.get? a = some o) (x : SetIs sk t o) (hd : o.data = .set es ep t) (he : EntsAre es.toList sk) (g : GoodS w sk t) (hs : SlotOK w t sk.length slot) (hit : IsSetIter s.heap I a slot sk.length sk.length ep) {order : List Int} (hor : OrderIs w a ep es sk order)
    (h : ∀ h', Heap.ExtBut I s.heap h' → Q none { s with heap := h' }) :
    wpAny (model prog w) A (pyNext (.ref I)) Q E s := by
  have hT : s.TypeIs (.ref I) "set_iterator" := ⟨_, hit, rfl⟩
  have hf : t.fits es.size = true := by rw [he.size]; exact x.2.choose_spec.choose_spec.2.2
  unfold pyNext
  refine wpAny_bind (wpAny_attempt (wpAny_callSpecial?_slot (name := Str.ofString "__next__") hT SI.slot_next (wpAny_call_entry SI.slot_next hT SI.entry_next ?_ (SI.args_next _))))
  unfold Builtin.«set_iterator.__next__» slotArgs fieldsOf
  refine wpAny_bind (wpAny_pure ?_)
  dsimp only
  refine wpAny_bind (wpAny_bind (wpAny_load hit (wpAny_pure ?_)))
  dsimp only [rawInt]
  refine wpAny_bind (wpAny_setEntries_of ho hd hf ?_)
  rw [if_neg (by rw [he.size]; simp)]
  refine wpAny_bind (m := setNext a _ _ _) ?_
  simp only [Int.toNat_natCast]
  refine setNext_S ho x hd he g hs (Nat.le_refl _) hor (fun hlt => absurd hlt (Nat.lt_irrefl _)) (fun _ => ?_)
  dsimp only
  refine wpAny_bind (wpAny_setField_rec hit (by simp) fun h₁ ho₁ hs₁ => ?_)
  show wpAny _ _ (newExc (.type "StopIteration") [] >>= _) _ _ _
  refine wpAny_bind ?_
  simp only [newExc, newTuple]
  refine wpAny_bind (wpAny_newObj_type ?_ (by size_fits))
  refine wpAny_bind (m := firstArgMember _ _) (wpAny_of_eq (a := Value.none) (by first | rfl | (simp only [firstArgMember]; rfl)) ?_)
  refine wpAny_newObj_type ?_ (by size_fits)
  simp only [raiseNew]
  refine wpAny_bind (wpAny_handled ?_)
  rw [show A.in1.handled = none from hh]
  refine wpAny_bind (wpAny_pure (wpAny_throw ?_))
  refine wpAny_bind (wpAny_isInstance (T := "StopIteration") (b := true) ⟨_, Heap.get?_push_size _ rfl, rfl⟩ isSubtype_stop ?_)
  exact wpAny_pure (h _ ((hs₁.extBut.push _).push _))

/-- a set's walk -/
theorem Walks.set (hh : A.handled = none) (haI : a ≠ I) {es : Array (Int × Value)} {ep : Nat} (x : SetIs sk t o) (hd : o.data = .set es ep t) (he : EntsAre es.toList sk) (g : GoodS w sk t) {order : List Int} (hor : OrderIs w a ep es sk order) :
    Walks prog w A I [I, a] [I] sk.length (fun i v => ∃ m tok, v = .int m tok ∧ order[i]? = some m) (fun i h => (∃ slot, IsSetIter h I a slot i sk.length ep ∧ SlotOK w t i slot) ∧ h.get? a = some o) where
  sub := fun b hb => by simp at hb; simp [hb]
  frame := fun i h h' st hk => by
    obtain ⟨⟨slot, h1, h2⟩, h3⟩ := st
    exact ⟨⟨slot, hk I (by simp) _ h1, h2⟩, hk a (by simp) _ h3⟩
  item := fun i s Q E hi st hQ => by
    obtain ⟨⟨slot, h1, h2⟩, h3⟩ := st
    refine setNextIt_item haI h3 x hd he g h2 h1 hi hor fun m tok slot' h' hm hs' hit' hs => ?_
    exact hQ _ h' s.toks ⟨m, tok, rfl, hm⟩ ⟨⟨slot', hit', hs'⟩, hs.extBut a o haI h3⟩ fun b ob hb e => hs.extBut b ob (by simpa using hb) e
  done := fun s Q E st hQ => by
    obtain ⟨⟨slot, h1, h2⟩, h3⟩ := st
    exact setNextIt_end hh haI h3 x hd he g h2 h1 hor fun h' hx => hQ h' s.toks fun b ob hb e => hx b ob (by simpa using hb) e
  self := fun i s Q E st hQ => by
    obtain ⟨⟨slot, h1, h2⟩, h3⟩ := st
    have hT : s.TypeIs (.ref I) "set_iterator" := ⟨_, h1, rfl⟩
    refine wpAny_pyIter_slot hT SI.slot_iter (wpAny_call_entry SI.slot_iter hT SI.entry_iter ?_ (SI.args_iter _))
    show wpAny _ _ (ret (.ref I)) _ _ s
    exact wpAny_pure ⟨_, rfl, "set_iterator", _, hT, SI.slot_next.lookup, hQ⟩

/-- iter(set) -/
theorem pyIter_set {Q : Value → Shared → Prop} (ho : s.heap.get? a = some o) (x : SetIs sk t o) (g : GoodS w sk t)
    (h : ∀ es ep, o.data = .set es ep t → EntsAre es.toList sk → Q (.ref s.heap.objs.size) { s with heap := s.heap.push { cls := .type "set_iterator", dict := none, data := .fields #[rawInt (0 : Nat), rawInt (0 : Nat), .ref a, rawInt sk.length, rawInt ep], slots := #[] } }) :
    wpAny (model prog w) A (pyIter (.ref a)) Q E s := by
  obtain ⟨hex, es, ep, hd, he, hf⟩ := id x
  have hT : s.TypeIs (.ref a) "set" := ⟨_, ho, hex.1⟩
  have hf' : t.fits es.size = true := by rw [he.size]; exact hf
  refine wpAny_pyIter_slot hT PySem.F.slot_set_iter (wpAny_call_entry PySem.F.slot_set_iter hT SI.entry_set ?_ (PySem.F.args_set_iter_1 _))
  unfold Builtin.«frozenset.__iter__» Builtin.Frozenset.slot0 slotArgs Builtin.Frozenset.addrOf Builtin.Frozenset.sizeOf
  refine wpAny_bind (wpAny_bind (wpAny_pure ?_))
  dsimp only
  refine wpAny_pure (wpAny_bind (wpAny_bind (wpAny_setEntries_of ho hd hf' (wpAny_pure ?_))))
  unfold setDrawn setsByText
  refine wpAny_bind (wpAny_bind (wpAny_setState_of ho hd hf' ?_))
  dsimp only
  refine wpAny_bind (wpAny_bind (wpAny_askSetting (wpAny_pure ?_)))
  refine wpAny_pure ?_
  rw [if_neg (by
    show ¬ ((!byText w && _) = true)
    rcases g with g | ⟨g, g1, _⟩
    · rw [g]; simp
    · k_delta "drawn"
      rw [g1]; simp)]
  refine wpAny_bind (wpAny_pure ?_)
  refine wpAny_bind (wpAny_setEpoch_of ho hd hf' ?_)
  refine wpAny_bind (wpAny_newObj_type ?_ (by size_fits))
  refine wpAny_pure ⟨_, rfl, "set_iterator", _, ⟨_, Heap.get?_push_size _ rfl, rfl⟩, SI.slot_next.lookup, ?_⟩
  have := h es ep hd he
  rw [← he.size] at this
  exact this
end
end Mine

set_option maxHeartbeats 1000000
namespace Mine
open PySem PySem.Calls PyProof.Rows PyProof PySem.W

section
variable {F : Fm} {σ σ' : St} {D : Addr → Prop} {s s₁ s' : Shared} {x : Str} {v : Value} {a : Addr}

/-- how a value is gone through -/
def IterSem (prog : Program) (w : World) (T : Addr → Prop) (src : PV) (XS : List PV → Prop) : Prop :=
  ∀ (A : Around) (X : Addr → Prop) (xv : Value) (s : Shared) (Q : Value → Shared → Prop) (E : Value → Shared → Prop), VR s.heap X src xv →
    (∀ xs, XS xs → ∀ I fp P St s₂, K0 T s s₂ → s.heap.get? I = none → ItAt prog w T X xs s₂ I fp P St → Q (.ref I) s₂) → wpAny (model prog w) A (pyIter xv) Q E s
theorem IterSem.seq {prog : Program} {w : World} {T : Addr → Prop} {src : PV} {xs : List PV} (hi : itemsOf src = some xs) (ho : rangeOK src) : IterSem prog w T src (· = xs) := fun A X xv s Q E hr h =>
  iter_pv hr hi ho fun I fp P St s₂ k hI it => h xs rfl I fp P St s₂ k hI it

/-- one run of a loop, the items known -/
structure ForRun (F : Fm) (σ : St) (x : Str) (body : List Stmt) (out : Out) (xs : List PV) (inv : Nat → St) (n : Nat) : Prop where
  zero : inv 0 = σ
  hn : n ≤ xs.length
  hf : ∀ i, i ≤ n → freeOf (inv i) x = true
  hb : ∀ i p, i < n → xs[i]? = some p → Execs F { inv i with ρ := (x, p) :: (inv i).ρ } body (.next (inv (i + 1))) ∨ Execs F { inv i with ρ := (x, p) :: (inv i).ρ } body (.cont (inv (i + 1)))
  hend : (n = xs.length ∧ out = .next (inv n)) ∨ (∃ pv p, out = .ret pv ∧ xs[n]? = some p ∧ Execs F { inv n with ρ := (x, p) :: (inv n).ρ } body (.ret pv))

/-- a loop over anything; it may end early, by a return in turn n -/
theorem for_gen {px pos : Pos} {iter : Expr} {body : List Stmt} {src : PV} {XS : List PV → Prop} {σ₀ : St} {out : Out} (hi : ReadsAs F σ₀ iter src) (hsem : IterSem F.prog F.w F.T src XS)
    (hx : varKind F.env x = true) (hrun : ∀ xs, XS xs → ∃ inv n, ForRun F σ₀ x body out xs inv n)
    (hs : ∀ x, foldedSetIterable iter F.env x = pure x := by intro _; rfl) : Exec F σ₀ (.For (.Name x px) iter body [] pos) out := fun E D s o => by
  refine wpAny_For (wpAny_mono (hi.run o) (fun xv s₁ h₁ => ?_) fun _ _ e => e) hs
  obtain ⟨k₁, hv⟩ := h₁
  have o₁ := o.step k₁
  refine hsem F.A _ _ _ _ _ hv.live fun xs hxs I fp P St s₂ k₂ hI it => ?_
  obtain ⟨inv, n, run⟩ := hrun xs hxs
  have hz := run.zero
  subst hz
  have hn := run.hn
  have hf := run.hf
  have hb := run.hb
  have hend := run.hend
  have o₂ := o₁.step k₂
  have W := it.walks F.A F.hh
  let J : Nat → Shared → Prop := fun k s' => ∃ i D', i ≤ n ∧ k = n + 1 - i ∧ F.Ok (inv i) D' s' ∧ Kp F.T (fun b => F.Mut D b ∨ b = I) No s₂ s' ∧ (∀ b, D' b → D b ∨ s₂.heap.get? b = none) ∧ St i s'.heap
  obtain ⟨oI, hoI, hcI⟩ := it.isIt 0 _ it.start
  have hIM : ¬ F.Mut D I := fun q => by have := o₁.mutL q; rw [hI] at this; cases this
  have notI : ∀ D' : Addr → Prop, (∀ b, D' b → D b ∨ s₂.heap.get? b = none) → ¬ F.Mut D' I := fun D' h q => by
    rcases q with q | q
    · exact hIM (.inl q)
    · rcases h I q with q | q
      · exact hIM (.inr q)
      · rw [hoI] at q; cases q
  have fpM : ∀ b ∈ fp, b ≠ I → ∀ D' : Addr → Prop, (∀ b, D' b → D b ∨ s₂.heap.get? b = none) → ¬ F.Mut D' b := fun b hb hbI D' h q => by
    have hX := (it.own b hb).resolve_left hbI
    rcases q with q | q
    · exact hX.1.2 (.inl q)
    · rcases h b q with q | q
      · exact hX.1.2 (.inr q)
      · obtain ⟨ob, hob, _⟩ := it.sits 0 _ it.start b hb
        rw [hob] at q; cases q
  have hI0 : F.s₀.heap.get? I = none := none_of_K o₁.k0 hI
  have fin : ∀ {out' f s₃ D'} {σ₃ : Mine.St}, F.Ok σ₃ D' s₃ → Kp F.T (F.Mut D) No s s₃ → (∀ b, D' b → D b ∨ s₂.heap.get? b = none) → ∀ s₄, OutIs F D' s₃ out' f s₄ → OutIs F D s out' f s₄ := by
    intro out' f s₃ D' σ₃ o₃ kp hD' s₄ h
    have g : Goes F σ₃ D s D' s₃ := ⟨o₃, kp, fun b h => (hD' b h).imp id fun h => none_of_K (k₁.trans k₂) h⟩
    exact h.after g
  have whole : ∀ {s₃}, Kp F.T (fun b => F.Mut D b ∨ b = I) No s₂ s₃ → Kp F.T (F.Mut D) No s s₃ := fun kp => (k₁.trans k₂).of0.comp (M := F.Mut D) kp fun b h => h.imp id fun e => by rw [e]; exact none_of_K k₁ hI
  refine codeAny_forLoop J ?_ (n + 1) ⟨0, D, Nat.zero_le _, rfl, o₂, Kp.refl, fun _ h => .inl h, it.start⟩
  rintro k s' ⟨i, D', hin, rfl, ok, kp, hD', st⟩
  by_cases hlt : i < xs.length
  · refine W.item i _ _ _ hlt st fun v h₁ tk₁ hP st₁ hk₁ => ?_
    obtain ⟨oI', hoI', hcI'⟩ := it.isIt i _ st
    have kI : Kp F.T (· = I) No s' { s' with heap := h₁, toks := tk₁ } := kp_item hk₁ rfl (by
      obtain ⟨o', ho', ht'⟩ := it.sits i _ st I (W.sub I (by simp))
      exact ⟨o', ho', ht'⟩) (by
        obtain ⟨o', ho', _⟩ := it.sits (i + 1) _ st₁ I (W.sub I (by simp))
        rw [ho']; rfl)
    generalize hs1 : ({ s' with heap := h₁, toks := tk₁ } : Shared) = s₃ at kI
    have st₁ : St (i + 1) s₃.heap := by rw [← hs1]; exact st₁
    have ok₃ := ok.moved hoI' hcI' (notI D' hD') (ok.k0.fresh kI fun b e => by rw [e]; exact hI0) fun b ob hb ht e => kI.keep b ob hb e ht
    have kp₃ : Kp F.T (fun b => F.Mut D b ∨ b = I) No s₂ s₃ := kp.trans (kI.mono (fun b e => .inr e) fun _ h => h)
    obtain ⟨p, hp, hpv⟩ := it.vals i v hlt hP
    have vp : VR s₃.heap (fun b => F.B b ∧ ¬ F.Mut D' b) p v := by
      refine (hpv s₃ fun b ob hb e ht => kp₃.keep b ob (fun q => ?_) e ht).mono (fun _ _ _ h _ => h) fun b hb => ⟨hb.1.1, fun q => ?_⟩
      · rcases q with q | q
        · exact hb.1.2 q
        · have := hb.2; rw [q, hI] at this; cases this
      · rcases q with q | q
        · exact hb.1.2 (.inl q)
        · rcases hD' b q with q | q
          · exact hb.1.2 (.inr q)
          · have := k₂.live b hb.2; rw [q] at this; cases this
    refine wpAny_assign_Name (Stored.of ok₃ (varKind.of hx) fun a s₄ hst => ?_)
    obtain ⟨hpn, hon⟩ := freeOf.of (hf i hin)
    have g := hst.shared ok₃ (vp.mono (fun b ob hb e ht => hst.kp.keep b ob (fun q => hb.2 (.inl (by rw [q]; exact hst.fr))) e ht) fun _ h => h) hpn hon
    -- a body that comes back
    have back : ∀ s₅ D₅, Goes F (inv (i + 1)) D' s₄ D₅ s₅ → i < n → J (n + 1 - (i + 1)) s₅ := fun s₅ D₅ g₅ hin' => by
      have hD₅ : ∀ b, D₅ b → D b ∨ s₂.heap.get? b = none := fun b hb => by
        rcases (g.trans g₅).new b hb with h | h
        · exact hD' b h
        · right
          cases e : s₂.heap.get? b with
          | none => rfl
          | some ob =>
            have := kp₃.live b (by rw [e]; rfl)
            rw [h] at this; cases this
      refine ⟨i + 1, D₅, hin', rfl, g₅.ok, ?_, hD₅, ?_⟩
      · refine kp₃.comp (g.trans g₅).kp fun b hb => ?_
        rcases hb with hb | hb
        · exact .inl (.inl (.inl hb))
        · exact (hD' b hb).imp (fun h => .inl (.inr h)) id
      · refine W.frame _ _ _ st₁ fun b hb ob e => ?_
        obtain ⟨o'', ho'', ht''⟩ := it.sits (i + 1) _ st₁ b hb
        rw [ho''] at e; cases e
        refine (g.trans g₅).kp.keep b _ (fun q => ?_) ho'' ht''
        by_cases hbI : b = I
        · subst hbI; exact notI D' hD' q
        · exact fpM b hb hbI D' hD' q
    by_cases hin' : i < n
    · rcases hb i p hin' hp with hbd | hbd
      · refine wpAny_mono (hbd _ D' s₄ g.ok) (fun f s₅ h₅ => ?_) fun _ _ e => e
        cases f with
        | next => obtain ⟨D₅, g₅⟩ := h₅; exact ⟨n + 1 - (i + 1), by omega, back s₅ D₅ g₅ hin'⟩
        | _ => exact h₅.elim
      · refine wpAny_mono (hbd _ D' s₄ g.ok) (fun f s₅ h₅ => ?_) fun _ _ e => e
        cases f with
        | cont => obtain ⟨D₅, g₅⟩ := h₅; exact ⟨n + 1 - (i + 1), by omega, back s₅ D₅ g₅ hin'⟩
        | _ => exact h₅.elim
    · have hie : i = n := by omega
      subst hie
      rcases hend with ⟨e, _⟩ | ⟨pv, p', rfl, hp', hbd⟩
      · omega
      · rw [hp] at hp'; cases hp'
        refine wpAny_mono (hbd _ D' s₄ g.ok) (fun f s₅ h₅ => ?_) fun _ _ e => e
        cases f with
        | ret v' => exact fin ok₃ (whole kp₃) hD' s₅ (h₅.after g)
        | _ => exact h₅.elim
  · have hie : i = xs.length := by omega
    rcases hend with ⟨e, rfl⟩ | ⟨pv, p', rfl, hp', _⟩
    · have hin2 : i = n := by omega
      subst hin2
      rw [hie] at st
      refine W.done _ _ _ st fun h₁ tk₁ hk₁ => wpAny_execs_nil ?_
      obtain ⟨oI', hoI', hcI'⟩ := it.isIt _ _ st
      have okE := ok.moved (s' := { s' with heap := h₁, toks := tk₁ }) hoI' hcI' (notI D' hD') (ok.k0.then_but hk₁ hI0) fun b ob hb ht e => hk₁ b ob (fun q => hb (List.mem_singleton.mp q)) e
      exact fin okE ((whole kp).then_but hk₁ (none_of_K k₁ hI)) hD' _ ⟨D', .refl okE⟩
    · have := (List.getElem?_eq_some_iff.mp hp').1
      omega
end

theorem IterSem.set {prog : Program} {w : World} {T : Addr → Prop} {sk : List Int} {t : SetTable} (g : GoodS w sk t) : IterSem prog w T (.obj (SetIs sk t)) (fun xs => ∃ order : List Int, xs = order.map PV.int ∧ (∀ m ∈ order, m ∈ sk) ∧ order.length = sk.length) := fun A X xv s Q E hr h => by
  cases hr with
  | @obj _ a o hX ho ht hit hP =>
    have x := hP
    have hlt : a < s.heap.objs.size := Heap.lt_size ho
    refine pyIter_set ho x g fun es ep hd he => ?_
    obtain ⟨order, hor⟩ := order_exists w a ep he
    have hne : a ≠ s.heap.objs.size := Nat.ne_of_lt hlt
    refine h (order.map PV.int) ⟨order, rfl, hor.1, hor.2.1⟩ s.heap.objs.size [s.heap.objs.size, a] (fun i v => ∃ m tok, v = Value.int m tok ∧ order[i]? = some m) (fun i h => (∃ slot, IsSetIter h s.heap.objs.size a slot i sk.length ep ∧ SlotOK w t i slot) ∧ h.get? a = some o) _ (K0.push _) (get_size _) ⟨fun A' hA => ?_, ⟨⟨0, Heap.get?_push_size _ rfl, .inr rfl⟩, Heap.get?_push_of_some _ ho⟩, ?_, ?_, ?_, ?_⟩
    · have W := Walks.set (prog := prog) (w := w) hA hne x hd he g hor
      rw [List.length_map, hor.2.1]
      exact W
    · intro b hb
      rcases List.mem_cons.mp hb with rfl | hb
      · exact .inl rfl
      · rcases List.mem_cons.mp hb with rfl | hb
        · exact .inr hX
        · cases hb
    · rintro i h ⟨⟨slot, h1, _⟩, h2⟩ b hb
      rcases List.mem_cons.mp hb with rfl | hb
      · exact ⟨_, h1, rfl⟩
      · rcases List.mem_cons.mp hb with rfl | hb
        · exact ⟨_, h2, ht⟩
        · cases hb
    · rintro i h ⟨⟨slot, h1, _⟩, h2⟩
      exact ⟨_, h1, rfl⟩
    · rintro i v _ ⟨m, tok, rfl, hm⟩
      exact ⟨.int m, by rw [List.getElem?_map, hm]; rfl, fun _ _ => .int _ _⟩
end Mine

set_option maxHeartbeats 1000000
namespace Mine
open PySem PySem.Calls PyProof.Rows PyProof PySem.W

/-- kept, but for what is new -/
theorem Kp.freshG {T M : Addr → Prop} {G : Nat → Prop} {s s₁ s₂ : Shared} (k : K0 T s s₁) (k' : Kp T M G s₁ s₂) (hM : ∀ b, M b → s.heap.get? b = none) (hG : ∀ i, G i → s.gens[i]? = none) : K0 T s s₂ where
  keep := fun b o _ e ht => k'.keep b o (fun q => by rw [hM b q] at e; cases e) (k.get e ht) ht
  live := fun b h => k'.live b (k.live b h)
  tabs := ((k.mono (M' := fun _ => True) (G' := fun _ => True) (fun _ _ => trivial) fun _ _ => trivial).trans (k'.mono (M' := fun _ => True) (G' := fun _ => True) (fun _ _ => trivial) fun _ _ => trivial)).tabs
  gens := fun i g hg h => k'.gens i g (fun q => by rw [hG i q] at h; cases h) (k.gens i g hg h)
  gsz := Nat.le_trans k.gsz k'.gsz
  bare := fun h => k'.bare (k.bare h)
  drawn := k'.drawn.trans k.drawn
  os := k'.os.trans k.os

theorem K0.moved {T : Addr → Prop} {wr : List Addr} {g : Nat} {s s₁ s₂ : Shared} (k : K0 T s s₁) (m : Moved wr (GenOnlyQ g) s₁ s₂) (hw : ∀ b ∈ wr, s.heap.get? b = none) (hg : s.gens.size ≤ g) : K0 T s s₂ := by
  have nw : ∀ b, (s.heap.get? b).isSome = true → b ∉ wr := fun b h q => by rw [hw b q] at h; cases h
  have gg : ∀ i x, i ≠ g → s₁.gens[i]? = some x → s₂.gens[i]? = some x := fun i x hi h => by
    rcases m.gens with e | ⟨⟨_, ho⟩, _⟩
    · rw [e]; exact h
    · rw [ho i hi]; exact h
  refine ⟨fun b o _ e ht => m.heap b o (nw b (by rw [e]; rfl)) (k.get e ht), fun b h => ?_, fun b o e ht => ?_, fun i x _ h => ?_, Nat.le_trans k.gsz ?_, fun h => ?_, m.drawn.trans k.drawn, m.os.trans k.os⟩
  · obtain ⟨o, ho⟩ := Option.isSome_iff_exists.mp (k.live b h)
    rw [m.heap b o (nw b h) ho]; rfl
  · have hb := nw b (by rw [e]; rfl)
    rcases k.tabs b o e ht with h1 | ⟨hT, vs, more, rfl, h1⟩
    · exact .inl (m.heap b _ hb h1)
    · exact .inr ⟨hT, vs, more, rfl, m.heap b _ hb h1.1, h1.2⟩
  · have hi : i ≠ g := fun q => by
      subst q
      rw [Array.getElem?_eq_none hg] at h; cases h
    exact gg i x hi (k.gens i x (fun h => h) h)
  · rcases m.gens with e | ⟨⟨hz, _⟩, _⟩
    · rw [e]; exact Nat.le_refl _
    · rw [hz]; exact Nat.le_refl _
  · exact m.gens.bare (k.bare h)

/-- a function's code, with a table of its own -/
def CodeT (W : Wd) (cd : Value) : Prop := ∃ c P o vs file tf flags tg inF text tt, cd = .ref c ∧ W.K.lookup c = some o ∧ o.cls = .type "code" ∧ o.data = .fields vs ∧ vs.getD 11 .none = .ref P ∧ vs.getD 18 .none = .str file tf ∧
    vs.getD 7 .none = .int flags tg ∧ vs.getD 9 .none = .bool inF ∧ vs.getD 10 .none = .int text tt ∧ W.T P

/-- the builtins' module -/
def BltM (W : Wd) : Prop := ∃ bm o, W.mg "__builtins__" = some (.ref bm) ∧ bm ≠ builtinsNs ∧ W.K.lookup bm = some o ∧ o.cls = .type "module" ∧ o.dict = some builtinsNs ∧ o.data = .plain

section
variable {M : Model} {A : Around} {E : Value → Shared → Prop} {s : Shared}

theorem genCode_K {W : Wd} {env : Env} {pos : Pos} {qn : Str} {scope : Scope} {Q : Value → Shared → Prop} (hI : W.I s.heap) (hc : CodeT W env.code)
    (h : ∀ code s', K0 W.T s s' → s'.heap.objs.size ≥ s.heap.objs.size → (∀ b o, tab o = false → s.heap.get? b = some o → s'.heap.get? b = some o) → s'.gens = s.gens → Q code s') : wpAny M A (genexprCode env pos qn scope) Q E s := by
  obtain ⟨c, P, o, vs, file, tf, flags, tg, inF, text, tt, ec, hK, hcls, hd, h11, h18, h7, h9, h10, hT⟩ := hc
  obtain ⟨ps, hP, htr⟩ := hI.2.2.2.2 P hT
  have ho := hI.1 _ _ hK
  have hcP : c ≠ P := fun q => by
    subst q
    have := W.nt _ _ hK
    rw [hP] at ho; cases ho
    cases this
  have hok : s.heap.IsCode c P ps := ⟨o, vs, file, tf, flags, tg, inF, text, tt, _, ho, hd, h11, h18, h7, h9, h10, hP, rfl, htr, hcP⟩
  have h11' : vs[11]? = some (.ref P) := by
    rw [Array.getD_eq_getD_getElem?] at h11
    cases q : vs[11]? with
    | none => rw [q] at h11; cases h11
    | some v => rw [q] at h11; exact congrArg _ h11
  cases hnf : codeAmong pos ps.toList with
  | some cv => exact wpAny_genexprCode_hit ec hok hnf (h cv s Kp.refl (Nat.le_refl _) (fun _ _ _ e => e) rfl)
  | none =>
    refine wpAny_genexprCodeX ec hok ⟨⟨o, vs, ho, hcls, hd, h11'⟩, hP⟩ hnf fun c' h' tk hx hc1 hc2 hok' _ ht' _ => ?_
    have htab := ht'.2
    refine h _ _ ⟨fun b ob _ e ht => ?_, fun b hb => ?_, fun b ob e ht => ?_, fun _ _ _ h => h, Nat.le_refl _, fun h => h, rfl, rfl⟩ (Nat.le_of_lt (Nat.lt_of_le_of_lt hc1 hc2)) (fun b ob ht e => ?_) rfl
    · refine hx b ob (fun q => ?_) e
      subst q; rw [hP] at e; cases e; cases ht
    · obtain ⟨ob, e⟩ := Option.isSome_iff_exists.mp hb
      by_cases q : b = P
      · subst q
        show (h'.get? b).isSome = true
        rw [htab]; rfl
      · show (h'.get? b).isSome = true
        rw [hx b ob q e]; rfl
    · by_cases q : b = P
      · subst q
        rw [hP] at e; cases e
        refine .inr ⟨hT, ps, _, rfl, htab, fun _ => ?_⟩
        obtain ⟨_, _, _, _, _, _, _, _, _, _, _, _, _, _, _, _, _, _, _, r, _⟩ := hok'
        exact r
      · exact .inl (hx b ob q e)
    · refine hx b ob (fun q => ?_) e
      subst q; rw [hP] at e; cases e; cases ht
end

theorem GenAt.frameG {prog : Program} {w : World} {A : Around} {a : Addr} {g : Nat} {C : Addr} {fp wr : List Addr} {pz : Nat → Bool} {n₀ : Nat} {F : Nat → Value → Prop} {j : Nat} {s s' : Shared} (st : GenAt prog w A a g C fp wr pz n₀ F j s) (hcs : cStatics ∈ fp)
    (hk : ∀ b ∈ a :: C :: fp, ∀ o, s.heap.get? b = some o → s'.heap.get? b = some o) (hg : ∀ x, s.gens[g]? = some x → s'.gens[g]? = some x) : GenAt prog w A a g C fp wr pz n₀ F j s' :=
  ⟨let ⟨o, nm, qn, ho, r⟩ := st.1; ⟨o, nm, qn, hk a (List.mem_cons_self ..) o ho, r⟩,
   (let ⟨mc, hns, hnn⟩ := st.2.1; ⟨mc, hns.at' fun o e => hk cStatics (List.mem_cons_of_mem _ (List.mem_cons_of_mem _ hcs)) o e, hnn⟩),
   let ⟨gs, hgs, hgo⟩ := st.2.2; ⟨gs, hg _ hgs, fun s'' hal => hgo s'' fun b hb o e => hal b hb o (hk b (List.mem_cons_of_mem _ hb) o e)⟩⟩

theorem passing_all {n : Nat} : passing (fun _ => true) n 0 = List.range n := by unfold passing; simp
end Mine

set_option maxHeartbeats 1000000
namespace Mine
open PySem PySem.Calls PyProof.Rows PyProof PySem.W

/-- an around that asks for room alone -/
abbrev free (D U : Nat) : Around := { handled := none, depth := D, frames := none, guards := none, units := U }
theorem wpAny_free {M : Model} {A : Around} {D U : Nat} {α : Type} {t : Sem α} {Q : α → Shared → Prop} {E : Value → Shared → Prop} {s : Shared} (hA : A.handled = none) (hd : A.depth ≤ D) (hu : A.units ≤ U) (h : wpAny M (free D U) t Q E s) : wpAny M A t Q E s :=
  fun Γ p hΓ => h Γ p ⟨by rw [hΓ.1, hA], Nat.le_trans hΓ.2.1 hd, (fun _ h => nomatch h), (fun _ h => nomatch h), Nat.le_trans hΓ.2.2.2.2 hu⟩
theorem walksAt {prog : Program} {w : World} {A : Around} {D U : Nat} {I : Addr} {fp wr : List Addr} {G : Array GenState → Array GenState → Prop} {n : Nat} {P : Nat → Value → Prop} {St : Nat → Shared → Prop} (W : WalksS prog w (free D U) I fp wr G n P St) (hA : A.handled = none) (hd : A.depth ≤ D) (hu : A.units ≤ U) : WalksS prog w A I fp wr G n P St where
  sub := W.sub
  grefl := W.grefl
  gtrans := W.gtrans
  frame := W.frame
  item := fun i s Q E hi st hQ => wpAny_free hA hd hu (W.item i s Q E hi st hQ)
  done := fun s Q E st hQ => wpAny_free hA hd hu (W.done s Q E st hQ)
  self := fun i s Q E st hQ => wpAny_free hA hd hu (W.self i s Q E st hQ)

/-- a generator in hand -/
structure GenRun (prog : Program) (w : World) (D U : Nat) (s₀ s : Shared) (n : Nat) (P : Nat → Value → Prop) (a : Addr) (fp wr : List Addr) (g : Nat) (St : Nat → Shared → Prop) : Prop where
  walks : WalksS prog w (free D U) a fp wr (GenOnlyQ g) n P St
  start : St 0 s
  wrNew : ∀ b ∈ wr, s₀.heap.get? b = none
  gNew : s₀.gens.size ≤ g
  fpLt : ∀ b ∈ fp, b < s.heap.objs.size
  frame : ∀ j s s', St j s → (∀ b ∈ fp, ∀ o, s.heap.get? b = some o → s'.heap.get? b = some o) → (∀ x, s.gens[g]? = some x → s'.gens[g]? = some x) → St j s'
  isGen : ∀ j s, St j s → s.TypeIs (.ref a) "generator"
  aNew : s₀.heap.get? a = none


theorem Wd.keep {W : Wd} {h₁ h₃ h₄ : Heap} {I : Addr} (x₁ : W.I h₁) (n : h₁.get? I = none) (x₃ : W.I h₃) (k : ∀ b o, b ≠ I → h₃.get? b = some o → h₄.get? b = some o) : W.I h₄ := by
  have ne : ∀ b o, h₁.get? b = some o → b ≠ I := fun b o e q => by rw [q, n] at e; cases e
  have ns : ∀ {a : Addr} {m m' : Str → Option Value}, h₁.Ns a m → h₃.Ns a m' → h₄.Ns a m' := fun {a m m'} hn hn' => by
    obtain ⟨o, _, _, ho, _⟩ := hn
    exact hn'.at' fun o' e => k a o' (ne a o ho) e
  refine ⟨fun a o e => k a o (ne a o (x₁.1 a o e)) (x₃.1 a o e), ns x₁.2.1 x₃.2.1, ns x₁.2.2.1 x₃.2.2.1, ?_, fun P hP => ?_⟩
  · obtain ⟨mc, hn, hx⟩ := x₃.2.2.2.1
    obtain ⟨mc', hn', _⟩ := x₁.2.2.2.1
    exact ⟨mc, ns hn' hn, hx⟩
  · obtain ⟨ps, h1, h2⟩ := x₃.2.2.2.2 P hP
    obtain ⟨ps', h1', _⟩ := x₁.2.2.2.2 P hP
    exact ⟨ps, k P _ (ne P _ h1') h1, h2⟩

section
variable {Γ : Cx}
theorem gen_eval {W : Wd} {d : Nat} {elt iter : Expr} {x : Str} {px pos : Pos} {scope : Scope} {cl : List (Str × Addr)} {src : PV} {XS : List PV → Prop} {fr : Bool} {Fp : PV → Value → Prop} {s : Shared} {E : Value → Shared → Prop} {Q : Value → Shared → Prop}
    (hin : Γ.In W d) (o : Γ.Ok s) (hc : CodeT W Γ.env.code) (hb : BltM W) (hco : scope.isCoroutine = false) (hclos : closureFor scope Γ.env = pure cl) (hcell : ∀ y ∈ scope.names, y.2 ≠ .cell) (h0 : scope.names.lookup (".0" : Str) = some NameKind.local)
    (hx : scope.names.lookup x = some .local) (hkind : scope.kind = .function) (hi : Evals Γ fr iter src) (hsem : IterSem Γ.prog Γ.w Γ.T src XS)
    (helt : ∀ xs, XS xs → ∀ p ∈ xs, ∀ (A' : Around) (E' : Value → Shared → Prop) v (C : Addr) code (s₂ : Shared) m₂, A'.handled = none → A'.depth ≤ Γ.A.depth + 6 → A'.units ≤ Γ.A.units + 44 → VR s₂.heap (fun _ => True) p v → s₂.heap.Ns C m₂ → m₂ x = some v →
      (∀ b ob, tab ob = false → s.heap.get? b = some ob → s₂.heap.get? b = some ob) → W.I s₂.heap → wpAny Γ.M A' (eval elt (genEnv scope cl C code builtinsNs Γ.env)) (fun y s₃ => Fp p y ∧ Keeps s₂ s₃) E' s₂)
    (hQ : ∀ xs, XS xs → ∀ a fp wr g St s₅, K0 Γ.T s s₅ → GenRun Γ.prog Γ.w (Γ.A.depth + 5) (Γ.A.units + 40) s s₅ xs.length (fun j y => ∃ p, xs[j]? = some p ∧ Fp p y) a fp wr g St → Q (.ref a) s₅)
    (hs : ∀ x, genFold iter Γ.env x = pure x) : wpAny Γ.M Γ.A (eval (.GeneratorExp elt [⟨.Name x px, iter, [], 0⟩] scope pos) Γ.env) Q E s := by
  have hT := hin.T
  refine wpAny_GeneratorExp_make hco hclos hcell h0 hkind (by have := hin.room.2.1; omega) (wpAny_mono (hi E s o) (fun xv s₁ h₁ => ?_) fun _ _ e => e) hs
  obtain ⟨k₁, hv, _⟩ := h₁
  have o₁ := o.step k₁
  refine hsem Γ.A _ _ _ _ _ hv.live fun xs hxs I fp P St s₂ k₂ hI it => ?_
  have o₂ := o₁.step k₂
  have hI₂ := hin.I _ o₂.base
  refine ⟨hI₂.2.2.2.1, genCode_K (W := W) hI₂ hc fun code s₃ k₃ hsz hk₃ hg₃ => ?_⟩
  have k₃' : K0 Γ.T s₂ s₃ := by rw [hT]; exact k₃
  have o₃ := o₂.step k₃'
  have hI₃ := hin.I _ o₃.base
  obtain ⟨bm, ob, hm1, hm2, hm3, hm4, hm5, hm6⟩ := hb
  have hW := it.walks Γ.A Γ.hh
  have hst₃ : St 0 s₃.heap := hW.frame _ _ _ it.start fun b hb' o' e => by
    obtain ⟨o'', e', ht⟩ := it.sits 0 _ it.start b hb'
    rw [e] at e'; cases e'
    exact hk₃ b o' ht e
  have hII : s₂.heap.get? I ≠ none := fun q => by
    obtain ⟨o', e', _⟩ := it.isIt 0 _ it.start
    rw [q] at e'; cases e'
  have hIne : ∀ b ob', s₁.heap.get? b = some ob' → b ≠ I := fun b ob' e q => by subst q; rw [hI] at e; cases e
  have hfpl : ∀ b ∈ fp, b < s₃.heap.objs.size := fun b hb' => by
    obtain ⟨o', e', _⟩ := it.sits 0 _ hst₃ b hb'
    exact Heap.lt_size e'
  have hcw : cStatics ∉ [I] := by
    obtain ⟨mc, ⟨oc, es, ep, hoc, _⟩, _⟩ := (hin.I _ (o.step k₁).base).2.2.2.1
    simpa using hIne _ _ hoc
  have hq : ∀ href : Heap, (∀ b o, s₃.heap.get? b = some o → href.get? b = some o) → QuietGenD Γ.prog Γ.w (genEnv scope cl s₃.heap.objs.size code builtinsNs Γ.env) x [] elt (List.range s₃.heap.objs.size) [I] (fun i v => i < xs.length ∧ P i v) (fun _ => true) (fun i y => ∃ p, xs[i]? = some p ∧ Fp p y) href (Γ.A.depth + 6) (Γ.A.units + 44) := by
    intro href hkr
    refine ⟨fun A' E' i v s₄ m₂ hA hD hU hP hn hmx hkeep => wpAny_pure ⟨rfl, s₄.heap, s₄.toks, by cases s₄; rfl, fun _ _ e => e⟩, ?_⟩
    intro A' E' i v s₄ m₂ hA hD hU hP _ hn hmx hkeep
    obtain ⟨hi', hP⟩ := hP
    obtain ⟨p, hp, hpv⟩ := it.vals i v hi' hP
    have keep₁ : ∀ b ob', b ≠ I → s₃.heap.get? b = some ob' → s₄.heap.get? b = some ob' := fun b ob' hbI e =>
      hkeep b (List.mem_range.mpr (Heap.lt_size e)) (by simpa using hbI) ob' (hkr b ob' e)
    have keep₀ : ∀ b ob', tab ob' = false → s.heap.get? b = some ob' → s₄.heap.get? b = some ob' := fun b ob' ht e =>
      keep₁ b ob' (hIne b ob' (k₁.get e ht)) (k₃'.get (k₂.get (k₁.get e ht) ht) ht)
    have hI₄ : W.I s₄.heap := Wd.keep (hin.I _ o₁.base) hI hI₃ keep₁
    refine wpAny_mono (helt xs hxs p (List.mem_of_getElem? hp) A' E' v s₃.heap.objs.size code s₄ m₂ hA hD hU ?_ hn hmx keep₀ hI₄) (fun y s₅ h₅ => ⟨⟨p, hp, h₅.1⟩, h₅.2⟩) fun _ _ e => e
    refine (hpv s₄ fun a o' hX e ht => ?_).mono (fun _ _ _ h _ => h) fun _ _ => trivial
    obtain ⟨o₁', e₁⟩ := Option.isSome_iff_exists.mp hX.2
    exact keep₁ a o' (hIne a o₁' e₁) (k₃'.get e ht)
  refine wpAny_builtinsFor (by rw [Γ.hg]; exact hI₃.2.1) hm1 hm2 (hI₃.1 _ _ hm3) hm4 hm5 hm6 ?_
  intro h' hn' hs'
  have hhF : (free (Γ.A.depth + 5) (Γ.A.units + 40)).handled = none := rfl
  have hsz' : h'.objs.size = s₃.heap.objs.size + 1 := by rw [hs'.1, Heap.size_push]
  have keep' : ∀ b o, s₃.heap.get? b = some o → h'.get? b = some o := fun b o e => hs'.extBut b o (Nat.ne_of_lt (Heap.lt_size e)) (Heap.get?_push_of_some _ e)
  have hsub : ∀ b ∈ [I], b ∈ List.range s₃.heap.objs.size := fun b hb' => List.mem_range.mpr (hfpl b (hW.sub b hb'))
  have haC : h'.objs.size ≠ s₃.heap.objs.size := by rw [hsz']; exact Nat.succ_ne_self _
  have haf : h'.objs.size ∉ List.range s₃.heap.objs.size := fun hm => by have := List.mem_range.mp hm; rw [hsz'] at this; exact absurd (Nat.lt_of_succ_lt this) (Nat.lt_irrefl _)
  have keep₅ : ∀ b o, s₃.heap.get? b = some o → (h'.push { cls := .type "generator", data := .fields #[.int s₃.gens.size 0, .str "<genexpr>" (s₃.toks + 1), .str (Γ.env.qual ++ "<genexpr>") (s₃.toks + 1 + 1)] }).get? b = some o :=
    fun b o e => Heap.get?_push_of_some _ (keep' b o e)
  have hcs0 : cStatics ∈ List.range s₃.heap.objs.size := by
    obtain ⟨mc, hn, _⟩ := hI₃.2.2.2.1
    exact List.mem_range.mpr hn.lt
  have hclt : cStatics < s₃.heap.objs.size := List.mem_range.mp hcs0
  have Wk := WalksS.genexpQ (prog := Γ.prog) (w := Γ.w) (A := free (Γ.A.depth + 5) (Γ.A.units + 40)) hhF h'.objs.size s₃.gens.size s₃.heap.objs.size (List.range s₃.heap.objs.size) [I] (fun _ => true) xs.length (fun i y => ∃ p, xs[i]? = some p ∧ Fp p y) haC haf hsub (by have := hin.room.2.1; show Γ.A.depth + 5 < _; omega) hcs0 (Nat.ne_of_lt hclt) hcw
  have hG := GenAt.freshD (prog := Γ.prog) (w := Γ.w) (A := free (Γ.A.depth + 5) (Γ.A.units + 40)) (elt := elt) (iter := iter) (px := px) (pos := pos) (cenv := genEnv scope cl s₃.heap.objs.size code builtinsNs Γ.env) (m := fun y => if y = ".0" then some (.ref I) else none)
    (s := { s₃ with gens := s₃.gens.push (.fresh (.compStart (.GeneratorExp elt [⟨.Name x px, iter, [], 0⟩] scope pos) 0 (.ref I) .none (genEnv scope cl s₃.heap.objs.size code builtinsNs Γ.env))), toks := s₃.toks + 1 + 1 + 1, heap := h'.push { cls := .type "generator", data := .fields #[.int s₃.gens.size 0, .str "<genexpr>" (s₃.toks + 1), .str (Γ.env.qual ++ "<genexpr>") (s₃.toks + 1 + 1)] } }) (a := h'.objs.size) (g := s₃.gens.size) hhF
    (fun A' hA => (PySem.Walks.bound (it.walks A' hA)).mono_fp fun b hb => List.mem_range.mpr (hfpl b hb)) (fun _ => true) (fun i y => ∃ p, xs[i]? = some p ∧ Fp p y) hx (by simp [genEnv, hkind]) hco
    (fun hm => Nat.lt_irrefl _ (List.mem_range.mp hm)) (hq _ keep₅) ⟨_, _, _, Heap.get?_push_size _ rfl, rfl, rfl, rfl⟩ (Array.getElem?_push_size ..) (hW.frame _ _ _ hst₃ fun b _ o e => keep₅ b o e) (hn'.push _) (hI₃.2.2.2.1.keeps keep₅)
  revert hG
  have hbare : (GenState.fresh (.compStart (.GeneratorExp elt [⟨.Name x px, iter, [], 0⟩] scope pos) 0 (.ref I) .none (genEnv scope cl s₃.heap.objs.size code builtinsNs Γ.env))).bare = true := rfl
  revert hbare
  generalize GenState.fresh (.compStart (.GeneratorExp elt [⟨.Name x px, iter, [], 0⟩] scope pos) 0 (.ref I) .none (genEnv scope cl s₃.heap.objs.size code builtinsNs Γ.env)) = gs
  have ha : s₃.heap.objs.size < h'.objs.size := by rw [hsz']; exact Nat.lt_succ_self _
  have hz : (h'.push { cls := .type "generator", data := .fields #[.int s₃.gens.size 0, .str "<genexpr>" (s₃.toks + 1), .str (Γ.env.qual ++ "<genexpr>") (s₃.toks + 1 + 1)] }).objs.size = h'.objs.size + 1 := by rw [Heap.size_push]
  revert keep₅ hz
  generalize h'.push { cls := .type "generator", data := .fields #[.int s₃.gens.size 0, .str "<genexpr>" (s₃.toks + 1), .str (Γ.env.qual ++ "<genexpr>") (s₃.toks + 1 + 1)] } = h₅
  generalize s₃.toks + 1 + 1 + 1 = tk
  generalize h'.objs.size = a at *
  intro hkeep hz hbare hG
  have n1 : s.heap.get? s₃.heap.objs.size = none := none_of_K ((k₁.trans k₂).trans k₃') (get_size _)
  have nI : s.heap.get? I = none := none_of_K k₁ hI
  have hcs : cStatics ∈ List.range s₃.heap.objs.size := by
    obtain ⟨mc, hn, _⟩ := hI₃.2.2.2.1
    exact List.mem_range.mpr hn.lt
  have kk : K0 Γ.T s { s₃ with gens := s₃.gens.push gs, toks := tk, heap := h₅ } := by
    refine ((k₁.trans k₂).trans k₃').trans ⟨fun b ob _ e _ => hkeep b ob e, fun b hb' => ?_, fun b ob e _ => .inl (hkeep b ob e), fun i y _ h => ?_, by show s₃.gens.size ≤ (s₃.gens.push gs).size; rw [Array.size_push]; omega, fun h => h.push hbare, rfl, rfl⟩
    · obtain ⟨ob', e'⟩ := Option.isSome_iff_exists.mp hb'
      show (h₅.get? b).isSome = true
      rw [hkeep b ob' e']; rfl
    · show (s₃.gens.push gs)[i]? = some y
      obtain ⟨hlt, _⟩ := Array.getElem?_eq_some_iff.mp h
      rw [Array.getElem?_push_lt hlt]
      rw [Array.getElem?_eq_getElem hlt] at h
      exact h
  have gs0 : s.gens.size ≤ s₃.gens.size := ((k₁.trans k₂).trans k₃').gsz
  rw [passing_all, List.length_range] at Wk
  refine hQ xs hxs a (a :: s₃.heap.objs.size :: List.range s₃.heap.objs.size) (s₃.heap.objs.size :: [I]) s₃.gens.size _ _ kk ⟨⟨Wk.sub, Wk.grefl, Wk.gtrans, Wk.frame, fun i s Q E hi st hq => Wk.item i s Q E hi st fun v s' hP => ?_, Wk.done, Wk.self⟩, hG, fun b hb' => ?_, gs0, fun b hb' => ?_, fun j s s' st hk hg => ?_, fun j s st => st.1.typeIs, ?_⟩
  · obtain ⟨i', hi', p, hp, hF⟩ := hP
    have : i' = i := by
      rw [List.getElem?_range hi] at hi'; exact (Option.some.inj hi').symm
    subst this
    exact hq v s' ⟨p, hp, hF⟩
  · rcases List.mem_cons.mp hb' with rfl | hb'
    · exact n1
    · rw [List.mem_singleton.mp hb']; exact nI
  · show b < h₅.objs.size
    rw [hz]
    rcases List.mem_cons.mp hb' with rfl | hb'
    · exact Nat.lt_succ_self _
    · rcases List.mem_cons.mp hb' with rfl | hb'
      · exact Nat.lt_succ_of_lt ha
      · exact Nat.lt_succ_of_lt (Nat.lt_trans (List.mem_range.mp hb') ha)
  · exact GenAt.frameG st hcs hk hg
  · refine none_of_K ((k₁.trans k₂).trans k₃') (Heap.get?_none_of_le (Nat.le_of_lt ha))
end
end Mine

set_option maxHeartbeats 1000000
namespace Mine
open PySem PySem.Calls PyProof.Rows PyProof PySem.W

def genOK (scope : Scope) (x : Str) (cells : List (Str × Addr)) : Bool :=
  (scope.isCoroutine == false) && decide (scope.kind = .function) && (scope.names.lookup (".0" : Str) == some NameKind.local) && (scope.names.lookup x == some .local) && scope.names.all (fun p => p.2 != .cell) && scope.names.all (fun p => p.2 != .free || (cells.lookup p.1).isSome)
structure GenOK (scope : Scope) (x : Str) (env : Env) : Prop where
  co : scope.isCoroutine = false
  kind : scope.kind = .function
  zero : scope.names.lookup (".0" : Str) = some NameKind.local
  var : scope.names.lookup x = some .local
  cell : ∀ y ∈ scope.names, y.2 ≠ .cell
  clos : closureFor scope env = pure (clOf env.cells scope.names [])
theorem GenOK.of {scope : Scope} {x : Str} {env : Env} (h : genOK scope x env.cells = true) : GenOK scope x env := by
  unfold genOK at h
  simp only [Bool.and_eq_true, decide_eq_true_eq, beq_iff_eq, List.all_eq_true, bne_iff_ne, ne_eq, Bool.or_eq_true] at h
  obtain ⟨⟨⟨⟨⟨h1, h2⟩, h3⟩, h4⟩, h5⟩, h6⟩ := h
  exact ⟨h1, h2, h3, h4, fun y hy => h5 y hy, closureFor_is fun p hp e => (h6 p hp).resolve_left fun q => q e⟩

section
variable {Γ : Cx}
/-- an element of a generator -/
def EltSem (Γ : Cx) (W : Wd) (s : Shared) (scope : Scope) (x : Str) (elt : Expr) (p : PV) (F : Value → Prop) : Prop :=
  ∀ (A' : Around) (E' : Value → Shared → Prop) v (C : Addr) code (s₂ : Shared) m₂, A'.handled = none → A'.depth ≤ Γ.A.depth + 6 → A'.units ≤ Γ.A.units + 44 → VR s₂.heap (fun _ => True) p v → s₂.heap.Ns C m₂ → m₂ x = some v →
      (∀ b ob, tab ob = false → s.heap.get? b = some ob → s₂.heap.get? b = some ob) → W.I s₂.heap → wpAny Γ.M A' (eval elt (genEnv scope (clOf Γ.env.cells scope.names []) C code builtinsNs Γ.env)) (fun y s₃ => F y ∧ Keeps s₂ s₃) E' s₂

theorem gen_arg {W : Wd} {d : Nat} {elt iter : Expr} {x f : Str} {np px gpos pos : Pos} {scope : Scope} {src : PV} {XS : List PV → Prop} {fr : Bool} {fv : Value} {Fp : PV → Value → Prop} {s : Shared} {E : Value → Shared → Prop} {Q : Value → Shared → Prop}
    (hin : Γ.In W d) (o : Γ.Ok s) (g : Γ.Glob f fv) (hc : CodeT W Γ.env.code) (hb : BltM W) (G : GenOK scope x Γ.env) (hi : Evals Γ fr iter src) (hsem : IterSem Γ.prog Γ.w Γ.T src XS)
    (helt : ∀ xs, XS xs → ∀ p ∈ xs, EltSem Γ W s scope x elt p (Fp p))
    (hf : ∀ args : List (Bool × Sem Value), args.any (·.1) = false → ∀ (Q' : Value → Shared → Prop), wpAny Γ.M Γ.A (spliced args) (fun vs s' => wpAny Γ.M Γ.A (call fv vs) Q' E s' ∧ W.I s'.heap) E s → wpAny Γ.M Γ.A (callWith pos fv [] args []) Q' E s)
    (hQ : ∀ xs, XS xs → ∀ a fp wr g St s₅, K0 Γ.T s s₅ → GenRun Γ.prog Γ.w (Γ.A.depth + 5) (Γ.A.units + 40) s s₅ xs.length (fun j y => ∃ p, xs[j]? = some p ∧ Fp p y) a fp wr g St → wpAny Γ.M Γ.A (call fv [.ref a]) Q E s₅)
    (hs : ∀ x, genFold iter Γ.env x = pure x) (hd : (f == ("__debug__" : Str)) = false := by decide) :
    wpAny Γ.M Γ.A (eval (.Call (.Name f np) [.GeneratorExp elt [⟨.Name x px, iter, [], 0⟩] scope gpos] [] pos) Γ.env) Q E s := by
  refine wpAny_Call_NameR (glob_name g o ?_ hd)
  refine hf _ (by rw [any_backTo]; rfl) _ ?_
  refine spliced_cons (x := eval (.GeneratorExp elt [⟨.Name x px, iter, [], 0⟩] scope gpos) Γ.env) (rest := backTo pos []) ?_
  refine gen_eval hin o hc hb G.co G.clos G.cell G.zero G.var G.kind hi hsem helt (fun xs hxs a fp wr g' St s₅ k R => ?_) hs
  exact spliced_nil ⟨hQ xs hxs a fp wr g' St s₅ k R, hin.I _ (o.step k).base⟩

theorem Evals.allGen {W : Wd} {d : Nat} {elt iter : Expr} {x : Str} {np px gpos pos : Pos} {scope : Scope} {src : PV} {XS : List PV → Prop} {fr : Bool}
    (hin : Γ.In W d) (g : Γ.Glob "all" (.builtin "all")) (hc : CodeT W Γ.env.code) (hb : BltM W) (G : GenOK scope x Γ.env) (hi : Evals Γ fr iter src) (hsem : IterSem Γ.prog Γ.w Γ.T src XS)
    (helt : ∀ s, Γ.Ok s → ∀ xs, XS xs → ∀ p ∈ xs, EltSem Γ W s scope x elt p (· = .bool true)) (hs : ∀ x, genFold iter Γ.env x = pure x := by intro _; rfl) :
    Evals Γ true (.Call (.Name "all" np) [.GeneratorExp elt [⟨.Name x px, iter, [], 0⟩] scope gpos] [] pos) (.bool true) := fun E s o => by
  refine gen_arg (Fp := fun _ y => y = .bool true) hin o g hc hb G hi hsem (helt s o) (fun args ha Q' h => callWith_builtin ha (evalArgs_all ha (wpAny_mono h (fun _ _ z => z.1) fun _ _ z => z))) (fun xs hxs a fp wr g' St s₅ k R => ?_) hs
  refine PySem.call_all_walkS ?_
  have W1 := walksAt (A := Γ.A.in1) R.walks Γ.hh (Nat.le_add_right _ 5) (by show Γ.A.units + 1 ≤ _; omega)
  refine W1.self 0 _ _ _ R.start ⟨a, fp, wr, _, xs.length, _, St, fun _ => true, rfl, W1, R.start, fun i v s Q E hP hq => ?_, fun s' hm => ?_⟩
  · obtain ⟨p, _, rfl⟩ := hP
    exact wpAny_truthy_bool hq
  · have e : (List.range xs.length).all (fun _ => true) = true := by simp
    rw [e]
    exact ⟨k.moved hm R.wrNew R.gNew, .bool _, fun _ _ h => nomatch h⟩

theorem Evals.anyGen {W : Wd} {d : Nat} {elt iter : Expr} {x : Str} {np px gpos pos : Pos} {scope : Scope} {src : PV} {XS : List PV → Prop} {fr : Bool}
    (hin : Γ.In W d) (g : Γ.Glob "any" (.builtin "any")) (hc : CodeT W Γ.env.code) (hb : BltM W) (G : GenOK scope x Γ.env) (hi : Evals Γ fr iter src) (hsem : IterSem Γ.prog Γ.w Γ.T src XS)
    (helt : ∀ s, Γ.Ok s → ∀ xs, XS xs → ∀ p ∈ xs, EltSem Γ W s scope x elt p (· = .bool false)) (hs : ∀ x, genFold iter Γ.env x = pure x := by intro _; rfl) :
    Evals Γ true (.Call (.Name "any" np) [.GeneratorExp elt [⟨.Name x px, iter, [], 0⟩] scope gpos] [] pos) (.bool false) := fun E s o => by
  refine gen_arg (Fp := fun _ y => y = .bool false) hin o g hc hb G hi hsem (helt s o) (fun args ha Q' h => callWith_builtin ha (evalArgs_all ha (wpAny_mono h (fun _ _ z => z.1) fun _ _ z => z))) (fun xs hxs a fp wr g' St s₅ k R => ?_) hs
  refine PySem.call_any_walkS ?_
  have W1 := walksAt (A := Γ.A.in1) R.walks Γ.hh (Nat.le_add_right _ 5) (by show Γ.A.units + 1 ≤ _; omega)
  refine W1.self 0 _ _ _ R.start ⟨a, fp, wr, _, xs.length, _, St, fun _ => false, rfl, W1, R.start, fun i v s Q E hP hq => ?_, fun s' hm => ?_⟩
  · obtain ⟨p, _, rfl⟩ := hP
    exact wpAny_truthy_bool hq
  · have e : (List.range xs.length).any (fun _ => false) = false := by simp
    rw [e]
    exact ⟨k.moved hm R.wrNew R.gNew, .bool _, fun _ _ h => nomatch h⟩
end

section
variable {Γ : Cx}
/-- cand >= 0 -/
theorem elt_ge0 {W : Wd} {s : Shared} {scope : Scope} {x : Str} {n : Int} {p1 pos : Pos} {k : Nat} {cp : Pos} (hk : scope.kind = .function) (hx : scope.names.lookup x = some .local) (hn : 0 ≤ n) (hd : (x == ("__debug__" : Str)) = false := by decide) (hc : (x == ("__classdict__" : Str)) = false := by decide) :
    EltSem Γ W s scope x (.Compare (.Name x p1) [.GtE] [.Constant (.int 0) k cp] pos) (.int n) (· = .bool true) := fun A' E' v C code s₂ m₂ hA hD hU hv hns hm hkp hI => by
  cases hv with
  | int _ t =>
  refine wpAny_Compare1 ?_ rfl
  refine wpAny_Name (wpAny_loadName_local hk hx hns hm ?_) hd
  refine wpAny_Constant_int ?_
  refine ge_int ⟨by simp [hn], s₂.heap, _, rfl, fun _ _ e => e⟩

/-- what a generator sees of its function -/
theorem free_cell {env : Env} {scope : Scope} {h : Heap} {y : Str} {v : Value} (hv : VarAt env h y v) (hk : env.kindOf y = some .cell) (hf : (y, NameKind.free) ∈ scope.names) : ∃ c, (clOf env.cells scope.names []).lookup y = some c ∧ h.IsCell c (some v) := by
  rcases hv with ⟨h1, _⟩ | ⟨_, c, h2, h3⟩
  · rw [hk] at h1; cases h1
  · refine ⟨c, ?_, h3⟩
    rw [clOf_lookup env.cells y scope.names [] (.inr hf) (fun c h => by cases h), h2]; rfl

/-- cand >= num_cand, with num_cand the function's own cell -/
theorem elt_lt {W : Wd} {s : Shared} {scope : Scope} {x y : Str} {n N : Int} {p1 p2 pos : Pos} (o : Γ.Ok s) (hk : scope.kind = .function) (hx : scope.names.lookup x = some .local) (hyk : Γ.env.kindOf y = some .cell) (hyf : scope.names.lookup y = some .free) (hy : Γ.ρ.lookup y = some (.int N)) (hn : n < N)
    (hd : (x == ("__debug__" : Str)) = false := by decide) (hd2 : (y == ("__debug__" : Str)) = false := by decide) (hc2 : (y == ("__classdict__" : Str)) = false := by decide) :
    EltSem Γ W s scope x (.Compare (.Name x p1) [.GtE] [.Name y p2] pos) (.int n) (· = .bool false) := fun A' E' v C code s₂ m₂ hA hD hU hv hns hm hkp hI => by
  cases hv with
  | int _ t =>
  obtain ⟨u, hu, hua⟩ := o.vars y _ hy
  cases hu with
  | int _ tu =>
  obtain ⟨c, hl, oc, hoc, hdc⟩ := free_cell hua hyk (names_at hyf)
  have hcell : s₂.heap.IsCell c (some (.int N tu)) := ⟨oc, hkp c oc (tab_cell hdc) hoc, hdc⟩
  refine wpAny_Compare1 ?_ rfl
  refine wpAny_Name (wpAny_loadName_local hk hx hns hm ?_) hd
  refine wpAny_Name (wpAny_loadName_free hk hyf hl hcell ?_ hc2) hd2
  refine ge_int ⟨by simp; omega, s₂.heap, _, rfl, fun _ _ e => e⟩
end
end Mine

set_option maxHeartbeats 1000000
namespace Mine
open PySem PySem.Calls PyProof.Rows PyProof PySem.W

/-- a value that is the frame's own, all of it -/
def Own.val (nm : Str) (pv : PV) : Own where
  name := nm
  pv := pv
  P := fun h v D => VR h D pv v ∧ ∀ b, D b → ∃ o, h.get? b = some o ∧ tab o = false
  read := fun h v D x => x.1
  loc := fun h h' v D hk ⟨x, l⟩ => ⟨x.mono (fun b o hb e ht => hk b o hb e ht) fun _ h => h, fun b hb => by
    obtain ⟨o, ho, ht⟩ := l b hb
    exact ⟨o, hk b o hb ho ht, ht⟩⟩
  live := fun h v D ⟨_, l⟩ b hb => by
    obtain ⟨o, ho, _⟩ := l b hb
    rw [ho]; rfl

section
variable {F : Fm} {σ σ' : St} {D : Addr → Prop} {s s₁ s' : Shared} {x : Str} {v : Value} {a : Addr}

/-- x = e, e wholly new: x is the frame's own -/
theorem Exec.assignNew {px pos : Pos} {e : Expr} {pv : PV} (he : NewVal F σ e pv) (hx : varKind F.env x = true) (hf : emptyOf σ x = true) (hs : swapsWith e (some (.Name x px)) pos.line F.env = pure false) :
    Exec F σ (.Assign [.Name x px] e pos) (.next ⟨σ.ρ, some (Own.val x pv), σ.pins⟩) := fun E D s o => by
  obtain ⟨hp, hr⟩ := emptyOf.of hf
  refine wpAny_Assign_Name (wpAny_mono (he E D s o) (fun v s₁ h₁ => ?_) fun _ _ e => e) hs
  obtain ⟨k, hv⟩ := h₁
  refine Stored.of (o.step k) (varKind.of hx) fun a s' st => ⟨_, Stored.owned (w := Own.val x pv) (D₂ := fun b => s.heap.get? b = none ∧ ∃ ob, s₁.heap.get? b = some ob ∧ tab ob = false) o (st.before k) ⟨?_, ?_⟩ (fun b hb => hb.1) hp hr⟩
  · have ne : ∀ b, s.heap.get? b = none → b ≠ a := fun b hb q => by
      have := o.frL st.fr
      rw [← q, hb] at this; cases this
    exact hv.firm.mono (fun b ob hb e ht => st.kp.keep _ _ (ne b hb.1) e ht) fun _ h => h
  · rintro b ⟨hb, ob, e, ht⟩
    refine ⟨ob, st.kp.keep _ _ (fun q => ?_) e ht, ht⟩
    have := o.frL st.fr
    rw [← q, hb] at this; cases this

/-- what is the frame's own from now on is there for all to read -/
theorem Fm.Ok.freeze {ρ : List (Str × PV)} {w : Own} {pins : List (Str × Value)} (o : F.Ok ⟨ρ, some w, pins⟩ D s) : F.Ok ⟨(w.name, w.pv) :: ρ, none, pins⟩ No s where
  k0 := o.k0
  frF := o.frF
  ns := o.ns
  cells := o.cells
  vars := fun x pv e => by
    have e : ((w.name, w.pv) :: ρ).lookup x = some pv := e
    rw [List.lookup_cons] at e
    by_cases q : x = w.name
    · subst q
      simp at e; subst e
      obtain ⟨v, a, b⟩ := o.own
      exact ⟨v, (w.read _ _ _ a).mono (fun _ _ _ h _ => h) fun b hb => let ⟨p, q, r⟩ := o.dF b hb; ⟨.inr p, fun h => h.elim q fun h => h.elim⟩, b⟩
    · have q' : (x == w.name) = false := by simpa using q
      rw [q'] at e
      obtain ⟨v, a, b⟩ := o.vars x pv e
      exact ⟨v, a.mono (fun _ _ _ h _ => h) fun b h => ⟨h.1, fun q => h.2 (q.imp id fun h => h.elim)⟩, b⟩
  own := fun _ h => h
  pins := o.pins
  dF := fun b h => h.elim
theorem Execs.freeze {ρ : List (Str × PV)} {w : Own} {pins : List (Str × Value)} {st : List Stmt} {out : Out} (h : Execs F ⟨(w.name, w.pv) :: ρ, none, pins⟩ st out) : Execs F ⟨ρ, some w, pins⟩ st out := fun E D s o =>
  wpAny_mono (h E No s o.freeze) (fun f s' h' => by
    cases out with
    | next σ' => cases f with
      | next => obtain ⟨D', g⟩ := h'; exact ⟨D', g.more fun _ h => h.elim⟩
      | _ => exact h'.elim
    | cont σ' => cases f with
      | cont => obtain ⟨D', g⟩ := h'; exact ⟨D', g.more fun _ h => h.elim⟩
      | _ => exact h'.elim
    | ret pv => cases f with
      | ret v => exact ⟨h'.1.mono (fun b q => q.imp id fun h => h.elim) fun _ h => h, h'.2⟩
      | _ => exact h'.elim) fun _ _ e => e

/-- statements that give back what is new, all of it -/
def ExecsR (F : Fm) (σ : St) (st : List Stmt) (pv : PV) : Prop := ∀ (E : Value → Shared → Prop) D s, F.Ok σ D s → wpAny F.M F.A (execs st F.env) (fun f s' => ∃ v, f = .ret v ∧ Kp F.T (F.Mut D) No s s' ∧ VR s'.heap (fun b => F.s₀.heap.get? b = none) pv v) E s

theorem Kp.goesOn {T : Addr → Prop} {D₁ : Addr → Prop} {σ₁ : St} {s₂ : Shared} (g : Goes F σ₁ D s D₁ s₁) (k : Kp F.T (F.Mut D₁) No s₁ s₂) : Kp F.T (F.Mut D) No s s₂ :=
  g.kp.comp k fun b hb => by
    rcases hb with hb | hb
    · exact .inl (.inl hb)
    · exact (g.new b hb).imp .inr id
theorem ExecsR.cons {st : Stmt} {rest : List Stmt} {σ₁ : St} {pv : PV} (h : Exec F σ st (.next σ₁)) (h' : ExecsR F σ₁ rest pv) : ExecsR F σ (st :: rest) pv := fun E D s o => by
  refine wpAny_execs_cons (wpAny_mono (h E D s o) (fun f s₁ h₁ => ?_) fun _ _ e => e)
  cases f with
  | next =>
    obtain ⟨D₁, g⟩ := h₁
    refine wpAny_mono (h' E D₁ s₁ g.ok) (fun f s₂ h₂ => ?_) fun _ _ e => e
    obtain ⟨v, rfl, k, hv⟩ := h₂
    exact ⟨v, rfl, Kp.goesOn (T := F.T) g k, hv⟩
  | _ => exact h₁.elim
theorem ExecsR.retOwn {ρ : List (Str × PV)} {w : Own} {pins : List (Str × Value)} {np rp : Pos} (hd : (w.name == ("__debug__" : Str)) = false := by decide) (hc : (w.name == ("__classdict__" : Str)) = false := by decide) :
    ExecsR F ⟨ρ, some w, pins⟩ [.Return (some (.Name w.name np)) rp] w.pv := fun E D s o => by
  obtain ⟨v, hv, hva⟩ := o.own
  refine wpAny_execs_cons (wpAny_Return_some (load_own hva ?_ hd hc))
  exact ⟨v, rfl, Kp.refl, (w.read _ _ _ hv).mono (fun _ _ _ h _ => h) fun b hb => (o.dF b hb).1⟩
end

/-- a function that gives back what is new is called -/
theorem fcontract_of {W : Wd} {a : Addr} {fd : FuncData} {body : List Stmt} {d : Nat} {xs : List Str} {ps kps dps : List PV} {ks : List Str} {res : PV} (fn : FnK W a fd) (hbody : fd.body = .stmts body) (hsc : scopeOK fd.scope = true) (hbs : bindsOK fd.scope xs = true) (hk : fd.scope.kind = .function)
    (hbind : ∀ (s : Shared) (vs kvs : List Value), W.I s.heap → vs.length = ps.length → kvs.length = kps.length → ∃ dvs, BindsTo s fd ⟨vs, ks.zip kvs⟩ (xs.zip (vs ++ kvs ++ dvs)) ∧ VRs s.heap No dps dvs)
    (run : ∀ A hA L s X hI ok, Room A d → ExecsR (frameFrom W A hA fd a L s X hI hk fn.glob fn.blt ok) ⟨xs.zip (ps ++ kps ++ dps), none, []⟩ body res) : FContract W a d ps ks kps res := fun A E X s vs kvs hr hI hv hkv => by
  obtain ⟨dvs, hb, hd⟩ := hbind s vs kvs hI hv.length hkv.length
  have all : VRs s.heap (fun b => X b ∧ (s.heap.get? b).isSome = true) (ps ++ kps ++ dps) (vs ++ kvs ++ dvs) := ((hv.append hkv).append (hd.mono (fun _ _ h => h.elim) fun _ h => h.elim)).live.mono (fun _ _ _ h _ => h) fun _ h => h
  refine enterW (s₀ := s) (σ := ⟨xs.zip (ps ++ kps ++ dps), none, []⟩) (D := No) (Xc := X) fn hbody hsc hbs hk hr Kp.refl hI hb (fun b h => h.elim) (fun y pv e => ?_) (fun _ h => h) (fun x v e => by cases e) fun ok s₁ E' okF kk frs => ?_
  · obtain ⟨v, h1, h2⟩ := all.zip e
    exact ⟨v, h1, h2.mono (fun _ _ _ h _ => h) fun b hb => ⟨.inl hb.1, fun h => h⟩⟩
  · refine wpAny_mono (run A hr.1 _ s X hI ok hr E' No s₁ okF) (fun f s₂ h₂ => ?_) fun _ _ e => e
    obtain ⟨v, rfl, k, hv⟩ := h₂
    refine ⟨kk.fresh k fun b h => ?_, hv⟩
    rcases h with h | h
    · exact frs b h
    · exact h.elim
end Mine

set_option maxHeartbeats 1000000
namespace Mine
open PySem PySem.Calls PyProof.Rows PyProof PySem.W

theorem layS_perm (t : SetTable) (sk : List Int) (n : Int) : (layS t sk n).1.Perm (n :: sk) := by
  unfold layS
  split
  · dsimp only
    refine List.perm_middle.trans ?_
    rw [List.take_append_drop]
  · exact List.perm_append_singleton n sk
theorem relayS_perm (t : SetTable) (sk : List Int) (wanted : Nat) : (relayS t sk wanted).1.Perm sk := by
  unfold relayS
  split
  · rename_i t' order _
    split
    · rename_i hc
      simp only [coversAll, Bool.and_eq_true] at hc
      have hp : List.Perm order.toList (List.range sk.length) := List.isPerm_iff.mp hc.1
      have := hp.filterMap (sk[·]?)
      rw [List.filterMap_getElem?_range_length] at this
      exact this
    · exact .rfl
  · exact .rfl
theorem addS_perm {st : SK} {n : Int} (h : n ∉ st.1) : (addS st n).1.Perm (n :: st.1) := by
  unfold addS
  rw [if_neg (by simpa using h)]
  split
  · exact (relayS_perm _ _ _).trans (layS_perm _ _ _)
  · exact layS_perm _ _ _
theorem runS_perm : ∀ (ns : List Int) (st : SK), ns.Nodup → (∀ n ∈ ns, n ∉ st.1) → (runS st ns).1.Perm (ns ++ st.1)
  | [], st, _, _ => .rfl
  | n :: ns, st, hd, hn => by
    rw [List.nodup_cons] at hd
    have h1 := addS_perm (hn n (.head _))
    have h2 := runS_perm ns (addS st n) hd.2 fun m hm q => by
      rcases List.mem_cons.mp (h1.mem_iff.mp q) with rfl | q
      · exact hd.1 hm
      · exact hn m (.tail _ hm) q
    show (runS (addS st n) ns).1.Perm _
    refine h2.trans ((List.Perm.append_left ns h1).trans ?_)
    exact List.perm_middle
theorem runS_perm0 {ns : List Int} (f : SetTable) (h : ns.Nodup) : (runS ([], f) ns).1.Perm ns := by
  have := runS_perm ns ([], f) h fun _ _ => by simp
  simpa using this

/-- a thing that a CandidateSet can be made of -/
structure CanSrc (W : Wd) (cv : PV) (XS : List PV → Prop) (k : Nat) (sk : List Int) (t : SetTable) : Prop where
  iter : IterSem W.prog W.w W.T cv XS
  len : ∀ (A : Around) (E : Value → Shared → Prop) (X : Addr → Prop) (v : Value) (s : Shared) (Q : Value → Shared → Prop), VR s.heap X cv v → (∀ s' tok, K0 W.T s s' → Q (.int k tok) s') → wpAny (model W.prog W.w) A (call (.builtin "len") [v]) Q E s
  set : ∀ (A : Around) (E : Value → Shared → Prop) (X : Addr → Prop) (v : Value) (s : Shared) (Q : Value → Shared → Prop), A.handled = none → VR s.heap X cv v → (∀ s' a, K0 W.T s s' → s.heap.get? a = none → (∃ o, s'.heap.get? a = some o ∧ SetIs sk t o) → Q (.ref a) s') → wpAny (model W.prog W.w) A (call (.type "set") [v]) Q E s
  size : sk.length = k
  small : k < 1000

theorem len_setIs {W : Wd} {sk : List Int} {t : SetTable} (hz : sk.length < 4000) : ∀ (A : Around) (E : Value → Shared → Prop) (X : Addr → Prop) (v : Value) (s : Shared) (Q : Value → Shared → Prop), VR s.heap X (.obj (SetIs sk t)) v → (∀ s' tok, K0 W.T s s' → Q (.int sk.length tok) s') → wpAny (model W.prog W.w) A (call (.builtin "len") [v]) Q E s := fun A E X v s Q hv h => by
  cases hv with
  | obj hX ho ht hi hP =>
    obtain ⟨hex, es, ep, hd, he, hf⟩ := hP
    refine call_len_set ho hex hd (by rw [he.size]; exact hf) (by rw [he.size]; omega) ?_
    rw [he.size]
    exact h _ _ K0.toks_

theorem canSrc_list {W : Wd} {ns : List Int} (hn : ns.Nodup) (hz : ns.length < 1000) : CanSrc W (.list (ns.map .int)) (· = ns.map .int) ns.length (runS ([], fresh0 W.w) ns).1 (runS ([], fresh0 W.w) ns).2 where
  iter := IterSem.seq rfl trivial
  len := fun A E X v s Q hv h => by
    obtain ⟨a, us, rfl, _, hl, hus⟩ := hv.isList
    have e : us.toArray.size = ns.length := by rw [List.size_toArray, hus.length, List.length_map]
    exact Calls.call_len_list hl (by rw [e]; omega) (by rw [e]; exact h _ _ K0.toks_)
  set := fun A E X v s Q hA hv h => by
    obtain ⟨a, us, rfl, _, hl, hus⟩ := hv.isList
    refine call_setL hA hl hus.ints hz fun h' tk o hk ho hx => h _ _ (K0.of_keep hk) (get_size _) ⟨o, ho, hx⟩
  size := (runS_perm0 _ hn).length_eq
  small := hz

theorem canSrc_set {W : Wd} {sk sk' : List Int} {t t' : SetTable} (g : GoodS W.w sk t) (hz : sk.length < 1000) (hc : copyS (fresh0 W.w) sk t = some (sk', t')) (hf : t'.fits sk'.length = true) (hl : sk'.length = sk.length) : CanSrc W (.obj (SetIs sk t)) (fun xs => ∃ order : List Int, xs = order.map PV.int ∧ (∀ m ∈ order, m ∈ sk) ∧ order.length = sk.length) sk.length sk' t' where
  iter := IterSem.set g
  len := len_setIs (by omega)
  set := fun A E X v s Q hA hv h => by
    cases hv with
    | obj hX ho ht hi hP =>
      exact call_setS ho hP (by have : scanBound = 4096 := rfl; omega) hc hf fun h' o hk ho' hx => h { s with heap := h' } _ (K0.of_keep (tk := s.toks) hk) (get_size _) ⟨o, ho', hx⟩
  size := hl
  small := hz
end Mine

set_option maxHeartbeats 1000000
namespace Mine
open PySem PySem.Calls PyProof.Rows PyProof PySem.W

structure Lay10 (W : Wd) extends Lay9 W where
  set : W.mg "set" = none ∧ W.mb "set" = some (.type "set")
  all : W.mg "all" = none ∧ W.mb "all" = some (.builtin "all")
  any : W.mg "any" = none ∧ W.mb "any" = some (.builtin "any")
  blt : BltM W
  aCS : Addr
  rCS : Rest
  tCS : Addr
  gCS : W.mg "CandidateSet" = some (.ref aCS)
  fCS : FnK W aCS (fdOf (stmtAt 10) (.ref tCS) rCS)
  dCS : ∃ o n e, W.K.lookup tCS = some o ∧ o.data = .seq #[e, .none] n
  cCS : CodeT W rCS.cdv

section
variable {Γ : Cx}
theorem CmpSem.intIsNotNone {n : Int} : CmpSem Γ .IsNot (.int n) .none true := fun X a b Q E s hx hy h => by
  cases hx; cases hy
  exact wpAny_isNot_other rfl (by simp) (h _ Kp.refl)

theorem Evals.lenOf {W : Wd} {d : Nat} {np pos : Pos} {e : Expr} {p : PV} {k : Nat} {fr : Bool} (hin : Γ.In W d) (g : Γ.Glob "len" (.builtin "len"))
    (hl : ∀ (A : Around) (E : Value → Shared → Prop) (X : Addr → Prop) (v : Value) (s : Shared) (Q : Value → Shared → Prop), VR s.heap X p v → (∀ s' tok, K0 W.T s s' → Q (.int k tok) s') → wpAny (model W.prog W.w) A (PySem.call (.builtin "len") [v]) Q E s)
    (he : Evals Γ fr e p) (hc : starEach [e] Γ.env = (false, eval e Γ.env) :: starEach [] Γ.env := by rfl) : Evals Γ true (.Call (.Name "len" np) [e] [] pos) (.int k) := fun E s o =>
  call_builtin g o (EvalsL.cons he .nil hc) (fun vs s₁ k₁ hv => by
    match vs, hv with
    | [v], .cons hv .nil =>
      have eM : Γ.M = model W.prog W.w := by unfold Cx.M; rw [hin.prog, hin.w]
      rw [eM]
      exact hl _ _ _ _ _ _ hv fun s' tok k' => ⟨k₁.trans (by rw [hin.T]; exact k'), .int _ _, fun _ _ h => nomatch h⟩) (by rw [hc]; rfl)

theorem EvalsN.setOf {W : Wd} {d : Nat} {np pos : Pos} {e : Expr} {p : PV} {k : Nat} {sk : List Int} {t : SetTable} {XS : List PV → Prop} {fr : Bool} (hin : Γ.In W d) (g : Γ.Glob "set" (.type "set")) (S : CanSrc W p XS k sk t)
    (he : Evals Γ fr e p) (hc : starEach [e] Γ.env = (false, eval e Γ.env) :: starEach [] Γ.env := by rfl) : EvalsN Γ (.Call (.Name "set" np) [e] [] pos) (.obj (SetIs sk t)) := fun E s o =>
  call_type g o (EvalsL.cons he .nil hc) (fun vs s₁ k₁ hv => by
    match vs, hv with
    | [v], .cons hv .nil =>
      have eM : Γ.M = model W.prog W.w := by unfold Cx.M; rw [hin.prog, hin.w]
      rw [eM]
      refine S.set _ _ _ _ _ _ Γ.hh hv fun s' a k' ha hx => ?_
      obtain ⟨o', ho, hx⟩ := hx
      have k' : K0 Γ.T s₁ s' := by rw [hin.T]; exact k'
      exact ⟨k₁.trans k', .obj (none_of_K k₁ ha) ho hx.tab hx.it hx⟩) (by rw [hc]; rfl)
end

/-- num_cand, told or not -/
def numPV : Option Int → PV
  | none => .none
  | some N => .int N

theorem c_CS {W : Wd} (Y : Lay10 W) {cv : PV} {XS : List PV → Prop} {k : Nat} {sk : List Int} {t : SetTable} {nc : Option Int} (S : CanSrc W cv XS k sk t)
    (hX : ∀ xs, XS xs → ∀ p ∈ xs, ∃ m, p = .int m ∧ 0 ≤ m ∧ ∀ N, nc = some N → m < N) :
    FContract W Y.aCS 1 [cv] ["num_cand"] [numPV nc] (.obj (SetIs sk t)) := by
  refine fcontract_of (xs := ["candidates", "num_cand"]) (dps := []) Y.fCS rfl (by rfl) (by rfl) (by rfl) (fun s vs kvs hI hv hkv => ?_) fun A hA L st X hI ok hr => ?_
  · match vs, kvs, hv, hkv with
    | [u], [v], _, _ =>
      obtain ⟨o, n, e, h1, h2⟩ := Y.dCS
      exact ⟨[], BindsTo.of_defaults rfl (hI.1 _ _ h1) h2 rfl rfl, .nil⟩
  have hin : ∀ X' ρ, ((frameFrom W A hA (fdOf (stmtAt 10) (.ref Y.tCS) Y.rCS) Y.aCS L st X hI rfl Y.fCS.glob Y.fCS.blt ok).cx X' ρ).In W 0 := fun X' ρ => ⟨rfl, rfl, rfl, fun _ h => h, hr.deeper (by omega) _⟩
  conv => arg 3; whnf
  refine ExecsR.cons (Exec.assignNew (pv := .obj (SetIs sk t)) (EvalsN.toV fun X' => EvalsN.setOf (hin _ _) (.blt Y.set (fun _ h => h) rfl) S (Evals.name rfl)) (by rfl) (by rfl) (by rfl)) ?_
  refine ExecsR.cons (Exec.ite (b := ((k : Int) != (sk.length : Int))) (fun X => Tests.cmp CmpSem.ne (Evals.lenOf (hin _ _) (.blt Y.len (fun _ h => h) rfl) S.len (Evals.name rfl)) (Evals.lenOf (hin _ _) (.blt Y.len (fun _ h => h) rfl) (len_setIs (by rw [S.size]; have := S.small; omega)) (Evals.name rfl))) (fun h => absurd h (by rw [S.size]; simp)) fun _ => Execs.nil) ?_
  refine ExecsR.cons (for_gen (XS := XS) (src := cv) (out := .next ⟨[("candidates", cv), ("num_cand", numPV nc)], some (Own.val "approved" (.obj (SetIs sk t))), []⟩) (.inr ⟨false, fun X => Evals.name rfl⟩) S.iter (by rfl) (fun xs hxs => ⟨fun _ => ⟨[("candidates", cv), ("num_cand", numPV nc)], some (Own.val "approved" (.obj (SetIs sk t))), []⟩, xs.length, rfl, Nat.le_refl _, fun _ _ => by rfl, fun i p hi hp => .inl ?_, .inl ⟨rfl, rfl⟩⟩) (by intro _; rfl)) ?_
  · obtain ⟨m, rfl, _⟩ := hX xs hxs p (List.mem_of_getElem? hp)
    apply Execs.wk
    refine Execs.cons (Exec.ite (b := !true) (fun X => Tests.not (Tests.val (Evals.isi (.blt Y.isi (fun _ h => h) rfl) IsiSem.intInt (Evals.name rfl) (EvRaw.glob (.blt Y.int (fun _ h => h) rfl))))) (fun h => nomatch h) fun _ => Execs.nil) Execs.nil
    exact .cons rfl (.cons rfl .nil)
  refine ExecsR.cons (Exec.ite (b := !true) (fun X => Tests.not (Tests.val (Evals.allGen (hin _ _) (.blt Y.all (fun _ h => h) rfl) Y.cCS Y.blt (GenOK.of (by rfl)) (Evals.name rfl) S.iter (fun s o xs hxs p hp => ?_)))) (fun h => nomatch h) fun _ => Execs.nil) ?_
  · obtain ⟨m, rfl, h0, _⟩ := hX xs hxs p hp
    exact elt_ge0 rfl rfl h0
  refine ExecsR.cons (Exec.ite (b := false) (fun X => ?_) (fun h => nomatch h) fun _ => Execs.nil) ?_
  · cases nc with
    | none => exact Tests.as (Tests.and2 (y := false) (Tests.cmp CmpSem.isNotNone (Evals.name rfl) (Evals.weak Evals.cnone)) (fun h => nomatch h)) rfl
    | some N =>
      refine Tests.as (Tests.and2 (y := false) (Tests.cmp CmpSem.intIsNotNone (Evals.name rfl) (Evals.weak Evals.cnone)) (fun _ => Tests.val (Evals.anyGen (hin _ _) (.blt Y.any (fun _ h => h) rfl) Y.cCS Y.blt (GenOK.of (by rfl)) (Evals.name rfl) S.iter (fun s o xs hxs p hp => ?_)))) rfl
      obtain ⟨m, rfl, _, h1⟩ := hX xs hxs p hp
      exact elt_lt (N := N) o rfl rfl rfl rfl rfl (h1 N rfl)
  exact ExecsR.retOwn (w := Own.val "approved" (.obj (SetIs sk t))) (by rfl) (by rfl)
end Mine

set_option maxHeartbeats 1000000
namespace Mine
open PySem PySem.Calls PyProof.Rows PyProof PySem.W

structure Lay11 (W : Wd) extends Lay10 W where
  list : W.mg "list" = none ∧ W.mb "list" = some (.type "list")
  str : W.mg "str" = none ∧ W.mb "str" = some (.type "str")
  -- Voter
  aVo : Addr
  gVo : W.mg "Voter" = some (.ref aVo)
  pVo : PlainK W.K aVo
  aVI : Addr
  rVI : Rest
  tVI : Addr
  dVI : ∃ o n t₀, W.K.lookup tVI = some o ∧ o.data = .seq #[.int 1 t₀, .none] n
  fVI : FnK W aVI (fdM (methAt 16 0) "Voter.__init__" (.ref tVI) rVI)
  mVo : MakesK W aVo aVI
  apVo : FieldK W.K aVo "approved"
  weVo : FieldK W.K aVo "weight"
  -- Profile
  aPr : Addr
  gPr : W.mg "Profile" = some (.ref aPr)
  pPr : PlainK W.K aPr
  aPI : Addr
  rPI : Rest
  tPI : Addr
  dPI : ∃ o n, W.K.lookup tPI = some o ∧ o.data = .seq #[.none] n
  fPI : FnK W aPI (fdM (methAt 15 0) "Profile.__init__" (.ref tPI) rPI)
  mPr : MakesK W aPr aPI
  caPr : FieldK W.K aPr "candidates"
  cnPr : FieldK W.K aPr "cand_names"
  voPr : FieldK W.K aPr "_voters"

def voKs : List Str := ["approved", "weight"]
def prKs : List Str := ["candidates", "cand_names", "_voters"]
def Lay11.vo {W : Wd} (Y : Lay11 W) (sk : List Int) (t : SetTable) (w : Int) : PV := .inst Y.aVo voKs [.obj (SetIs sk t), .int w]
def strI (a : Int) : Str := (toString a : String)
def Lay11.pr {W : Wd} (Y : Lay11 W) (N : Nat) (vs : List PV) : PV := .inst Y.aPr prKs [.list ((upto N).map .int), .list ((upto N).map fun n => .str (strI n)), .list vs]

section
variable {W : Wd} (Y : Lay11 W)

theorem make_voter {cv : PV} {XS : List PV → Prop} {k : Nat} {sk : List Int} {t : SetTable} {nc : Option Int} (S : CanSrc W cv XS k sk t)
    (hX : ∀ xs, XS xs → ∀ p ∈ xs, ∃ m, p = .int m ∧ 0 ≤ m ∧ ∀ N, nc = some N → m < N) {w : Int} (hw : 0 < w) {ps kps dps : List PV} {ks : List Str} (hall : ps ++ kps ++ dps = [cv, .int w, numPV nc])
    (hbind : ∀ (s : Shared) (self : Value) (vs kvs : List Value), W.I s.heap → vs.length = ps.length → kvs.length = kps.length → ∃ dvs, BindsTo s (fdM (methAt 16 0) "Voter.__init__" (.ref Y.tVI) Y.rVI) ⟨self :: vs, ks.zip kvs⟩ ((("self" : Str) :: (["approved", "weight", "num_cand"] : List Str)).zip (self :: (vs ++ kvs ++ dvs))) ∧ VRs s.heap No dps dvs) :
    MakeContract W Y.aVo 3 ps ks kps voKs [.obj (SetIs sk t), .int w] :=
  make_of (d' := 2) (ρ' := []) (ys := ["approved", "weight", "num_cand"]) (by omega) Y.mVo Y.fVI rfl (by rfl) (by rfl) (by rfl) hbind fun A hA L s₀ X hI ok x hr => by
    rw [hall]
    have hin : ∀ X' ρ, ((frameFrom W A hA (fdM (methAt 16 0) "Voter.__init__" (.ref Y.tVI) Y.rVI) Y.aVI L s₀ X hI rfl Y.fVI.glob Y.fVI.blt ok).cx X' ρ).In W 1 := fun X' ρ => ⟨rfl, rfl, rfl, fun _ h => h, hr.deeper (by omega) _⟩
    have hK : ∀ h, (frameFrom W A hA (fdM (methAt 16 0) "Voter.__init__" (.ref Y.tVI) Y.rVI) Y.aVI L s₀ X hI rfl Y.fVI.glob Y.fVI.blt ok).I h → W.K.In h := fun h q => q.1
    conv => arg 3; whnf
    refine Execs.cons (Exec.setAttr (pv := .obj (SetIs sk t)) hK Y.apVo.lays (EvalsN.toV fun X' => EvalsN.callF (hin _ _) Y.fCS (c_CS Y.toLay10 S hX) (by omega) (.top Y.gCS (fun _ h => h) rfl) (ArgsOK.kw (ks := ["num_cand"]) (EvalsL.cons (Evals.name rfl) EvalsL.nil) (EvalsK.cons (Evals.name rfl) EvalsK.nil) rfl rfl rfl)) (by rfl) rfl (by decide) (by rfl)) ?_
    refine Execs.cons (Exec.setAttr (pv := .int w) hK Y.weVo.lays (NewVal.scalar (fun X' => Evals.name rfl) rfl) (by rfl) rfl (by decide) (by rfl)) ?_
    apply Execs.wk
    refine Execs.cons (Exec.ite (b := decide (w ≤ 0)) (fun X => Tests.cmp CmpSem.le (Evals.field (hin _ _) Y.pVo Y.weVo (Evals.name (pv := .inst Y.aVo voKs [.obj (SetIs sk t), .int w]) rfl) rfl) Evals.int) (fun h => absurd (of_decide_eq_true h) (by omega)) fun _ => Execs.nil) Execs.nil
    exact .nil
end
end Mine

set_option maxHeartbeats 1000000
namespace Mine
open PySem PySem.Calls PyProof.Rows PyProof PySem.W

theorem NewVal.flat {F : Fm} {σ : St} {e : Expr} {ps : List PV} (h : ∀ X, Evals (F.cx X σ.rho) true e (.list ps)) (hp : ps.all isScalar = true) : NewVal F σ e (.list ps) := fun E D s o =>
  wpAny_mono (h _ E s o.cx) (fun v s' q => ⟨q.1, by
    obtain ⟨k, hv, hf⟩ := q
    cases hv with
    | list hX ho hc hd hvs => exact .list (hf rfl _ rfl) ho hc hd (hvs.scalars hp)⟩) fun _ _ e => e

/-- a plain empty list -/
def PlainNil (o : Obj) : Prop := ∃ n, o = { cls := .type "list", dict := none, data := .seq #[] n, slots := #[] }
theorem NewVal.nil {F : Fm} {σ : St} {lp : Pos} : NewVal F σ (.List [] lp) (.obj PlainNil) := fun E D s o => by
  refine List_ (wpAny_mono (EvalsL.nil E s lp o.cx) (fun vs s₁ h₁ => ?_) fun _ _ e => e)
  match vs, h₁ with
  | [], ⟨k, _⟩ =>
    refine wpAny_newObj_type ?_ (by size_fits)
    exact ⟨k.trans (K0.push _), .obj (none_of_K k (get_size _)) (Heap.get?_push_size _ rfl) rfl rfl ⟨_, rfl⟩⟩

section
variable {Γ : Cx}
theorem Tests.none {e : Expr} {fr : Bool} (h : Evals Γ fr e .none) (hs : ∀ whole, isTrue e Γ.env whole = (do let v ← whole; standAt e.pos; holding [v] (truthy v)) := by intro _; rfl) : Tests Γ e false := fun E s o => by
  rw [hs]
  refine wpAny_bind (wpAny_mono (h E s o) (fun v s₁ h₁ => ?_) fun _ _ e => e)
  obtain ⟨k, hv, _⟩ := h₁
  cases hv
  exact wpAny_bind (wpAny_standAt (wpAny_holding (PyProof.Rows.truthy_none ⟨k, rfl⟩)))

theorem Evals.strInt {np pos : Pos} {e : Expr} {n : Int} {fr : Bool} (g : Γ.Glob "str" (.type "str")) (he : Evals Γ fr e (.int n)) (hn : n.natAbs.log2 < 1920) (hc : starEach [e] Γ.env = (false, eval e Γ.env) :: starEach [] Γ.env := by rfl) :
    Evals Γ true (.Call (.Name "str" np) [e] [] pos) (.str (strI n)) := fun E s o =>
  call_type g o (EvalsL.cons he .nil hc) (fun vs s₁ k hv => by
    match vs, hv with
    | [_], .cons (.int _ t) .nil => exact PySem.P.str_of_int hn ⟨k.tok, .str _ _, fun _ _ h => nomatch h⟩) (by rw [hc]; rfl)

theorem Evals.listRange {np pos : Pos} {e : Expr} {n : Nat} {fr : Bool} (g : Γ.Glob "list" (.type "list")) (he : Evals Γ fr e (.range 0 (n : Int))) (hn : n ≤ 1000) (hc : starEach [e] Γ.env = (false, eval e Γ.env) :: starEach [] Γ.env := by rfl) :
    Evals Γ true (.Call (.Name "list" np) [e] [] pos) (.list ((Mine.upto n).map .int)) := fun E s o =>
  call_type g o (EvalsL.cons he .nil hc) (fun vs s₁ k hv => by
    match vs, hv with
    | [_], .cons (.range hX hr) .nil =>
      refine PySem.call_list_range (n := n) Γ.hh hr (small_one (by omega) (by omega) (by omega) (by omega)) (by rw [rangeSize_one]; split <;> omega) (by omega) fun h' tk acc c' hk ho hi => ?_
      have kk : K0 Γ.T s₁ { s₁ with heap := h', toks := tk } := K0.of_keep hk
      have hnew : s.heap.get? s₁.heap.objs.size = Option.none := none_of_K k (get_size _)
      have hv : IntsAre acc.toList (Mine.upto n) := by
        have gen : ∀ (m : Nat) (l : List Value) (b : Nat), l.length = m → (∀ j v, l[j]? = some v → ∃ t, v = Value.int ((b + j : Nat) : Int) t) → IntsAre l ((List.range m).map fun i => ((b + i : Nat) : Int)) := by
          intro m
          induction m with
          | zero =>
            intro l b hl _
            have : l = [] := List.length_eq_zero_iff.mp hl
            subst this
            exact .nil
          | succ m ih =>
            intro l b hl h
            cases l with
            | nil => simp at hl
            | cons v l =>
              obtain ⟨t, rfl⟩ := h 0 v rfl
              rw [List.range_succ_eq_map, List.map_cons, List.map_map]
              have := ih l (b + 1) (by simpa using hl) fun j v hj => by
                obtain ⟨t, e⟩ := h (j + 1) v (by simpa using hj)
                exact ⟨t, by rw [e]; congr 1; omega⟩
              have e : (fun i => ((b + i : Nat) : Int)) ∘ Nat.succ = fun i => ((b + 1 + i : Nat) : Int) := by
                funext i; simp only [Function.comp]; congr 1; omega
              rw [e]
              exact .cons _ t this
        have := gen n acc.toList 0 (by rw [Array.length_toList]; exact hi.1) fun j v hj => by
          obtain ⟨t, e⟩ := hi.2 j v (by rw [Array.getElem?_toList] at hj; exact hj)
          exact ⟨t, by rw [e]; congr 1; simp⟩
        simpa [Mine.upto] using this
      refine ⟨k.trans kk, ?_, fun _ a e => by cases e; exact hnew⟩
      exact VR.of_list (vs := acc.toList) (up_new hnew ho) ⟨_, ho, rfl, c', by simp⟩ (VRs.of_ints hv)) (by rw [hc]; rfl)
end

section
variable {W : Wd} (Y : Lay11 W)

theorem make_voterA {cv : PV} {XS : List PV → Prop} {k : Nat} {sk : List Int} {t : SetTable} (S : CanSrc W cv XS k sk t) (hX : ∀ xs, XS xs → ∀ p ∈ xs, ∃ m, p = .int m ∧ 0 ≤ m ∧ ∀ N, (none : Option Int) = some N → m < N) {w : Int} (hw : 0 < w) :
    MakeContract W Y.aVo 3 [cv, .int w] [] [] voKs [.obj (SetIs sk t), .int w] :=
  make_voter Y (nc := none) S hX hw (dps := [.none]) rfl fun s self vs kvs hI hv hkv => by
    match vs, kvs, hv, hkv with
    | [a, b], [], _, _ =>
      obtain ⟨o, n, t₀, h1, h2⟩ := Y.dVI
      exact ⟨[.none], BindsTo.of_defaults rfl (hI.1 _ _ h1) h2 rfl rfl, .cons .none .nil⟩
theorem make_voterB {cv : PV} {XS : List PV → Prop} {k : Nat} {sk : List Int} {t : SetTable} {N : Int} (S : CanSrc W cv XS k sk t) (hX : ∀ xs, XS xs → ∀ p ∈ xs, ∃ m, p = .int m ∧ 0 ≤ m ∧ ∀ N', (some N : Option Int) = some N' → m < N') {w : Int} (hw : 0 < w) :
    MakeContract W Y.aVo 3 [cv] ["weight", "num_cand"] [.int w, .int N] voKs [.obj (SetIs sk t), .int w] :=
  make_voter Y (nc := some N) S hX hw (dps := []) rfl fun s self vs kvs hI hv hkv => by
    match vs, kvs, hv, hkv with
    | [a], [b, c], _, _ =>
      obtain ⟨o, n, t₀, h1, h2⟩ := Y.dVI
      exact ⟨[], BindsTo.of_defaults rfl (hI.1 _ _ h1) h2 rfl rfl, .nil⟩

theorem make_profile {N : Nat} (h0 : 0 < N) (hN : N ≤ 100) : MakeContract W Y.aPr 2 [.int N] [] [] prKs [.list ((upto N).map .int), .list ((upto N).map fun n => .str (strI n)), .obj PlainNil] :=
  make_of (d' := 1) (ρ' := []) (ys := ["num_cand", "cand_names"]) (dps := [.none]) (by omega) Y.mPr Y.fPI rfl (by rfl) (by rfl) (by rfl) (fun s self vs kvs hI hv hkv => by
    match vs, kvs, hv, hkv with
    | [a], [], _, _ =>
      obtain ⟨o, n, h1, h2⟩ := Y.dPI
      exact ⟨[.none], BindsTo.of_defaults rfl (hI.1 _ _ h1) h2 rfl rfl, .cons .none .nil⟩) fun A hA L s₀ X hI ok x hr => by
    have hin : ∀ X' ρ, ((frameFrom W A hA (fdM (methAt 15 0) "Profile.__init__" (.ref Y.tPI) Y.rPI) Y.aPI L s₀ X hI rfl Y.fPI.glob Y.fPI.blt ok).cx X' ρ).In W 0 := fun X' ρ => ⟨rfl, rfl, rfl, fun _ h => h, hr.deeper (by omega) _⟩
    have hK : ∀ h, (frameFrom W A hA (fdM (methAt 15 0) "Profile.__init__" (.ref Y.tPI) Y.rPI) Y.aPI L s₀ X hI rfl Y.fPI.glob Y.fPI.blt ok).I h → W.K.In h := fun h q => q.1
    conv => arg 3; whnf
    refine Execs.cons (Exec.ite (b := decide ((N : Int) ≤ 0)) (fun X => Tests.cmp CmpSem.le (Evals.name rfl) Evals.int) (fun h => absurd (of_decide_eq_true h) (by omega)) fun _ => Execs.nil) ?_
    refine Execs.cons (Exec.setAttr (pv := .list ((upto N).map .int)) hK Y.caPr.lays (NewVal.flat (fun X' => Evals.listRange (.blt Y.list (fun _ h => h) rfl) (Evals.range1 (.blt Y.range (fun _ h => h) rfl) (Evals.name rfl)) (by omega)) (by simp [isScalar])) (by rfl) rfl (by decide) (by rfl)) ?_
    refine Execs.cons (Exec.setAttr (pv := .list ((upto N).map fun n => .str (strI n))) hK Y.cnPr.lays (NewVal.flat (fun X' => Evals.compI (ns := upto N) (f := fun n => .str (strI n)) (CompOK.of (by rfl)) (Evals.range1 (.blt Y.range (fun _ h => h) rfl) (Evals.name rfl)) (items_range _) (by simp [rangeOK]; omega) (by rw [upto_len]; omega) (fun X C n hn => ?_)) (by simp [isScalar])) (by rfl) rfl (by decide) (by rfl)) ?_
    · obtain ⟨k, rfl, hk⟩ := upto_mem hn
      refine Evals.weak (Evals.strInt (.blt Y.str (fun _ h => h) rfl) (Evals.name rfl) ?_)
      rw [Int.natAbs_natCast]
      exact Nat.lt_of_le_of_lt (Nat.log2_le_self k) (by omega)
    refine Execs.cons (Exec.setAttr (pv := .obj PlainNil) hK Y.voPr.lays NewVal.nil (by rfl) rfl (by decide) (by rfl)) ?_
    apply Execs.wk
    refine Execs.cons (Exec.ite (b := false) (fun X => Tests.none (Evals.name rfl)) (fun h => nomatch h) fun _ => Execs.nil) Execs.nil
    exact .nil
end
end Mine

set_option maxHeartbeats 1000000
namespace Mine
open PySem PySem.Calls PyProof.Rows PyProof PySem.W

structure Lay12 (W : Wd) extends Lay11 W where
  aNC : Addr
  rNC : Rest
  fNC : FnK W aNC (fdM (methAt 15 1) "Profile.num_cand" .none rNC)
  pNC : Addr
  qNC : List Value
  h1NC : findIn W.K (.ref aPr) "num_cand" = some (some (.ref pNC))
  h2NC : specialIn W.K (.ref pNC) "__get__" = some (some (.builtin "property.__get__"))
  h3NC : takesIn W.K (.ref pNC) = some true
  h4NC : recIn W.K pNC "property" = some (.ref aNC :: qNC)
  aUV : Addr
  rUV : Rest
  fUV : FnK W aUV (fdM (methAt 15 4) "Profile._unique_voter" .none rUV)
  hUV : Has W.K aPr "_unique_voter" aUV

section
variable {W : Wd} (Y : Lay12 W)

/-- a profile as it is read -/
theorem num_code {A : Around} {N : Nat} {vs : List PV} {v : Value} {X : Addr → Prop} {s : Shared} {R : Result → Shared → Prop} (hr : Room A 1) (hI : W.I s.heap) (hN : N ≤ 1000) (hv : VR s.heap X (Y.pr N vs) v) (h : ∀ s' tok, K0 W.T s s' → R (.ok (.ret (.int N tok))) s') :
    codeAny (model W.prog W.w) A (.call (.ref Y.aNC) ⟨[v], []⟩) R s := by
  refine enterC (s₀ := s) (σ := ⟨[("self", Y.pr N vs)], none, []⟩) (D := No) (Xc := X) (xs := ["self"]) (us := [v]) Y.fNC rfl (by rfl) (by rfl) rfl hr Kp.refl hI (BindsTo.of_eq rfl) (fun b h => h.elim) (fun y pv e => ?_) (fun _ h => h) (fun x v e => by cases e) fun ok s₁ E' okF kk frs => ?_
  · rw [List.lookup_cons] at e
    split at e
    · rename_i hy
      cases e
      have : y = "self" := by simpa using hy
      subst this
      exact ⟨v, .head _, hv.mono (fun _ _ _ h _ => h) fun b hb => ⟨.inl hb, fun h => h⟩⟩
    · cases e
  · have hin : ∀ X' ρ, ((frameFrom W A hr.1 (fdM (methAt 15 1) "Profile.num_cand" .none Y.rNC) Y.aNC s.heap.objs.size s X hI rfl Y.fNC.glob Y.fNC.blt ok).cx X' ρ).In W 0 := fun X' ρ => ⟨rfl, rfl, rfl, fun _ h => h, hr.deeper (by omega) _⟩
    have run : Execs (frameFrom W A hr.1 (fdM (methAt 15 1) "Profile.num_cand" .none Y.rNC) Y.aNC s.heap.objs.size s X hI rfl Y.fNC.glob Y.fNC.blt ok) ⟨[("self", Y.pr N vs)], none, []⟩ (bodyOf (methAt 15 1)) (.ret (.int N)) := by
      conv => arg 3; whnf
      refine Execs.ret (Exec.ret (fr := true) fun X' => Evals.as (Evals.len (.blt Y.len (fun _ h => h) rfl) (Evals.field (hin _ _) Y.pPr Y.caPr (Evals.name rfl) rfl) (by simp [upto_len]; omega)) (by simp [upto_len]))
    refine wpAny_mono (run E' No s₁ okF) (fun f s₂ h₂ => ?_) fun _ _ e => e
    cases f with
    | ret u =>
      obtain ⟨kp, vr⟩ := h₂
      cases vr
      refine h _ _ (kk.fresh kp fun b h => ?_)
      rcases h with h | h
      · exact frs b h
      · exact h.elim
    | _ => exact h₂.elim

theorem Room.in1' {A : Around} {d d' : Nat} (r : Room A d) (h : d' < d) : Room A.in1 d' := r.in1 h

variable {Γ : Cx}
theorem Evals.numCand {W : Wd} {Y : Lay12 W} {d : Nat} {N : Nat} {vs : List PV} {e : Expr} {fr : Bool} {apos : Pos} (hin : Γ.In W d) (hd : 2 ≤ d) (hN : N ≤ 1000) (he : Evals Γ fr e (Y.pr N vs))
    (hE : eval (.Attribute e "num_cand" apos) Γ.env = (do
      let o ← eval e Γ.env
      standAt apos.atName
      let r ← holding [o] (getAttr o "num_cand" true)
      letTemporaryGo e o r
      pure r) := by with_unfolding_all rfl) : Evals Γ true (.Attribute e "num_cand" apos) (.int N) := fun E s o => by
  refine Attribute_any_ (prog := Γ.prog) (w := Γ.w) (wpAny_mono (he E s o) (fun v s₁ h₁ => ?_) fun _ _ e => e) hE
  obtain ⟨k, hv, _⟩ := h₁
  have hI := hin.I _ (Γ.Ist _ _ k o.base)
  have eM : Γ.M = model W.prog W.w := by unfold Cx.M; rw [hin.prog, hin.w]
  show wpAny Γ.M Γ.A _ _ _ _
  rw [eM]
  cases id hv with
  | @inst _ x dx sl es n _ us _ hX hXd hx hd' hf hvs =>
    refine get_bind hI.1 (dict_inst hx hd') Y.pPr.ga (findObj_data Y.pPr.cls Y.h1NC Y.h2NC Y.h3NC) Y.pPr.gh ?_
    refine wpAny_call (prop_get (s := { s₁ with toks := s₁.toks + 1 }) hI.1 Y.h4NC ?_)
    refine num_code Y (s := { s₁ with toks := s₁.toks + 1 }) (X := Up Γ.X s s₁) (vs := vs) ((hin.room.mono hd).in1 (by omega)) hI hN hv fun s' tok k' => ?_
    refine handed_on rfl ⟨k.trans (K0.toks_.trans (by rw [hin.T]; exact k')), .int _ _, fun _ _ h => nomatch h⟩

theorem c_unique {sk sk' : List Int} {t t' : SetTable} {N : Nat} {vs : List PV} {w : Int} (hN : N ≤ 1000) (hw : 0 < w) (g : GoodS W.w sk t) (hz : sk.length < 1000) (hc : copyS (fresh0 W.w) sk t = some (sk', t')) (hf : t'.fits sk'.length = true) (hl : sk'.length = sk.length) (hb : ∀ m ∈ sk, 0 ≤ m ∧ m < N) :
    FContract W Y.aUV 4 [Y.pr N vs, Y.vo sk t w] [] [] (Y.vo sk' t' w) := by
  refine fcontract_of (xs := ["self", "voter"]) (dps := []) Y.fUV rfl (by rfl) (by rfl) (by rfl) (fun s vs kvs hI hv hkv => ?_) fun A hA L st X hI ok hr => ?_
  · match vs, kvs, hv, hkv with
    | [u, v], [], _, _ => exact ⟨[], BindsTo.of_eq rfl, .nil⟩
  have hin : ∀ X' ρ, ((frameFrom W A hA (fdM (methAt 15 4) "Profile._unique_voter" .none Y.rUV) Y.aUV L st X hI rfl Y.fUV.glob Y.fUV.blt ok).cx X' ρ).In W 3 := fun X' ρ => ⟨rfl, rfl, rfl, fun _ h => h, hr.deeper (by omega) _⟩
  have hK : ∀ h, (frameFrom W A hA (fdM (methAt 15 4) "Profile._unique_voter" .none Y.rUV) Y.aUV L st X hI rfl Y.fUV.glob Y.fUV.blt ok).I h → W.K.In h := fun h q => q.1
  conv => arg 3; whnf
  have S := canSrc_set (W := W) g hz hc hf hl
  refine ExecsR.cons (Exec.ite (b := true) (out := .next ⟨[("self", Y.pr N vs), ("voter", Y.vo sk t w)], some (Own.val "_voter" (Y.vo sk' t' w)), []⟩) (fun X => Tests.val (Evals.isi (p := Y.vo sk t w) (.blt Y.isi (fun _ h => h) rfl) (IsiSem.instYes hK) (Evals.name rfl) (EvRaw.glob (.top Y.gVo (fun _ h => h) rfl)))) (fun _ => ?_) fun h => nomatch h) ?_
  · refine Execs.cons (Exec.assignNew (pv := Y.vo sk' t' w) (EvalsN.toV fun X' => EvalsN.makeK (hin _ _) Y.mVo (make_voterB Y.toLay11 (N := N) S (fun xs hxs p hp => ?_) hw) (by omega) (.top Y.gVo (fun _ h => h) rfl)
      (ArgsOK.kw (ks := ["weight", "num_cand"]) (EvalsL.cons (Evals.field (hin _ _) Y.pVo Y.apVo (Evals.name (pv := Y.vo sk t w) rfl) rfl) EvalsL.nil) (EvalsK.cons (Evals.field (hin _ _) Y.pVo Y.weVo (Evals.name (pv := Y.vo sk t w) rfl) rfl) (EvalsK.cons (Evals.numCand (Y := Y) (vs := vs) (hin _ _) (by omega) hN (Evals.name rfl)) EvalsK.nil)) rfl rfl rfl)) (by rfl) (by rfl) (by rfl)) Execs.nil
    obtain ⟨order, rfl, ho, _⟩ := hxs
    obtain ⟨m, hm, rfl⟩ := List.mem_map.mp hp
    have := hb m (ho m hm)
    exact ⟨m, rfl, this.1, fun N' e => by cases e; exact this.2⟩
  exact ExecsR.retOwn (w := Own.val "_voter" (Y.vo sk' t' w)) (by rfl) (by rfl)
end
end Mine

set_option maxHeartbeats 1000000
namespace Mine
open PySem PySem.Calls PyProof.Rows PyProof PySem.W

/-- a profile that is the frame's own -/
def Own.prof (C : Addr) (nm : Str) (N : Nat) (vs : List PV) : Own where
  name := nm
  pv := .inst C prKs [.list ((upto N).map .int), .list ((upto N).map fun n => .str (strI n)), .list vs]
  P := fun h v D => (∀ b, D b → ∃ o, h.get? b = some o ∧ tab o = false) ∧ ∃ x dx lv sl es n m uc un us, v = .ref x ∧ D x ∧ D dx ∧ D lv ∧ lv ≠ x ∧ lv ≠ dx ∧ h.get? x = some ⟨.ref C, some dx, .plain, sl⟩ ∧ h.get? dx = some (dictOf es n) ∧ fieldsOK prKs [uc, un, .ref lv] es ∧
    h.get? lv = some { cls := .type "list", dict := none, data := .seq (List.toArray us) m, slots := #[] } ∧ VR h (fun b => D b ∧ b ≠ lv) (.list ((upto N).map .int)) uc ∧ VR h (fun b => D b ∧ b ≠ lv) (.list ((upto N).map fun n => .str (strI n))) un ∧ VRs h (fun b => D b ∧ b ≠ lv) vs us
  read := fun h v D ⟨_, x, dx, lv, sl, es, n, m, uc, un, us, e, hx, hdx, hlv, _, _, h1, h2, hf, h3, hc, hn, hv⟩ => by
    subst e
    refine .inst hx hdx h1 h2 hf (.cons (hc.mono (fun _ _ _ h _ => h) fun _ h => h.1) (.cons (hn.mono (fun _ _ _ h _ => h) fun _ h => h.1) (.cons ?_ .nil)))
    exact .list hlv h3 rfl rfl (hv.mono (fun _ _ _ h _ => h) fun _ h => h.1)
  loc := fun h h' v D hk ⟨hl, x, dx, lv, sl, es, n, m, uc, un, us, e, hx, hdx, hlv, n1, n2, h1, h2, hf, h3, hc, hn, hv⟩ => ⟨fun b hb => by
      obtain ⟨o, ho, ht⟩ := hl b hb
      exact ⟨o, hk b o hb ho ht, ht⟩, x, dx, lv, sl, es, n, m, uc, un, us, e, hx, hdx, hlv, n1, n2, hk _ _ hx h1 rfl, hk _ _ hdx h2 rfl, hf, hk _ _ hlv h3 rfl, hc.mono (fun b o hb e ht => hk b o hb.1 e ht) fun _ h => h, hn.mono (fun b o hb e ht => hk b o hb.1 e ht) fun _ h => h, hv.mono (fun b o hb e ht => hk b o hb.1 e ht) fun _ h => h⟩
  live := fun h v D ⟨hl, _⟩ b hb => by
    obtain ⟨o, ho, _⟩ := hl b hb
    rw [ho]; rfl

/-- a list that holds a scalar is not the list that lies at l -/
theorem VR.offL {h : Heap} {X : Addr → Prop} {l : Addr} {us : List Value} {ps : List PV} {v : Value} {m : Nat} (hl : h.get? l = Option.some { cls := .type "list", dict := Option.none, data := .seq (List.toArray us) m, slots := #[] }) (hne : us = []) (hsc : ps.all isScalar = true) (hps : ps ≠ []) (x : VR h X (.list ps) v) : VR h (fun b => X b ∧ b ≠ l) (.list ps) v := by
  cases x with
  | @list a o n vs _ hX ho hc hd hv =>
    refine .list ⟨hX, fun q => ?_⟩ ho hc hd (hv.scalars hsc)
    subst q
    rw [hl] at ho
    cases ho
    subst hne
    dsimp only at hd
    have : vs = [] := by
      simp only [Data.seq.injEq] at hd
      have := congrArg Array.toList hd.1
      simpa using this.symm
    subst this
    cases hv
    exact hps rfl

section
variable {F : Fm} {σ σ' : St} {D D' : Addr → Prop} {s s₁ s' : Shared} {x : Str} {v : Value} {a : Addr}

/-- the frame's own was changed, and nothing else -/
theorem Fm.Ok.over {ρ : List (Str × PV)} {pins : List (Str × Value)} {w w' : Own} (o : F.Ok ⟨ρ, some w, pins⟩ D s) (kp : Kp F.T D No s s') (hn : w'.name = w.name) (hD : ∀ b, D' b → D b ∨ s.heap.get? b = none)
    (hva : VarAt F.env s.heap w.name v) (hw' : w'.P s'.heap v D') : Goes F ⟨ρ, some w', pins⟩ D s D' s' := by
  have hF : ∀ b, F.Fr b → ¬ D b := fun b h q => (o.dF b q).2.1 h
  have vars : ∀ y u, VarAt F.env s.heap y u → VarAt F.env s'.heap y u := fun y u h => by
    rcases h with ⟨h1, m', h2, h3⟩ | ⟨h1, c, h2, h3⟩
    · refine .inl ⟨h1, m', ?_, h3⟩
      obtain ⟨ob, es, ep, ho, hd, r⟩ := h2
      exact ⟨ob, es, ep, kp.keep _ _ (hF _ (.inl rfl)) ho (tab_dict hd), hd, r⟩
    · rcases h1 with h1 | h1
      · refine .inr ⟨.inl h1, c, h2, ?_⟩
        obtain ⟨ob, e1, e2⟩ := h3
        exact ⟨ob, kp.keep _ _ (hF _ (.inr ⟨y, h1, h2⟩)) e1 (tab_cell e2), e2⟩
      · exact absurd h1 (F.nf y)
  refine ⟨⟨o.k0.fresh kp fun b h => (o.dF b h).1, o.frF, ?_, fun y hy => ?_, fun y pv' e => ?_, ⟨v, hw', hn ▸ vars _ _ hva⟩, fun y u e => vars _ _ (o.pins y u e), fun b hb => ?_⟩, kp.mono (fun b h => .inr h) fun _ h => h, hD⟩
  · obtain ⟨m, ob, es, ep, ho, hd, r⟩ := o.ns
    exact ⟨m, ob, es, ep, kp.keep _ _ (hF _ (.inl rfl)) ho (tab_dict hd), hd, r⟩
  · obtain ⟨c, u, h1, ob, e1, e2⟩ := o.cells y hy
    exact ⟨c, u, h1, ob, kp.keep _ _ (hF _ (.inr ⟨y, hy, h1⟩)) e1 (tab_cell e2), e2⟩
  · obtain ⟨u, h1, h2⟩ := o.vars y pv' e
    refine ⟨u, h1.live.mono (fun b ob hb e ht => kp.keep b ob (fun q => hb.1.2 (.inr q)) e ht) (fun b hb => ⟨hb.1.1, fun q => ?_⟩), vars _ _ h2⟩
    rcases q with q | q
    · exact hb.1.2 (.inl q)
    · rcases hD b q with q | q
      · exact hb.1.2 (.inr q)
      · have := hb.2; rw [q] at this; cases this
  · rcases hD b hb with hb' | hb'
    · obtain ⟨p, q, _⟩ := o.dF b hb'
      exact ⟨p, q, w'.live _ _ _ hw' b hb⟩
    · refine ⟨none_of_K o.k0 hb', fun q => ?_, w'.live _ _ _ hw' b hb⟩
      have := o.frL q; rw [hb'] at this; cases this
end
end Mine

set_option maxHeartbeats 1000000
namespace Mine
open PySem PySem.Calls PyProof.Rows PyProof PySem.W

section
variable {F : Fm} {σ σ' : St} {D D' : Addr → Prop} {s s₁ s' : Shared} {x : Str} {v : Value} {a : Addr}

theorem fieldsOK_at {ks : List Str} {vs : List Value} {es : List DictEntry} {name : Str} {v : Value} (h : fieldsOK ks vs es) (e : (ks.zip vs).lookup name = some v) : getL name es = some (some v) := by rw [h name, e]

/-- self._voters.append(e), e wholly new -/
theorem Exec.appendVoter {ρ : List (Str × PV)} {pins : List (Str × Value)} {nm : Str} {C : Addr} {N : Nat} {vs : List PV} {K : Frag} {p1 p2 p3 p4 p5 : Pos} {elt : Expr} {pv : PV} (hK : ∀ h, F.I h → K.In h) (P : PlainK K C) (L : FieldK K C "_voters")
    (hsz : vs.length ≤ 1000) (he : NewVal F ⟨ρ, some (Own.prof C nm N vs), pins⟩ elt pv)
    (hE : eval (.Attribute (.Name nm p1) "_voters" p2) F.env = (do
      let o ← eval (.Name nm p1) F.env
      standAt p2.atName
      let r ← holding [o] (getAttr o "_voters" true)
      letTemporaryGo (.Name nm p1) o r
      pure r) := by with_unfolding_all rfl)
    (hfew : ((backTo p4 (starEach [elt] F.env)).all (fun x => !x.1) && (backToKw p4 (keywordEach [] F.env)).all (fun x => x.1.isSome)
      && decide (([elt] : List Expr).length + ([] : List Keyword).length + (if ([] : List Keyword).isEmpty then 0 else 1) < 30)) = true := by rfl)
    (hline : (p3.endLine == p4.line) = true := by rfl)
    (htrees : backTo p4 (starEach [elt] F.env) = [(false, eval elt F.env)] := by rfl)
    (hint : interactive F.env = false := by rfl)
    (hd : (nm == ("__debug__" : Str)) = false := by decide) (hc : (nm == ("__classdict__" : Str)) = false := by decide) :
    Exec F ⟨ρ, some (Own.prof C nm N vs), pins⟩ (.Expr (.Call (.Attribute (.Attribute (.Name nm p1) "_voters" p2) "append" p3) [elt] [] p4) p5) (.next ⟨ρ, some (Own.prof C nm N (vs ++ [pv])), pins⟩) := fun E D s o => by
  obtain ⟨v, hv, hva⟩ := o.own
  obtain ⟨hfirm, x, dx, lv, sl, es, n, m, uc, un, us, rfl, hDx, hDd, hDl, n1, n2, hx, hdx, hf, hlv, hvc, hvn, hvs⟩ := id hv
  refine wpAny_Expr (wpAny_Call_append (by rfl) hfew hline htrees (Attribute_any_ (prog := F.prog) (w := F.w) (load_own hva ?_ hd hc) hE)) hint rfl
  refine get_value (hK _ o.base) (dict_inst hx hdx) P.ga (findObj_own P.dct L.find rfl (by show getL _ es = _; exact fieldsOK_at hf rfl)) rfl ⟨lv, List.toArray us, rfl, ⟨_, m, hlv, rfl, rfl, rfl⟩, ?_⟩
  have k0 : K0 F.T s { s with toks := s.toks + 1 } := K0.toks_
  refine wpAny_mono (he E D _ (o.step k0)) (fun y s₂ h₂ => ?_) fun _ _ e => e
  obtain ⟨k, hy⟩ := h₂
  have k2 : K0 F.T s s₂ := k0.trans k
  have hlen : us.length = vs.length := hvs.length
  have hlv₂ := k2.get hlv rfl
  refine wpAny_list_append_plain (l := lv) (items := List.toArray us) (hsz := by rw [List.size_toArray, hlen]; unfold sizeLine; omega) ⟨m, hlv₂⟩ fun h' hl' hs' => ?_
  obtain ⟨m', hl'⟩ := hl'
  have e : (List.toArray us).push y = List.toArray (us ++ [y]) := by simp
  rw [e] at hl'
  have kp : Kp F.T D No s { s₂ with heap := h' } := k2.of0.trans (Kp.of_but (tk := s₂.toks) hs' hDl (by rw [hl']; rfl) fun o' e => by rw [hlv₂] at e; cases e; rfl)
  have hk : ∀ b ob, b ≠ lv → s₂.heap.get? b = some ob → h'.get? b = some ob := fun b ob hb e => hs'.extBut b ob hb e
  have nlv : ∀ b, s.heap.get? b = none → b ≠ lv := fun b hb q => by rw [q, hlv] at hb; cases hb
  refine ⟨fun b => D b ∨ (s.heap.get? b = none ∧ ∃ ob, s₂.heap.get? b = some ob ∧ tab ob = false), o.over kp rfl (fun b hb => hb.imp id fun h => h.1) hva ⟨fun b hb => ?_, x, dx, lv, sl, es, n, m', uc, un, us ++ [y], rfl, .inl hDx, .inl hDd, .inl hDl, n1, n2, hk _ _ (Ne.symm n1) (k2.get hx rfl), hk _ _ (Ne.symm n2) (k2.get hdx rfl), hf, hl', ?_, ?_, ?_⟩⟩
  · rcases hb with hb | ⟨hb, ob, e, ht⟩
    · by_cases q : b = lv
      · subst q; exact ⟨_, hl', rfl⟩
      · obtain ⟨ob, e, ht⟩ := hfirm b hb
        exact ⟨ob, hk b ob q (k2.get e ht), ht⟩
    · exact ⟨ob, hk b ob (nlv b hb) e, ht⟩
  · exact hvc.mono (fun b ob hb e ht => hk b ob hb.2 (k2.get e ht)) fun b hb => ⟨.inl hb.1, hb.2⟩
  · exact hvn.mono (fun b ob hb e ht => hk b ob hb.2 (k2.get e ht)) fun b hb => ⟨.inl hb.1, hb.2⟩
  · refine VRs.snoc (hvs.mono (fun b ob hb e ht => hk b ob hb.2 (k2.get e ht)) fun b hb => ⟨.inl hb.1, hb.2⟩) ?_
    refine hy.firm.mono (fun b ob hb e _ => hk b ob (nlv b hb.1) e) fun b hb => ⟨.inr ⟨hb.1, hb.2⟩, nlv b hb.1⟩
end
end Mine

set_option maxHeartbeats 1000000
namespace Mine
open PySem PySem.Calls PyProof.Rows PyProof PySem.W

structure Lay13 (W : Wd) extends Lay12 W where
  aAV : Addr
  rAV : Rest
  fAV : FnK W aAV (fdM (methAt 15 5) "Profile.add_voter" .none rAV)
  hAV : Has W.K aPr "add_voter" aAV

section
variable {W : Wd} (Y : Lay13 W)

theorem Own.prof_name {C x : Addr} {nm nm' : Str} {N : Nat} {vs : List PV} {h : Heap} {D : Addr → Prop} {v : Value} (p : (Own.prof C nm N vs).P h v D) : (Own.prof C nm' N vs).P h v D := p

theorem add_voter_run {A : Around} {E : Value → Shared → Prop} {s s₀ : Shared} {Xc D : Addr → Prop} {x : Addr} {v : Value} {sk sk' : List Int} {t t' : SetTable} {N : Nat} {vs : List PV} {w : Int} {Q : Value → Shared → Prop}
    (hr : Room A 6) (k0 : K0 W.T s₀ s) (hI : W.I s₀.heap) (hown : (Own.prof Y.aPr "self" N vs).P s.heap (.ref x) D) (hD : ∀ b, D b → s₀.heap.get? b = none) (hv : VR s.heap (fun b => (Xc b ∨ s₀.heap.get? b = none) ∧ ¬ D b) (Y.vo sk t w) v)
    (hvs : vs.length ≤ 1000) (hN : N ≤ 1000) (hw : 0 < w) (g : GoodS W.w sk t) (hz : sk.length < 1000) (hc : copyS (fresh0 W.w) sk t = some (sk', t')) (hf : t'.fits sk'.length = true) (hl : sk'.length = sk.length) (hb : ∀ m ∈ sk, 0 ≤ m ∧ m < N)
    (hQ : ∀ s' D', Kp W.T D No s s' → (∀ b, D' b → D b ∨ s.heap.get? b = none) → (Own.prof Y.aPr "self" N (vs ++ [Y.vo sk' t' w])).P s'.heap (.ref x) D' → Q .none s') : wpAny (model W.prog W.w) A (call (.ref Y.aAV) [.ref x, v]) Q E s := by
  refine enter (s₀ := s₀) (σ := ⟨[("voter", Y.vo sk t w)], some (Own.prof Y.aPr "self" N vs), [("self", .ref x)]⟩) (D := D) (Xc := Xc) (xs := ["self", "voter"]) (us := [.ref x, v]) (kws := []) (out := .next ⟨[("voter", Y.vo sk t w)], some (Own.prof Y.aPr "self" N (vs ++ [Y.vo sk' t' w])), [("self", .ref x)]⟩)
    Y.fAV rfl (by rfl) (by rfl) rfl hr k0 hI (BindsTo.of_eq rfl) (fun b h => ⟨hD b h, (Own.prof Y.aPr "self" N vs).live _ _ _ hown b h⟩) (fun y pv e => ?_) ⟨.ref x, .head _, hown⟩ (fun y u e => ?_) (fun ok => ?_) (fun σ' e => by cases e) fun u s' h => ?_
  · rw [List.lookup_cons] at e
    split at e
    · rename_i hy
      cases e
      have : y = "voter" := by simpa using hy
      subst this
      exact ⟨v, .tail _ (.head _), hv⟩
    · cases e
  · rw [List.lookup_cons] at e
    split at e
    · rename_i hy
      cases e
      have : y = "self" := by simpa using hy
      subst this
      exact .head _
    · cases e
  · have hin : ∀ X' ρ, ((frameFrom W A hr.1 (fdM (methAt 15 5) "Profile.add_voter" .none Y.rAV) Y.aAV s.heap.objs.size s₀ Xc hI rfl Y.fAV.glob Y.fAV.blt ok).cx X' ρ).In W 5 := fun X' ρ => ⟨rfl, rfl, rfl, fun _ h => h, hr.deeper (by omega) _⟩
    conv => arg 3; whnf
    refine Execs.cons (Exec.appendVoter (K := W.K) (fun h q => q.1) Y.pPr Y.voPr hvs (EvalsN.toV fun X' => EvalsN.methodF (hin _ _) Y.pPr Y.hUV Y.fUV (c_unique Y.toLay12 (vs := vs) hN hw g hz hc hf hl hb) (by omega) (by decide) (Evals.name (pv := Y.pr N vs) rfl) (ArgsOK.pos (EvalsL.cons (Evals.name rfl) EvalsL.nil)))) Execs.nil
  · obtain ⟨rfl, kp, D', h1, h2, h3⟩ := h
    obtain ⟨u, hu, hp⟩ := h3
    have := hp (.ref x) rfl
    subst this
    exact hQ s' D' kp h1 hu
end

section
variable {F : Fm} {σ σ' : St} {D D' : Addr → Prop} {s s₁ s' : Shared} {x : Str} {v : Value} {a : Addr}
/-- profile.add_voter(e), e wholly new -/
theorem Exec.addVoter {W : Wd} (Y : Lay13 W) {d : Nat} {ρ : List (Str × PV)} {pins : List (Str × Value)} {nm : Str} {N : Nat} {vs : List PV} {p1 p3 p4 p5 : Pos} {elt : Expr} {sk sk' : List Int} {t t' : SetTable} {w : Int} (hin : ∀ X ρ, (F.cx X ρ).In W d) (hd6 : 6 ≤ d) (hI : W.I F.s₀.heap)
    (hvs : vs.length ≤ 1000) (hN : N ≤ 1000) (hw : 0 < w) (g : GoodS W.w sk t) (hz : sk.length < 1000) (hc : copyS (fresh0 W.w) sk t = some (sk', t')) (hf : t'.fits sk'.length = true) (hl : sk'.length = sk.length) (hb : ∀ m ∈ sk, 0 ≤ m ∧ m < N)
    (he : NewVal F ⟨ρ, some (Own.prof Y.aPr nm N vs), pins⟩ elt (Y.vo sk t w))
    (hs : starEach [elt] F.env = [(false, eval elt F.env)] := by rfl) {pl : Sem Bool}
    (hE : eval (.Call (.Attribute (.Name nm p1) "add_voter" p3) [elt] [] p4) F.env = (do
      let ov ← eval (.Name nm p1) F.env
      standAt p3.atName
      let (f, first) ← holding [ov] (getMethod ov "add_voter" pl)
      callWith p4 f first (backTo p4 (starEach [elt] F.env)) (backToKw p4 (keywordEach [] F.env))) := by rfl)
    (hint : interactive F.env = false := by rfl)
    (hd : (nm == ("__debug__" : Str)) = false := by decide) (hcd : (nm == ("__classdict__" : Str)) = false := by decide) :
    Exec F ⟨ρ, some (Own.prof Y.aPr nm N vs), pins⟩ (.Expr (.Call (.Attribute (.Name nm p1) "add_voter" p3) [elt] [] p4) p5) (.next ⟨ρ, some (Own.prof Y.aPr nm N (vs ++ [Y.vo sk' t' w])), pins⟩) := fun E D s o => by
  have H := hin (fun _ => True) []
  have hIF : ∀ h, F.I h → W.I h := H.I
  have hT : F.T = W.T := H.T
  have eM : F.M = model W.prog W.w := by have h1 := H.prog; have h2 := H.w; unfold Fm.M; rw [show F.prog = W.prog from h1, show F.w = W.w from h2]
  obtain ⟨v, hv, hva⟩ := o.own
  obtain ⟨hfirm, x, dx, lv, sl, es, n, m, uc, un, us, rfl, hDx, hDd, hDl, n1, n2, hx, hdx, hff, hlv, hvc, hvn, hvs'⟩ := id hv
  refine wpAny_Expr (methodCall_KW (pl := pl) (load_own hva ?_ hd hcd) hE) hint rfl
  have hIs := hIF _ o.base
  refine method_fn hIs.1 (dict_inst hx hdx) Y.pPr.ga Y.pPr.gh Y.hAV.1 Y.hAV.2 (shadow_of hff (by decide)) ?_
  have hany : (backTo p4 (starEach [elt] F.env)).any (·.1) = false := by rw [any_backTo, hs]; rfl
  refine callWith_of (P := W.K.In) (by rw [hany]; rfl) (keeps_K Y.fAV.keep) (evalArgs_all hany ?_)
  rw [hs]
  refine spliced_cons (x := eval elt F.env) (rest := backTo p4 []) (wpAny_mono (he E D s o) (fun y s₁ h₁ => ?_) fun _ _ e => e)
  obtain ⟨k, hy⟩ := h₁
  have o₁ := o.step k
  refine spliced_nil ⟨(hIF _ o₁.base).1, ?_⟩
  rw [eM]
  have own₁ := (Own.prof Y.aPr nm N vs).loc _ _ _ _ (fun b ob _ e ht => k.get e ht) hv
  refine add_voter_run Y (s₀ := F.s₀) (Xc := F.Xc) (D := D) (H.room.mono hd6) (by rw [← hT]; exact o₁.k0) hI own₁ (fun b h => (o.dF b h).1) ?_ hvs hN hw g hz hc hf hl hb fun s' D' kp hD' hP => ?_
  · refine hy.mono (fun _ _ _ h _ => h) fun b hb => ⟨.inr (none_of_K o.k0 hb), fun q => ?_⟩
    have := (o.dF b q).2.2
    rw [hb] at this; cases this
  · have g' := o₁.over (w := Own.prof Y.aPr nm N vs) (w' := Own.prof Y.aPr nm N (vs ++ [Y.vo sk' t' w])) (by rw [hT]; exact kp) rfl hD' (hva.step k) hP
    exact ⟨D', g'.before k⟩
end
end Mine

set_option maxHeartbeats 1000000
namespace Mine
open PySem PySem.Calls PyProof.Rows PyProof PySem.W

/-- the old part of a heap -/
def onlyOld (h₀ h : Heap) : Heap := { h with objs := h.objs.mapIdx fun i o => if (h₀.get? i).isSome then o else ⟨.none, none, .freed, #[]⟩ }
def getO (x : Option Obj) : Option Obj := match x with
  | some ⟨_, _, .freed, _⟩ => none
  | o => o
theorem getO_map (x : Option Obj) (p : Bool) : getO (x.map fun o => if p then o else ⟨.none, none, .freed, #[]⟩) = if p then getO x else none := by
  cases x <;> cases p <;> rfl
theorem get_onlyOld (h₀ h : Heap) (b : Addr) : (onlyOld h₀ h).get? b = if (h₀.get? b).isSome then h.get? b else none := by
  show getO ((h.objs.mapIdx fun i o => if (h₀.get? i).isSome then o else ⟨.none, none, .freed, #[]⟩)[b]?) = if (h₀.get? b).isSome then getO (h.objs[b]?) else none
  rw [Array.getElem?_mapIdx]
  exact getO_map _ _
theorem onlyOld_some {h₀ h : Heap} {b : Addr} {o : Obj} : (onlyOld h₀ h).get? b = some o ↔ ((h₀.get? b).isSome = true ∧ h.get? b = some o) := by
  rw [get_onlyOld]
  split <;> simp_all

/-- the state at a call, but for what is new since s₀ -/
def oldState (s₀ s : Shared) : Shared := { heap := onlyOld s₀.heap s.heap, gens := s₀.gens, drawn := s.drawn, toks := s.toks, os := s.os }

section
variable {T : Addr → Prop} {s₀ s s' : Shared}
theorem oldState_to (k : K0 T s₀ s) : K0 No (oldState s₀ s) s where
  keep := fun b o _ e _ => (onlyOld_some.mp e).2
  live := fun b h => by
    obtain ⟨o, e⟩ := Option.isSome_iff_exists.mp h
    rw [(onlyOld_some.mp e).2]; rfl
  tabs := fun b o e _ => .inl (onlyOld_some.mp e).2
  gens := fun i x _ h => k.gens i x (fun h => h) h
  gsz := k.gsz
  bare := k.bare
  drawn := rfl
  os := rfl
theorem oldState_from (k : K0 T s₀ s) (k' : K0 No (oldState s₀ s) s') : K0 T s₀ s' := by
  have up : ∀ b o, (s₀.heap.get? b).isSome = true → s.heap.get? b = some o → s'.heap.get? b = some o := fun b o h e => by
    have e' : (oldState s₀ s).heap.get? b = some o := onlyOld_some.mpr ⟨h, e⟩
    by_cases ht : tab o = true
    · rcases k'.tabs b o e' ht with h | ⟨h, _⟩
      · exact h
      · exact h.elim
    · exact k'.get e' (Bool.eq_false_iff.mpr ht)
  refine ⟨fun b o _ e ht => up b o (by rw [e]; rfl) (k.get e ht), fun b h => ?_, fun b o e ht => ?_, fun i x _ h => k'.gens i x (fun h => h) h, k'.gsz, k'.bare, k'.drawn.trans k.drawn, k'.os.trans k.os⟩
  · obtain ⟨o, ho⟩ := Option.isSome_iff_exists.mp (k.live b h)
    rw [up b o h ho]; rfl
  · have hb : (s₀.heap.get? b).isSome = true := by rw [e]; rfl
    rcases k.tabs b o e ht with h1 | ⟨hT, vs, more, rfl, h1⟩
    · exact .inl (up b _ hb h1)
    · exact .inr ⟨hT, vs, more, rfl, up b _ hb h1.1, h1.2⟩
theorem Kp.exact {M : Addr → Prop} {G : Nat → Prop} (k : Kp No M G s s') {b : Addr} {o : Obj} (hM : ¬ M b) (e : s.heap.get? b = some o) : s'.heap.get? b = some o := by
  by_cases ht : tab o = true
  · rcases k.tabs b o e ht with h | ⟨h, _⟩
    · exact h
    · exact h.elim
  · exact k.keep b o hM e (Bool.eq_false_iff.mpr ht)
end

/-- the same world, its tables untouched -/
def Wd.still (W : Wd) : Wd := { W with T := No }
theorem Wd.still_I {W : Wd} {h : Heap} (x : W.I h) : W.still.I h := ⟨x.1, x.2.1, x.2.2.1, x.2.2.2.1, fun P hP => hP.elim⟩
theorem Wd.still_old {W : Wd} {s₀ s : Shared} (x₀ : W.I s₀.heap) (x : W.I s.heap) : W.still.I (oldState s₀ s).heap := by
  have up : ∀ b o o', s₀.heap.get? b = some o' → s.heap.get? b = some o → (oldState s₀ s).heap.get? b = some o := fun b o o' h e => onlyOld_some.mpr ⟨by rw [h]; rfl, e⟩
  have ns : ∀ {a : Addr} {m m' : Str → Option Value}, s₀.heap.Ns a m' → s.heap.Ns a m → (oldState s₀ s).heap.Ns a m := fun {a m m'} hn hn' => by
    obtain ⟨o, _, _, ho, _⟩ := hn
    exact hn'.at' fun o' e => up a o' o ho e
  refine ⟨fun a o e => up a o o (x₀.1 a o e) (x.1 a o e), ns x₀.2.1 x.2.1, ns x₀.2.2.1 x.2.2.1, ?_, fun P hP => hP.elim⟩
  obtain ⟨mc, hn, hx⟩ := x.2.2.2.1
  obtain ⟨mc', hn', _⟩ := x₀.2.2.2.1
  exact ⟨mc, ns hn' hn, hx⟩
theorem FnK.still {W : Wd} {a : Addr} {fd : FuncData} (fn : FnK W a fd) : FnK W.still a fd := ⟨fn.at_, fn.code, fn.glob, fn.blt, fn.clo⟩
end Mine

set_option maxHeartbeats 1000000
namespace Mine
open PySem PySem.Calls PyProof.Rows PyProof PySem.W

structure Lay14 (W : Wd) extends Lay13 W where
  aTo : Addr
  rTo : Rest
  gTo : W.mg "total" = some (.ref aTo)
  fTo : FnK W aTo (fdOf (stmtAt 13) .none rTo)

section
variable {F : Fm} {σ σ' : St} {D D' : Addr → Prop} {s s₁ s' : Shared} {x : Str} {v : Value} {a : Addr}

/-- nothing of the frame's was touched; the frame knows scalars alone -/
theorem Fm.Ok.scalars {ρ : List (Str × PV)} {pins : List (Str × Value)} (o : F.Ok ⟨ρ, none, pins⟩ No s) (hs : ∀ x p, ρ.lookup x = some p → isScalar p = true) (k0 : K0 F.T F.s₀ s') (hk : ∀ b ob, F.Fr b → s.heap.get? b = some ob → s'.heap.get? b = some ob) : F.Ok ⟨ρ, none, pins⟩ No s' := by
  have vars : ∀ y u, VarAt F.env s.heap y u → VarAt F.env s'.heap y u := fun y u h => by
    rcases h with ⟨h1, m', ⟨ob, es, ep, ho, hd, r⟩, h3⟩ | ⟨h1, c, h2, h3⟩
    · exact .inl ⟨h1, m', ⟨ob, es, ep, hk _ _ (.inl rfl) ho, hd, r⟩, h3⟩
    · rcases h1 with h1 | h1
      · obtain ⟨ob, e1, e2⟩ := h3
        exact .inr ⟨.inl h1, c, h2, ob, hk _ _ (.inr ⟨y, h1, h2⟩) e1, e2⟩
      · exact absurd h1 (F.nf y)
  refine ⟨k0, o.frF, ?_, fun y hy => ?_, fun y p e => ?_, fun _ h => h, fun y u e => vars _ _ (o.pins y u e), fun b hb => hb.elim⟩
  · obtain ⟨m, ob, es, ep, ho, hd, r⟩ := o.ns
    exact ⟨m, ob, es, ep, hk _ _ (.inl rfl) ho, hd, r⟩
  · obtain ⟨c, u, h1, ob, e1, e2⟩ := o.cells y hy
    exact ⟨c, u, h1, ob, hk _ _ (.inr ⟨y, hy, h1⟩) e1, e2⟩
  · obtain ⟨u, h1, h2⟩ := o.vars y p e
    exact ⟨u, up_scalar' (hs y p e) h1, vars _ _ h2⟩

/-- for x in a generator of ints: a sum -/
theorem for_sum {px pi pos : Pos} {y : Str} {body : List Stmt} {zs : List Int} {P : Nat → Value → Prop} {fp wr : List Addr} {g Dd Uu : Nat} {St : Nat → Shared → Prop} {ac : Str} {E : Value → Shared → Prop} {s₅ : Shared} {s₀ : Shared} (hT : F.T = No)
    (R : GenRun F.prog F.w Dd Uu s₀ s₅ zs.length P a fp wr g St) (hP : ∀ j v, P j v → ∃ z tok, zs[j]? = some z ∧ v = .int z tok) (hDd : F.A.depth ≤ Dd) (hUu : F.A.units ≤ Uu)
    (h0 : F.s₀ = oldState s₀ s₅) (k5 : K0 F.T s₅ s) (hFr : ∀ b, F.Fr b → s₅.heap.objs.size ≤ b)
    (o : F.Ok ⟨[(ac, .int 0)], none, [(y, .ref a)]⟩ No s) (hx : varKind F.env x = true) (hxy : (y == x) = false) (hxy' : (x == y) = false) (hst : St 0 s)
    (hb : ∀ acc z, Execs F ⟨[(x, .int z), (ac, .int acc)], none, [(y, .ref a)]⟩ body (.next ⟨[(ac, .int (acc + z))], none, [(y, .ref a)]⟩))
    (hs : ∀ x, foldedSetIterable (.Name y pi) F.env x = pure x := by intro _; rfl) (hd : (y == ("__debug__" : Str)) = false := by decide) (hc : (y == ("__classdict__" : Str)) = false := by decide) :
    wpAny F.M F.A (exec (.For (.Name x px) (.Name y pi) body [] pos) F.env) (fun f s' => f = .next ∧ F.Ok ⟨[(ac, .int zs.sum)], none, [(y, .ref a)]⟩ No s') E s := by
  have hw : ∀ b ∈ wr, F.s₀.heap.get? b = none := fun b hb => by
    rw [h0]
    cases e : (oldState s₀ s₅).heap.get? b with
    | none => rfl
    | some ob =>
      have := (onlyOld_some.mp e).1
      rw [R.wrNew b hb] at this; cases this
  have hg : F.s₀.gens.size ≤ g := by rw [h0]; exact R.gNew
  have frNot : ∀ b, F.Fr b → b ∉ fp := fun b hb q => absurd (R.fpLt b q) (Nat.not_lt.mpr (hFr b hb))
  have W1 := walksAt (A := F.A) R.walks F.hh hDd hUu
  refine wpAny_For (load_own (F := F) (o.pins y (.ref a) (by simp)) ?_ hd hc) hs
  refine W1.self 0 s _ _ hst ?_
  refine codeAny_forLoop (fun k s' => ∃ i, i ≤ zs.length ∧ k = zs.length + 1 - i ∧ F.Ok ⟨[(ac, .int (zs.take i).sum)], none, [(y, .ref a)]⟩ No s' ∧ St i s') ?_ (zs.length + 1) ⟨0, Nat.zero_le _, rfl, by simpa using o, hst⟩
  rintro k s' ⟨i, hin, rfl, ok, st⟩
  have sc : ∀ (acc : Int) x' p, List.lookup x' [(ac, PV.int acc)] = some p → isScalar p = true := fun acc x' p e => by
    rw [List.lookup_cons] at e
    split at e
    · cases e; rfl
    · cases e
  by_cases hlt : i < zs.length
  · refine W1.item i s' _ _ hlt st fun v s₂ hPv st₂ hm => ?_
    obtain ⟨z, tok, hz, rfl⟩ := hP i v hPv
    have ok₂ := ok.scalars (s' := s₂) (sc _) (ok.k0.moved hm hw hg) fun b ob hb e => hm.heap b ob (fun q => frNot b hb (W1.sub b q)) e
    refine wpAny_assign_Name (Stored.of ok₂ (varKind.of hx) fun a' s₃ hst₃ => ?_)
    have gg := hst₃.shared (pv := .int z) ok₂ (.int _ _) (by show List.lookup x [(y, Value.ref a)] = none; rw [List.lookup_cons, hxy']; rfl) (fun w h => nomatch h)
    refine wpAny_mono (hb _ z _ No s₃ gg.ok) (fun f s₄ h₄ => ?_) fun _ _ e => e
    cases f with
    | next =>
      obtain ⟨D', g₄⟩ := h₄
      have hD' : ∀ b, ¬ D' b := g₄.ok.own
      have gAll := gg.trans g₄
      have e : (zs.take (i + 1)).sum = (zs.take i).sum + z := by
        rw [List.take_add_one, hz, List.sum_append]; simp
      refine ⟨zs.length + 1 - (i + 1), by omega, i + 1, hlt, rfl, ?_, ?_⟩
      · rw [e]
        have : D' = No := funext fun b => propext ⟨fun h => hD' b h, fun h => h.elim⟩
        rw [← this]; exact g₄.ok
      · refine R.frame _ _ _ st₂ (fun b hb ob e => ?_) fun y' h => ?_
        · have kp := gAll.kp
          rw [hT] at kp
          refine kp.exact (fun q => ?_) e
          rcases q with q | q
          · exact frNot b q hb
          · exact q
        · exact gAll.kp.gens g y' (fun h => h) h
    | _ => exact h₄.elim
  · have hie : i = zs.length := by omega
    subst hie
    refine W1.done s' _ _ st fun s₂ hm => wpAny_execs_nil ⟨rfl, ?_⟩
    rw [List.take_length] at ok
    exact ok.scalars (s' := s₂) (sc _) (ok.k0.moved hm hw hg) fun b ob hb e => hm.heap b ob (fun q => frNot b hb (W1.sub b q)) e
end
end Mine

set_option maxHeartbeats 1000000
namespace Mine
open PySem PySem.Calls PyProof.Rows PyProof PySem.W

theorem lookup_all {α : Type} {p : α → Bool} : ∀ {l : List (Str × α)} {y : Str} {v : α}, l.all (fun e => p e.2) = true → l.lookup y = some v → p v = true
  | [], _, _, _, h => by cases h
  | (n, u) :: l, y, v, ha, h => by
    rw [List.all_cons, Bool.and_eq_true] at ha
    rw [List.lookup_cons] at h
    split at h
    · cases h; exact ha.1
    · exact lookup_all ha.2 h

section
variable {W : Wd} (Y : Lay14 W)
theorem total_run {A : Around} {E : Value → Shared → Prop} {s₀ s : Shared} {zs : List Int} {a : Addr} {P : Nat → Value → Prop} {fp wr : List Addr} {g Dd Uu : Nat} {St : Nat → Shared → Prop} {Q : Value → Shared → Prop}
    (hr : Room A 2) (k0 : K0 W.T s₀ s) (hI₀ : W.I s₀.heap) (R : GenRun W.prog W.w Dd Uu s₀ s zs.length P a fp wr g St) (hP : ∀ j v, P j v → ∃ z tok, zs[j]? = some z ∧ v = .int z tok)
    (hDd : A.depth + 1 ≤ Dd) (hUu : A.units + 3 ≤ Uu) (hQ : ∀ s' tok, K0 W.T s₀ s' → Q (.int zs.sum tok) s') : wpAny (model W.prog W.w) A (call (.ref Y.aTo) [.ref a]) Q E s := by
  have hIs : W.I s.heap := W.Ist _ _ k0 hI₀
  refine enterW (W := W.still) (s₀ := oldState s₀ s) (σ := ⟨[], none, [("values", .ref a)]⟩) (D := No) (Xc := No) (xs := ["values"]) (us := [.ref a]) (kws := []) Y.fTo.still rfl (by rfl) (by rfl) rfl hr (oldState_to k0) (Wd.still_old hI₀ hIs) (BindsTo.of_eq rfl) (fun b h => h.elim) (fun y pv e => by cases e) (fun _ h => h) (fun y v e => ?_) fun ok s₁ E' okF kk frs => ?_
  · rw [List.lookup_cons] at e
    split at e
    · rename_i hy
      cases e
      have : y = "values" := by simpa using hy
      subst this
      exact .head _
    · cases e
  let F := frameFrom W.still A hr.1 (fdOf (stmtAt 13) .none Y.rTo) Y.aTo s.heap.objs.size (oldState s₀ s) No (Wd.still_old hI₀ hIs) rfl Y.fTo.still.glob Y.fTo.still.blt ok
  have hFr : ∀ b, F.Fr b → s.heap.objs.size ≤ b := fun b hb => by
    rcases hb with rfl | ⟨y, hk, _⟩
    · exact Nat.le_refl _
    · have hk : (scopeOf (stmtAt 13)).names.lookup y = some .cell := hk
      have := lookup_all (p := fun k => k != NameKind.cell) (by rfl) hk
      simp at this
  have hin : ∀ X' ρ, (F.cx X' ρ).In W.still 0 := fun X' ρ => ⟨rfl, rfl, rfl, fun _ h => h, hr.deeper (by omega) _⟩
  have hK : ∀ h, F.I h → W.K.In h := fun h q => q.1
  have kx : ∀ {b o}, s.heap.get? b = some o → s₁.heap.get? b = some o := fun e => Kp.exact (M := No) (G := No) kk (fun h => h) e
  show wpAny F.M F.A (execs (bodyOf (stmtAt 13)) F.env) _ E' s₁
  conv => arg 3; whnf
  refine wpAny_execs_cons (wpAny_mono (Exec.assign (F := F) (σ := ⟨[], none, [("values", .ref a)]⟩) (pv := .int 0) (.inl ⟨_, fun X => Evals.int, rfl⟩) (by rfl) (by rfl) rfl E' No s₁ okF) (fun f s₂ h₂ => ?_) fun _ _ e => e)
  cases f with
  | next =>
    obtain ⟨D', g₂⟩ := h₂
    have hD' : D' = No := funext fun b => propext ⟨fun h => g₂.ok.own b h, fun h => h.elim⟩
    subst hD'
    have st₂ : St 0 s₂ := by
      refine R.frame _ _ _ R.start (fun b hb ob e => ?_) fun y h => g₂.kp.gens g y (fun h => h) (kk.gens g y (fun h => h) h)
      refine Kp.exact (M := F.Mut No) (G := No) g₂.kp (fun q => ?_) (kx e)
      rcases q with q | q
      · exact absurd (R.fpLt b hb) (Nat.not_lt.mpr (hFr b q))
      · exact q
    refine wpAny_execs_cons (wpAny_mono (for_sum (F := F) (s₀ := s₀) (s₅ := s) (zs := zs) rfl R hP hDd hUu rfl (kk.of0.trans (Kp.refl) |>.fresh g₂.kp fun b hb => ?_) hFr g₂.ok (by rfl) (by rfl) (by rfl) st₂ (fun acc z => ?_) (by intro _; rfl)) (fun f s₃ h₃ => ?_) fun _ _ e => e)
    · rcases hb with hb | hb
      · exact frs b hb
      · exact hb.elim
    · apply Execs.wk
      refine Execs.cons (Exec.assign (pv := .int (acc + z)) (.inl ⟨false, fun X => Evals.ite (b := false) (Tests.val (Evals.isi (.blt (W := W.still) Y.isi (fun _ h => h) rfl) (IsiSem.intNo hK Y.pFr) (Evals.name rfl) (EvRaw.glob (.top (W := W.still) Y.gFr (fun _ h => h) rfl)))) (fun h => nomatch h) fun _ => Evals.weak (Evals.add (Evals.name rfl) (Evals.name rfl)), rfl⟩) (by rfl) (by rfl) rfl) Execs.nil
      exact .cons rfl .nil
    · obtain ⟨rfl, o₃⟩ := h₃
      refine wpAny_mono ((Execs.ret (Exec.ret (F := F) (σ := ⟨[("result", .int zs.sum)], none, [("values", .ref a)]⟩) (pv := .int zs.sum) (fr := false) fun X => Evals.name rfl)) E' No s₃ o₃) (fun f s₄ h₄ => ?_) fun _ _ e => e
      cases f with
      | ret v =>
        obtain ⟨kp, vr⟩ := h₄
        cases vr with
        | int _ tok =>
        refine hQ _ tok (oldState_from k0 (o₃.k0.fresh kp fun b hb => ?_))
        rcases hb with hb | hb
        · exact o₃.frF b hb
        · exact hb.elim
      | _ => exact h₄.elim
  | _ => exact h₂.elim
end
end Mine

set_option maxHeartbeats 1000000
namespace Mine
open PySem PySem.Calls PyProof.Rows PyProof PySem.W

section
variable {Γ : Cx}
/-- total(e for x in it) -/
theorem Evals.totalGen {W : Wd} (Y : Lay14 W) {d : Nat} {elt iter : Expr} {x : Str} {np px gpos pos : Pos} {scope : Scope} {src : PV} {XS : List PV → Prop} {fr : Bool} {f : PV → Int} {Z : Int}
    (hin : Γ.In W d) (h2 : 2 ≤ d) (g : Γ.Glob "total" (.ref Y.aTo)) (hc : CodeT W Γ.env.code) (G : GenOK scope x Γ.env) (hi : Evals Γ fr iter src) (hsem : IterSem Γ.prog Γ.w Γ.T src XS)
    (hZ : ∀ xs, XS xs → (xs.map f).sum = Z)
    (helt : ∀ s, Γ.Ok s → ∀ xs, XS xs → ∀ p ∈ xs, EltSem Γ W s scope x elt p (fun v => ∃ tok, v = .int (f p) tok)) (hs : ∀ x, genFold iter Γ.env x = pure x := by intro _; rfl) :
    Evals Γ true (.Call (.Name "total" np) [.GeneratorExp elt [⟨.Name x px, iter, [], 0⟩] scope gpos] [] pos) (.int Z) := fun E s o => by
  have eM : Γ.M = model W.prog W.w := by unfold Cx.M; rw [hin.prog, hin.w]
  refine gen_arg (Fp := fun p v => ∃ tok, v = .int (f p) tok) hin o g hc Y.blt G hi hsem (helt s o) (fun args ha Q' h => ?_) (fun xs hxs a fp wr g' St s₅ k R => ?_) hs
  · exact callWith_of (P := W.K.In) (by rw [ha]; rfl) (keeps_K Y.fTo.keep) (evalArgs_all ha (wpAny_mono h (fun _ _ z => ⟨z.2.1, z.1⟩) fun _ _ z => z))
  · rw [eM]
    have R' : GenRun W.prog W.w (Γ.A.depth + 5) (Γ.A.units + 40) s s₅ (xs.map f).length (fun j y => ∃ p, xs[j]? = some p ∧ ∃ tok, y = .int (f p) tok) a fp wr g' St := by
      rw [List.length_map, ← hin.prog, ← hin.w]; exact R
    refine total_run Y (hin.room.mono h2) (by rw [← hin.T]; exact k) (hin.I _ o.base) R' (fun j v hv => ?_) (by omega) (by omega) fun s' tok k' => ?_
    · obtain ⟨p, hp, tok, rfl⟩ := hv
      exact ⟨f p, tok, by rw [List.getElem?_map, hp]; rfl, rfl⟩
    · rw [hZ xs hxs]
      exact ⟨by rw [hin.T]; exact k', .int _ _, fun _ _ h => nomatch h⟩

/-- voter.weight -/
theorem elt_weight {W : Wd} (Y : Lay14 W) {s : Shared} {scope : Scope} {x : Str} {sk : List Int} {t : SetTable} {w : Int} {p1 p2 : Pos} (hk : scope.kind = .function) (hx : scope.names.lookup x = some .local)
    (hE : ∀ (C : Addr) (code : Value), eval (.Attribute (.Name x p1) "weight" p2) (genEnv scope (clOf Γ.env.cells scope.names []) C code builtinsNs Γ.env) = (do
      let o ← eval (.Name x p1) (genEnv scope (clOf Γ.env.cells scope.names []) C code builtinsNs Γ.env)
      standAt p2.atName
      let r ← holding [o] (getAttr o "weight" true)
      letTemporaryGo (.Name x p1) o r
      pure r)) (hd : (x == ("__debug__" : Str)) = false := by decide) :
    EltSem Γ W s scope x (.Attribute (.Name x p1) "weight" p2) (Y.vo sk t w) (fun v => ∃ tok, v = .int w tok) := fun A' E' v C code s₂ m₂ hA hD hU hv hns hm hkp hI => by
  refine Attribute_any_ (prog := Γ.prog) (w := Γ.w) (wpAny_Name (wpAny_loadName_local hk hx hns hm ?_) hd) (hE C code)
  cases hv with
  | @inst _ y dx sl es n _ vs _ hX hXd hxx hdd hf hvs =>
    match vs, hvs with
    | [u₁, u₂], .cons h1 (.cons h2 .nil) =>
      cases h2 with
      | int _ tok =>
      refine get_value hI.1 (dict_inst hxx hdd) Y.pVo.ga (findObj_own Y.pVo.dct Y.weVo.find rfl (by show getL _ es = _; exact fieldsOK_at hf rfl)) rfl ⟨⟨tok, rfl⟩, s₂.heap, _, rfl, fun _ _ e => e⟩
end

/-- a voter, told -/
structure Vt where
  sk : List Int
  t : SetTable
  w : Int
def Lay11.vt {W : Wd} (Y : Lay11 W) (q : Vt) : PV := Y.vo q.sk q.t q.w
def wOf : PV → Int
  | .inst _ _ [_, .int w] => w
  | _ => 0

structure Lay15 (W : Wd) extends Lay14 W where
  aTW : Addr
  rTW : Rest
  fTW : FnK W aTW (fdM (methAt 15 7) "Profile.total_weight" .none rTW)
  hTW : Has W.K aPr "total_weight" aTW
  cTW : CodeT W rTW.cdv

theorem c_tw {W : Wd} (Y : Lay15 W) {N : Nat} {vts : List Vt} : Contract W Y.aTW 3 [Y.pr N (vts.map Y.vt)] [] [] (.int (vts.map (·.w)).sum) := by
  refine contract_of (xs := ["self"]) (dps := []) Y.fTW rfl (by rfl) (by rfl) (by rfl) (fun s vs kvs hI hv hkv => ?_) fun A hA st X hI ok hr => ?_
  · match vs, kvs, hv, hkv with
    | [u], [], _, _ => exact ⟨[], BindsTo.of_eq rfl, .nil⟩
  have hin : ∀ X' ρ, ((frameOf W A hA (fdM (methAt 15 7) "Profile.total_weight" .none Y.rTW) Y.aTW st X hI rfl Y.fTW.glob Y.fTW.blt ok).cx X' ρ).In W 2 := fun X' ρ => ⟨rfl, rfl, rfl, fun _ h => h, hr.deeper (by omega) _⟩
  conv => arg 3; whnf
  refine Execs.ret (Exec.ret (fr := true) fun X' => ?_)
  refine Evals.totalGen Y.toLay14 (XS := (· = vts.map Y.vt)) (f := wOf) (hin _ _) (by omega) (.top Y.gTo (fun _ h => h) rfl) Y.cTW (GenOK.of (by rfl)) (Evals.field (hin _ _) Y.pPr Y.voPr (Evals.name (pv := Y.pr N (vts.map Y.vt)) rfl) rfl) (IterSem.seq rfl trivial) (fun xs hxs => ?_) (fun s o xs hxs p hp => ?_)
  · subst hxs
    rw [List.map_map]; rfl
  · subst hxs
    obtain ⟨q, _, rfl⟩ := List.mem_map.mp hp
    exact elt_weight Y.toLay14 rfl rfl (fun C code => by with_unfolding_all rfl)
end Mine

set_option maxHeartbeats 1000000
namespace Mine
open PySem PySem.Calls PyProof.Rows PyProof PySem.W

/-- what a resumed turn may touch -/
def SinceV (C I : Addr) (s₀ s : Shared) : Prop := ∃ h' tk, s = { s₀ with heap := h', toks := tk } ∧ ∀ b o, b ≠ C → b ≠ I → s₀.heap.get? b = some o → h'.get? b = some o
theorem SinceV.refl {C I : Addr} {s : Shared} : SinceV C I s s := ⟨s.heap, s.toks, rfl, fun _ _ _ _ e => e⟩
theorem SinceV.step {C I : Addr} {s₀ s : Shared} (x : SinceV C I s₀ s) {h' : Heap} {tk : Nat} (hk : ∀ b o, b ≠ C → b ≠ I → s.heap.get? b = some o → h'.get? b = some o) : SinceV C I s₀ { s with heap := h', toks := tk } := by
  obtain ⟨h₁, tk₁, rfl, hk₁⟩ := x
  exact ⟨h', tk, rfl, fun b o hC hI e => hk b o hC hI (hk₁ b o hC hI e)⟩

/-- what the generator needs when it is woken -/
def NeedV (C I lv : Addr) (items : Array Value) (j : Nat) (s : Shared) : Prop := s.heap.IsListIter I lv j ∧ s.heap.IsList lv items ∧ ∃ m, s.heap.Ns C m

def protoV (C I lv : Addr) (items : Array Value) : Protocol := fun m s₀ v s kap =>
  ∃ j, j + m + 1 = items.size ∧ items[j]? = some v ∧ SinceV C I s₀ s ∧ NeedV C I lv items (j + 1) s ∧ ∀ s'' : Shared, NeedV C I lv items (j + 1) s'' → kap (.send .none) s''
def endV (C I : Addr) : GenEnd := fun n s₀ r s₁ => r = .ok (.ret .none) ∧ (n = 0 ∧ SinceV C I s₀ s₁)

section
variable {M : Model} {A : Around} {R : GenEnd} {Y : Protocol} {n : Nat} {s₀ : Shared} {c : Code} {fs : List Frame} {s : Shared} {env : Env}
  {K : Flow → Sem Fin} {H : Value → Sem Fin} {gd : Bool → Bool} {lv : List Value → List Value}

theorem seg_runOwn {c' : Code} (h : ∀ p, Seg M A R Y n s₀ c' (M.den c') (.ret (fun r => ((match r with | .ok f => (.pure f : Sem Flow) | .error e => .raise e).onRaise fun (x : Value) => do
        if (← field x 1) == Value.none then unsupported "frame.own-activation:exception-without-traceback"
        setFlight x env.frame).wrap K H gd lv) none (gd false) (lv []) c p [] :: fs) s) : Seg M A R Y n s₀ c ((runOwn c' env).wrap K H gd lv) fs s := seg_call h
end

section
variable {prog : Program} {w : World} {A : Around} {env : Env} {C I lv : Addr} {items : Array Value} {x : Str} {px p2 yp ep : Pos}

abbrev vBody (x : Str) (p2 yp ep : Pos) : List Stmt := [.Expr (.Yield (some (.Name x p2)) yp) ep]

theorem seg_vloop {fs : List Frame} {Kc : Result → Sem Fin} {c₁ : Code} {p₁ : Pos} (hh : A.handled = none) (hfs : fs = [.ret Kc none false [] c₁ p₁ []])
    (hC : env.locals = C) (hk : env.scope.kind = .function) (hx : env.kindOf x = some .local) (hco : env.scope.isCoroutine = false) (hint : interactive env = false) (hlI : lv ≠ I) (hCI : C ≠ I) (hCl : C ≠ lv) (hd : (x == ("__debug__" : Str)) = false)
    (hend : ∀ s₀ s, SinceV C I s₀ s → Seg (model prog w) A (endV C I) (protoV C I lv items) 0 s₀ c₁ (Kc (.ok .next)) [] s) :
    ∀ (k i : Nat) (s₀ s : Shared), items.size - i = k → i ≤ items.size → NeedV C I lv items i s → SinceV C I s₀ s →
      Seg (model prog w) A (endV C I) (protoV C I lv items) k s₀ (.forLoop (.Name x px) (.ref I) (vBody x p2 yp ep) [] env) ((model prog w).den (.forLoop (.Name x px) (.ref I) (vBody x p2 yp ep) [] env)) fs s := by
  intro k
  induction k with
  | zero =>
    intro i s₀ s hkk hi hn hs
    have hie : i = items.size := by omega
    subst hie
    obtain ⟨hit, hl, m, hns⟩ := hn
    show Seg _ A _ _ _ s₀ _ ((forTurn (.Name x px) (.ref I) (vBody x p2 yp ep) [] env).onRaise _) fs s
    unfold forTurn
    rw [Sem.onRaise_eq_wrap]
    refine seg_bind_wrap (wpAny_standAt ?_)
    refine seg_bind_wrap (wpAny_onRaise ?_)
    have hh' : (A.over (.forLoop (.Name x px) (.ref I) (vBody x p2 yp ep) [] env) fs).handled = none := by subst hfs; exact hh
    refine wpAny_pyNext_list_end hh' hit hl (by simp) fun h' hx' => ?_
    refine seg_again rfl ?_
    show Seg _ A _ _ _ s₀ _ (.pure (.done .next)) fs _
    subst hfs
    refine seg_leaf (.ok .next) ?_
    exact hend _ _ (hs.step (tk := s.toks) fun b o _ h2 e => hx' b o h2 e)
  | succ k ih =>
    intro i s₀ s hkk hi hn hs
    have hlt : i < items.size := by omega
    obtain ⟨hit, hl, m, hns⟩ := hn
    show Seg _ A _ _ _ s₀ _ ((forTurn (.Name x px) (.ref I) (vBody x p2 yp ep) [] env).onRaise _) fs s
    unfold forTurn
    rw [Sem.onRaise_eq_wrap]
    refine seg_bind_wrap (wpAny_standAt ?_)
    refine seg_bind_wrap (wpAny_onRaise ?_)
    refine wpAny_pyNext_list_item hit hl (x := items[i]) (by simp [hlt]) fun h₁ hit₁ hs₁ => ?_
    dsimp only
    refine seg_bind_wrap (wpAny_of_eq (rfl : letOwnedTupleGo (.Name x px) (.ref I) items[i] = pure ()) ?_)
    have hns₁ : h₁.Ns env.locals m := by rw [hC]; exact hns.at' fun o e => hs₁.extBut _ o hCI e
    refine seg_bind_wrap (wpAny_assign_Name (wpAny_storeName_local hx hns₁ (fun h₂ hn₂ hs₂ => ?_) (by rw [hk]; rfl)))
    rw [hC] at hs₂ hn₂
    have hit₂ : h₂.IsListIter I lv (i + 1) := hit₁.at fun o e => hs₂.extBut I o (Ne.symm hCI) e
    have hl₂ : h₂.IsList lv items := (hl.extBut hs₁.extBut hlI).extBut hs₂.extBut (Ne.symm hCl)
    have since₂ : ∀ tk, SinceV C I s₀ { s with heap := h₂, toks := tk } := fun tk => hs.step fun b o h1 h2 e => hs₂.extBut b o h1 (hs₁.extBut b o h2 e)
    rw [Sem.bind_eq_wrap', Sem.wrap_wrap]
    refine seg_execs_cons ?_
    refine seg_Expr_Yield (by subst hfs; rfl) rfl (by subst hfs; rfl) ?_ hco hint
    refine wpAny_Name (wpAny_loadName_local hk hx (by rw [hC]; exact hn₂) (v := items[i]) (by simp) ?_) hd
    intro kap hkap
    refine ⟨i, by omega, by simp [hlt], since₂ _, ⟨hit₂, hl₂, _, hn₂⟩, fun s'' need => hkap .none s'' ?_⟩
    refine seg_execs_nil ?_
    refine seg_again rfl (ih (i + 1) s'' s'' (by omega) hlt need SinceV.refl)
end
end Mine

set_option maxHeartbeats 1000000
namespace Mine
open PySem PySem.Calls PyProof.Rows PyProof PySem.W

section
variable {prog : Program} {w : World} {A : Around} {E : Value → Shared → Prop} {s : Shared}

/-- one step of enumerate over anything -/
theorem enum_next {e it : Addr} {i : Nat} {old : Value} {Q : Option Value → Shared → Prop} (he : IsEnum s.heap e it i old)
    (hnext : wpAny (model prog w) A.in1 (Builtin.SmallTypes.nextOf (.ref it)) (fun v s₁ => IsEnum s₁.heap e it i old ∧
      (∀ h', IsEnumOut h' e it ((i : Int) + 1) v s₁.heap.objs.size → h'.get? s₁.heap.objs.size = some { cls := .type "tuple", data := .seq #[.int i s₁.toks, v] } → h'.objs.size = s₁.heap.objs.size + 1 →
        (∀ b o, b ≠ e → s₁.heap.get? b = some o → h'.get? b = some o) → Q (some (.ref s₁.heap.objs.size)) { s₁ with heap := h', toks := s₁.toks + 1 }))
      (fun x s₁ => (∃ o, s₁.heap.get? (match x with | .ref a => a | _ => 0) = some o ∧ o.cls = .type "StopIteration" ∧ ∃ a, x = .ref a) ∧ Q none s₁) s) :
    wpAny (model prog w) A (pyNext (.ref e)) Q E s := by
  have hT : s.TypeIs (.ref e) "enumerate" := ⟨_, he, rfl⟩
  unfold pyNext
  refine wpAny_bind (wpAny_attempt (wpAny_callSpecial?_slot (name := Str.ofString "__next__") hT PySem.F.slot_enumerate_next
    (wpAny_call_entry PySem.F.slot_enumerate_next hT PySem.F.entry_enumerate_next ?_ (PySem.F.args_enumerate_next_1 _))))
  show wpAny _ _ (field (.ref e) 2 >>= _) _ _ _
  refine wpAny_bind (wpAny_field he rfl (x := .ref it) rfl ?_)
  refine wpAny_bind (wpAny_mono hnext (fun v s₁ hv => ?_) fun x s₁ hx => ?_)
  · obtain ⟨he₁, hQ⟩ := hv
    obtain ⟨h₁, g, d, tk, os⟩ := s₁
    dsimp only at he₁ hQ
    show wpAny _ _ (field (.ref e) 3 >>= _) _ _ ⟨h₁, g, d, tk, os⟩
    refine wpAny_bind (wpAny_field he₁ rfl (x := rawInt i) rfl ?_)
    show wpAny _ _ (field (.ref e) 4 >>= _) _ _ ⟨h₁, g, d, tk, os⟩
    refine wpAny_bind (wpAny_field he₁ rfl (x := .none) rfl ?_)
    show wpAny _ _ (mkInt i >>= _) _ _ ⟨h₁, g, d, tk, os⟩
    refine wpAny_bind (wpAny_mkInt ?_)
    show wpAny _ _ (setField (.ref e) 3 (rawInt ((i : Int) + 1)) >>= _) _ _ ⟨h₁, g, d, tk + 1, os⟩
    refine wpAny_bind (wpAny_setField_rec he₁ (by simp) fun h₂ he₂ hs₂ => ?_)
    replace hs₂ : Heap.SameBut e h₁ h₂ := hs₂
    replace he₂ : IsEnum h₂ e it ((i : Int) + 1) old := he₂
    show wpAny _ _ (setField (.ref e) 4 .none >>= _) _ _ ⟨h₂, g, d, tk + 1, os⟩
    refine wpAny_bind (wpAny_setField_rec he₂ (by simp) fun h₃ he₃ hs₃ => ?_)
    replace hs₃ : Heap.SameBut e h₂ h₃ := hs₃
    replace he₃ : IsEnum h₃ e it ((i : Int) + 1) old := he₃
    show wpAny _ _ (newTuple [.int i tk, v] >>= _) _ _ ⟨h₃, g, d, tk + 1, os⟩
    refine wpAny_bind (wpAny_newTuple ?_)
    have he₄ : IsEnum (h₃.push { cls := .type "tuple", data := .seq #[.int i tk, v] }) e it ((i : Int) + 1) old := Heap.get?_push_of_some _ he₃
    generalize hh₄ : h₃.push { cls := .type "tuple", data := .seq #[.int i tk, v] } = h₄ at he₄
    have hsz : h₃.objs.size = h₁.objs.size := by rw [hs₃.1, hs₂.1]
    have hel : e < h₁.objs.size := Heap.lt_size he₁
    have ht₄ : h₄.get? h₁.objs.size = some { cls := .type "tuple", data := .seq #[.int i tk, v] } := by rw [← hh₄, ← hsz]; exact Heap.get?_push_size _ rfl
    have hz₄ : h₄.objs.size = h₁.objs.size + 1 := by rw [← hh₄, Heap.size_push, hsz]
    have hk₄ : ∀ b o, b ≠ e → h₁.get? b = some o → h₄.get? b = some o := fun b o hbe hb => by
      rw [← hh₄]; exact Heap.get?_push_of_some _ (hs₃.extBut b o hbe (hs₂.extBut b o hbe hb))
    show wpAny _ _ (Builtin.SmallTypes.ownedTupleIsFree (.ref e) >>= _) _ _ ⟨h₄, g, d, tk + 1, os⟩
    rw [hsz]
    refine wpAny_bind ?_
    unfold Builtin.SmallTypes.ownedTupleIsFree
    refine wpAny_bind (wpAny_field he₄ rfl (x := .none) rfl (wpAny_pure ?_))
    simp only [if_true]
    refine wpAny_bind (wpAny_rule ?_)
    refine wpAny_bind (wpAny_field he₄ rfl (x := old) rfl ?_)
    refine wpAny_bind (wpAny_setField_rec he₄ (by simp) fun h₅ he₅ hs₅ => ?_)
    replace hs₅ : Heap.SameBut e h₄ h₅ := hs₅
    replace he₅ : IsEnum h₅ e it ((i : Int) + 1) v := he₅
    show wpAny _ _ (Builtin.SmallTypes.ownedTupleHandOut (.ref e) (.ref h₁.objs.size) >>= _) _ _ ⟨h₅, g, d, tk + 1, os⟩
    refine wpAny_bind ?_
    unfold Builtin.SmallTypes.ownedTupleHandOut
    refine wpAny_bind (wpAny_setField_rec he₅ (by simp) fun h₆ he₆ hs₆ => ?_)
    replace hs₆ : Heap.SameBut e h₅ h₆ := hs₆
    replace he₆ : IsEnumOut h₆ e it ((i : Int) + 1) v h₁.objs.size := he₆
    refine wpAny_setField_rec he₆ (by simp) fun h₇ he₇ hs₇ => ?_
    replace hs₇ : Heap.SameBut e h₆ h₇ := hs₇
    replace he₇ : IsEnumOut h₇ e it ((i : Int) + 1) v h₁.objs.size := he₇
    refine wpAny_bind (wpAny_letGo (wpAny_pure ⟨_, rfl, wpAny_pure (hQ h₇ he₇ ?_ ?_ ?_)⟩))
    · exact hs₇.extBut _ _ (Nat.ne_of_gt hel) (hs₆.extBut _ _ (Nat.ne_of_gt hel) (hs₅.extBut _ _ (Nat.ne_of_gt hel) ht₄))
    · rw [hs₇.1, hs₆.1, hs₅.1, hz₄]
    · exact fun b o hbe hb => hs₇.extBut b o hbe (hs₆.extBut b o hbe (hs₅.extBut b o hbe (hk₄ b o hbe hb)))
  · obtain ⟨⟨o, ho, hc, a, rfl⟩, hq⟩ := hx
    refine wpAny_bind (wpAny_isInstance (T := "StopIteration") (b := true) ⟨o, ho, hc⟩ isSubtype_stop ?_)
    exact wpAny_pure hq
end
end Mine

set_option maxHeartbeats 1000000
namespace Mine
open PySem PySem.Calls PyProof.Rows PyProof PySem.W

/-- the addresses of a generator's things -/
structure GenAd where
  gn : Addr
  g : Nat
  C : Addr
  I : Addr
  lv : Addr
  items : Array Value
structure GenAd.Ok (a : GenAd) : Prop where
  nC : a.gn ≠ a.C
  nI : a.gn ≠ a.I
  sC : cStatics ≠ a.C
  sI : cStatics ≠ a.I

/-- what one step of the generator may touch -/
structure SinceG (a : GenAd) (s s' : Shared) : Prop where
  heap : ∀ b o, b ≠ a.C → b ≠ a.I → s.heap.get? b = some o → s'.heap.get? b = some o
  gens : GenOnlyQ a.g s.gens s'.gens
  drawn : s'.drawn = s.drawn
  os : s'.os = s.os

structure GenV (prog : Program) (w : World) (D U : Nat) (a : GenAd) (j : Nat) (s : Shared) : Prop where
  isGen : s.heap.IsGen a.gn a.g
  lim : s.heap.NoLimit
  need : NeedV a.C a.I a.lv a.items j s
  go : ∃ gs, s.gens[a.g]? = some gs ∧ ∀ s'', NeedV a.C a.I a.lv a.items j s'' → gs.Goes (model prog w) (free D U).in1 (endV a.C a.I) (protoV a.C a.I a.lv a.items) (a.items.size - j) (.send .none) s''

section
variable {prog : Program} {w : World} {D U : Nat} {E : Value → Shared → Prop} {s : Shared} {a : GenAd}

theorem gens_size {s : Shared} {g : Nat} {x : GenState} (h : s.gens[g]? = some x) (y : GenState) : (s.setGen g y).gens[g]? = some y := setGen_self h

/-- the generator is woken and yields -/
theorem wake_yield {gs : GenState} {n : Nat} {Q : Value → Shared → Prop} (ok : a.Ok) (hD : D < recursionLimit) (hg : s.heap.IsGen a.gn a.g) (hl : s.heap.NoLimit) (hgs : s.gens[a.g]? = some gs)
    (hgo : gs.Goes (model prog w) (free D U).in1 (endV a.C a.I) (protoV a.C a.I a.lv a.items) (n + 1) (.send .none) (s.setGen a.g .running))
    (hQ : ∀ v s' j, j + n + 1 = a.items.size → a.items[j]? = some v → SinceG a s s' → GenV prog w D U a (j + 1) s' → Q v s') :
    wpAny (model prog w) (free D U) (Builtin.SmallTypes.nextOf (.ref a.gn)) Q E s := by
  unfold Builtin.SmallTypes.nextOf
  refine wpAny_bind (wpAny_callSpecial?_slot (name := Str.ofString "__next__") hg.typeIs slot_gen_next (wpAny_call_entry slot_gen_next hg.typeIs entry_gen_next ?_ (args_gen_next _)))
  show wpAny _ (free D U).in1 (Builtin.Generator.genWake (.ref a.gn) (.send .none)) _ _ s
  unfold Builtin.Generator.genWake
  refine wpAny_bind (wpAny_holding (wpAny_genNumber hg (wpAny_bind (wpAny_genState hgs ?_))))
  cases gs with
  | running => exact hgo.elim
  | finished => exact hgo.elim
  | _ =>
    refine wpAny_bind (wpAny_roomToWake hl hD ?_)
    show wpAny _ (free D U).in1 (.resume a.g (.send .none) [] _) _ _ s
    refine wpAny_resumeQ hgs hgo (fun x s₁ hx => ?_) (fun v s₁ gs' hb hv => ?_)
    · exact absurd hx.2.1 (Nat.succ_ne_zero n)
    · obtain ⟨j, hj, hi, ⟨h₁, tk₁, rfl, hk₁⟩, hneed, hkap⟩ := hv
      refine wpAny_pure ⟨v, rfl, wpAny_pure (hQ v _ j (by omega) hi ⟨fun b o h1 h2 e => hk₁ b o h1 h2 e, ?_, rfl, rfl⟩ ⟨?_, ?_, hneed, gs', ?_, ?_⟩)⟩
      · exact GenOnlyQ.of ((GenOnly.setGen s a.g .running).trans (GenOnly.setGen _ a.g gs')) (setGen_self (gs := .running) (setGen_self hgs)) hb
      · obtain ⟨o, nm, qn, ho, r⟩ := hg
        exact ⟨o, nm, qn, hk₁ _ _ ok.nC ok.nI ho, r⟩
      · obtain ⟨mc, hns, hnn⟩ := hl
        exact ⟨mc, hns.at' fun o e => hk₁ _ _ ok.sC ok.sI e, hnn⟩
      · exact setGen_self (gs := .running) (setGen_self hgs)
      · intro s'' need
        have := hkap s'' need
        rw [show a.items.size - (j + 1) = n by omega]
        exact this

theorem genV_item {j : Nat} {Q : Value → Shared → Prop} (ok : a.Ok) (hD : D < recursionLimit) (x : GenV prog w D U a j s) (hj : j < a.items.size)
    (hQ : ∀ s', SinceG a s s' → GenV prog w D U a (j + 1) s' → Q a.items[j] s') : wpAny (model prog w) (free D U) (Builtin.SmallTypes.nextOf (.ref a.gn)) Q E s := by
  obtain ⟨gs, hgs, hgo⟩ := x.go
  have hgo' := hgo (s.setGen a.g .running) x.need
  obtain ⟨n, hn⟩ : ∃ n, a.items.size - j = n + 1 := ⟨a.items.size - j - 1, by omega⟩
  rw [hn] at hgo'
  refine wake_yield ok hD x.isGen x.lim hgs hgo' fun v s' j' hj' hi hS hG => ?_
  have e : j' = j := by omega
  subst e
  rw [Array.getElem?_eq_getElem hj] at hi
  cases hi
  exact hQ s' hS hG

/-- the generator has no more -/
theorem genV_end {Q : Value → Shared → Prop} (ok : a.Ok) (hD : D < recursionLimit) (x : GenV prog w D U a a.items.size s)
    (hE : ∀ s' ex, SinceG a s s' → (∃ o, s'.heap.get? ex = some o ∧ o.cls = .type "StopIteration") → E (.ref ex) s') : wpAny (model prog w) (free D U) (Builtin.SmallTypes.nextOf (.ref a.gn)) Q E s := by
  obtain ⟨gs, hgs, hgo⟩ := x.go
  have hgo' := hgo (s.setGen a.g .running) x.need
  rw [Nat.sub_self] at hgo'
  have hg := x.isGen
  unfold Builtin.SmallTypes.nextOf
  refine wpAny_bind (wpAny_callSpecial?_slot (name := Str.ofString "__next__") hg.typeIs slot_gen_next (wpAny_call_entry slot_gen_next hg.typeIs entry_gen_next ?_ (args_gen_next _)))
  show wpAny _ (free D U).in1 (Builtin.Generator.genWake (.ref a.gn) (.send .none)) _ _ s
  unfold Builtin.Generator.genWake
  refine wpAny_bind (wpAny_holding (wpAny_genNumber hg (wpAny_bind (wpAny_genState hgs ?_))))
  cases gs with
  | running => exact hgo'.elim
  | finished => exact hgo'.elim
  | _ =>
    refine wpAny_bind (wpAny_roomToWake x.lim hD ?_)
    show wpAny _ (free D U).in1 (.resume a.g (.send .none) [] _) _ _ s
    refine wpAny_resumeQ hgs hgo' (fun x s₁ hx => ?_) (fun v s₁ gs' hb hv => ?_)
    · obtain ⟨rfl, _, h₁, tk₁, rfl, hk₁⟩ := hx
      show wpAny _ (free D U).in1 (newExc (.type "StopIteration") [] >>= _) _ _ _
      refine wpAny_bind ?_
      simp only [newExc, newTuple]
      refine wpAny_bind (wpAny_newObj_type ?_ (by size_fits))
      refine wpAny_bind (m := firstArgMember _ _) (wpAny_of_eq (a := Value.none) (by first | rfl | (simp only [firstArgMember]; rfl)) ?_)
      refine wpAny_newObj_type ?_ (by size_fits)
      simp only [raiseNew]
      refine wpAny_bind (wpAny_bind (wpAny_handled ?_))
      rw [show (free D U).in1.handled = none from rfl]
      refine wpAny_throw ?_
      refine hE _ _ ⟨fun b o h1 h2 e => Heap.get?_push_of_some _ (Heap.get?_push_of_some _ (hk₁ b o h1 h2 e)), ?_, rfl, rfl⟩ ⟨_, Heap.get?_push_size _ rfl, rfl⟩
      exact GenOnlyQ.of ((GenOnly.setGen s a.g .running).trans (GenOnly.setGen _ a.g .finished)) (setGen_self (gs := .running) (setGen_self hgs)) rfl
    · obtain ⟨j, hj, hi, hS, hN, hkap⟩ := hv
      exact (hkap s₁ hN).elim
end
end Mine

set_option maxHeartbeats 1000000
namespace Mine
open PySem PySem.Calls PyProof.Rows PyProof PySem.W

abbrev itBody (px ps pa p2 yp ep pos : Pos) : List Stmt := [.For (.Name "voter" px) (.Attribute (.Name "self" ps) "_voters" pa) (vBody "voter" p2 yp ep) [] pos]

section
variable {prog : Program} {w : World} {D U : Nat} {s : Shared} {a : GenAd} {env : Env} {K : Frag} {Cp x dx : Addr} {sl : Array (Option Value)} {es : List DictEntry} {nn : Nat} {uc un : Value} {m : Str → Option Value} {px ps pa p2 yp ep pos : Pos}

theorem seg_fresh (hK : K.In s.heap) (P : PlainK K Cp) (L : FieldK K Cp "_voters") (hx : s.heap.get? x = some ⟨.ref Cp, some dx, .plain, sl⟩) (hdx : s.heap.get? dx = some (dictOf es nn)) (hf : fieldsOK prKs [uc, un, .ref a.lv] es) (hl : s.heap.IsList a.lv a.items)
    (hC : env.locals = a.C) (hns : s.heap.Ns a.C m) (hself : m "self" = some (.ref x)) (hk : env.scope.kind = .function) (hks : env.kindOf "self" = some .local) (hkv : env.kindOf "voter" = some .local) (hco : env.scope.isCoroutine = false) (hint : interactive env = false)
    (hI : a.I = s.heap.objs.size) :
    Seg (model prog w) (free D U).in1 (endV a.C a.I) (protoV a.C a.I a.lv a.items) a.items.size s (.func (itBody px ps pa p2 yp ep pos) env) ((model prog w).den (.func (itBody px ps pa p2 yp ep pos) env)) [] s := by
  have hlv : a.lv ≠ a.I := by
    obtain ⟨o, ho, _⟩ := hl
    rw [hI]; exact Nat.ne_of_lt (Heap.lt_size ho)
  have hCI : a.C ≠ a.I := by rw [hI]; exact Nat.ne_of_lt hns.lt
  have hCl : a.C ≠ a.lv := fun q => by
    obtain ⟨o, ho, hc, n, hd⟩ := hl
    obtain ⟨o', es', ep', ho', hd', _⟩ := hns
    rw [q, ho] at ho'; cases ho'
    rw [hd] at hd'; cases hd'
  refine seg_func ?_
  refine seg_execs_cons ?_
  rw [exec_For]
  refine seg_bind_wrap (wpAny_standAt ?_)
  refine seg_bind_wrap (Attribute_any_ (prog := prog) (w := w) (wpAny_Name (wpAny_loadName_local hk hks (by rw [hC]; exact hns) hself ?_)) ?_)
  · refine get_value hK (dict_inst hx hdx) P.ga (findObj_own P.dct L.find rfl (by show getL _ es = _; exact fieldsOK_at hf rfl)) rfl ?_
    refine seg_bind_wrap (wpAny_of_eq (rfl : foldedSetIterable (.Attribute (.Name "self" ps) "_voters" pa) env (.ref a.lv) = pure (.ref a.lv)) ?_)
    refine seg_bind_wrap (wpAny_standAt ?_)
    refine seg_bind_wrap (wpAny_holding (wpAny_pyIter_list (s := { s with toks := s.toks + 1 }) hl ?_))
    rw [← hI]
    refine seg_runOwn fun p => ?_
    refine seg_vloop (i := 0) rfl rfl hC hk hkv hco hint hlv hCI hCl (by decide) (fun s₀ s₁ hs => seg_end (.ok (.ret .none)) ⟨rfl, rfl, hs⟩) a.items.size s _ (Nat.sub_zero _) (Nat.zero_le _) ⟨⟨_, by rw [hI]; exact Heap.get?_push_size _ rfl, rfl, rfl⟩, hl.push _, m, hns.push _⟩ ⟨_, _, rfl, fun b o _ _ e => Heap.get?_push_of_some _ e⟩
  · with_unfolding_all rfl

/-- a generator that was never woken -/
structure GenF (prog : Program) (w : World) (K : Frag) (Cp x dx : Addr) (sl : Array (Option Value)) (es : List DictEntry) (nn : Nat) (uc un : Value) (a : GenAd) (env : Env) (body : List Stmt) (s : Shared) : Prop where
  isGen : s.heap.IsGen a.gn a.g
  lim : s.heap.NoLimit
  hK : K.In s.heap
  hx : s.heap.get? x = some ⟨.ref Cp, some dx, .plain, sl⟩
  hdx : s.heap.get? dx = some (dictOf es nn)
  hf : fieldsOK prKs [uc, un, .ref a.lv] es
  hl : s.heap.IsList a.lv a.items
  hns : ∃ m, s.heap.Ns a.C m ∧ m "self" = some (.ref x)
  hg : s.gens[a.g]? = some (.fresh (.func body env))

theorem genF_item {E : Value → Shared → Prop} {Q : Value → Shared → Prop} (P : PlainK K Cp) (L : FieldK K Cp "_voters") (ok : a.Ok) (hD : D < recursionLimit) (y : GenF prog w K Cp x dx sl es nn uc un a env (itBody px ps pa p2 yp ep pos) s)
    (hC : env.locals = a.C) (hk : env.scope.kind = .function) (hks : env.kindOf "self" = some .local) (hkv : env.kindOf "voter" = some .local) (hco : env.scope.isCoroutine = false) (hint : interactive env = false)
    (hI : a.I = s.heap.objs.size) (hn : 0 < a.items.size) (hQ : ∀ s', SinceG a s s' → GenV prog w D U a 1 s' → Q a.items[0] s') : wpAny (model prog w) (free D U) (Builtin.SmallTypes.nextOf (.ref a.gn)) Q E s := by
  obtain ⟨m, hns, hself⟩ := y.hns
  obtain ⟨n, hn'⟩ : ∃ n, a.items.size = n + 1 := ⟨a.items.size - 1, by omega⟩
  have sg := seg_fresh (prog := prog) (w := w) (D := D) (U := U) (s := s.setGen a.g .running) (px := px) (ps := ps) (pa := pa) (p2 := p2) (yp := yp) (ep := ep) (pos := pos) y.hK P L y.hx y.hdx y.hf y.hl hC hns hself hk hks hkv hco hint hI
  rw [hn'] at sg
  refine wake_yield (n := n) ok hD y.isGen y.lim y.hg ⟨rfl, sg⟩ fun v s' j hj hi hS hG => ?_
  have e : j = 0 := by omega
  subst e
  rw [Array.getElem?_eq_getElem hn] at hi
  cases hi
  exact hQ s' hS hG
end
end Mine

set_option maxHeartbeats 3200000
namespace Mine
open PySem PySem.Calls PyProof.Rows PyProof PySem.W
open AutoSeq1 (wpAny_loadPart')

section
variable {prog : Program} {w : World} {A : Around} {E : Value → Shared → Prop} {s : Shared}

abbrev enumObj (it : Value) : Obj := { cls := .type "enumerate", dict := none, data := .fields #[.none, .bool false, it, rawInt 0, .none, .none], slots := #[] }

theorem enum_new {v : Value} {Q₁ : Value → Shared → Prop}
    (h : wpAny (model prog w) A.in1 (pyIter v) (fun it s₁ => Q₁ (.ref s₁.heap.objs.size) { s₁ with heap := s₁.heap.push (enumObj it) }) E s) :
    codeAny (model prog w) A (.call (.builtin "enumerate.__new__") ⟨[.type "enumerate", v], []⟩) (wants Q₁ E) s := by
  refine codeAny_call_builtin (by decide +kernel) PySem.F.entry_enumerate_new (wpAny_of_eq (PySem.F.newCall_enumerate_1 v) ?_)
  have hsub := sub_enumerate
  obtain ⟨hp, g, d, tk, os⟩ := s
  have fin : wpAny (model prog w) A.in1 (pyIter v) (fun it s₁ => wpAny (model prog w) A.in1 (Builtin.SmallTypes.newRecord (.type "enumerate") (Builtin.SmallTypes.ownedTupleFields ++ [it, rawInt 0, .none, .none]) >>= fun r => ret r) (fun fin s' => match fin with | .done f => wants Q₁ E (.ok f) s' | .again c' => c'.quiet = true ∧ codeAny (model prog w) A c' (wants Q₁ E) s') E s₁) E ⟨hp, g, d, tk, os⟩ := by
    refine wpAny_mono h (fun it s₁ h₁ => ?_) fun _ _ e => e
    unfold Builtin.SmallTypes.newRecord
    refine wpAny_bind (wpAny_newObj_type (T := "enumerate") (data := .fields #[.none, .bool false, it, rawInt 0, .none, .none]) ?_ (by size_fits))
    exact wpAny_pure h₁
  generalize hPI : pyIter = PI at fin
  generalize hNR : Builtin.SmallTypes.newRecord = NR at fin
  unfold Builtin.«enumerate.__new__»
  rw [hPI, hNR]
  wp_walk
  refine wpAny_stack_any fun st => wpAny_pure ?_
  split
  · rename_i c _ _ _ _ _
    cases (c == Value.type "enumerate")
    · wp_walk
      exact fin
    · wp_walk
      exact fin
  · wp_walk
    exact fin

theorem call_enum {v : Value} {Q : Value → Shared → Prop}
    (h : wpAny (model prog w) A.in1.in1 (pyIter v) (fun it s₁ => Q (.ref s₁.heap.objs.size) { s₁ with heap := s₁.heap.push (enumObj it) }) E s) :
    wpAny (model prog w) A (call (.type "enumerate") [v]) Q E s := by
  refine callType_codes (Q₁ := fun obj s₁ => (∃ o, s₁.heap.get? (match obj with | .ref a => a | _ => 0) = some o ∧ o.cls = .type "enumerate" ∧ ∃ a, obj = .ref a) ∧ Q obj s₁) PySem.F.called_enumerate (PySem.F.typeCall_enumerate_1 v) PySem.F.entry_object_init
    (enum_new (wpAny_mono h (fun it s₁ hq => ⟨⟨_, Heap.get?_push_size _ rfl, rfl, _, rfl⟩, hq⟩) fun _ _ e => e)) fun obj s₁ h₁ => ?_
  obtain ⟨⟨o, ho, hc, a, rfl⟩, hq⟩ := h₁
  have hT : s₁.TypeIs (.ref a) "enumerate" := ⟨o, ho, hc⟩
  exact ⟨hT, PySem.F.args_object_init_2 _ _, object_init_meets PySem.F.called_enumerate.init.lookup PySem.F.called_enumerate.made (by decide) prog w A.in1 _ s₁ ⟨hT, rfl, hq⟩⟩

/-- iter(x), x an object with a plain __iter__ -/
theorem iter_own {K : Frag} {x C f : Addr} {ox : Obj} {od : Option Obj} {Q : Value → Shared → Prop} (X : K.In s.heap) (I : InstAt s.heap x ox C od) (H : Has K C "__iter__" f)
    (h : wpAny (model prog w) A (call (.ref f) [.ref x]) (fun v s' => ∃ T' r, s'.TypeIs v T' ∧ typeLookup (.type T') "__next__" = pure (some r) ∧ Q v s') E s) : wpAny (model prog w) A (pyIter (.ref x)) Q E s := by
  have fin : wpAny (model prog w) A (call (.ref f) [.ref x] >>= fun v => pure (some v)) (fun r s' => ∃ v, r = some v ∧ ∃ T' r', s'.TypeIs v T' ∧ typeLookup (.type T') "__next__" = pure (some r') ∧ Q v s') E s :=
    wpAny_bind (wpAny_mono h (fun v s' h' => wpAny_pure ⟨v, rfl, h'⟩) fun _ _ z => z)
  have one : ∀ refuse : Sem Value, wpAny (model prog w) A (callSpecialIfBoundUnlessNone? (.ref x) "__iter__" refuse) (fun r s' => ∃ v, r = some v ∧ ∃ T' r', s'.TypeIs v T' ∧ typeLookup (.type T') "__next__" = pure (some r') ∧ Q v s') E s := by
    intro refuse
    simp only [callSpecialIfBoundUnlessNone?, bindSpecialIfBound?]
    refine wpAny_holding (wpAny_bind (wpAny_bind (wpAny_bind (I.type.here ((looks_findIn X H.1).here ?_)))))
    refine wpAny_bind (wpAny_askSetting (wpAny_ite ?_))
    have fin2 : wpAny (model prog w) A (if (Value.ref f == Value.none) = true then (refuse >>= fun v => pure (some v)) else (call (.ref f) [.ref x] >>= fun v => pure (some v))) (fun r s' => ∃ v, r = some v ∧ ∃ T' r', s'.TypeIs v T' ∧ typeLookup (.type T') "__next__" = pure (some r') ∧ Q v s') E s := by
      rw [if_neg (show ¬ ((Value.ref f == Value.none) = true) from Bool.false_ne_true)]
      exact fin
    split
    · exact wpAny_bind ((bind_fn X _ H.2).here (wpAny_pure (by exact fin2)))
    · exact wpAny_tryCatch (wpAny_bind ((bind_fn X _ H.2).here (wpAny_pure (by exact fin2))))
  unfold pyIter
  refine wpAny_bind (wpAny_bind (I.type.here ((looks_findIn X H.1).here ?_)))
  show wpAny _ A (callSpecialIfBoundUnlessNone? (.ref x) "__iter__" _ >>= _) Q E s
  refine wpAny_bind (wpAny_mono (one _) (fun r s' hr => ?_) fun _ _ z => z)
  obtain ⟨v, rfl, T', r', hT, hl, hq⟩ := hr
  exact wpAny_bind (wpAny_specialOf hT hl (wpAny_pure hq))
end
end Mine

set_option maxHeartbeats 1000000
namespace Mine
open PySem PySem.Calls PyProof.Rows PyProof PySem.W

structure Lay16 (W : Wd) extends Lay15 W where
  enumerate : W.mg "enumerate" = none ∧ W.mb "enumerate" = some (.type "enumerate")
  aIt : Addr
  rIt : Rest
  fIt : FnK W aIt (fdM (methAt 15 11) "Profile.__iter__" .none rIt)
  hIt : Has W.K aPr "__iter__" aIt

section
variable {W : Wd} (Y : Lay16 W)

abbrev itEnv (L : Addr) : Env := callEnvC (fdM (methAt 15 11) "Profile.__iter__" .none Y.rIt) L Y.aIt

/-- Profile.__iter__ is called -/
theorem make_gen {A : Around} {x : Addr} {s : Shared} {R : Result → Shared → Prop} (hr : A.depth < recursionLimit) (hI : W.I s.heap)
    (h : ∀ s' C gn, K0 W.T s s' → (∀ b o, s.heap.get? b = some o → s'.heap.get? b = some o) → s.heap.objs.size ≤ C → C < gn → gn < s'.heap.objs.size → (∃ m, s'.heap.Ns C m ∧ m "self" = some (.ref x)) → s'.heap.IsGen gn s.gens.size →
      s'.gens[s.gens.size]? = some (.fresh (.func (bodyOf (methAt 15 11)) (itEnv Y C))) → s'.heap.NoLimit → R (.ok (.ret (.ref gn))) s') :
    codeAny (model W.prog W.w) A (.call (.ref Y.aIt) ⟨[.ref x], []⟩) R s := by
  obtain ⟨o, hob, hdata⟩ := Y.fIt.at_
  have ho' := hI.1 Y.aIt o hob
  refine codeAny_call_generator hr ho' hdata rfl rfl (body := bodyOf (methAt 15 11)) rfl (codeRec_of hI.1 Y.fIt.code) ?_
  refine BindsTo.of_eq (binds := [("self", .ref x)]) rfl _ _ _ _ ?_
  rw [Y.fIt.clo]
  refine wpAny_newFunctionEnv_cells rfl (fun p hp => ?_) fun env he s' xx => ?_
  · rw [List.mem_singleton] at hp
    subst hp
    exact .inl rfl
  subst he
  refine ⟨hI.2.2.2.1.keeps xx.toInCall.keep, ?_⟩
  have keep := xx.toInCall.keep
  have ns := xx.toInCall.ns
  have fresh := xx.toInCall.fresh
  obtain ⟨h', tk, rfl⟩ := xx.toInCall.same
  dsimp only at keep ns fresh
  have hC : s.heap.objs.size < h'.objs.size := ns.lt
  refine h _ s.heap.objs.size h'.objs.size ⟨fun b o _ e _ => Heap.get?_push_of_some _ (keep b o e), fun b hb => ?_, fun b o e _ => .inl (Heap.get?_push_of_some _ (keep b o e)), fun i y _ e => ?_, by show s.gens.size ≤ (s.gens.push _).size; rw [Array.size_push]; omega, fun hb => hb.push rfl, rfl, rfl⟩
    (fun b o e => Heap.get?_push_of_some _ (keep b o e)) (Nat.le_refl _) hC (by show h'.objs.size < (h'.push _).objs.size; rw [Heap.size_push]; exact Nat.lt_succ_self _) ⟨_, ns.push _, ?_⟩ ⟨_, _, _, Heap.get?_push_size _ rfl, rfl, rfl, rfl⟩ (Array.getElem?_push_size ..) ((hI.2.2.2.1.keeps keep).push _)
  · obtain ⟨o', e'⟩ := Option.isSome_iff_exists.mp hb
    show ((h'.push _).get? b).isSome = true
    rw [Heap.get?_push_of_some _ (keep b o' e')]; rfl
  · show (s.gens.push _)[i]? = some y
    obtain ⟨hlt, _⟩ := Array.getElem?_eq_some_iff.mp e
    rw [Array.getElem?_push_lt hlt]
    rw [Array.getElem?_eq_getElem hlt] at e
    exact e
  · exact bindL_get (x := "self") (v := .ref x) rfl (by simp) (.head _)
end
end Mine

set_option maxHeartbeats 2000000
namespace Mine
open PySem PySem.Calls PyProof.Rows PyProof PySem.W

/-- kept since s, but for the frame's own and for what is new -/
abbrev KpN (F : Fm) (D : Addr → Prop) (s s' : Shared) : Prop := Kp F.T (fun b => F.Mut D b ∨ s.heap.get? b = none) (fun i => s.gens[i]? = none) s s'

section
variable {F : Fm} {D : Addr → Prop} {s s₁ s' : Shared}
theorem KpN.since {a : GenAd} (k : KpN F D s s') (h : SinceG a s' s₁) (hC : s.heap.get? a.C = none) (hI : s.heap.get? a.I = none) (hg : s.gens[a.g]? = none) : KpN F D s s₁ := by
  have ne : ∀ b, (s.heap.get? b).isSome = true → b ≠ a.C ∧ b ≠ a.I := fun b hb => ⟨fun q => (by rw [q, hC] at hb; cases hb), fun q => (by rw [q, hI] at hb; cases hb)⟩
  refine ⟨fun b o hm e ht => ?_, fun b hb => ?_, fun b o e ht => ?_, fun i x hi e => ?_, Nat.le_trans k.gsz ?_, fun hb => h.gens.bare (k.bare hb), h.drawn.trans k.drawn, h.os.trans k.os⟩
  · have := ne b (by rw [e]; rfl)
    exact h.heap b o this.1 this.2 (k.keep b o hm e ht)
  · obtain ⟨o, ho⟩ := Option.isSome_iff_exists.mp (k.live b hb)
    have := ne b hb
    rw [h.heap b o this.1 this.2 ho]; rfl
  · have := ne b (by rw [e]; rfl)
    rcases k.tabs b o e ht with h1 | ⟨hT, vs, more, rfl, h1⟩
    · exact .inl (h.heap b _ this.1 this.2 h1)
    · exact .inr ⟨hT, vs, more, rfl, h.heap b _ this.1 this.2 h1.1, h1.2⟩
  · have hne : i ≠ a.g := fun q => hi (by rw [q]; exact hg)
    have := k.gens i x hi e
    rcases h.gens with e' | ⟨⟨_, ho⟩, _⟩
    · rw [e']; exact this
    · rw [ho i hne]; exact this
  · rcases h.gens with e' | ⟨⟨hz, _⟩, _⟩
    · rw [e']; exact Nat.le_refl _
    · rw [hz]; exact Nat.le_refl _
/-- one new thing was changed -/
theorem KpN.but {b₀ : Addr} {h' : Heap} {tk : Nat} (k : KpN F D s s') (hk : ∀ b o, b ≠ b₀ → s'.heap.get? b = some o → h'.get? b = some o) (hn : s.heap.get? b₀ = none) : KpN F D s { s' with heap := h', toks := tk } := by
  have ne : ∀ b, (s.heap.get? b).isSome = true → b ≠ b₀ := fun b hb q => by rw [q, hn] at hb; cases hb
  refine ⟨fun b o hm e ht => hk b o (ne b (by rw [e]; rfl)) (k.keep b o hm e ht), fun b hb => ?_, fun b o e ht => ?_, k.gens, k.gsz, k.bare, k.drawn, k.os⟩
  · obtain ⟨o, ho⟩ := Option.isSome_iff_exists.mp (k.live b hb)
    show (h'.get? b).isSome = true
    rw [hk b o (ne b hb) ho]; rfl
  · have hb := ne b (by rw [e]; rfl)
    rcases k.tabs b o e ht with h1 | ⟨hT, vs, more, rfl, h1⟩
    · exact .inl (hk b _ hb h1)
    · exact .inr ⟨hT, vs, more, rfl, hk b _ hb h1.1, h1.2⟩
theorem KpN.whole (k : KpN F D s s') : Kp F.T (F.Mut D) No s s' where
  keep := fun b o hm e ht => k.keep b o (fun q => q.elim hm fun q => by rw [q] at e; cases e) e ht
  live := k.live
  tabs := k.tabs
  gens := fun i x _ e => k.gens i x (fun q => by rw [q] at e; cases e) e
  gsz := k.gsz
  bare := k.bare
  drawn := k.drawn
  os := k.os
theorem KpN.goes {D' D'' : Addr → Prop} {σ : St} (k : KpN F D s s') (g : Goes F σ D' s' D'' s₁) (hD : ∀ b, D' b → D b ∨ s.heap.get? b = none) : KpN F D s s₁ := by
  refine Kp.trans k (g.kp.mono (fun b h => ?_) fun _ h => h.elim)
  rcases h with h | h
  · exact .inl (.inl h)
  · exact (hD b h).imp .inr id

/-- the frame's facts, told anew: scalars, and fixed names by their values -/
theorem Fm.Ok.walked {ρi ρf : List (Str × PV)} {own : Option Own} {ps : List (Str × Value)} {D' : Addr → Prop} {X : Addr → Prop} (o : F.Ok ⟨ρi ++ ρf, own, ps⟩ D' s) (hsc : ρi.all (fun e => isScalar e.2) = true)
    (hf : ∀ y p, ρf.lookup y = some p → ∃ v, ps.lookup y = some v ∧ VR s'.heap (fun b => F.B b ∧ ¬ F.Mut D' b) p v)
    (k0 : K0 F.T F.s₀ s') (hk : ∀ b ob, F.Mut D' b → s.heap.get? b = some ob → tab ob = false → s'.heap.get? b = some ob) : F.Ok ⟨ρi ++ ρf, own, ps⟩ D' s' := by
  have vars : ∀ y u, VarAt F.env s.heap y u → VarAt F.env s'.heap y u := fun y u h => by
    rcases h with ⟨h1, m', ⟨ob, es, ep, ho, hd, r⟩, h3⟩ | ⟨h1, c, h2, h3⟩
    · exact .inl ⟨h1, m', ⟨ob, es, ep, hk _ _ (.inl (.inl rfl)) ho (tab_dict hd), hd, r⟩, h3⟩
    · rcases h1 with h1 | h1
      · obtain ⟨ob, e1, e2⟩ := h3
        exact .inr ⟨.inl h1, c, h2, ob, hk _ _ (.inl (.inr ⟨y, h1, h2⟩)) e1 (tab_cell e2), e2⟩
      · exact absurd h1 (F.nf y)
  refine ⟨k0, o.frF, ?_, fun y hy => ?_, fun y p e => ?_, ?_, fun y u e => vars _ _ (o.pins y u e), fun b hb => ?_⟩
  · obtain ⟨m, ob, es, ep, ho, hd, r⟩ := o.ns
    exact ⟨m, ob, es, ep, hk _ _ (.inl (.inl rfl)) ho (tab_dict hd), hd, r⟩
  · obtain ⟨c, u, h1, ob, e1, e2⟩ := o.cells y hy
    exact ⟨c, u, h1, ob, hk _ _ (.inl (.inr ⟨y, hy, h1⟩)) e1 (tab_cell e2), e2⟩
  · have e : (ρi ++ ρf).lookup y = some p := e
    rw [List.lookup_append] at e
    cases hl : ρi.lookup y with
    | some q =>
      rw [hl] at e
      cases e
      obtain ⟨u, h1, h2⟩ := o.vars y p (by show (ρi ++ ρf).lookup y = _; rw [List.lookup_append, hl]; rfl)
      exact ⟨u, up_scalar' (lookup_all (p := isScalar) hsc hl) h1, vars _ _ h2⟩
    | none =>
      rw [hl] at e
      obtain ⟨v, h1, h2⟩ := hf y p e
      exact ⟨v, h2, vars _ _ (o.pins y v h1)⟩
  · have ow := o.own
    cases own with
    | none => exact ow
    | some w =>
      obtain ⟨u, hu, hv⟩ := ow
      exact ⟨u, w.loc _ _ _ _ (fun b ob hb e ht => hk b ob (.inr hb) e ht) hu, vars _ _ hv⟩
  · obtain ⟨p, q, r⟩ := o.dF b hb
    refine ⟨p, q, ?_⟩
    have ow := o.own
    cases own with
    | none => exact absurd hb (ow b)
    | some w =>
      obtain ⟨u, hu, hv⟩ := ow
      exact w.live _ _ _ (w.loc _ s'.heap _ _ (fun b ob hb e ht => hk b ob (.inr hb) e ht) hu) b hb

theorem pins_exist {h : Heap} {X : Addr → Prop} {env : Env} : ∀ {l : List (Str × PV)}, (l.map (·.1)).Nodup → (∀ y p, l.lookup y = some p → ∃ v, VR h X p v ∧ VarAt env h y v) →
    ∃ ps : List (Str × Value), ps.map (·.1) = l.map (·.1) ∧ (∀ y p, l.lookup y = some p → ∃ v, ps.lookup y = some v ∧ VR h X p v) ∧ ∀ y v, ps.lookup y = some v → VarAt env h y v
  | [], _, _ => ⟨[], rfl, fun y p e => (by cases e), fun y v e => by cases e⟩
  | (n, u) :: l, hn, h => by
    rw [List.map_cons, List.nodup_cons] at hn
    obtain ⟨v, hv, hva⟩ := h n u (by simp)
    have tail : ∀ y p, l.lookup y = some p → y ≠ n := fun y p e q => by
      subst q
      exact hn.1 (List.mem_map.mpr ⟨(y, p), mem_of_lookup e, rfl⟩)
    obtain ⟨ps, h1, h2, h3⟩ := pins_exist (l := l) hn.2 fun y p e => h y p (by
      rw [List.lookup_cons]
      have : (y == n) = false := by simpa using tail y p e
      rw [this]; exact e)
    refine ⟨(n, v) :: ps, by rw [List.map_cons, List.map_cons, h1], fun y p e => ?_, fun y w e => ?_⟩
    · rw [List.lookup_cons] at e ⊢
      by_cases q : y = n
      · subst q
        simp at e ⊢
        subst e
        exact hv
      · have q' : (y == n) = false := by simpa using q
        rw [q'] at e ⊢
        exact h2 y p e
    · rw [List.lookup_cons] at e
      by_cases q : y = n
      · subst q
        simp at e
        subst e
        exact hva
      · have q' : (y == n) = false := by simpa using q
        rw [q'] at e
        exact h3 y w e
theorem lookup_none_of {α β : Type} {l : List (Str × α)} {l' : List (Str × β)} (h : l'.map (·.1) = l.map (·.1)) {y : Str} (e : l.lookup y = none) : l'.lookup y = none := by
  rw [List.lookup_eq_none_iff] at e ⊢
  intro p hp
  have : p.1 ∈ l.map (·.1) := h ▸ List.mem_map.mpr ⟨p, hp, rfl⟩
  obtain ⟨q, hq, e'⟩ := List.mem_map.mp this
  have := e q hq
  rw [e'] at this
  exact this
end
end Mine

set_option maxHeartbeats 4000000
namespace Mine
open PySem PySem.Calls PyProof.Rows PyProof PySem.W

theorem call_type_name {Γ : Cx} {s : Shared} {x y : Str} {id : String} {np yp pos : Pos} {v : Value} {E : Value → Shared → Prop} {Q : Value → Shared → Prop} (g : Γ.Glob x (.type id)) (o : Γ.Ok s) (hv : VarAt Γ.env s.heap y v)
    (h : wpAny Γ.M Γ.A (call (.type id) [v]) Q E s) (hs : starEach [.Name y yp] Γ.env = (false, eval (.Name y yp) Γ.env) :: starEach [] Γ.env := by rfl) (hd : (x == ("__debug__" : Str)) = false := by decide) (hd' : (y == ("__debug__" : Str)) = false := by decide) (hc : (y == ("__classdict__" : Str)) = false := by decide) :
    wpAny Γ.M Γ.A (eval (.Call (.Name x np) [.Name y yp] [] pos) Γ.env) Q E s := by
  have ha : (backTo pos (starEach [.Name y yp] Γ.env)).any (·.1) = false := by rw [hs]; rfl
  refine wpAny_Call_NameR (glob_name g o (PySem.callWith_type ha (evalArgs_all ha ?_)) hd)
  rw [hs]
  exact spliced_cons (x := eval (.Name y yp) Γ.env) (rest := backTo pos []) (wpAny_Name (load_var (Γ := Γ) hv (spliced_nil h) hc) hd')

section
variable {F : Fm} {D : Addr → Prop} {s s₁ s' : Shared}

theorem GenV.frame {prog : Program} {w : World} {Dd Uu : Nat} {a : GenAd} {j : Nat} (x : GenV prog w Dd Uu a j s) (hl : s'.heap.NoLimit) (hk : ∀ b, b = a.gn ∨ b = a.C ∨ b = a.I ∨ b = a.lv → ∀ o, s.heap.get? b = some o → tab o = false → s'.heap.get? b = some o) (hg : ∀ y, s.gens[a.g]? = some y → s'.gens[a.g]? = some y) : GenV prog w Dd Uu a j s' where
  isGen := by
    obtain ⟨o, nm, qn, ho, hc, r⟩ := x.isGen
    exact ⟨o, nm, qn, hk _ (.inl rfl) o ho (tab_of_cls hc), hc, r⟩
  lim := hl
  need := by
    obtain ⟨⟨o1, a1, b1, c1⟩, ⟨o2, a2, b2, c2⟩, m, o3, es, ep, a3, b3, r3⟩ := x.need
    exact ⟨⟨o1, hk _ (.inr (.inr (.inl rfl))) o1 a1 (tab_of_cls b1), b1, c1⟩, ⟨o2, hk _ (.inr (.inr (.inr rfl))) o2 a2 (tab_of_cls b2), b2, c2⟩, m, o3, es, ep, hk _ (.inr (.inl rfl)) o3 a3 (tab_dict b3), b3, r3⟩
  go := by
    obtain ⟨gs, h1, h2⟩ := x.go
    exact ⟨gs, hg _ h1, h2⟩

/-- for i, x in enumerate(profile): body -/
theorem exec_forEnum {W : Wd} (Y : Lay16 W) {d : Nat} {vi vo pn : Str} {p1 p2 p3 p4 p5 tp pos : Pos} {k : Nat} {body : List Stmt} {N : Nat} {vts : List Vt} {ρf : List (Str × PV)} {ρi : Nat → List (Str × PV)} {ow : Nat → Option Own} (hin : ∀ X ρ, (F.cx X ρ).In W d)
    (g : ∀ X ρ, (F.cx X ρ).Glob "enumerate" (.type "enumerate")) (hne : 0 < vts.length) (hnod : (ρf.map (·.1)).Nodup) (hpn : ρf.lookup pn = some (Y.pr N (vts.map Y.vt))) (hpi : ∀ i, (ρi i).lookup pn = none) (hdis : ∀ i y p, ρf.lookup y = some p → (ρi i).lookup y = none) (hsc : ∀ i, (ρi i).all (fun e => isScalar e.2) = true)
    (hvi : varKind F.env vi = true) (hvo : varKind F.env vo = true) (hfi : ρf.lookup vi = none) (hfo : ρf.lookup vo = none) (hoi : ∀ i w, ow i = some w → w.name ≠ vi ∧ w.name ≠ vo) (howf : ∀ i w, ow i = some w → ρf.lookup w.name = none)
    (hdn : (pn == ("__debug__" : Str)) = false := by decide) (hcn : (pn == ("__classdict__" : Str)) = false := by decide)
    (hst : starEach [.Name pn p4] F.env = (false, eval (.Name pn p4) F.env) :: starEach [] F.env := by rfl)
    (has : (assignEach [.Name vi p1, .Name vo p2] F.env).map (·.2) = [assign (.Name vi p1) F.env, assign (.Name vo p2) F.env] := by rfl) (has2 : (assignEach [.Name vi p1, .Name vo p2] F.env).findIdx? (·.1) = none := by rfl)
    (hb : ∀ (i : Nat) q, vts[i]? = some q → ∀ ps : List (Str × Value), ps.map (·.1) = ρf.map (·.1) → Execs F ⟨(vo, Y.vt q) :: (vi, .int i) :: (ρi i ++ ρf), ow i, ps⟩ body (.next ⟨ρi (i + 1) ++ ρf, ow (i + 1), ps⟩))
    (hs : ∀ x, foldedSetIterable (.Call (.Name "enumerate" p3) [.Name pn p4] [] p5) F.env x = pure x := by intro _; rfl) :
    Exec F ⟨ρi 0 ++ ρf, ow 0, []⟩ (.For (.Tuple [.Name vi p1, .Name vo p2] k tp) (.Call (.Name "enumerate" p3) [.Name pn p4] [] p5) body [] pos) (.next ⟨ρi vts.length ++ ρf, ow vts.length, []⟩) := fun E D s o => by
  have H := hin (fun _ => True) []
  have hT : F.T = W.T := H.T
  have eM : F.M = model W.prog W.w := by have h1 := H.prog; have h2 := H.w; unfold Fm.M; rw [show F.prog = W.prog from h1, show F.w = W.w from h2]
  have hroom : Room F.A d := H.room
  have lkp : (ρi 0 ++ ρf).lookup pn = some (Y.pr N (vts.map Y.vt)) := by rw [List.lookup_append, hpi 0]; exact hpn
  refine wpAny_For ?_ hs
  obtain ⟨xv, hv, hvar⟩ := o.vars pn _ lkp
  refine call_type_name (Γ := F.cx (F.rd0 D s) (ρi 0 ++ ρf)) (g _ _) o.cx0 hvar ?_ hst (by decide) hdn hcn
  obtain ⟨s₁, hs1⟩ : ∃ s₁ : Shared, s₁ = s := ⟨s, rfl⟩
  have k₁ : K0 F.T s s₁ := by rw [hs1]; exact Kp.refl
  have o₁ : F.Ok _ D s₁ := o.step k₁
  have hI₁ : W.I s₁.heap := H.I _ o₁.base
  rw [← hs1]
  have hv : VR s₁.heap (fun b => F.B b ∧ ¬ F.Mut D b) (Y.pr N (vts.map Y.vt)) xv := by rw [hs1]; exact hv
  cases hv with
  | @inst _ x dx sl es n _ fv _ hX hXd hx hdx hf hfv =>
  cases hfv with
  | cons h1 hfv =>
  cases hfv with
  | cons h2 hfv =>
  cases hfv with
  | cons hul hfv =>
  cases hfv
  rename_i uc un ul
  obtain ⟨lv, us, rfl, hlvX, hlv, hus⟩ := hul.isList
  have hlen : us.length = vts.length := by rw [hus.length, List.length_map]
  show wpAny F.M F.A (call (.type "enumerate") [.ref x]) _ E s₁
  rw [eM]
  refine call_enum (iter_own hI₁.1 (dict_inst hx hdx) Y.hIt (wpAny_call (make_gen Y (by have := hroom.2.1; show F.A.depth < _; omega) hI₁ fun s₂ C gn k₂ kx hC hCg hgn hns hgen hfresh hlim => ⟨"generator", _, hgen.typeIs, slot_gen_next.lookup, ?_⟩)))
  -- the state at the loop's start
  have hCn : s.heap.get? C = none := none_of_K k₁ (Heap.get?_none_of_le hC)
  have hgnn : s.heap.get? gn = none := none_of_K k₁ (Heap.get?_none_of_le (Nat.le_trans hC (Nat.le_of_lt hCg)))
  have heg : ∃ e, e = s₂.heap.objs.size := ⟨_, rfl⟩
  obtain ⟨e, hee⟩ := heg
  have hen : s.heap.get? e = none := by
    rw [hee]; exact none_of_K k₁ (none_of_K k₂ (get_size _))
  have k₃ : K0 W.T s₂ { s₂ with heap := s₂.heap.push (enumObj (.ref gn)) } := K0.push (n := s₂.toks) _
  have hS3 : ∃ sS : Shared, sS = { s₂ with heap := s₂.heap.push (enumObj (.ref gn)) } := ⟨_, rfl⟩
  obtain ⟨sS, hsS⟩ := hS3
  have kS : K0 F.T s sS := by rw [hsS]; exact k₁.trans (by rw [hT]; exact k₂.trans k₃)
  have heS : IsEnum sS.heap e gn ((0 : Nat) : Int) .none := by rw [hsS, hee]; exact Heap.get?_push_size _ rfl
  have kxS : ∀ b ob, s₁.heap.get? b = some ob → sS.heap.get? b = some ob := fun b ob h => by rw [hsS]; exact Heap.get?_push_of_some _ (kx b ob h)
  have kx2 : ∀ b ob, s₂.heap.get? b = some ob → sS.heap.get? b = some ob := fun b ob h => by rw [hsS]; exact Heap.get?_push_of_some _ h
  rw [← hee, ← hsS]
  refine wpAny_pyIter_enum heS ?_
  have hszS : sS.heap.objs.size = e + 1 := by rw [hsS, hee]; exact Heap.size_push ..
  let ad : GenAd := ⟨gn, s₁.gens.size, C, sS.heap.objs.size, lv, List.toArray us⟩
  have hIn : s.heap.get? ad.I = none := none_of_K kS (get_size _)
  have hgN : s.gens[ad.g]? = none := Array.getElem?_eq_none k₁.gsz
  have csLt : cStatics < s₁.heap.objs.size := by
    obtain ⟨mc, hn, _⟩ := hI₁.2.2.2.1
    exact hn.lt
  have gnLt : gn < e := by rw [hee]; exact hgn
  have adOk : ad.Ok := ⟨Nat.ne_of_gt hCg, Nat.ne_of_lt (by show gn < sS.heap.objs.size; rw [hszS]; exact Nat.lt_succ_of_lt gnLt), Nat.ne_of_lt (Nat.lt_of_lt_of_le csLt hC), Nat.ne_of_lt (by show cStatics < sS.heap.objs.size; rw [hszS]; exact Nat.lt_succ_of_lt (Nat.lt_trans (Nat.lt_of_lt_of_le csLt hC) (Nat.lt_trans hCg gnLt)))⟩
  have heC : e ≠ C := Nat.ne_of_gt (Nat.lt_trans hCg gnLt)
  have heI : e ≠ ad.I := Nat.ne_of_lt (by show e < sS.heap.objs.size; rw [hszS]; exact Nat.lt_succ_self _)
  have heg' : e ≠ gn := Nat.ne_of_gt gnLt
  have adSize : ad.items.size = vts.length := by show (List.toArray us).size = _; rw [List.size_toArray, hlen]
  have gF : GenF W.prog W.w W.K Y.aPr x dx sl es n uc un ad (itEnv Y C) (bodyOf (methAt 15 11)) sS := by
    refine ⟨?_, ?_, ?_, kxS _ _ hx, kxS _ _ hdx, hf, ?_, ?_, ?_⟩
    · obtain ⟨ob, nm, qn, ho, r⟩ := hgen
      exact ⟨ob, nm, qn, kx2 _ _ ho, r⟩
    · exact hlim.keeps kx2
    · exact fun a ob h => kxS a ob (hI₁.1 a ob h)
    · obtain ⟨ob, ho, r⟩ := hlv
      exact ⟨ob, kxS _ _ ho, r⟩
    · obtain ⟨m, hm, hse⟩ := hns
      exact ⟨m, hm.at' fun ob h => kx2 _ ob h, hse⟩
    · rw [hsS]; exact hfresh
  -- the fixed names
  obtain ⟨ps, hps, hpv, hpa⟩ := pins_exist (X := fun b => F.B b ∧ ¬ F.Mut D b) hnod (fun y p e => by
    obtain ⟨v, h1, h2⟩ := o.vars y p (by show (ρi 0 ++ ρf).lookup y = _; rw [List.lookup_append, hdis 0 y p e]; exact e)
    exact ⟨v, h1, h2⟩)
  have okS : F.Ok ⟨ρi 0 ++ ρf, ow 0, ps⟩ D sS := by
    have o' := o.step kS
    exact { o' with pins := fun y v e => (hpa y v e).step kS }
  have rdFix : ∀ {s' : Shared} {D' : Addr → Prop}, KpN F D s s' → (∀ b, D' b → D b ∨ s.heap.get? b = none) → ∀ y p, ρf.lookup y = some p → ∃ v, ps.lookup y = some v ∧ VR s'.heap (fun b => F.B b ∧ ¬ F.Mut D' b) p v := fun {s' D'} kp hD' y p e => by
    obtain ⟨v, h1, h2⟩ := hpv y p e
    refine ⟨v, h1, h2.live.mono (fun b ob hb e ht => kp.keep b ob (fun q => q.elim hb.1.2 fun q => by rw [q] at e; cases e) e ht) fun b hb => ⟨hb.1.1, fun q => ?_⟩⟩
    rcases q with q | q
    · exact hb.1.2 (.inl q)
    · rcases hD' b q with q | q
      · exact hb.1.2 (.inr q)
      · have := hb.2; rw [q] at this; cases this
  have nFr : ∀ b, F.Fr b → s.heap.get? b ≠ none := fun b hb q => by have := o.frL hb; rw [q] at this; cases this
  have nD : ∀ b, D b → s.heap.get? b ≠ none := fun b hb q => by have := (o.dF b hb).2.2; rw [q] at this; cases this
  let Wk : Addr → Prop := fun b => b = e ∨ b = gn ∨ b = C ∨ b = ad.I
  have WkN : ∀ b, Wk b → s.heap.get? b = none := fun b hb => by
    rcases hb with rfl | rfl | rfl | rfl
    · exact hen
    · exact hgnn
    · exact hCn
    · exact hIn
  refine codeAny_forLoop_any (fun kk s' => ∃ i D', i ≤ vts.length ∧ kk = vts.length + 1 - i ∧ F.Ok ⟨ρi i ++ ρf, ow i, ps⟩ D' s' ∧ KpN F D s s' ∧ (∀ b, D' b → D b ∨ s.heap.get? b = none) ∧ (∀ b, Wk b → ¬ D' b) ∧ (∃ old, IsEnum s'.heap e gn (i : Int) old) ∧
      (i = 0 → s' = sS) ∧ (0 < i → GenV W.prog W.w (F.A.depth + 5) (F.A.units + 40) ad i s')) ?_ (vts.length + 1)
    ⟨0, D, Nat.zero_le _, rfl, okS, kS.of0, fun _ h => .inl h, fun b hb q => nD b q (WkN b hb), ⟨_, heS⟩, fun _ => rfl, fun h => absurd h (Nat.lt_irrefl _)⟩
  rintro kk s' ⟨i, D', hin', rfl, ok, kp, hD', hWD, ⟨old, he⟩, hz, hg⟩
  have hlim' : s'.heap.NoLimit := (H.I _ ok.base).2.2.2.1
  -- what the step may touch is none of ours
  have nM : ∀ b, Wk b → ¬ F.Mut D' b := fun b hb q => q.elim (fun q => nFr b q (WkN b hb)) (hWD b hb)
  have keepM : ∀ {s₁' : Shared}, SinceG ad s' s₁' → ∀ b ob, F.Mut D' b → s'.heap.get? b = some ob → tab ob = false → s₁'.heap.get? b = some ob := fun hS b ob hb e _ =>
    hS.heap b ob (fun q => nM b (.inr (.inr (.inl q))) hb) (fun q => nM b (.inr (.inr (.inr q))) hb) e
  have depthOk : recursionLimit > F.A.depth + 5 := by have := hroom.2.1; omega
  show wpAny (model W.prog W.w) F.A (pyNext (.ref e)) _ _ s'
  refine enum_next he ?_
  refine wpAny_free (D := F.A.depth + 5) (U := F.A.units + 40) F.hh (Nat.le_add_right _ 5) (by show F.A.units + 1 ≤ _; omega) ?_
  by_cases hlt : i < vts.length
  · have hi : i < ad.items.size := by rw [adSize]; exact hlt
    have next : ∀ (Q' : Value → Shared → Prop) (E' : Value → Shared → Prop), (∀ s₁', SinceG ad s' s₁' → GenV W.prog W.w (F.A.depth + 5) (F.A.units + 40) ad (i + 1) s₁' → Q' ad.items[i] s₁') → wpAny (model W.prog W.w) (free (F.A.depth + 5) (F.A.units + 40)) (Builtin.SmallTypes.nextOf (.ref gn)) Q' E' s' := fun Q' E' hQ' => by
      rcases Nat.eq_zero_or_pos i with h0 | h0
      · subst h0
        have := hz rfl
        subst this
        exact genF_item (a := ad) (env := itEnv Y C) Y.pPr Y.voPr adOk depthOk gF rfl rfl rfl rfl rfl rfl rfl (by rw [adSize]; exact hne) hQ'
      · exact genV_item adOk depthOk (hg h0) hi hQ'
    refine next _ _ fun s₂' hS hG => ⟨hS.heap e _ heC heI he, fun h₃ heo htup hsz hk₃ => ?_⟩
    -- what was kept
    have kpg := kp.since hS hCn hIn hgN
    have live₂ : ∀ b ob, s₂'.heap.get? b = some ob → b < s₂'.heap.objs.size := fun b ob h => Heap.lt_size h
    have elt : e < s₂'.heap.objs.size := by
      obtain h := hS.heap e _ heC heI he
      exact live₂ _ _ h
    refine wpAny_letOwnedTupleGo_enum heo fun h₄ he₄ hs₄ => ?_
    replace hs₄ : Heap.SameBut e h₃ h₄ := hs₄
    have hz₄ : h₄.objs.size = s₂'.heap.objs.size + 1 := hs₄.1.trans hsz
    have ht₄ : h₄.IsTuple s₂'.heap.objs.size #[.int (i : Int) s₂'.toks, ad.items[i]] := ⟨_, (hs₄.2 _ (Nat.ne_of_gt elt)).trans htup, rfl, _, rfl⟩
    have hlen2 : (assignEach [.Name vi p1, .Name vo p2] F.env).length = 2 := by
      have := congrArg List.length has
      rw [List.length_map] at this; exact this
    refine wpAny_assign_Tuple F.hh ht₄ hlen2 has2 fun h₅ hx₅ => ?_
    replace hx₅ : Heap.ExtBut h₄.objs.size h₄ h₅ := hx₅
    have keep5 : ∀ b ob, b ≠ e → s₂'.heap.get? b = some ob → h₅.get? b = some ob := fun b ob hb h =>
      hx₅ b ob (fun q => by have := live₂ b ob h; rw [q, hz₄] at this; exact Nat.lt_irrefl _ (Nat.lt_of_succ_lt this)) (hs₄.extBut b ob hb (hk₃ b ob hb h))
    have kp₅ : KpN F D s { s₂' with heap := h₅, toks := s₂'.toks + 1 } := kpg.but keep5 hen
    have ok₅ : F.Ok ⟨ρi i ++ ρf, ow i, ps⟩ D' { s₂' with heap := h₅, toks := s₂'.toks + 1 } := ok.walked (X := fun _ => True) (hsc i) (rdFix kp₅ hD') (o.k0.fresh kp₅.whole fun b h => o.mutF h)
      fun b ob hb h ht => keep5 b ob (fun q => nM b (.inl q) hb) (keepM hS b ob hb h ht)
    obtain ⟨q, hq⟩ : ∃ q, vts[i]? = some q := ⟨_, List.getElem?_eq_getElem hlt⟩
    obtain ⟨u, hu, huV⟩ := hus.get (i := i) (p := Y.vt q) (by rw [List.getElem?_map, hq]; rfl)
    have hui : ad.items[i] = u := by
      have : (List.toArray us)[i]? = some u := by rw [List.getElem?_toArray]; exact hu
      rw [Array.getElem?_eq_getElem hi] at this
      exact Option.some.inj this
    rw [has]
    show wpAny (model W.prog W.w) F.A (assignInOrder [assign (.Name vi p1) F.env, assign (.Name vo p2) F.env] [.int (i : Int) s₂'.toks, ad.items[i]]) _ _ _
    rw [hui, ← eM]
    have huV : VR s.heap (fun b => F.B b ∧ ¬ F.Mut D b) (Y.vt q) u := by rw [← hs1]; exact huV
    have vr₅ : VR h₅ (fun b => F.B b ∧ ¬ F.Mut D' b) (Y.vt q) u := huV.live.mono (fun b ob hb e ht => kp₅.keep b ob (fun q => q.elim hb.1.2 fun q => by rw [q] at e; cases e) e ht) fun b hb => ⟨hb.1.1, fun q => by
      rcases q with q | q
      · exact hb.1.2 (.inl q)
      · rcases hD' b q with q | q
        · exact hb.1.2 (.inr q)
        · have := hb.2; rw [q] at this; cases this⟩
    have freeN : ∀ y, ρf.lookup y = none → (∀ w, ow i = some w → w.name ≠ y) → freeOf (⟨ρi i ++ ρf, ow i, ps⟩ : St) y = true := fun y h1 h2 => by
      show ((ps.lookup y).isNone && _) = true
      rw [lookup_none_of hps h1]
      cases hw : ow i with
      | none => simp only [hw]; rfl
      | some w =>
        simp only [hw, Option.isNone_none, Bool.true_and]
        simpa using h2 w hw
    refine wpAny_mono (pair_store (x := vi) (y := vo) (p := .int (i : Int)) (q := Y.vt q) ok₅ (fun Q s h => wpAny_assign_Name h) (fun Q s h => wpAny_assign_Name h) (.int _ _) vr₅ hvi hvo (freeN vi hfi fun w hw => (hoi i w hw).1) (freeN vo hfo fun w hw => (hoi i w hw).2)) (fun _ s₆ g₆ => ?_) fun _ _ e => e
    refine wpAny_mono (hb i q hq ps hps _ D' s₆ g₆.ok) (fun f s₇ hf₇ => ?_) fun _ _ e => e
    cases f with
    | next =>
      obtain ⟨D'', g₇⟩ := hf₇
      have g := g₆.trans g₇
      have sub : ∀ b, D'' b → D' b ∨ h₅.get? b = none := g.new
      obtain ⟨⟨oI, hoI, _⟩, ⟨oL, hoL, _⟩, mC, oC, _, _, hoC, _⟩ := hG.need
      obtain ⟨oG, _, _, hoG, _⟩ := hG.isGen
      have he5 : IsEnum h₅ e gn ((i : Int) + 1) ad.items[i] := hx₅ e _ (by rw [hz₄]; exact Nat.ne_of_lt (Nat.lt_succ_of_lt elt)) he₄
      have alive5 : ∀ b, Wk b → h₅.get? b ≠ none := fun b hb q => by
        rcases hb with rfl | rfl | rfl | rfl
        · rw [show h₅.get? b = _ from he5] at q; cases q
        · rw [keep5 _ _ (Ne.symm heg') hoG] at q; cases q
        · rw [keep5 _ _ (Ne.symm heC) hoC] at q; cases q
        · rw [keep5 _ _ (Ne.symm heI) hoI] at q; cases q
      have lvM : ¬ F.Mut D' lv := fun q => by
        have lv1 : s.heap.get? lv ≠ none := fun q => by
          obtain ⟨ob, hob, _⟩ := hlv
          rw [← hs1] at q
          rw [hob] at q; cases q
        rcases q with q | q
        · exact hlvX.2 (.inl q)
        · exact (hD' _ q).elim (fun q => hlvX.2 (.inr q)) lv1
      have elv : lv ≠ e := fun q => by
        obtain ⟨ob, hob, _⟩ := hlv
        rw [hs1, q, hen] at hob; cases hob
      refine ⟨vts.length + 1 - (i + 1), by omega, i + 1, D'', hlt, rfl, g.ok, kp₅.goes g hD', fun b hb => (sub b hb).elim (hD' b) fun q => .inr ?_, fun b hb q => (sub b q).elim (hWD b hb) (alive5 b hb), ⟨ad.items[i], ?_⟩, fun h => absurd h (Nat.succ_ne_zero i), fun _ => ?_⟩
      · cases e' : s.heap.get? b with
        | none => rfl
        | some ob =>
          have := kp₅.live b (by rw [e']; rfl)
          have q : ({ s₂' with heap := h₅, toks := s₂'.toks + 1 } : Shared).heap.get? b = none := q
          rw [q] at this; cases this
      · have : ((i + 1 : Nat) : Int) = (i : Int) + 1 := by push_cast; rfl
        rw [this]
        exact g.kp.keep e _ (nM e (.inl rfl)) he5 rfl
      · refine hG.frame (H.I _ g.ok.base).2.2.2.1 (fun b hb ob h ht => ?_) fun y hy => g.kp.gens _ _ (fun h => h) hy
        rcases hb with rfl | rfl | rfl | rfl
        · exact g.kp.keep _ _ (nM _ (.inr (.inl rfl))) (keep5 _ _ (Ne.symm heg') h) ht
        · exact g.kp.keep _ _ (nM _ (.inr (.inr (.inl rfl)))) (keep5 _ _ (Ne.symm heC) h) ht
        · exact g.kp.keep _ _ (nM _ (.inr (.inr (.inr rfl)))) (keep5 _ _ (Ne.symm heI) h) ht
        · exact g.kp.keep _ _ lvM (keep5 _ _ elv h) ht
    | cont => exact hf₇.elim
    | brk => exact hf₇.elim
    | ret v => exact hf₇.elim
  · have hie : i = vts.length := by omega
    subst hie
    have hGn := hg hne
    rw [← adSize] at hGn
    refine genV_end adOk depthOk hGn fun s₂' ex hS hex => ?_
    obtain ⟨oex, hoex, hcex⟩ := hex
    refine ⟨⟨oex, hoex, hcex, ex, rfl⟩, wpAny_execs_nil ?_⟩
    have kp₂ := kp.since hS hCn hIn hgN
    have ok₂ := ok.walked (s' := s₂') (X := fun _ => True) (hsc _) (rdFix kp₂ hD') (o.k0.fresh kp₂.whole fun b h => o.mutF h) (keepM hS)
    subst hs1
    exact ⟨D', ok₂.nopins, kp₂.whole, hD'⟩
end
end Mine

set_option maxHeartbeats 1000000
namespace Mine
open PySem PySem.Calls PyProof.Rows PyProof PySem.W

theorem erase_perm {α : Type} : ∀ (l : List α) (i : Nat) (h : i < l.length), (l[i] :: l.eraseIdx i).Perm l
  | x :: l, 0, _ => .rfl
  | x :: l, i + 1, h => by
    have ih := erase_perm l i (by simpa using h)
    rw [List.eraseIdx_cons_succ, List.getElem_cons_succ]
    exact (List.Perm.swap ..).trans (ih.cons x)
theorem pick_go_perm {α : Type} (next : Nat → Nat) : ∀ (fuel k : Nat) (left : List α) (out : Array α), fuel = left.length →
    (pickOrder.go next fuel k left out).toList.Perm (out.toList ++ left)
  | 0, k, left, out, h => by
    have : left = [] := List.length_eq_zero_iff.mp h.symm
    subst this
    simp [pickOrder.go]
  | fuel + 1, k, left, out, h => by
    have hlt : next k % left.length < left.length := Nat.mod_lt _ (by omega)
    unfold pickOrder.go
    rw [List.getElem?_eq_getElem hlt]
    dsimp only
    have hl : (left.eraseIdx (next k % left.length)).length = left.length - 1 := List.length_eraseIdx_of_lt hlt
    refine (pick_go_perm next fuel (k + 1) (left.eraseIdx (next k % left.length)) (out.push left[next k % left.length]) (by omega)).trans ?_
    rw [Array.toList_push, List.append_assoc]
    exact List.Perm.append_left _ (erase_perm left _ hlt)
theorem pick_perm {α : Type} (next : Nat → Nat) (xs : Array α) : (pickOrder next xs).toList.Perm xs.toList := by
  unfold pickOrder
  simpa using pick_go_perm next xs.size 0 xs.toList #[] (by simp)
theorem EntsAre.perm {es es' : List (Int × Value)} (hp : es'.Perm es) : ∀ {sk : List Int}, EntsAre es sk → ∃ order, EntsAre es' order ∧ order.Perm sk := by
  induction hp with
  | nil => intro sk h; exact ⟨sk, h, .rfl⟩
  | cons x hp ih =>
    intro sk h
    cases h with
    | cons n t r =>
      obtain ⟨o, h1, h2⟩ := ih r
      exact ⟨n :: o, .cons n t h1, h2.cons n⟩
  | swap x y l =>
    intro sk h
    cases h with
    | cons n t r =>
      cases r with
      | cons m u r => exact ⟨m :: n :: _, .cons m u (.cons n t r), .swap ..⟩
  | trans h1 h2 ih1 ih2 =>
    intro sk h
    obtain ⟨o, a1, a2⟩ := ih2 h
    obtain ⟨o', b1, b2⟩ := ih1 a1
    exact ⟨o', b1, b2.trans a2⟩

section
variable {prog : Program} {w : World} {A : Around} {E : Value → Shared → Prop} {s : Shared} {a b r : Addr} {o oa ob : Obj} {sk : List Int} {t : SetTable}

theorem setsQuiet_S : ∀ (l : List Addr) {Q : Bool → Shared → Prop}, (∀ c ∈ l, ∃ oc skc tc, s.heap.get? c = some oc ∧ SetIs skc tc oc) → Q true s → wpAny (model prog w) A (setsQuiet l) Q E s := fun l Q hl h => by
  unfold setsQuiet
  refine wpAny_bind ?_
  refine wpAny_forIn_list _ (fun rest b s' => s' = s ∧ b = (none, ()) ∧ ∀ c ∈ rest, ∃ oc skc tc, s.heap.get? c = some oc ∧ SetIs skc tc oc) _ ?_ ?_ l _ ⟨rfl, rfl, hl⟩
  · rintro c rest b s' ⟨rfl, rfl, hr⟩
    obtain ⟨oc, skc, tc, ho, hx⟩ := hr c (.head _)
    obtain ⟨hex, es, ep, hd, he, hf⟩ := hx
    refine wpAny_bind (wpAny_setEntries_of ho hd (by rw [he.size]; exact hf) ?_)
    refine wpAny_bind ?_
    refine wpAny_forIn_array' _ (fun rest b s₁ => s₁ = s' ∧ b = (none, ()) ∧ ∃ ns, EntsAre rest ns) _ ?_ ?_ es _ ⟨rfl, rfl, _, he⟩
    · rintro x rest' b s₁ ⟨rfl, rfl, ns, hn⟩
      cases hn with
      | cons n t r => exact wpAny_pure ⟨rfl, rfl, _, r⟩
    · rintro b s₁ ⟨rfl, rfl, _⟩
      exact wpAny_pure ⟨rfl, rfl, fun c hc => hr c (.tail _ hc)⟩
  · rintro b s' ⟨rfl, rfl, _⟩
    exact wpAny_pure h

theorem setWalk_S {Q : Array (Int × Value) → Shared → Prop} (ha : s.heap.get? a = some oa) (x : SetIs sk t oa) (hk : byText w = true ∨ (t.led = true ∧ t.plain = true) ∨ sk.length ≤ 1)
    (h : ∀ es order, EntsAre es.toList order → order.Perm sk → Q es s) : wpAny (model prog w) A (setWalk a) Q E s := by
  unfold setWalk setsByText
  refine wpAny_bind (setState_S ha x fun es ep hd he => ?_)
  dsimp only
  refine wpAny_bind (wpAny_bind (wpAny_askSetting (wpAny_pure ?_)))
  by_cases hb : byText w = true
  · rw [if_pos (show (model prog w).w.params.followText "set-order" = true from hb)]
    refine wpAny_bind (wpAny_askSetting (wpAny_pure ?_))
    obtain ⟨order, h1, h2⟩ := EntsAre.perm (pick_perm (w.params.setOrder a ep) es) he
    exact h _ _ h1 h2
  · rw [if_neg (show ¬ (model prog w).w.params.followText "set-order" = true from hb)]
    have hk := hk.resolve_left hb
    rw [if_neg (by
      k_delta "drawn"
      rcases hk with ⟨_, hp⟩ | hl
      · rw [hp]; simp
      · rw [he.size]; simp; omega)]
    k_delta "mustBeLed"
    rw [if_neg (by
      rcases hk with ⟨hp, _⟩ | hl
      · rw [hp]; simp
      · rw [he.size]; simp; omega)]
    exact wpAny_bind (wpAny_pure (wpAny_pure (h _ _ he .rfl)))

/-- a set gone through by a set operation: each element once -/
theorem setWalkUnseen_S {others : List Addr} {orr : Obj} {tr : SetTable} {Q : Array (Int × Value) → Shared → Prop} (ha : s.heap.get? a = some oa) (x : SetIs sk t oa) (hr : s.heap.get? r = some orr) (y : SetIs [] tr orr)
    (ho : ∀ c ∈ others, ∃ oc skc tc, s.heap.get? c = some oc ∧ SetIs skc tc oc)
    (h : ∀ es order h' o' t', Heap.SameBut r s.heap h' → h'.get? r = some o' → SetIs [] t' o' → EntsAre es.toList order → order.Perm sk → Q es { s with heap := h' }) : wpAny (model prog w) A (setWalkUnseen a others (some r)) Q E s := by
  have same : ∀ es order, EntsAre es.toList order → order.Perm sk → Q es s := fun es order h1 h2 => by
    have e' : s = { s with heap := s.heap } := by cases s; rfl
    rw [e']
    exact h es order s.heap orr tr (Heap.SameBut.refl ..) hr y h1 h2
  unfold setWalkUnseen setsByText
  refine wpAny_bind (setState_S ha x fun es ep hd he => ?_)
  dsimp only
  refine wpAny_bind (wpAny_bind (wpAny_askSetting (wpAny_pure ?_)))
  by_cases hb : (byText w || (t.led && t.plain) || decide (es.size ≤ 1)) = true
  · rw [if_pos (show ((model prog w).w.params.followText "set-order" || (t.led && t.plain) || decide (es.size ≤ 1)) = true from hb)]
    refine setWalk_S ha x ?_ fun es order h1 h2 => same es order h1 h2
    rw [Bool.or_eq_true, Bool.or_eq_true, Bool.and_eq_true, decide_eq_true_eq, he.size] at hb
    rcases hb with (hb | hb) | hb
    · exact .inl hb
    · exact .inr (.inl hb)
    · exact .inr (.inr hb)
  · rw [if_neg (show ¬ ((model prog w).w.params.followText "set-order" || (t.led && t.plain) || decide (es.size ≤ 1)) = true from hb)]
    refine wpAny_bind (setsQuiet_S _ (fun c hc => ?_) ?_)
    · rcases List.mem_cons.mp hc with rfl | hc
      · exact ⟨_, _, _, ha, x⟩
      · exact ho c hc
    · simp only [Bool.not_true, Bool.false_eq_true, if_false]
      refine wpAny_bind (wpAny_rule ?_)
      refine wpAny_bind (setState_S hr y fun ef ep' hd' he' => ?_)
      dsimp only
      split
      · obtain ⟨hex, _, _, _, _, hf⟩ := id y
        refine wpAny_bind (storeSet_S (sk' := []) hr hex hd' he' hf (by decide) fun h' o' hs ho' hx _ => wpAny_pure ?_)
        exact h es sk h' o' _ hs ho' hx he .rfl
      · exact wpAny_bind (wpAny_pure (wpAny_pure (same es sk he .rfl)))

theorem holding_post {v : List Value} {α : Type} {m : Sem α} {Q : α → Shared → Prop} (h : wpAny (model prog w) A m Q E s) : wpAny (model prog w) A (holding v m) Q E s := wpAny_holding h

/-- the common elements are put into a new set -/
theorem common_S {id : String} {p q : Addr} {op oq orr : Obj} {skp skq : List Int} {tp tq tr : SetTable} {Q : Unit → Shared → Prop} (hp : s.heap.get? p = some op) (x : SetIs skp tp op) (hq : s.heap.get? q = some oq) (y : SetIs skq tq oq) (hr : s.heap.get? r = some orr) (z : SetIs [] tr orr)
    (hpr : p ≠ r) (hqr : q ≠ r) (hn : skq.Nodup) (hz : skp.length < 1000) (hz₂ : skq.length < 1000)
    (h : ∀ h' tk o' sk' t', (∀ c oc, c ≠ r → s.heap.get? c = some oc → h'.get? c = some oc) → h'.get? r = some o' → SetIs sk' t' o' → sk'.Perm (skq.filter skp.contains) → Q ⟨⟩ { s with heap := h', toks := tk }) :
    wpAny (model prog w) A (do
      let was ← setEpoch q
      let l ← setWalkUnseen q [p, r] (some r)
      forIn l PUnit.unit fun x __s => do
        holding [x.snd] do
          let f ← setFind p x.snd x.fst
          if f.isSome = true then do
            let _ ← setAddHashed r x.snd x.fst
            pure ()
          else pure ()
        Builtin.Frozenset.unchanged id q was
        pure (ForInStep.yield PUnit.unit)
      pure ()) Q E s := by
  obtain ⟨hex, esq, epq, hdq, heq, hfq⟩ := _root_.id y
  refine wpAny_bind (wpAny_setEpoch_of hq hdq (by rw [heq.size]; exact hfq) ?_)
  refine wpAny_bind (setWalkUnseen_S hq y hr z (fun c hc => ?_) fun es order h₁ o₁ t₁ hs₁ ho₁ hx₁ he₁ hp₁ => ?_)
  · rcases List.mem_cons.mp hc with rfl | hc
    · exact ⟨_, _, _, hp, x⟩
    · rcases List.mem_cons.mp hc with rfl | hc
      · exact ⟨_, _, _, hr, z⟩
      · cases hc
  have hno : order.Nodup := hp₁.nodup_iff.mpr hn
  have hlo : order.length = skq.length := hp₁.length_eq
  refine wpAny_bind (wpAny_forIn_array' _ (fun rest _ s' => ∃ done left : List Int, order = done ++ left ∧ EntsAre rest left ∧ ∃ h' tk o' sk' t', s' = { s with heap := h', toks := tk } ∧ (∀ c oc, c ≠ r → s.heap.get? c = some oc → h'.get? c = some oc) ∧ h'.get? r = some o' ∧ SetIs sk' t' o' ∧ sk'.Perm (done.filter skp.contains)) _ ?_ ?_ es _
    ⟨[], order, rfl, he₁, h₁, s.toks, o₁, [], t₁, rfl, fun c oc hc e => hs₁.extBut c oc hc e, ho₁, hx₁, .rfl⟩)
  · rintro e rest _ s' ⟨done, left, ho, hl, h', tk, o', sk', t', rfl, hk, hr', hx', hpm⟩
    cases hl with
    | cons n tok hl =>
      rename_i left
      have hnd : n ∉ done := fun q => by
        rw [ho, List.nodup_append] at hno
        exact hno.2.2 n q n (.head _) rfl
      have hsk : sk'.length ≤ done.length := by rw [hpm.length_eq]; exact List.length_filter_le ..
      have hdl : done.length + 1 ≤ skq.length := by rw [← hlo, ho]; simp
      have hunch : ∀ {h'' : Heap} {tk' : Nat} {Q' : Unit → Shared → Prop}, h''.get? q = some oq → Q' () { s with heap := h'', toks := tk' } → wpAny (model prog w) A (Builtin.Frozenset.unchanged id q epq) Q' E { s with heap := h'', toks := tk' } := fun {h'' tk' Q'} hq' hQ' => by
        unfold Builtin.Frozenset.unchanged
        refine wpAny_bind (wpAny_setEpoch_of (s := { s with heap := h'', toks := tk' }) hq' hdq (by rw [heq.size]; exact hfq) ?_)
        rw [if_neg (by simp)]
        exact wpAny_pure hQ'
      have hS : ({ s with heap := h', toks := tk } : Shared).heap.SetOf (intKind prog w) p (fun n => skp.contains n) skp.length := x.setOf (hk p op hpr hp) (Nat.lt_of_lt_of_le (m := 1000) (by omega) (by decide))
      refine wpAny_bind (wpAny_holding (wpAny_bind (wpAny_setFind_of (knd := intKind prog w) (k := n) (intKind_is _ _ _ _) rfl hS fun f hf => ?_)))
      cases hc : skp.contains n with
      | true =>
        rw [hc] at hf
        rw [if_pos hf]
        refine wpAny_bind (setAdd_S (s := { s with heap := h', toks := tk }) hr' hx' (Nat.lt_of_lt_of_le (m := 1000) (by omega) (by decide)) fun h₂ o₂ hs₂ ho₂ hx₂ => ?_)
        refine wpAny_pure (wpAny_bind (hunch (hs₂.extBut q oq hqr (hk q oq hqr hq)) (wpAny_pure ?_)))
        refine ⟨done ++ [n], left, by rw [ho]; simp, hl, h₂, tk, o₂, _, _, rfl, fun c oc hcr e => hs₂.extBut c oc hcr (hk c oc hcr e), ho₂, hx₂, ?_⟩
        have hns : n ∉ sk' := fun q => hnd (List.mem_filter.mp (hpm.mem_iff.mp q)).1
        refine (addS_perm (st := (sk', t')) hns).trans ?_
        rw [List.filter_append, List.filter_cons_of_pos hc]
        refine (hpm.cons n).trans ?_
        exact (List.perm_append_singleton n _).symm
      | false =>
        rw [hc] at hf
        rw [if_neg (by rw [hf]; simp)]
        refine wpAny_pure (wpAny_bind (hunch (hk q oq hqr hq) (wpAny_pure ?_)))
        refine ⟨done ++ [n], left, by rw [ho]; simp, hl, h', tk, o', sk', t', rfl, hk, hr', hx', ?_⟩
        rw [List.filter_append, List.filter_cons_of_neg (by rw [hc]; simp)]
        simpa using hpm
  · rintro _ s' ⟨done, left, ho, hl, h', tk, o', sk', t', rfl, hk, hr', hx', hpm⟩
    cases hl
    rw [List.append_nil] at ho
    subst ho
    exact wpAny_pure (h h' tk o' sk' t' hk hr' hx' (hpm.trans (hp₁.filter _)))

theorem filter_swap {l₁ l₂ : List Int} (h₁ : l₁.Nodup) (h₂ : l₂.Nodup) : (l₁.filter l₂.contains).length = (l₂.filter l₁.contains).length := by
  refine List.Perm.length_eq ?_
  rw [List.perm_ext_iff_of_nodup (h₁.filter _) (h₂.filter _)]
  intro x
  simp only [List.mem_filter, List.contains_iff_mem]
  exact And.comm

/-- s & o, two sets: a new one, of all that lies in both -/
theorem intersection_S {id : String} {sk₂ : List Int} {t₂ : SetTable} {Q : Value → Shared → Prop} (ha : s.heap.get? a = some oa) (x : SetIs sk t oa) (hb : s.heap.get? b = some ob) (y : SetIs sk₂ t₂ ob) (hab : a ≠ b) (hn : sk.Nodup) (hn₂ : sk₂.Nodup) (hz : sk.length < 1000) (hz₂ : sk₂.length < 1000)
    (h : ∀ h' tk o' sk' t', (∀ c oc, s.heap.get? c = some oc → h'.get? c = some oc) → h'.get? s.heap.objs.size = some o' → SetIs sk' t' o' → sk'.length = (sk.filter sk₂.contains).length → Q (.ref s.heap.objs.size) { s with heap := h', toks := tk }) :
    wpAny (model prog w) A (Builtin.Frozenset.intersection id a (.ref b)) Q E s := by
  have hT : s.TypeIs (.ref a) "set" := ⟨_, ha, x.1.1⟩
  unfold Builtin.Frozenset.intersection
  rw [if_neg (by simpa using Ne.symm hab)]
  unfold Builtin.Frozenset.baseOf
  refine wpAny_bind (wpAny_bind (wpAny_isInstance hT sub_set_self (wpAny_pure ?_)))
  simp only [if_true]
  refine wpAny_bind (newSet_is ?_)
  refine wpAny_bind (m := Builtin.Frozenset.addrOf _) (wpAny_pure ?_)
  have hS : (s.heap.push (newSetObj w)).get? s.heap.objs.size = some (newSetObj w) := Heap.get?_push_size _ rfl
  have ha' : (s.heap.push (newSetObj w)).get? a = some oa := Heap.get?_push_of_some _ ha
  have hb' : (s.heap.push (newSetObj w)).get? b = some ob := Heap.get?_push_of_some _ hb
  have nea : a ≠ s.heap.objs.size := fun q => absurd (Heap.lt_size ha) (by rw [q]; exact Nat.lt_irrefl _)
  have neb : b ≠ s.heap.objs.size := fun q => absurd (Heap.lt_size hb) (by rw [q]; exact Nat.lt_irrefl _)
  obtain ⟨_, esa, epa, hda, hea, hfa⟩ := _root_.id x
  obtain ⟨_, esb, epb, hdb, heb, hfb⟩ := _root_.id y
  refine wpAny_bind (wpAny_holding ?_)
  refine wpAny_bind (isAnySet_set (s := { s with heap := s.heap.push (newSetObj w) }) hb' y ?_)
  simp only [if_true]
  refine wpAny_bind (m := Builtin.Frozenset.addrOf _) (wpAny_pure ?_)
  unfold Builtin.Frozenset.sizeOf
  refine wpAny_bind (wpAny_bind (wpAny_setEntries_of (s := { s with heap := s.heap.push (newSetObj w) }) hb' hdb (by rw [heb.size]; exact hfb) (wpAny_pure ?_)))
  refine wpAny_bind (wpAny_bind (wpAny_setEntries_of (s := { s with heap := s.heap.push (newSetObj w) }) ha' hda (by rw [hea.size]; exact hfa) (wpAny_pure ?_)))
  have fin : ∀ h' tk o' sk' t', (∀ c oc, c ≠ s.heap.objs.size → (s.heap.push (newSetObj w)).get? c = some oc → h'.get? c = some oc) → h'.get? s.heap.objs.size = some o' → SetIs sk' t' o' → sk'.length = (sk.filter sk₂.contains).length → Q (.ref s.heap.objs.size) { s with heap := h', toks := tk } := fun h' tk o' sk' t' hk ho hx hl =>
    h h' tk o' sk' t' (fun c oc e => hk c oc (fun q => absurd (Heap.lt_size e) (by rw [q]; exact Nat.lt_irrefl _)) (Heap.get?_push_of_some _ e)) ho hx hl
  by_cases hc : esb.size > esa.size
  · simp only [if_pos hc]
    exact common_S (s := { s with heap := s.heap.push (newSetObj w) }) hb' y ha' x hS (newSet_SetIs w) neb nea hn hz₂ hz fun h' tk o' sk' t' hk ho hx hl => wpAny_pure (fin h' tk o' sk' t' hk ho hx hl.length_eq)
  · simp only [if_neg hc]
    exact common_S (s := { s with heap := s.heap.push (newSetObj w) }) ha' x hb' y hS (newSet_SetIs w) nea neb hn₂ hz hz₂ fun h' tk o' sk' t' hk ho hx hl => wpAny_pure (fin h' tk o' sk' t' hk ho hx (by rw [hl.length_eq, filter_swap hn₂ hn]))
end
end Mine

set_option maxHeartbeats 1000000
namespace Mine
open PySem PySem.Calls PyProof.Rows PyProof PySem.W

theorem entry_set_and : entryFor table "set.__and__" = some Builtin.«frozenset.__and__» :=
  entryFor_alias (id' := "frozenset.__and__") (by kernel_rfl) (by first | rfl | decide +kernel | (unfold String.splitOn; simp +decide [String.splitOnAux])) (by decide +kernel) (by kernel_rfl)

section
variable {prog : Program} {w : World} {A : Around} {E : Value → Shared → Prop} {s : Shared} {a b r : Addr} {o oa ob : Obj} {sk sk₂ : List Int} {t t₂ : SetTable}

theorem and_S {Q : Value → Shared → Prop} (ha : s.heap.get? a = some oa) (x : SetIs sk t oa) (hb : s.heap.get? b = some ob) (y : SetIs sk₂ t₂ ob) (hab : a ≠ b) (hn : sk.Nodup) (hn₂ : sk₂.Nodup) (hz : sk.length < 1000) (hz₂ : sk₂.length < 1000)
    (h : ∀ h' tk o' sk' t', (∀ c oc, s.heap.get? c = some oc → h'.get? c = some oc) → h'.get? s.heap.objs.size = some o' → SetIs sk' t' o' → sk'.length = (sk.filter sk₂.contains).length → Q (.ref s.heap.objs.size) { s with heap := h', toks := tk }) :
    wpAny (model prog w) A (binaryOp .BitAnd (.ref a) (.ref b)) Q E s := by
  refine wpAny_binaryOp_same (op := .BitAnd) (T := "set") ⟨_, ha, x.1.1⟩ ⟨_, hb, y.1.1⟩ F.fills_set_and F.slot_set_and (wpAny_call_entry F.slot_set_and ⟨_, ha, x.1.1⟩ entry_set_and ?_ (F.args_set_and_2 _ _))
  unfold Builtin.«frozenset.__and__»
  k_delta "binary"
  unfold Builtin.Frozenset.slot1 slotArgs
  refine wpAny_bind (wpAny_pure ?_)
  simp only [Bool.false_eq_true, if_false]
  refine wpAny_bind ?_
  refine wpAny_bind (isAnySet_set ha x ?_)
  refine (isAnySet_set hb y ?_)
  simp only [Bool.not_true, Bool.false_eq_true, if_false]
  refine wpAny_bind (m := Builtin.Frozenset.addrOf _) (wpAny_pure ?_)
  refine wpAny_bind (intersection_S ha x hb y hab hn hn₂ hz hz₂ fun h' tk o' sk' t' hk ho hx hl => ?_)
  exact wpAny_pure ⟨_, rfl, (fun q => nomatch q), h h' tk o' sk' t' hk ho hx hl⟩
end

def intOf : Value → Int
  | .int n _ => n
  | _ => 0
theorem EntsAre.told : ∀ {es : List (Int × Value)} {ns : List Int}, EntsAre es ns → es.map (fun e => intOf e.2) = ns
  | _, _, .nil => rfl
  | _, _, .cons n t r => by rw [List.map_cons, EntsAre.told r]; rfl
theorem EntsAre.unique {es : List (Int × Value)} {ns ms : List Int} (h : EntsAre es ns) (h' : EntsAre es ms) : ns = ms := h.told.symm.trans h'.told
/-- a set of so many ints -/
def SetN (k : Nat) (o : Obj) : Prop := ∃ sk t, SetIs sk t o ∧ sk.length = k
theorem len_setN {W : Wd} {k : Nat} (hz : k < 4000) : ∀ (A : Around) (E : Value → Shared → Prop) (X : Addr → Prop) (v : Value) (s : Shared) (Q : Value → Shared → Prop), VR s.heap X (.obj (SetN k)) v → (∀ s' tok, K0 W.T s s' → Q (.int k tok) s') → wpAny (model W.prog W.w) A (call (.builtin "len") [v]) Q E s := fun A E X v s Q hv h => by
  cases hv with
  | obj hX ho ht hi hP =>
    obtain ⟨sk, t, hP, rfl⟩ := hP
    obtain ⟨hex, es, ep, hd, he, hf⟩ := hP
    refine call_len_set ho hex hd (by rw [he.size]; exact hf) (by rw [he.size]; omega) ?_
    rw [he.size]
    exact h _ _ K0.toks_

section
variable {Γ : Cx}
theorem Evals.andSet {l r : Expr} {f₁ f₂ : Bool} {pos : Pos} {sk sk₂ : List Int} {t t₂ : SetTable} (hl : Evals Γ f₁ l (.obj (SetIs sk t))) (hr : Evals Γ f₂ r (.obj (SetIs sk₂ t₂))) (hn : sk.Nodup) (hn₂ : sk₂.Nodup) (hz : sk.length < 1000) (hz₂ : sk₂.length < 1000) (hne : ∃ m ∈ sk, m ∉ sk₂) :
    Evals Γ true (.BinOp l .BitAnd r pos) (.obj (SetN (sk.filter sk₂.contains).length)) := fun E s o =>
  wpAny_BinOp (evals_two o hl hr fun x y s₂ k hx hy => by
    cases hx with
    | obj hX ho ht hi hP =>
    cases hy with
    | obj hX' ho' ht' hi' hP' =>
    refine and_S ho hP ho' hP' (fun q => ?_) hn hn₂ hz hz₂ fun h' tk o' sk' t' hk hob hx' hlen => ?_
    · subst q
      rw [ho] at ho'
      cases ho'
      obtain ⟨_, es, ep, hd, he, _⟩ := hP
      obtain ⟨_, es', ep', hd', he', _⟩ := hP'
      rw [hd] at hd'
      cases hd'
      have := he.unique he'
      obtain ⟨m, h1, h2⟩ := hne
      exact h2 (this ▸ h1)
    · have k₂ : K0 Γ.T s₂ { s₂ with heap := h', toks := tk } := K0.of_keep hk
      refine ⟨k.trans k₂, .obj (.inr ⟨none_of_K k (get_size _), by rw [hob]; rfl⟩) hob hx'.tab hx'.it ⟨_, _, hx', hlen⟩, fun _ a e => by cases e; exact none_of_K k (get_size _)⟩)
end
end Mine

set_option maxHeartbeats 3200000
namespace Mine
open PySem PySem.Calls PyProof.Rows PyProof PySem.W

section
variable {prog : Program} {w : World} {A : Around} {E : Value → Shared → Prop} {s : Shared} {a b : Addr} {o : Obj} {sk : List Int} {t : SetTable}

theorem set_new_zero {Q₁ : Value → Shared → Prop} (h : Q₁ (.ref s.heap.objs.size) { s with heap := s.heap.push (newSetObj w) }) :
    codeAny (model prog w) A (.call (.builtin "set.__new__") ⟨[.type "set"], []⟩) (wants Q₁ E) s := by
  refine codeAny_of_tree ?_
  show wpAny _ A.in1 (do checkBuiltinCall "set.__new__" ⟨[.type "set"], []⟩; again (.builtin "set.__new__" ⟨[.type "set"], []⟩)) _ _ s
  refine wpAny_bind (wpAny_of_eq PySem.F.newCall_set_0 (wpAny_pure ⟨plainId_quiet PySem.F.plain_set_new _, codeAny_builtin PySem.F.entry_set_new ?_⟩))
  rw [Around.under_plainId PySem.F.plain_set_new _]
  unfold Builtin.«set.__new__» Builtin.Frozenset.newClass
  have hsub := sub_set_self
  obtain ⟨hp, g, d, tk, os⟩ := s
  dsimp only
  generalize hN : newSet = N
  wp_walk
  subst hN
  refine newSet_is ?_
  exact wpAny_pure h

theorem call_set_zero {Q : Value → Shared → Prop} (h : Q (.ref s.heap.objs.size) { s with heap := s.heap.push (newSetObj w) }) :
    wpAny (model prog w) A (call (.type "set") []) Q E s := by
  obtain ⟨c, tl, hmro⟩ := PySem.F.called_set.mro
  have hmade := PySem.F.called_set.made
  have hsub := PySem.F.called_set.sub
  refine wpAny_call (codeAny_of_tree ?_)
  show wpAny _ _ (callAny (.type "set") _) _ _ _
  refine wpAny_pure ⟨Code.quiet_builtin _ (by decide +kernel), codeAny_builtin PySem.F.entry_type_call ?_⟩
  rw [Around.under_plain (weight_type_call_type "set" [] []) rfl]
  have h1 := PySem.F.called_set.notType
  have h2 := PySem.F.called_set.canCreate
  have hct := PySem.F.typeCall_set_0
  repeat (any_goals (first | assumption | wp_step))
  refine codeAny_mono (set_new_zero (E := E) (Q₁ := fun obj s₁ => obj = .ref s.heap.objs.size ∧ s₁ = { s with heap := s.heap.push (newSetObj w) }) ⟨rfl, rfl⟩) fun r s₁ hr => ?_
  cases r with
  | error e => exact hr
  | ok fl =>
    cases fl with
    | ret obj =>
      obtain ⟨rfl, rfl⟩ := hr
      have hS : (s.heap.push (newSetObj w)).get? s.heap.objs.size = some (newSetObj w) := Heap.get?_push_size _ rfl
      have hT : Shared.TypeIs { s with heap := s.heap.push (newSetObj w) } (.ref s.heap.objs.size) "set" := ⟨_, hS, rfl⟩
      have hli := PySem.F.called_set.init.lookup
      have hbi := PySem.F.called_set.init.bind (.ref s.heap.objs.size)
      repeat (any_goals (first | assumption | wp_step))
      refine codeAny_mono (codeAny_call_builtin (R := wants (fun r s₂ => r = .none ∧ Q (.ref s.heap.objs.size) s₂) E) PySem.F.called_set.init.plain PySem.F.entry_set_init (check_set_init hT ?_)) fun r₂ s₂ hr₂ => ?_
      · unfold Builtin.«set.__init__» noKeywords
        wp_walk
        exact ⟨rfl, h⟩
      · cases r₂ with
        | error e => exact hr₂
        | ok fl₂ =>
          cases fl₂ with
          | ret r =>
            obtain ⟨rfl, hq⟩ := hr₂
            repeat (any_goals (first | assumption | wp_step))
          | _ => exact hr₂.elim
    | _ => exact hr.elim

/-- set.add -/
theorem call_add_S {n : Int} {tok : Tok} {Q : Value → Shared → Prop} (ho : s.heap.get? a = some o) (x : SetIs sk t o) (hb : sk.length + 1 < scanBound)
    (h : ∀ h' tk o', Heap.SameBut a s.heap h' → h'.get? a = some o' → SetIs (addS (sk, t) n).1 (addS (sk, t) n).2 o' → Q .none { s with heap := h', toks := tk }) :
    wpAny (model prog w) A (call (.builtin "set.add") [.ref a, .int n tok]) Q E s := by
  refine wpAny_call_entry PySem.F.slot_set_add ⟨_, ho, x.1.1⟩ PySem.F.entry_set_add ?_ (PySem.F.args_set_add_2 _ _)
  unfold Builtin.«set.add» Builtin.Frozenset.oneOther
  simp only [List.isEmpty_nil, bind_assoc]
  unfold Builtin.Frozenset.addrOf setAdd
  refine wpAny_bind (wpAny_pure ?_)
  try dsimp only
  refine wpAny_bind (wpAny_pure ?_)
  try dsimp only
  refine wpAny_bind ?_
  refine wpAny_holding ?_
  refine wpAny_bind ((intKind prog w).pyHash (intKind_is prog w n tok) ?_)
  refine setAdd_S (s := { s with toks := s.toks + 1 }) ho x hb fun h' o' hs ho' hx' => ?_
  show wpAny _ _ (ret Value.none) _ _ _
  exact wpAny_pure ⟨_, rfl, h h' _ o' hs ho' hx'⟩
end

section
variable {Γ : Cx}
theorem CmpSem.inSet {m : Int} {sk : List Int} {t : SetTable} (hz : sk.length < 1000) : CmpSem Γ .In (.int m) (.obj (SetIs sk t)) (sk.contains m) := fun X a b Q E s hx hy h => by
  cases hx
  cases hy with
  | obj hX ho ht hi hP =>
    exact wpAny_inSet_of (intKind_is _ _ _ _) rfl (hP.setOf ho (Nat.lt_of_lt_of_le hz (by decide))) (h _ K0.toks_)

/-- set() -/
theorem EvalsN.setNew {W : Wd} {d : Nat} {np pos : Pos} (hin : Γ.In W d) (g : Γ.Glob "set" (.type "set")) : EvalsN Γ (.Call (.Name "set" np) [] [] pos) (.obj (SetIs [] (fresh0 W.w))) := fun E s o =>
  call_type g o EvalsL.nil (fun vs s₁ k₁ hv => by
    cases hv
    have eM : Γ.M = model W.prog W.w := by unfold Cx.M; rw [hin.prog, hin.w]
    rw [eM]
    refine call_set_zero ?_
    exact ⟨k₁.trans (K0.push _), .obj (none_of_K k₁ (get_size _)) (Heap.get?_push_size _ rfl) rfl rfl (newSet_SetIs W.w)⟩) (by rfl)
end

section
variable {F : Fm} {σ σ' : St} {D : Addr → Prop} {s s₁ s' : Shared} {x : Str} {v : Value} {a : Addr}

/-- x += e, ints -/
theorem Exec.augName {px pos : Pos} {e : Expr} {z m : Int} {fr : Bool} (hz : σ.ρ.lookup x = some (.int z)) (he : ∀ X, Evals (F.cx X σ.rho) fr e (.int m)) (hx : varKind F.env x = true) (hf : freeOf σ x = true)
    (hd : (x == ("__debug__" : Str)) = false := by decide) (hc : (x == ("__classdict__" : Str)) = false := by decide) :
    Exec F σ (.AugAssign (.Name x px) .Add e pos) (.next { σ with ρ := (x, .int (z + m)) :: σ.ρ }) := fun E D s o => by
  obtain ⟨hp, ho⟩ := freeOf.of hf
  obtain ⟨u, hu, hva⟩ := o.vars x _ hz
  cases hu with
  | int _ tu =>
  rw [arm_exec_AugAssign]
  refine wpAny_bind (wpAny_standAt (wpAny_bind (load_var (Γ := F.cx (fun _ => True) []) hva (wpAny_bind (wpAny_holding ?_)) hc)))
  refine wpAny_mono (he _ E s o.cx) (fun y s₁ h₁ => ?_) fun _ _ e => e
  obtain ⟨k₁, hy, _⟩ := h₁
  cases hy with
  | int _ ty =>
  refine wpAny_bind (wpAny_standAt (wpAny_bind ?_))
  refine wpAny_operate' (wpAny_iadd_int ?_)
  have k₂ : K0 F.T s { s₁ with toks := s₁.toks + 1 } := k₁.trans K0.toks_
  refine wpAny_bind (wpAny_standAt (wpAny_bind ?_))
  refine bindName_ (Stored.of (o.step k₂) (varKind.of hx) fun a s' st => ?_)
  exact wpAny_pure ⟨D, Goes.before k₂ (st.shared (o.step k₂) (.int _ _) hp ho)⟩

/-- x.add(e), x a set of the frame's own -/
theorem Exec.setAdd {ρ : List (Str × PV)} {pins : List (Str × Value)} {sk : List Int} {t : SetTable} {px apos pos epos : Pos} {e : Expr} {m : Int} {fr : Bool} (hz : sk.length < 1000) (he : ∀ X, Evals (F.cx X ((x, .obj (SetIs sk t)) :: ρ)) fr e (.int m))
    (hbase : attributeBase (.Name x px) "add" F.env (eval (.Name x px) F.env) = eval (.Name x px) F.env := by rfl)
    (hs : starEach [e] F.env = [(false, eval e F.env)] := by rfl) (hline : (apos.endLine == pos.line) = true := by rfl) (hint : interactive F.env = false := by rfl)
    (hd : (x == ("__debug__" : Str)) = false := by decide) (hc : (x == ("__classdict__" : Str)) = false := by decide) :
    Exec F ⟨ρ, some (Own.val x (.obj (SetIs sk t))), pins⟩ (.Expr (.Call (.Attribute (.Name x px) "add" apos) [e] [] pos) epos) (.next ⟨ρ, some (Own.val x (.obj (SetIs (addS (sk, t) m).1 (addS (sk, t) m).2))), pins⟩) := fun E D s o => by
  obtain ⟨v, hv, hva⟩ := o.own
  obtain ⟨hvr, hnt⟩ := id hv
  cases hvr with
  | @obj _ a ob hD ho htb hit hP =>
  refine wpAny_Expr (Call_method1 hbase hs hline (load_own hva ⟨"set", "set.add", PySem.F.plainAttrs_set, PySem.F.slot_set_add, PySem.F.type_set_add, ⟨_, ho, hP.1.1⟩, fun b e => (by cases e; exact ⟨_, ho, hP.1.2.1⟩), ?_⟩ hd hc)) hint rfl
  refine Calls.callWith_builtin rfl (Calls.evalArgs_plain (Calls.spliced_cons (wpAny_mono (he _ E s o.cx) (fun y s₁ h₁ => Calls.spliced_nil ?_) fun _ _ e => e)))
  obtain ⟨k₁, hy, _⟩ := h₁
  cases hy with
  | int _ ty =>
  refine call_add_S (k₁.get ho htb) hP (Nat.lt_of_le_of_lt (m := 1000) (by omega) (by decide)) fun h' tk o' hs' ho' hx' => ?_
  refine ⟨D, Goes.before k₁ ?_⟩
  refine (o.step k₁).change (w := Own.val x (.obj (SetIs sk t))) (w' := Own.val x (.obj (SetIs (addS (sk, t) m).1 (addS (sk, t) m).2))) (h' := h') (tk := tk) rfl (fun v' hv' hva' => ?_) (fun b ob hb e => hs'.extBut b ob (fun q => hb (q ▸ hD)) e) (fun b ob hb e => ?_)
  · have hva1 : VarAt F.env s₁.heap x (.ref a) := hva.step k₁
    have := varAt_ref hva' hva1
    subst this
    refine ⟨.obj hD ho' hx'.tab hx'.it hx', fun b hb => ?_⟩
    by_cases q : b = a
    · subst q; exact ⟨o', ho', hx'.tab⟩
    · obtain ⟨ob', e', ht'⟩ := hv'.2 b hb
      exact ⟨ob', hs'.extBut b ob' q e', ht'⟩
  · obtain ⟨ob', e', ht'⟩ := hnt b hb
    rw [k₁.get e' ht'] at e; cases e
    exact ht'
end
end Mine

set_option maxHeartbeats 1000000
namespace Mine
open PySem PySem.Calls PyProof.Rows PyProof PySem.W

/-- no more is told of a thing -/
abbrev AnyObj : Obj → Prop := fun _ => True

section
variable {Γ : Cx}
inductive EvP (Γ : Cx) : List (Option Expr) → List Expr → Prop
  | nil : EvP Γ [] []
  | cons {x : Str} {k : Nat} {p : Pos} {e : Expr} {ks : List (Option Expr)} {es : List Expr} {pv : PV} {fr : Bool} : Evals Γ fr e pv → EvP Γ ks es → EvP Γ (some (.Constant (.str x) k p) :: ks) (e :: es)

theorem EvP.all : ∀ {ks : List (Option Expr)} {es : List Expr}, EvP Γ ks es → ks.all (·.isSome) = true ∧ ks.length = es.length
  | _, _, .nil => ⟨rfl, rfl⟩
  | _, _, .cons _ r => by
    obtain ⟨h1, h2⟩ := EvP.all r
    exact ⟨by simp [h1], by simp [h2]⟩

theorem evalPairs_S : ∀ {ks : List (Option Expr)} {es : List Expr} (h : EvP Γ ks es) {s : Shared} {E : Value → Shared → Prop} {pos : Pos}, Γ.Ok s →
    wpAny Γ.M Γ.A (evalPairs (pairTrees ks es Γ.env pos)) (fun vs s₁ => K0 Γ.T s s₁ ∧ ∃ kvs, Carries (strKind Γ.prog Γ.w) vs kvs) E s
  | _, _, .nil, s, E, pos, o => wpAny_pure ⟨Kp.refl, [], trivial⟩
  | _, _, .cons (x := x) he r, s, E, pos, o => by
    unfold pairTrees evalPairs
    refine wpAny_bind (Constant_str (wpAny_bind (wpAny_holding (wpAny_bind ?_))))
    have k₀ : K0 Γ.T s { s with toks := s.toks + 1 } := K0.toks_
    refine wpAny_mono (he E _ (o.step k₀)) (fun v s₁ h₁ => ?_) fun _ _ e => e
    obtain ⟨k₁, _⟩ := h₁
    refine wpAny_bind (wpAny_standAt (wpAny_pure (wpAny_bind (wpAny_holding ?_))))
    refine wpAny_mono (evalPairs_S r (o.step (k₀.trans k₁))) (fun vs s₂ h₂ => ?_) fun _ _ e => e
    obtain ⟨k₂, kvs, hc⟩ := h₂
    exact wpAny_pure ⟨(k₀.trans k₁).trans k₂, (x, v) :: kvs, strKind_is _ _ _ _, rfl, hc⟩

theorem EvalsN.dict {ks : List (Option Expr)} {es : List Expr} {pos : Pos} (h : EvP Γ ks es) (h0 : ks ≠ []) (hlen : ks.length ≤ 15) : EvalsN Γ (.Dict ks es pos) (.obj AnyObj) := fun E s o => by
  obtain ⟨hall, hl⟩ := h.all
  refine wpAny_Dict_walk (knd := strKind Γ.prog Γ.w) hall hl h0 hlen ?_
  have k₀ : K0 Γ.T s { s with heap := s.heap.push { cls := .type "dict", data := .dict #[] } } := K0.push (n := s.toks) _
  refine wpAny_mono (evalPairs_S h (o.step k₀)) (fun vs s₁ h₁ => ?_) fun _ _ e => e
  obtain ⟨k₁, kvs, hc⟩ := h₁
  have hd : (s.heap.push { cls := .type "dict", data := .dict #[] }).get? s.heap.objs.size = some { cls := .type "dict", data := .dict #[] } := Heap.get?_push_size _ rfl
  have hd₁ := k₁.get hd rfl
  have hnew : (s.heap.push { cls := .type "dict", data := .dict #[] }).DictOf (strKind Γ.prog Γ.w) s.heap.objs.size [] := Heap.DictOf.new s.heap
  obtain ⟨o0, es0, ep0, ho0, r0⟩ := hnew
  rw [hd] at ho0
  cases ho0
  refine ⟨kvs, hc, ⟨_, es0, ep0, hd₁, r0⟩, fun h' hm hs => ?_⟩
  · obtain ⟨o', es', ep', ho', hex, hdt, _⟩ := hm
    have kp : Kp Γ.T (· = s.heap.objs.size) No s₁ { s₁ with heap := h', toks := s₁.toks + vs.length } := Kp.of_but hs rfl (by rw [ho']; rfl) fun o e => by rw [hd₁] at e; cases e; rfl
    refine ⟨(k₀.trans k₁).fresh kp fun b q => by rw [q]; exact get_size _, .obj (get_size _) ho' ?_ ?_ trivial⟩
    · exact tab_of_cls hex.1
    · unfold itCls; rw [hex.1]; rfl

theorem EvalsN.dict0 {pos : Pos} : EvalsN Γ (.Dict [] [] pos) (.obj AnyObj) := fun E s o => by
  refine wpAny_Dict_empty ?_
  exact ⟨K0.push _, .obj (get_size _) (Heap.get?_push_size _ rfl) rfl rfl trivial⟩
end
end Mine

set_option maxHeartbeats 1000000
namespace Mine
open PySem PySem.Calls PyProof.Rows PyProof PySem.W

structure Lay17 (W : Wd) extends Lay16 W where
  aJ : Addr
  rJ : Rest
  gJ : W.mg "_check_JR" = some (.ref aJ)
  fJ : FnK W aJ (fdOf (stmtAt 19) .none rJ)

/-- common to a voter and the committee -/
def com (csk : List Int) (q : Vt) : Nat := (q.sk.filter csk.contains).length
def inG (csk : List Int) (c : Int) (q : Vt) : Bool := q.sk.contains c && ((com csk q : Int) == 0)
def gwAt (csk : List Int) (c : Int) (vts : List Vt) (i : Nat) : Int := (((vts.take i).filter (inG csk c)).map (·.w)).sum
def grpAt (f : SetTable) (csk : List Int) (c : Int) (vts : List Vt) : Nat → SK
  | 0 => ([], f)
  | i + 1 => if (vts[i]?).any (inG csk c) then addS (grpAt f csk c vts i) i else grpAt f csk c vts i

theorem grpAt_len (f : SetTable) (csk : List Int) (c : Int) (vts : List Vt) : ∀ i, (grpAt f csk c vts i).1.length ≤ i
  | 0 => by simp [grpAt]
  | i + 1 => by
    have ih := grpAt_len f csk c vts i
    unfold grpAt
    split
    · exact Nat.le_trans (addS_len _ _) (by omega)
    · omega

theorem gwAt_succ {csk : List Int} {c : Int} {vts : List Vt} {i : Nat} {q : Vt} (h : vts[i]? = some q) : gwAt csk c vts (i + 1) = if inG csk c q then gwAt csk c vts i + q.w else gwAt csk c vts i := by
  unfold gwAt
  have : vts.take (i + 1) = vts.take i ++ [q] := by rw [List.take_add_one, h]; rfl
  rw [this, List.filter_append]
  split
  · rename_i e
    simp [e]
  · rename_i e
    simp [e]

theorem freeOf_mk {ρ : List (Str × PV)} {own : Option Own} {ps : List (Str × Value)} {x : Str} (h1 : ps.lookup x = none) (h2 : ∀ w, own = some w → w.name ≠ x) : freeOf ⟨ρ, own, ps⟩ x = true := by
  show ((ps.lookup x).isNone && _) = true
  rw [h1]
  cases own with
  | none => rfl
  | some w =>
    simp only [Option.isNone_none, Bool.true_and]
    simpa using h2 w rfl

section
variable {W : Wd} (Y : Lay17 W) {A : Around} {hA : A.handled = none} {st : Shared} {X : Addr → Prop} {hI : W.I st.heap} {ok : EnvOK (fdOf (stmtAt 19) .none Y.rJ) Y.aJ st.heap.objs.size}

/-- a committee and its voters fit -/
structure JOk (csk : List Int) (vts : List Vt) : Prop where
  nd : csk.Nodup
  ln : csk.length < 1000
  vn : vts.length ≤ 900
  vs : ∀ q ∈ vts, q.sk.Nodup ∧ q.sk.length < 900 ∧ (∃ m ∈ q.sk, m ∉ csk) ∧ 0 ≤ q.w ∧ q.w ≤ 1000

abbrev jF : Fm := frameOf W A hA (fdOf (stmtAt 19) .none Y.rJ) Y.aJ st X hI rfl Y.fJ.glob Y.fJ.blt ok

abbrev jIf : Stmt := match (bodyOf (stmtAt 19)) with
  | .For _ _ [_, _, .For _ _ [b] _ _, _] _ _ :: _ => b
  | _ => .Pass default

theorem jr_turn {csk : List Int} {ct : SetTable} {vts : List Vt} {N : Nat} {c qn qd : Int} (hr : Room A 3) (J : JOk csk vts) {i : Nat} {q : Vt} (hq : vts[i]? = some q) {ps : List (Str × Value)}
    (hps : ps.map (·.1) = (["cand", "profile", "committee", "quota"] : List Str)) :
    Execs (jF Y (hA := hA) (hI := hI) (X := X) (ok := ok)) ⟨[("voter", Y.vt q), ("vi", .int i), ("group_weight", .int (gwAt csk c vts i)), ("cand", .int c), ("profile", Y.pr N (vts.map Y.vt)), ("committee", .obj (SetIs csk ct)), ("quota", Y.fr qn qd)],
      some (Own.val "group" (.obj (SetIs (grpAt (fresh0 W.w) csk c vts i).1 (grpAt (fresh0 W.w) csk c vts i).2))), ps⟩ [jIf]
      (.next ⟨[("group_weight", .int (gwAt csk c vts (i + 1))), ("cand", .int c), ("profile", Y.pr N (vts.map Y.vt)), ("committee", .obj (SetIs csk ct)), ("quota", Y.fr qn qd)],
        some (Own.val "group" (.obj (SetIs (grpAt (fresh0 W.w) csk c vts (i + 1)).1 (grpAt (fresh0 W.w) csk c vts (i + 1)).2))), ps⟩) := by
  obtain ⟨v1, v2, v3, v4, v5⟩ := J.vs q (List.mem_of_getElem? hq)
  have hil : i < vts.length := (List.getElem?_eq_some_iff.mp hq).1
  have hvn := J.vn
  have hgl := grpAt_len (fresh0 W.w) csk c vts i
  have hin : ∀ X' ρ, ((jF Y (hA := hA) (hI := hI) (X := X) (ok := ok)).cx X' ρ).In W 2 := fun X' ρ => ⟨rfl, rfl, rfl, fun _ h => h, hr.deeper (by omega) _⟩
  have hlook : ∀ y : Str, y ∉ (["cand", "profile", "committee", "quota"] : List Str) → ps.lookup y = none := fun y hy => by
    rw [List.lookup_eq_none_iff]
    intro p hp
    have : p.1 ∈ ps.map (·.1) := List.mem_map.mpr ⟨p, hp, rfl⟩
    rw [hps] at this
    simp only [bne_iff_ne, ne_eq]
    exact fun q => hy (q ▸ this)
  conv => arg 3; whnf
  refine Execs.cons (σ₁ := ⟨[("group_weight", .int (gwAt csk c vts (i + 1))), ("cand", .int c), ("profile", Y.pr N (vts.map Y.vt)), ("committee", .obj (SetIs csk ct)), ("quota", Y.fr qn qd)],
        some (Own.val "group" (.obj (SetIs (grpAt (fresh0 W.w) csk c vts (i + 1)).1 (grpAt (fresh0 W.w) csk c vts (i + 1)).2))), ps⟩) ?_ Execs.nil
  refine Exec.ite (b := inG csk c q) (fun X' => Tests.and2 (Tests.cmp (CmpSem.inSet (by omega)) (Evals.name rfl) (Evals.field (hin _ _) Y.pVo Y.apVo (Evals.name (pv := Y.vt q) rfl) rfl)) (fun _ => Tests.cmp CmpSem.eq (Evals.lenOf (hin _ _) (.blt Y.len (fun _ h => h) rfl) (len_setN (Nat.lt_of_le_of_lt (List.length_filter_le ..) (by omega))) (Evals.andSet (Evals.field (hin _ _) Y.pVo Y.apVo (Evals.name (pv := Y.vt q) rfl) rfl) (Evals.name rfl) v1 J.nd (by omega) J.ln v3)) Evals.int)) (fun h => ?_) fun h => ?_
  · have e1 := gwAt_succ (csk := csk) (c := c) hq
    rw [h, if_pos rfl] at e1
    have e2 : grpAt (fresh0 W.w) csk c vts (i + 1) = addS (grpAt (fresh0 W.w) csk c vts i) i := by
      show (if (vts[i]?).any (inG csk c) then _ else _) = _
      rw [hq]
      simp only [Option.any_some, h, if_true]
    rw [e1, e2]
    apply Execs.wk
    refine Execs.cons (Exec.setAdd (by omega) (fun X' => Evals.name rfl)) ?_
    refine Execs.cons (Exec.augName rfl (fun X' => Evals.field (hin _ _) Y.pVo Y.weVo (Evals.name (pv := Y.vt q) rfl) rfl) (by rfl) (freeOf_mk (hlook _ (by decide)) fun w hw => by cases hw; exact (by decide : ("group" : Str) ≠ "group_weight"))) Execs.nil
    exact .cons rfl (.cons rfl (.cons rfl (.cons rfl (.cons rfl .nil))))
  · have e1 := gwAt_succ (csk := csk) (c := c) hq
    rw [h, if_neg (by simp)] at e1
    have e2 : grpAt (fresh0 W.w) csk c vts (i + 1) = grpAt (fresh0 W.w) csk c vts i := by
      show (if (vts[i]?).any (inG csk c) then _ else _) = _
      rw [hq]
      simp only [Option.any_some, h, Bool.false_eq_true, if_false]
    rw [e1, e2]
    apply Execs.wk
    exact Execs.nil
    exact .cons rfl (.cons rfl (.cons rfl (.cons rfl (.cons rfl .nil))))

theorem jr_group {csk : List Int} {ct : SetTable} {vts : List Vt} {N : Nat} {c qn qd : Int} (hr : Room A 3) (J : JOk csk vts) (hne : 0 < vts.length) :
    Exec (jF Y (hA := hA) (hI := hI) (X := X) (ok := ok)) ⟨[("group_weight", .int 0), ("cand", .int c), ("profile", Y.pr N (vts.map Y.vt)), ("committee", .obj (SetIs csk ct)), ("quota", Y.fr qn qd)], some (Own.val "group" (.obj (SetIs [] (fresh0 W.w)))), []⟩
      (match (bodyOf (stmtAt 19)) with
        | .For _ _ [_, _, f, _] _ _ :: _ => f
        | _ => .Pass default)
      (.next ⟨[("group_weight", .int (gwAt csk c vts vts.length)), ("cand", .int c), ("profile", Y.pr N (vts.map Y.vt)), ("committee", .obj (SetIs csk ct)), ("quota", Y.fr qn qd)],
        some (Own.val "group" (.obj (SetIs (grpAt (fresh0 W.w) csk c vts vts.length).1 (grpAt (fresh0 W.w) csk c vts vts.length).2))), []⟩) := by
  have hin : ∀ X' ρ, ((jF Y (hA := hA) (hI := hI) (X := X) (ok := ok)).cx X' ρ).In W 2 := fun X' ρ => ⟨rfl, rfl, rfl, fun _ h => h, hr.deeper (by omega) _⟩
  conv => arg 3; whnf
  refine exec_forEnum (N := N) (vts := vts) (ρf := [("cand", .int c), ("profile", Y.pr N (vts.map Y.vt)), ("committee", .obj (SetIs csk ct)), ("quota", Y.fr qn qd)]) (ρi := fun i => [("group_weight", .int (gwAt csk c vts i))]) (ow := fun i => some (Own.val "group" (.obj (SetIs (grpAt (fresh0 W.w) csk c vts i).1 (grpAt (fresh0 W.w) csk c vts i).2)))) Y.toLay16 hin
    (fun X' ρ => .blt Y.enumerate (fun _ h => h) rfl) hne (by decide : ((["cand", "profile", "committee", "quota"] : List Str)).Nodup) rfl (fun i => rfl) (fun i y p e => ?_) (fun i => rfl) (by rfl) (by rfl) rfl rfl (fun i w hw => by cases hw; exact ⟨(by decide : ("group" : Str) ≠ "vi"), (by decide : ("group" : Str) ≠ "voter")⟩) (fun i w hw => by cases hw; rfl) (hb := fun i q hq ps hps => ?_)
  · have : y ≠ "group_weight" := fun q => by subst q; cases e
    rw [List.lookup_cons]
    have : (y == ("group_weight" : Str)) = false := by simpa using this
    rw [this]; rfl
  · exact jr_turn Y hr J hq hps
end
end Mine

set_option maxHeartbeats 1000000
namespace Mine
open PySem PySem.Calls PyProof.Rows PyProof PySem.W

theorem sum_bounds : ∀ {l : List Int}, (∀ x ∈ l, 0 ≤ x ∧ x ≤ 1000) → 0 ≤ l.sum ∧ l.sum ≤ 1000 * l.length
  | [], _ => by simp
  | x :: l, h => by
    obtain ⟨h1, h2⟩ := sum_bounds (l := l) fun y hy => h y (.tail _ hy)
    have h3 := h x (.head _)
    simp only [List.sum_cons, List.length_cons, Int.natCast_add, Int.natCast_one]
    omega
theorem gw_bounds {csk : List Int} {c : Int} {vts : List Vt} (J : JOk csk vts) (i : Nat) : 0 ≤ gwAt csk c vts i ∧ gwAt csk c vts i ≤ 900000 := by
  have h := sum_bounds (l := ((vts.take i).filter (inG csk c)).map (·.w)) fun x hx => by
    obtain ⟨q, hq, rfl⟩ := List.mem_map.mp hx
    obtain ⟨_, _, _, h4, h5⟩ := J.vs q (List.mem_of_mem_take (List.mem_filter.mp hq).1)
    exact ⟨h4, h5⟩
  have hl : (((vts.take i).filter (inG csk c)).map (·.w)).length ≤ vts.length := by
    rw [List.length_map]
    exact Nat.le_trans (List.length_filter_le ..) (by rw [List.length_take]; omega)
  have := J.vn
  unfold gwAt
  omega

section
variable {W : Wd} (Y : Lay17 W) {A : Around} {hA : A.handled = none} {st : Shared} {X : Addr → Prop} {hI : W.I st.heap} {ok : EnvOK (fdOf (stmtAt 19) .none Y.rJ) Y.aJ st.heap.objs.size}

def jrHit (csk : List Int) (vts : List Vt) (qn qd : Int) (c : Int) : Bool := decide (qn ≤ gwAt csk c vts vts.length * qd)
abbrev jrBody : List Stmt := match (bodyOf (stmtAt 19)) with
  | .For _ _ b _ _ :: _ => b
  | _ => []
abbrev jrRes (b : Bool) : PV := .tup [.bool b, .obj AnyObj]

theorem jr_test {csk : List Int} {ct : SetTable} {vts : List Vt} {N : Nat} {c qn qd : Int} (hr : Room A 3) (J : JOk csk vts) (hn : 0 ≤ qn ∧ qn ≤ 1000000) (hd : 0 < qd ∧ qd ≤ 1000000) {ρ : List (Str × PV)} {X' : Addr → Prop} {p1 p2 p3 p4 p5 : Pos}
    (h1 : ρ.lookup ("quota" : Str) = some (Y.fr qn qd)) (h2 : ρ.lookup ("group_weight" : Str) = some (.int (gwAt csk c vts vts.length)))
    : Tests ((jF Y (hA := hA) (hI := hI) (X := X) (ok := ok)).cx X' ρ) (.Compare (.Call (.Name "Fraction" p1) [.Name "quota" p2] [] p3) [.LtE] [.Name "group_weight" p4] p5) (jrHit csk vts qn qd c) := by
  have hin : ((jF Y (hA := hA) (hI := hI) (X := X) (ok := ok)).cx X' ρ).In W 2 := ⟨rfl, rfl, rfl, fun _ h => h, hr.deeper (by omega) _⟩
  have gb := gw_bounds (c := c) J vts.length
  refine Tests.as (Tests.fle (Y := Y.toLay9) (n := frN qn (1 * qd)) (d := frD qn (1 * qd)) hin (by omega) (w := gwAt csk c vts vts.length) ⟨by omega, by omega⟩ (EvalsN.toE (EvalsN.makeK hin Y.mFr (make_fi Y.toLay8 hn hd) (by omega) (.top Y.gFr (fun _ h => h) rfl) (ArgsOK.pos (EvalsL.cons (Evals.name h1) EvalsL.nil)))) (Evals.name h2)) ?_
  unfold jrHit
  have := fr_le (u := qn) (l := 1 * qd) (w := gwAt csk c vts vts.length) hn.1 (by omega)
  rw [Int.one_mul] at this
  rw [Int.one_mul]
  exact decide_eq_decide.mpr this

theorem jr_no {csk : List Int} {ct : SetTable} {vts : List Vt} {N : Nat} {c qn qd : Int} (hr : Room A 3) (J : JOk csk vts) (hne : 0 < vts.length) (hn : 0 ≤ qn ∧ qn ≤ 1000000) (hd : 0 < qd ∧ qd ≤ 1000000) (hc : jrHit csk vts qn qd c = false) :
    Execs (jF Y (hA := hA) (hI := hI) (X := X) (ok := ok)) ⟨[("cand", .int c), ("profile", Y.pr N (vts.map Y.vt)), ("committee", .obj (SetIs csk ct)), ("quota", Y.fr qn qd)], none, []⟩ jrBody
      (.next ⟨[("profile", Y.pr N (vts.map Y.vt)), ("committee", .obj (SetIs csk ct)), ("quota", Y.fr qn qd)], none, []⟩) := by
  have hin : ∀ X' ρ, ((jF Y (hA := hA) (hI := hI) (X := X) (ok := ok)).cx X' ρ).In W 2 := fun X' ρ => ⟨rfl, rfl, rfl, fun _ h => h, hr.deeper (by omega) _⟩
  conv => arg 3; whnf
  refine Execs.cons (Exec.assignNew (EvalsN.toV fun X' => EvalsN.setNew (hin _ _) (.blt Y.set (fun _ h => h) rfl)) (by rfl) (by rfl) rfl) ?_
  refine Execs.cons (Exec.assign (pv := .int 0) (.inl ⟨true, fun X' => Evals.int, rfl⟩) (by rfl) (by rfl) rfl) ?_
  refine Execs.cons (jr_group Y hr J hne (c := c)) ?_
  refine Execs.noOwn ?_
  apply Execs.wk
  refine Execs.cons (Exec.ite (b := jrHit csk vts qn qd c) (fun X' => jr_test Y (c := c) (N := N) (ct := ct) hr J hn hd rfl rfl) (fun h => by rw [hc] at h; cases h) fun _ => Execs.nil) Execs.nil
  exact .cons rfl (.cons rfl (.cons rfl .nil))

theorem jr_yes {csk : List Int} {ct : SetTable} {vts : List Vt} {N : Nat} {c qn qd : Int} (hr : Room A 3) (J : JOk csk vts) (hne : 0 < vts.length) (hn : 0 ≤ qn ∧ qn ≤ 1000000) (hd : 0 < qd ∧ qd ≤ 1000000) (hc : jrHit csk vts qn qd c = true) :
    Execs (jF Y (hA := hA) (hI := hI) (X := X) (ok := ok)) ⟨[("cand", .int c), ("profile", Y.pr N (vts.map Y.vt)), ("committee", .obj (SetIs csk ct)), ("quota", Y.fr qn qd)], none, []⟩ jrBody
      (.ret (jrRes false)) := by
  have hin : ∀ X' ρ, ((jF Y (hA := hA) (hI := hI) (X := X) (ok := ok)).cx X' ρ).In W 2 := fun X' ρ => ⟨rfl, rfl, rfl, fun _ h => h, hr.deeper (by omega) _⟩
  conv => arg 3; whnf
  refine Execs.cons (Exec.assignNew (EvalsN.toV fun X' => EvalsN.setNew (hin _ _) (.blt Y.set (fun _ h => h) rfl)) (by rfl) (by rfl) rfl) ?_
  refine Execs.cons (Exec.assign (pv := .int 0) (.inl ⟨true, fun X' => Evals.int, rfl⟩) (by rfl) (by rfl) rfl) ?_
  refine Execs.cons (jr_group Y hr J hne (c := c)) ?_
  refine Execs.freeze ?_
  refine Execs.ret (Exec.ite (b := jrHit csk vts qn qd c) (fun X' => jr_test Y (c := c) (N := N) (ct := ct) hr J hn hd rfl rfl) (fun _ => ?_) fun h => by rw [hc] at h; cases h)
  refine Execs.cons (Exec.assign (pv := .obj AnyObj) (.inr ⟨true, fun X' => EvalsN.toE (EvalsN.dict (.cons (pv := .obj (SetIs (grpAt (fresh0 W.w) csk c vts vts.length).1 (grpAt (fresh0 W.w) csk c vts vts.length).2)) (Evals.name rfl) (.cons (pv := .int c) (Evals.name rfl) .nil)) (by simp) (by simp))⟩) (by rfl) (by rfl) rfl) ?_
  exact Execs.ret (Exec.ret (fr := true) fun X' => Evals.tup (EvalsL.cons Evals.bool (EvalsL.cons (Evals.name rfl) EvalsL.nil)) (by simp))
end

theorem first_hit {α : Type} (P : α → Bool) : ∀ {l : List α}, l.any P = true → ∃ (n : Nat) (x : α), l[n]? = some x ∧ P x = true ∧ ∀ (i : Nat) (y : α), i < n → l[i]? = some y → P y = false
  | [], h => by cases h
  | x :: l, h => by
    cases hx : P x with
    | true => exact ⟨0, x, rfl, hx, fun i y hi => absurd hi (Nat.not_lt_zero _)⟩
    | false =>
      rw [List.any_cons, hx, Bool.false_or] at h
      obtain ⟨n, y, h1, h2, h3⟩ := first_hit P h
      refine ⟨n + 1, y, by simpa using h1, h2, fun i z hi hz => ?_⟩
      cases i with
      | zero => simp at hz; subst hz; exact hx
      | succ i => exact h3 i z (by omega) (by simpa using hz)

theorem c_jr {W : Wd} (Y : Lay17 W) {csk : List Int} {ct : SetTable} {vts : List Vt} {N : Nat} {qn qd : Int} (J : JOk csk vts) (hne : 0 < vts.length) (hN : N ≤ 4000) (hn : 0 ≤ qn ∧ qn ≤ 1000000) (hd : 0 < qd ∧ qd ≤ 1000000) :
    Contract W Y.aJ 3 [Y.pr N (vts.map Y.vt), .obj (SetIs csk ct)] ["quota"] [Y.fr qn qd] (jrRes (!(upto N).any (jrHit csk vts qn qd))) := by
  refine contract_of (xs := ["profile", "committee", "quota"]) (dps := []) Y.fJ rfl (by rfl) (by rfl) (by rfl) (fun s vs kvs hI hv hkv => ?_) fun A hA st X hI ok hr => ?_
  · match vs, kvs, hv, hkv with
    | [u, v], [q], _, _ => exact ⟨[], BindsTo.of_eq rfl, .nil⟩
  have hin : ∀ X' ρ, ((jF Y (hA := hA) (hI := hI) (X := X) (ok := ok)).cx X' ρ).In W 2 := fun X' ρ => ⟨rfl, rfl, rfl, fun _ h => h, hr.deeper (by omega) _⟩
  conv => arg 3; whnf
  cases hany : (upto N).any (jrHit csk vts qn qd) with
  | false =>
    have hno : ∀ c ∈ upto N, jrHit csk vts qn qd c = false := fun c hc => by
      cases e : jrHit csk vts qn qd c with
      | false => rfl
      | true => rw [List.any_eq_true.mpr ⟨c, hc, e⟩] at hany; cases hany
    refine Execs.cons (σ₁ := ⟨[("profile", Y.pr N (vts.map Y.vt)), ("committee", .obj (SetIs csk ct)), ("quota", Y.fr qn qd)], none, []⟩) (for_any (src := .list ((upto N).map .int)) (xs := (upto N).map .int) (fun _ => ⟨[("profile", Y.pr N (vts.map Y.vt)), ("committee", .obj (SetIs csk ct)), ("quota", Y.fr qn qd)], none, []⟩) ((upto N).map PV.int).length _ (.inr ⟨false, fun X' => Evals.field (hin _ _) Y.pPr Y.caPr (Evals.name (pv := Y.pr N (vts.map Y.vt)) rfl) rfl⟩) rfl trivial (Nat.le_refl _) (by rfl) (fun i _ => by rfl) (fun i p hi hp => .inl ?_) (.inl ⟨rfl, rfl⟩)) ?_
    · obtain ⟨c, hc, rfl⟩ := List.mem_map.mp (List.mem_of_getElem? hp)
      exact jr_no Y hr J hne hn hd (hno c hc)
    · refine Execs.cons (Exec.assign (pv := .obj AnyObj) (.inr ⟨true, fun X' => EvalsN.toE EvalsN.dict0⟩) (by rfl) (by rfl) rfl) ?_
      exact Execs.ret (Exec.ret (fr := true) fun X' => Evals.tup (EvalsL.cons Evals.bool (EvalsL.cons (Evals.name rfl) EvalsL.nil)) (by simp))
  | true =>
    obtain ⟨n, c, hc, hit, hbef⟩ := first_hit _ hany
    have hnl : n < (upto N).length := (List.getElem?_eq_some_iff.mp hc).1
    refine Execs.ret (for_any (src := .list ((upto N).map .int)) (xs := (upto N).map .int) (fun _ => ⟨[("profile", Y.pr N (vts.map Y.vt)), ("committee", .obj (SetIs csk ct)), ("quota", Y.fr qn qd)], none, []⟩) n _ (.inr ⟨false, fun X' => Evals.field (hin _ _) Y.pPr Y.caPr (Evals.name (pv := Y.pr N (vts.map Y.vt)) rfl) rfl⟩) rfl trivial (by rw [List.length_map]; omega) (by rfl) (fun i _ => by rfl) (fun i p hi hp => .inl ?_) (.inr ⟨_, .int c, rfl, by rw [List.getElem?_map, hc]; rfl, ?_⟩))
    · rw [List.getElem?_map] at hp
      cases hu : (upto N)[i]? with
      | none => rw [hu] at hp; cases hp
      | some c' =>
        rw [hu] at hp
        cases hp
        exact jr_no Y hr J hne hn hd (hbef i c' hi hu)
    · exact jr_yes Y hr J hne hn hd hit
end Mine

set_option maxHeartbeats 1000000
namespace Mine
open PySem PySem.Calls PyProof.Rows PyProof PySem.W

theorem CmpSem.isNone {Γ : Cx} : CmpSem Γ .Is .none .none true := fun X a b Q E s hx hy h => by
  cases hx; cases hy
  exact wpAny_is_self rfl (h _ Kp.refl)

section
variable {F : Fm} {σ σ' : St} {D : Addr → Prop} {s s₁ s' : Shared}

/-- x, y = e, e a pair of shared values -/
theorem Exec.unpack2 {x y : Str} {px py pos tp : Pos} {k : Nat} {e : Expr} {p q : PV} {fr : Bool} (he : ∀ X, Evals (F.cx X σ.ρ) fr e (.tup [p, q]))
    (hx : varKind F.env x = true) (hy : varKind F.env y = true) (hf : freeOf σ x = true) (hg : freeOf σ y = true)
    (hs : swapsWithSole [.Tuple [.Name x px, .Name y py] k tp] e pos.line F.env = pure false := by rfl)
    (hw : swappedStores [.Tuple [.Name x px, .Name y py] k tp] e F.env = pure Option.none := by rfl)
    (has : (assignEach [.Name x px, .Name y py] F.env).map (·.2) = [PySem.assign (.Name x px) F.env, PySem.assign (.Name y py) F.env] := by rfl) (has2 : (assignEach [.Name x px, .Name y py] F.env).findIdx? (·.1) = Option.none := by rfl) :
    Exec F σ (.Assign [.Tuple [.Name x px, .Name y py] k tp] e pos) (.next ⟨(y, q) :: (x, p) :: σ.ρ, σ.own, σ.pins⟩) := fun E D s o => by
  refine Assign_Tuple (wpAny_mono (he _ E s o.cx0) (fun v s₁ h₁ => ?_) fun _ _ e => e) hs hw
  obtain ⟨k₁, hv, _⟩ := h₁
  have hv := vr_rd0 o hv
  obtain ⟨t, vs, rfl, _, ht, hvs⟩ := hv.isTup
  cases hvs with
  | cons h1 r =>
  cases r with
  | cons h2 r =>
  cases r
  rename_i v₁ v₂
  obtain ⟨oo, ho, hcls, n, hdt⟩ := ht
  have hlen2 : (assignEach [.Name x px, .Name y py] F.env).length = 2 := by
    have := congrArg List.length has
    rw [List.length_map] at this; exact this
  refine wpAny_assign_Tuple (items := #[v₁, v₂]) F.hh ⟨oo, ho, hcls, n, hdt⟩ hlen2 has2 fun h' hext => ?_
  have k₂ : K0 F.T s₁ { s₁ with heap := h' } := K0.of_keep (tk := s₁.toks) fun b ob e => hext b ob (fun q => by rw [q, get_size] at e; cases e) e
  have o₂ := (o.step k₁).step k₂
  have up : ∀ {p v}, VR s₁.heap (fun b => F.B b ∧ ¬ F.Mut D b) p v → VR h' (fun b => F.B b ∧ ¬ F.Mut D b) p v := fun h => h.mono (fun b ob hb e ht => k₂.get e ht) fun _ h => h
  rw [has]
  have st := pair_store (x := x) (y := y) (E := E) o₂ (t₁ := fun v => PySem.assign (.Name x px) F.env v) (t₂ := fun v => PySem.assign (.Name y py) F.env v) (fun Q s h => wpAny_assign_Name h) (fun Q s h => wpAny_assign_Name h) (up h1) (up h2) hx hy hf hg
  exact wpAny_mono st (fun _ s₄ g => ⟨D, g.before (k₁.trans k₂)⟩) fun _ _ e => e
end

theorem com_perm {csk cs : List Int} (h : csk.Perm cs) (q : Vt) : com csk q = com cs q := by
  unfold com
  have : csk.contains = cs.contains := by
    funext x
    rw [Bool.eq_iff_iff, List.contains_iff_mem, List.contains_iff_mem]
    exact h.mem_iff
  rw [this]
theorem inG_perm {csk cs : List Int} (h : csk.Perm cs) (c : Int) : inG csk c = inG cs c := by
  funext q
  unfold inG; rw [com_perm h]
theorem gw_perm {csk cs : List Int} (h : csk.Perm cs) (c : Int) (vts : List Vt) (i : Nat) : gwAt csk c vts i = gwAt cs c vts i := by
  unfold gwAt; rw [inG_perm h]
theorem JOk.perm {csk cs : List Int} {vts : List Vt} (J : JOk cs vts) (h : csk.Perm cs) : JOk csk vts where
  nd := h.nodup_iff.mpr J.nd
  ln := by rw [h.length_eq]; exact J.ln
  vn := J.vn
  vs := fun q hq => by
    obtain ⟨h1, h2, ⟨m, h3, h3'⟩, h4⟩ := J.vs q hq
    exact ⟨h1, h2, ⟨m, h3, fun q => h3' (h.mem_iff.mp q)⟩, h4⟩

structure Lay18 (W : Wd) extends Lay17 W where
  aCJ : Addr
  rCJ : Rest
  tCJ : Addr
  gCJ : W.mg "check_JR" = some (.ref aCJ)
  fCJ : FnK W aCJ (fdOf (stmtAt 18) (.ref tCJ) rCJ)
  dCJ : ∃ o n, W.K.lookup tCJ = some o ∧ o.data = .seq #[.none] n

theorem c_checkJR {W : Wd} (Y : Lay18 W) {cs : List Int} {vts : List Vt} {N : Nat} (J : JOk cs vts) (hne : 0 < vts.length) (hN : N ≤ 900) (hcs : ∀ c ∈ cs, 0 ≤ c ∧ c < N) (hc0 : 0 < cs.length)
    (hT : (vts.map (·.w)).sum ≤ 1000000) :
    Contract W Y.aCJ 4 [Y.pr N (vts.map Y.vt), .list (cs.map .int)] [] [] (.bool (!(upto N).any fun c => decide ((vts.map (·.w)).sum ≤ gwAt cs c vts vts.length * cs.length))) := by
  have hT0 : 0 ≤ (vts.map (·.w)).sum := (sum_bounds fun x hx => by
    obtain ⟨q, hq, rfl⟩ := List.mem_map.mp hx
    exact (J.vs q hq).2.2.2).1
  have hcl := J.ln
  have P := runS_perm0 (fresh0 W.w) J.nd
  have J' := J.perm P
  refine contract_of (xs := ["profile", "committee", "quota"]) (dps := [.none]) Y.fCJ rfl (by rfl) (by rfl) (by rfl) (fun s vs kvs hI hv hkv => ?_) fun A hA st X hI ok hr => ?_
  · match vs, kvs, hv, hkv with
    | [u, v], [], _, _ =>
      obtain ⟨o, n, h1, h2⟩ := Y.dCJ
      exact ⟨[.none], BindsTo.of_defaults rfl (hI.1 _ _ h1) h2 rfl rfl, .cons .none .nil⟩
  have hin : ∀ X' ρ, ((frameOf W A hA (fdOf (stmtAt 18) (.ref Y.tCJ) Y.rCJ) Y.aCJ st X hI rfl Y.fCJ.glob Y.fCJ.blt ok).cx X' ρ).In W 3 := fun X' ρ => ⟨rfl, rfl, rfl, fun _ h => h, hr.deeper (by omega) _⟩
  conv => arg 3; whnf
  have hb := fr_bounds hT0 (l := (cs.length : Int)) (by omega)
  refine Execs.cons (σ₁ := ⟨[("quota", Y.fr (frN (vts.map (·.w)).sum cs.length) (frD (vts.map (·.w)).sum cs.length)), ("profile", Y.pr N (vts.map Y.vt)), ("committee", .list (cs.map .int))], none, []⟩) (Exec.ite (b := true) (fun X' => Tests.cmp CmpSem.isNone (Evals.name rfl) Evals.cnone) (fun _ => ?_) fun h => nomatch h) ?_
  · apply Execs.wk
    refine Execs.cons (Exec.assign (pv := .bool true) (.inl ⟨true, fun X' => Evals.bool, rfl⟩) (by rfl) (by rfl) rfl) ?_
    refine Execs.cons (Exec.assign (pv := Y.fr (frN (vts.map (·.w)).sum cs.length) (frD (vts.map (·.w)).sum cs.length)) (.inr ⟨true, fun X' => EvalsN.toE (EvalsN.makeK (hin _ _) Y.mFr (make_ii Y.toLay8 ⟨hT0, hT⟩ ⟨by omega, by omega⟩) (by omega) (.top Y.gFr (fun _ h => h) rfl) (ArgsOK.pos (EvalsL.cons (Evals.method (hin _ _) Y.pPr Y.hTW Y.fTW (c_tw Y.toLay15 (N := N)) (by omega) rfl (Evals.name (pv := Y.pr N (vts.map Y.vt)) rfl) (ArgsOK.pos EvalsL.nil)) (EvalsL.cons (Evals.as (Evals.len (.blt Y.len (fun _ h => h) rfl) (Evals.name rfl) (by rw [List.length_map]; omega)) (by rw [List.length_map])) EvalsL.nil))))⟩) (by rfl) (by rfl) rfl) Execs.nil
    exact .cons rfl (.cons rfl (.cons rfl .nil))
  · refine Execs.cons (Exec.assign (pv := .obj (SetIs (runS ([], fresh0 W.w) cs).1 (runS ([], fresh0 W.w) cs).2)) (.inr ⟨true, fun X' => EvalsN.toE (EvalsN.callF (hin _ _) Y.fCS (c_CS Y.toLay10 (nc := some (N : Int)) (canSrc_list J.nd J.ln) (fun xs hxs p hp => ?_)) (by omega) (.top Y.gCS (fun _ h => h) rfl) (ArgsOK.kw (ks := ["num_cand"]) (EvalsL.cons (Evals.name rfl) EvalsL.nil) (EvalsK.cons (Evals.numCand (Y := Y.toLay12) (hin _ _) (by omega) (by omega) (Evals.name (pv := Y.pr N (vts.map Y.vt)) rfl)) EvalsK.nil) rfl rfl rfl))⟩) (by rfl) (by rfl) rfl) ?_
    · subst hxs
      obtain ⟨m, hm, rfl⟩ := List.mem_map.mp hp
      exact ⟨m, rfl, (hcs m hm).1, fun N' e => by cases e; exact (hcs m hm).2⟩
    refine Execs.cons (Exec.unpack2 (p := .bool (!(upto N).any fun c => decide ((vts.map (·.w)).sum ≤ gwAt cs c vts vts.length * cs.length))) (q := .obj AnyObj) (fun X' => Evals.as (Evals.callK (hin _ _) Y.fJ (c_jr Y.toLay17 (N := N) (ct := (runS ([], fresh0 W.w) cs).2) J' hne (by omega) (qn := frN (vts.map (·.w)).sum cs.length) (qd := frD (vts.map (·.w)).sum cs.length) ⟨hb.1, by omega⟩ ⟨hb.2.2.1, by omega⟩) (by omega) (.top Y.gJ (fun _ h => h) rfl) (ArgsOK.kw (ks := ["quota"]) (EvalsL.cons (Evals.name rfl) (EvalsL.cons (Evals.name rfl) EvalsL.nil)) (EvalsK.cons (Evals.name rfl) EvalsK.nil) rfl rfl rfl)) ?_) (by rfl) (by rfl) (by rfl) (by rfl)) ?_
    · show jrRes _ = _
      unfold jrRes
      congr 5
      funext c
      unfold jrHit
      rw [gw_perm P]
      exact decide_eq_decide.mpr (fr_le hT0 (by omega))
    · exact Execs.ret (Exec.ret (fr := false) fun X' => Evals.name rfl)
end Mine

set_option maxHeartbeats 1000000
namespace Mine
open PySem PySem.Calls PyProof.Rows PyProof PySem.W

/-- what a dict of sets holds: nothing, or one set -/
abbrev DC := Option (Int × List Int × SetTable)
def DC.keys : DC → List Int
  | none => []
  | some (u, _) => [u]
def dcP (prog : Program) (w : World) (dc : DC) (h : Heap) (d : Addr) (D : Addr → Prop) : Prop :=
  d ≠ sysModules ∧ D d ∧ (∀ b, D b → ∃ o, h.get? b = some o ∧ tab o = false) ∧ match dc with
    | none => h.DictOf (intKind prog w) d []
    | some (u, sk, t) => ∃ b ob, b ≠ d ∧ D b ∧ h.get? b = some ob ∧ SetIs sk t ob ∧ h.DictOf (intKind prog w) d [(u, .ref b)]

theorem dictOf_at {prog : Program} {w : World} {h : Heap} {d : Addr} {kvs : List (Int × Value)} (x : h.DictOf (intKind prog w) d kvs) : ∃ o, h.get? d = some o ∧ tab o = false ∧ itCls o = false := by
  obtain ⟨o, es, ep, ho, hc, _⟩ := x
  exact ⟨o, ho, tab_of_cls hc.1, by unfold itCls; rw [hc.1]; rfl⟩
theorem dictOf_keep {prog : Program} {w : World} {h h' : Heap} {d : Addr} {kvs : List (Int × Value)} (x : h.DictOf (intKind prog w) d kvs) (hk : ∀ o, h.get? d = some o → tab o = false → h'.get? d = some o) : h'.DictOf (intKind prog w) d kvs := by
  obtain ⟨o, es, ep, ho, hc, r⟩ := x
  exact ⟨o, es, ep, hk o ho (tab_of_cls hc.1), hc, r⟩
theorem dcP.dict {prog : Program} {w : World} {dc : DC} {h : Heap} {d : Addr} {D : Addr → Prop} (x : dcP prog w dc h d D) : ∃ kvs, h.DictOf (intKind prog w) d kvs ∧ kvs.map (·.1) = dc.keys := by
  obtain ⟨_, _, _, x⟩ := x
  cases dc with
  | none => exact ⟨_, x, rfl⟩
  | some q =>
    obtain ⟨u, sk, t⟩ := q
    obtain ⟨b, ob, _, _, _, _, x⟩ := x
    exact ⟨_, x, rfl⟩
theorem dcP.loc {prog : Program} {w : World} {dc : DC} {h h' : Heap} {d : Addr} {D : Addr → Prop} (hk : ∀ b o, D b → h.get? b = some o → tab o = false → h'.get? b = some o) (x : dcP prog w dc h d D) : dcP prog w dc h' d D := by
  obtain ⟨h1, h2, h3, x⟩ := x
  refine ⟨h1, h2, fun b hb => ?_, ?_⟩
  · obtain ⟨o, ho, ht⟩ := h3 b hb
    exact ⟨o, hk b o hb ho ht, ht⟩
  · cases dc with
    | none => exact dictOf_keep x fun o ho ht => hk d o h2 ho ht
    | some q =>
      obtain ⟨u, sk, t⟩ := q
      obtain ⟨b, ob, n, hb, hob, hs, x⟩ := x
      exact ⟨b, ob, n, hb, hk b ob hb hob hs.tab, hs, dictOf_keep x fun o ho ht => hk d o h2 ho ht⟩

/-- a dict of sets that is the frame's own -/
def Own.dct (prog : Program) (w : World) (nm : Str) (dc : DC) : Own where
  name := nm
  pv := .obj AnyObj
  P := fun h v D => ∃ d, v = .ref d ∧ dcP prog w dc h d D
  read := fun h v D ⟨d, e, x⟩ => by
    subst e
    obtain ⟨kvs, hd, _⟩ := x.dict
    obtain ⟨o, ho, ht, hi⟩ := dictOf_at hd
    exact .obj x.2.1 ho ht hi trivial
  loc := fun h h' v D hk ⟨d, e, x⟩ => ⟨d, e, x.loc hk⟩
  live := fun h v D ⟨d, e, x⟩ b hb => by
    obtain ⟨o, ho, _⟩ := x.2.2.1 b hb
    rw [ho]; rfl

section
variable {F : Fm} {σ σ' : St} {D : Addr → Prop} {s s₁ s' : Shared} {x : Str} {v : Value} {a : Addr}

/-- a test that is told of a frame -/
def TestO (F : Fm) (σ : St) (test : Expr) (b : Bool) : Prop := ∀ (E : Value → Shared → Prop) D s, F.Ok σ D s → wpAny F.M F.A (isTrue test F.env (eval test F.env)) (fun r s' => K0 F.T s s' ∧ r = b) E s
theorem Exec.iteO {test : Expr} {body orelse : List Stmt} {pos : Pos} {b : Bool} {out : Out} (ht : TestO F σ test b) (h1 : b = true → Execs F σ body out) (h0 : b = false → Execs F σ orelse out) : Exec F σ (.If test body orelse pos) out := fun E D s o => by
  refine wpAny_If (wpAny_mono (ht _ D s o) (fun r s₁ h₁ => ?_) fun _ _ e => e)
  obtain ⟨k, rfl⟩ := h₁
  have fin : ∀ f s₂, OutIs F D s₁ out f s₂ → OutIs F D s out f s₂ := fun f s₂ h => h.after (Goes.of o k)
  cases r with
  | true => exact wpAny_mono (h1 rfl E D s₁ (o.step k)) fin fun _ _ e => e
  | false => exact wpAny_mono (h0 rfl E D s₁ (o.step k)) fin fun _ _ e => e

/-- x = {} -/
theorem Exec.assignDct {W : Wd} {d : Nat} {px pos dp : Pos} (hin : (F.cx (fun _ => True) []).In W d) (hx : varKind F.env x = true) (hf : emptyOf σ x = true) (hs : swapsWith (.Dict [] [] dp) (some (.Name x px)) pos.line F.env = pure false := by rfl) :
    Exec F σ (.Assign [.Name x px] (.Dict [] [] dp) pos) (.next ⟨σ.ρ, some (Own.dct F.prog F.w x .none), σ.pins⟩) := fun E D s o => by
  obtain ⟨hp, hr⟩ := emptyOf.of hf
  refine wpAny_Assign_Name (wpAny_Dict_empty ?_) hs
  have k : K0 F.T s { s with heap := s.heap.push { cls := .type "dict", data := .dict #[] } } := K0.push _
  have hd : (s.heap.push { cls := .type "dict", data := .dict #[] }).DictOf (intKind F.prog F.w) s.heap.objs.size [] := Heap.DictOf.new s.heap
  have hne : s.heap.objs.size ≠ sysModules := by
    obtain ⟨mc, hn, _⟩ := (hin.I _ o.base).2.2.2.1
    have : (2 : Nat) < s.heap.objs.size := hn.lt
    exact Nat.ne_of_gt (Nat.lt_trans (by decide) this)
  refine Stored.of (o.step k) (varKind.of hx) fun a s' st => ⟨_, Stored.owned (w := Own.dct F.prog F.w x .none) (D₂ := (· = s.heap.objs.size)) o (st.before k) ⟨s.heap.objs.size, rfl, hne, rfl, ?_, ?_⟩ (fun b hb => by rw [hb]; exact get_size _) hp hr⟩
  all_goals
    have na : s.heap.objs.size ≠ a := fun q => by
      have := o.frL st.fr
      rw [← q, get_size] at this; cases this
    have keep : ∀ ob, (s.heap.push { cls := .type "dict", data := .dict #[] }).get? s.heap.objs.size = some ob → tab ob = false → s'.heap.get? s.heap.objs.size = some ob := fun ob e ht => st.kp.keep _ _ na e ht
  · rintro b rfl
    obtain ⟨ob, ho, ht, _⟩ := dictOf_at hd
    exact ⟨ob, keep ob ho ht, ht⟩
  · exact dictOf_keep hd keep

/-- u not in d -/
theorem TestO.notInDct {nm u : Str} {dc : DC} {z : Int} {p1 p2 pos : Pos} {ρ : List (Str × PV)} {pins : List (Str × Value)} (hu : ρ.lookup u = Option.some (.int z)) (hm : behindInMarks .NotIn (.Name nm p2) = false := by with_unfolding_all rfl)
    (hd : (nm == ("__debug__" : Str)) = false := by decide) (hc : (nm == ("__classdict__" : Str)) = false := by decide) (hd' : (u == ("__debug__" : Str)) = false := by decide) (hc' : (u == ("__classdict__" : Str)) = false := by decide) :
    TestO F ⟨ρ, Option.some (Own.dct F.prog F.w nm dc), pins⟩ (.Compare (.Name u p1) [.NotIn] [.Name nm p2] pos) (!dc.keys.contains z) := fun E D s o => by
  obtain ⟨v, ⟨d, rfl, hv⟩, hva⟩ := o.own
  obtain ⟨w, hw, hwa⟩ := o.vars u _ hu
  cases hw with
  | int _ tok =>
  refine wpAny_isTrue_Compare1 ?_ hm
  refine load_own hwa ?_ hd' hc'
  refine load_own hva ?_ hd hc
  obtain ⟨kvs, hdict, hkeys⟩ := hv.dict
  refine wpAny_notIn_of (knd := intKind F.prog F.w) (k := z) (intKind_is _ _ _ _) (by simpa using hv.1) hdict.mapOf ?_
  refine wpAny_truthy_bool ⟨K0.toks_, ?_⟩
  congr 1
  rw [← hkeys]
  unfold valueAt
  rw [Option.isSome_map, List.isSome_find?, Bool.eq_iff_iff]
  simp only [List.any_eq_true, decide_eq_true_eq, List.contains_iff_mem, List.mem_map]
end
end Mine

set_option maxHeartbeats 1000000
namespace Mine
open PySem PySem.Calls PyProof.Rows PyProof PySem.W

section
variable {F : Fm} {σ σ' : St} {D : Addr → Prop} {s s₁ s' : Shared} {x : Str} {v : Value} {a : Addr}

theorem DictOf_none_live {prog : Program} {w : World} {h : Heap} {d : Addr} {kvs : List (Int × Value)} (x : h.DictOf (intKind prog w) d kvs) : (h.get? d).isSome = true := by
  obtain ⟨o, ho, _⟩ := dictOf_at x
  rw [ho]; rfl

/-- d[u] = set() -/
theorem Exec.dctNew {W : Wd} {dd : Nat} {nm u : Str} {z : Int} {p1 p2 p3 p4 p5 pos : Pos} {ρ : List (Str × PV)} {pins : List (Str × Value)} (hin : ∀ X ρ, (F.cx X ρ).In W dd) (g : ∀ X ρ, (F.cx X ρ).Glob "set" (.type "set")) (hu : ρ.lookup u = Option.some (.int z))
    (hs : swapsWith (.Call (.Name "set" p4) [] [] p5) (Option.some (.Subscript (.Name nm p1) (.Name u p2) p3)) pos.line F.env = pure false := by rfl)
    (hd : (nm == ("__debug__" : Str)) = false := by decide) (hc : (nm == ("__classdict__" : Str)) = false := by decide) (hd' : (u == ("__debug__" : Str)) = false := by decide) (hc' : (u == ("__classdict__" : Str)) = false := by decide) :
    Exec F ⟨ρ, Option.some (Own.dct F.prog F.w nm Option.none), pins⟩ (.Assign [.Subscript (.Name nm p1) (.Name u p2) p3] (.Call (.Name "set" p4) [] [] p5) pos) (.next ⟨ρ, Option.some (Own.dct F.prog F.w nm (Option.some (z, [], fresh0 W.w))), pins⟩) := fun E D s o => by
  obtain ⟨v, ⟨d, rfl, hv⟩, hva⟩ := o.own
  obtain ⟨w, hw, hwa⟩ := o.vars u _ hu
  cases hw with
  | int _ tok =>
  refine wpAny_Assign_Subscript (wpAny_mono (EvalsN.setNew (hin (F.rd0 D s) ρ) (g _ _) E s o.cx0) (fun v s₁ h₁ => ?_) fun _ _ e => e) hs
  obtain ⟨k, hn⟩ := h₁
  refine load_own (hva.step k) (load_own (hwa.step k) ?_ hd' hc') hd hc
  cases hn with
  | @obj _ b ob hb hob htb hit hP =>
  have hdct := dictOf_keep hv.2.2.2 fun o e ht => k.get e ht
  have hdl := DictOf_none_live hdct
  refine wpAny_setItem_pairs (knd := intKind F.prog F.w) (k := z) (intKind_is _ _ _ _) hdct fun h' hd' hs' => ?_
  replace hs' : Heap.SameBut d s₁.heap h' := hs'
  have hbd : b ≠ d := fun q => by
    have := DictOf_none_live hv.2.2.2
    rw [← q, hb] at this; cases this
  obtain ⟨od, hod, htd, _⟩ := dictOf_at hdct
  have kp : Kp F.T D No s { s₁ with heap := h', toks := s₁.toks + 1 } := k.of0.trans (Kp.of_but (tk := s₁.toks + 1) hs' hv.2.1 (DictOf_none_live hd') fun o' e => by rw [hod] at e; cases e; exact htd)
  refine ⟨fun c => D c ∨ c = b, o.over kp rfl (fun c hc => hc.imp id fun q => by rw [q]; exact hb) hva ⟨d, rfl, hv.1, .inl hv.2.1, fun c hc => ?_, b, ob, hbd, .inr rfl, hs'.extBut b ob hbd hob, hP, hd'⟩⟩
  by_cases q : c = d
  · subst q
    obtain ⟨o', ho', ht', _⟩ := dictOf_at hd'
    exact ⟨o', ho', ht'⟩
  · rcases hc with hc | rfl
    · obtain ⟨o', ho', ht'⟩ := hv.2.2.1 c hc
      exact ⟨o', hs'.extBut c o' q (k.get ho' ht'), ht'⟩
    · exact ⟨ob, hs'.extBut _ ob q hob, htb⟩

/-- d[u].add(m) -/
theorem Exec.dctAdd {nm u y : Str} {z m : Int} {sk : List Int} {t : SetTable} {p1 p2 p3 p4 p5 p6 p7 : Pos} {ρ : List (Str × PV)} {pins : List (Str × Value)} (hz : sk.length < 1000) (hu : ρ.lookup u = Option.some (.int z)) (hy : ρ.lookup y = Option.some (.int m))
    (hbase : attributeBase (.Subscript (.Name nm p1) (.Name u p2) p3) "add" F.env (eval (.Subscript (.Name nm p1) (.Name u p2) p3) F.env) = eval (.Subscript (.Name nm p1) (.Name u p2) p3) F.env := by rfl)
    (hsb : ∀ o k' : Value, subscripted (.Name u p2) false o k' = operate [o, k'] (getItem o k') := by intro _ _; with_unfolding_all rfl)
    (hs : starEach [.Name y p5] F.env = [(false, eval (.Name y p5) F.env)] := by rfl) (hline : (p4.endLine == p6.line) = true := by rfl) (hint : interactive F.env = false := by rfl)
    (hd : (nm == ("__debug__" : Str)) = false := by decide) (hc : (nm == ("__classdict__" : Str)) = false := by decide) (hd' : (u == ("__debug__" : Str)) = false := by decide) (hc' : (u == ("__classdict__" : Str)) = false := by decide) (hd2 : (y == ("__debug__" : Str)) = false := by decide) (hc2 : (y == ("__classdict__" : Str)) = false := by decide) :
    Exec F ⟨ρ, Option.some (Own.dct F.prog F.w nm (Option.some (z, sk, t))), pins⟩ (.Expr (.Call (.Attribute (.Subscript (.Name nm p1) (.Name u p2) p3) "add" p4) [.Name y p5] [] p6) p7) (.next ⟨ρ, Option.some (Own.dct F.prog F.w nm (Option.some (z, (addS (sk, t) m).1, (addS (sk, t) m).2))), pins⟩) := fun E D s o => by
  obtain ⟨v, ⟨d, rfl, hv⟩, hva⟩ := o.own
  obtain ⟨w, hw, hwa⟩ := o.vars u _ hu
  obtain ⟨w₂, hw₂, hwa₂⟩ := o.vars y _ hy
  cases hw with
  | int _ tok =>
  cases hw₂ with
  | int _ tok₂ =>
  obtain ⟨h1, h2, h3, b, ob, hbd, hDb, hob, hP, hdct⟩ := _root_.id hv
  refine wpAny_Expr (Call_method1 hbase hs hline (Subscript_ (load_own hva (load_own hwa ?_ hd' hc') hd hc))) hint rfl
  refine tail_any hdct.typeIs PySem.slot_dict_getitem.lookup ?_ (hsb _ _)
  refine wpAny_getItem_of (knd := intKind F.prog F.w) (k := z) (intKind_is _ _ _ _) hdct.mapOf (v := .ref b) (by simp [valueAt]) ?_
  have k0 : K0 F.T s { s with toks := s.toks + 1 } := K0.toks_
  refine ⟨"set", "set.add", PySem.F.plainAttrs_set, PySem.F.slot_set_add, PySem.F.type_set_add, ⟨_, hob, hP.1.1⟩, fun c e => (by cases e; exact ⟨_, hob, hP.1.2.1⟩), ?_⟩
  refine Calls.callWith_builtin rfl (Calls.evalArgs_plain (Calls.spliced_cons (load_own (hwa₂.step k0) (Calls.spliced_nil ?_) hd2 hc2)))
  refine call_add_S (s := { s with toks := s.toks + 1 }) hob hP (Nat.lt_of_le_of_lt (m := 1000) (by omega) (by decide)) fun h' tk o' hs' ho' hx' => ?_
  replace hs' : Heap.SameBut b s.heap h' := hs'
  have kp : Kp F.T D No s { s with heap := h', toks := tk } := Kp.of_but hs' hDb (by rw [ho']; rfl) fun o'' e => by rw [hob] at e; cases e; exact hP.tab
  refine ⟨D, o.over kp rfl (fun c hc => .inl hc) hva ⟨d, rfl, h1, h2, fun c hc => ?_, b, o', hbd, hDb, ho', hx', dictOf_keep hdct fun oo e _ => hs'.extBut d oo (Ne.symm hbd) e⟩⟩
  by_cases q : c = b
  · subst q; exact ⟨o', ho', hx'.tab⟩
  · obtain ⟨o'', e', ht'⟩ := h3 c hc
    exact ⟨o'', hs'.extBut c o'' q e', ht'⟩
end
end Mine

set_option maxHeartbeats 1000000
namespace Mine
open PySem PySem.Calls PyProof.Rows PyProof PySem.W

structure Lay19 (W : Wd) extends Lay18 W where
  aE : Addr
  rE : Rest
  gE : W.mg "_check_EJR_plus" = some (.ref aE)
  fE : FnK W aE (fdOf (stmtAt 21) .none rE)
  cE : CodeT W rE.cdv

/-- the dict after i voters: the k-th alone is a supporter -/
def dcK (f : SetTable) (u : Int) (k i : Nat) : DC := if k < i then some (u, (addS ([], f) k).1, (addS ([], f) k).2) else none

section
variable {W : Wd} (Y : Lay19 W) {A : Around} {hA : A.handled = none} {st : Shared} {X : Addr → Prop} {hI : W.I st.heap} {ok : EnvOK (fdOf (stmtAt 21) .none Y.rE) Y.aE st.heap.objs.size}

abbrev eF : Fm := frameOf W A hA (fdOf (stmtAt 21) .none Y.rE) Y.aE st X hI rfl Y.fE.glob Y.fE.blt ok

abbrev eBody : List Stmt := match (bodyOf (stmtAt 21)) with
  | .For _ _ b _ _ :: _ => b
  | _ => []
abbrev eLoop : Stmt := (eBody[2]?).getD (.Pass default)
abbrev eIf : Stmt := match eLoop with
  | .For _ _ [b] _ _ => b
  | _ => .Pass default
abbrev dNm : Str := "supporters_by_utility"

theorem ej_turn {csk : List Int} {ct : SetTable} {vts : List Vt} {N k : Nat} {c qn qd : Int} {qk : Vt} (hr : Room A 4) (J : JOk csk vts) (hk : vts[k]? = some qk) (hck : c ∈ qk.sk) (hun : ∀ (i : Nat) (q : Vt), vts[i]? = some q → c ∈ q.sk → i = k) {i : Nat} {q : Vt} (hq : vts[i]? = some q) {ps : List (Str × Value)}
    (hps : ps.map (·.1) = (["cand", "profile", "committee", "quota"] : List Str)) :
    Execs (eF Y (hA := hA) (hI := hI) (X := X) (ok := ok)) ⟨[("voter", Y.vt q), ("vi", .int i), ("cand", .int c), ("profile", Y.pr N (vts.map Y.vt)), ("committee", .obj (SetIs csk ct)), ("quota", Y.fr qn qd)],
      some (Own.dct W.prog W.w dNm (dcK (fresh0 W.w) (com csk qk) k i)), ps⟩ [eIf]
      (.next ⟨[("cand", .int c), ("profile", Y.pr N (vts.map Y.vt)), ("committee", .obj (SetIs csk ct)), ("quota", Y.fr qn qd)], some (Own.dct W.prog W.w dNm (dcK (fresh0 W.w) (com csk qk) k (i + 1))), ps⟩) := by
  obtain ⟨v1, v2, v3, v4, v5⟩ := J.vs q (List.mem_of_getElem? hq)
  have hil : i < vts.length := (List.getElem?_eq_some_iff.mp hq).1
  have hvn := J.vn
  have hin : ∀ X' ρ, ((eF Y (hA := hA) (hI := hI) (X := X) (ok := ok)).cx X' ρ).In W 2 := fun X' ρ => ⟨rfl, rfl, rfl, fun _ h => h, hr.deeper (by omega) _⟩
  have hlook : ∀ y : Str, y ∉ (["cand", "profile", "committee", "quota"] : List Str) → ps.lookup y = none := fun y hy => by
    rw [List.lookup_eq_none_iff]
    intro p hp
    have : p.1 ∈ ps.map (·.1) := List.mem_map.mpr ⟨p, hp, rfl⟩
    rw [hps] at this
    simp only [bne_iff_ne, ne_eq]
    exact fun q => hy (q ▸ this)
  conv => arg 3; whnf
  refine Execs.cons (σ₁ := ⟨[("cand", .int c), ("profile", Y.pr N (vts.map Y.vt)), ("committee", .obj (SetIs csk ct)), ("quota", Y.fr qn qd)], some (Own.dct W.prog W.w dNm (dcK (fresh0 W.w) (com csk qk) k (i + 1))), ps⟩) ?_ Execs.nil
  refine Exec.ite (b := q.sk.contains c) (fun X' => Tests.cmp (CmpSem.inSet (by omega)) (Evals.name rfl) (Evals.field (hin _ _) Y.pVo Y.apVo (Evals.name (pv := Y.vt q) rfl) rfl)) (fun h => ?_) fun h => ?_
  · have hi := hun i q hq (by simpa using h)
    subst hi
    rw [hk] at hq
    cases hq
    have e1 : dcK (fresh0 W.w) (com csk qk) i i = none := by unfold dcK; rw [if_neg (by omega)]
    have e2 : dcK (fresh0 W.w) (com csk qk) i (i + 1) = some ((com csk qk : Int), (addS ([], fresh0 W.w) i).1, (addS ([], fresh0 W.w) i).2) := by unfold dcK; rw [if_pos (by omega)]
    rw [e1, e2]
    apply Execs.wk
    refine Execs.cons (Exec.assign (pv := .int (com csk qk)) (.inl ⟨true, fun X' => Evals.lenOf (hin _ _) (.blt Y.len (fun _ h => h) rfl) (len_setN (Nat.lt_of_le_of_lt (List.length_filter_le ..) (by omega))) (Evals.andSet (Evals.field (hin _ _) Y.pVo Y.apVo (Evals.name (pv := Y.vt qk) rfl) rfl) (Evals.name rfl) v1 J.nd (by omega) J.ln v3), rfl⟩) (by rfl) (freeOf_mk (hlook _ (by decide)) fun w hw => by cases hw; exact (by decide : dNm ≠ "utility")) rfl) ?_
    refine Execs.cons (Exec.iteO (b := !(DC.keys none).contains (com csk qk : Int)) (TestO.notInDct (F := eF Y (hA := hA) (hI := hI) (X := X) (ok := ok)) (dc := none) (z := (com csk qk : Int)) rfl) (fun _ => Execs.cons (Exec.dctNew (F := eF Y (hA := hA) (hI := hI) (X := X) (ok := ok)) (z := (com csk qk : Int)) hin (fun X' ρ => .blt Y.set (fun _ h => h) rfl) rfl) Execs.nil) fun h => nomatch h) ?_
    refine Execs.cons (Exec.dctAdd (F := eF Y (hA := hA) (hI := hI) (X := X) (ok := ok)) (z := (com csk qk : Int)) (m := (i : Int)) (by simp) rfl rfl) Execs.nil
    exact .cons rfl (.cons rfl (.cons rfl (.cons rfl .nil)))
  · have hi : i ≠ k := fun e => by
      subst e
      rw [hk] at hq
      cases hq
      rw [List.contains_iff_mem.mpr hck] at h; cases h
    have e2 : dcK (fresh0 W.w) (com csk qk) k (i + 1) = dcK (fresh0 W.w) (com csk qk) k i := by
      unfold dcK
      by_cases h1 : k < i
      · rw [if_pos h1, if_pos (by omega)]
      · rw [if_neg h1, if_neg (by omega)]
    rw [e2]
    apply Execs.wk
    exact Execs.nil
    exact .cons rfl (.cons rfl (.cons rfl (.cons rfl .nil)))

theorem ej_loop {csk : List Int} {ct : SetTable} {vts : List Vt} {N k : Nat} {c qn qd : Int} {qk : Vt} (hr : Room A 4) (J : JOk csk vts) (hk : vts[k]? = some qk) (hck : c ∈ qk.sk) (hun : ∀ (i : Nat) (q : Vt), vts[i]? = some q → c ∈ q.sk → i = k) :
    Exec (eF Y (hA := hA) (hI := hI) (X := X) (ok := ok)) ⟨[("cand", .int c), ("profile", Y.pr N (vts.map Y.vt)), ("committee", .obj (SetIs csk ct)), ("quota", Y.fr qn qd)], some (Own.dct W.prog W.w dNm none), []⟩ eLoop
      (.next ⟨[("cand", .int c), ("profile", Y.pr N (vts.map Y.vt)), ("committee", .obj (SetIs csk ct)), ("quota", Y.fr qn qd)], some (Own.dct W.prog W.w dNm (dcK (fresh0 W.w) (com csk qk) k vts.length)), []⟩) := by
  have hin : ∀ X' ρ, ((eF Y (hA := hA) (hI := hI) (X := X) (ok := ok)).cx X' ρ).In W 2 := fun X' ρ => ⟨rfl, rfl, rfl, fun _ h => h, hr.deeper (by omega) _⟩
  have hne : 0 < vts.length := by have := (List.getElem?_eq_some_iff.mp hk).1; omega
  conv => arg 3; whnf
  refine exec_forEnum (N := N) (vts := vts) (ρf := [("cand", .int c), ("profile", Y.pr N (vts.map Y.vt)), ("committee", .obj (SetIs csk ct)), ("quota", Y.fr qn qd)]) (ρi := fun i => []) (ow := fun i => some (Own.dct W.prog W.w dNm (dcK (fresh0 W.w) (com csk qk) k i))) Y.toLay16 hin
    (fun X' ρ => .blt Y.enumerate (fun _ h => h) rfl) hne (by decide : (["cand", "profile", "committee", "quota"] : List Str).Nodup) rfl (fun i => rfl) (fun i y p e => rfl) (fun i => rfl) (by rfl) (by rfl) rfl rfl (fun i w hw => by cases hw; exact ⟨(by decide : dNm ≠ "vi"), (by decide : dNm ≠ "voter")⟩) (fun i w hw => by cases hw; rfl) (hb := fun i q hq ps hps => ?_)
  exact ej_turn Y hr J hk hck hun hq hps
end
end Mine

set_option maxHeartbeats 1000000
namespace Mine
open PySem PySem.Calls PyProof.Rows PyProof PySem.W

structure Lay20 (W : Wd) extends Lay19 W where
  aGI : Addr
  rGI : Rest
  fGI : FnK W aGI (fdM (methAt 15 12) "Profile.__getitem__" .none rGI)
  hGI : Has W.K aPr "__getitem__" aGI
  nGI : fnIn W.K aGI = true

section
variable {W : Wd} (Y : Lay20 W) {A : Around} {E : Value → Shared → Prop} {s : Shared} {x : Addr}

/-- profile[i], the call -/
theorem gi_call {X : Addr → Prop} {N i : Nat} {vts : List Vt} {q : Vt} {tok : Tok} (hr : A.depth < recursionLimit) (hI : W.I s.heap) (hv : VR s.heap X (Y.pr N (vts.map Y.vt)) (.ref x)) (hq : vts[i]? = some q) (hN : vts.length ≤ 1000) :
    wpAny (model W.prog W.w) A (call (.ref Y.aGI) [.ref x, .int i tok]) (fun v s' => Keeps s s' ∧ VR s'.heap X (Y.vt q) v) E s := by
  cases hv with
  | @inst _ _ dx sl es n _ fv _ hX hXd hx hdx hf hfv =>
  cases hfv with
  | cons h1 hfv =>
  cases hfv with
  | cons h2 hfv =>
  cases hfv with
  | cons hul hfv =>
  cases hfv
  rename_i uc un ul
  obtain ⟨lv, us, rfl, hlvX, hlv, hus⟩ := hul.isList
  have hlen : us.length = vts.length := by rw [hus.length, List.length_map]
  obtain ⟨o, hob, hdata⟩ := Y.fGI.at_
  have ho' := hI.1 Y.aGI o hob
  refine wpAny_call (codeAny_call_function hr ho' hdata rfl rfl (body := bodyOf (methAt 15 12)) rfl (codeRec_of hI.1 Y.fGI.code) ?_)
  refine BindsTo.of_eq (binds := [("self", .ref x), ("i", .int i tok)]) rfl _ _ _ _ ?_
  rw [Y.fGI.clo]
  refine wpAny_newFunctionEnv_cells rfl (fun p hp => ?_) fun env he s' xx => ?_
  · simp only [List.mem_cons, List.not_mem_nil, or_false] at hp
    rcases hp with rfl | rfl
    · exact .inl rfl
    · exact .inl rfl
  subst he
  refine ⟨hI.2.2.2.1.keeps xx.toInCall.keep, codeAny_func ?_⟩
  have keep := xx.toInCall.keep
  have ns := xx.toInCall.ns
  obtain ⟨h', tk, rfl⟩ := xx.toInCall.same
  dsimp only at keep ns
  have hI' : W.K.In h' := fun a o e => keep _ _ (hI.1 a o e)
  have nd : (([(("self" : Str), Value.ref x), (("i" : Str), Value.int (i : Int) tok)] : List (Str × Value)).map (·.1)).Nodup := (by decide : (["self", "i"] : List Str).Nodup)
  conv => arg 3; arg 1; whnf
  refine wpAny_execs_cons (wpAny_Return_some (Subscript_ (Attribute_any_ (prog := W.prog) (w := W.w) (wpAny_Name (wpAny_loadName_local (v := .ref x) rfl rfl ns (bindL_get (x := "self") (v := .ref x) rfl nd (.head _)) ?_) (by decide)) (by with_unfolding_all rfl))))
  refine get_value hI' (dict_inst (keep _ _ hx) (keep _ _ hdx)) Y.pPr.ga (findObj_own Y.pPr.dct Y.voPr.find rfl (by show getL _ es = _; exact fieldsOK_at hf rfl)) rfl ?_
  refine wpAny_Name (wpAny_loadName_local (v := .int (i : Int) tok) rfl rfl ns (bindL_get (x := "i") (v := .int (i : Int) tok) rfl nd (.tail _ (.head _))) ?_) (by decide)
  obtain ⟨u, hu, huV⟩ := hus.get (i := i) (p := Y.vt q) (by rw [List.getElem?_map, hq]; rfl)
  have hil : i < us.length := (List.getElem?_eq_some_iff.mp hu).1
  obtain ⟨ol, hol, rl⟩ := hlv
  have hl' : h'.IsList lv us.toArray := ⟨ol, keep _ _ hol, rl⟩
  refine tail_any (Heap.IsList.typeIs (s := { s with heap := h', toks := _ }) hl') PySem.slot_list_getitem.lookup ?_ (by with_unfolding_all rfl)
  refine wpAny_getItem_list (s := { s with heap := h', toks := _ }) hl' (by omega) (by omega) (by simpa using hu) ?_
  exact ⟨⟨h', _, rfl, keep⟩, huV.mono (fun b ob _ e _ => keep b ob e) fun _ h => h⟩

/-- profile[i], the expression -/
theorem sub_own {value slice : Expr} {X : Addr → Prop} {N i : Nat} {vts : List Vt} {q : Vt} {tok : Tok} (hr : A.depth + 1 < recursionLimit) (hI : W.I s.heap) (hv : VR s.heap X (Y.pr N (vts.map Y.vt)) (.ref x)) (hq : vts[i]? = some q) (hN : vts.length ≤ 1000)
    (hsl : ∀ o i, subscripted slice true o i = runValue (.builtin "lifetime.subscript" ⟨[o, i], []⟩)) {Q : Value → Shared → Prop} (h : ∀ v s', Keeps s s' → VR s'.heap X (Y.vt q) v → Q v s') :
    wpAny (model W.prog W.w) A (subscriptTail value slice (.ref x) (.int i tok)) Q E s := by
  have gi := gi_call Y (A := A.in1) (E := E) (tok := tok) (by rw [Around.in1_depth]; omega) hI hv hq hN
  cases hv with
  | @inst _ _ dx sl es n _ fv _ hX hXd hx hdx hf hfv =>
  have I := dict_inst hx hdx
  have hf' := Y.nGI
  unfold fnIn at hf'
  split at hf'
  · rename_i e
    unfold subscriptTail getitemInPython
    refine wpAny_bind (wpAny_bind (wpAny_bind (I.type.here ((looks_findIn hI.1 Y.hGI.1).here ?_))))
    dsimp only
    refine wpAny_bind (wpAny_load (hI.1 _ _ e) (wpAny_pure ?_))
    dsimp only
    rw [hsl]
    refine wpAny_bind (wpAny_runValue (codeAny_builtin entry_sub ?_))
    unfold Builtin.«lifetime.subscript»
    refine wpAny_bind (special_fn hI.1 I Y.hGI.1 Y.hGI.2 (wpAny_mono gi (fun v s' z => ?_) fun _ _ z => z))
    refine wpAny_pure ?_
    show wpAny (model W.prog W.w) A (letTemporaryGo value (.ref x) v >>= fun _ => pure v) Q E s'
    exact wpAny_bind (wpAny_letTemporaryGo (wpAny_pure (h v s' z.1 z.2)))
  · cases hf'
end

section
variable {Γ : Cx}
/-- profile[vi].weight -/
theorem elt_pw {W : Wd} (Y : Lay20 W) {d : Nat} {s : Shared} {scope : Scope} {x y : Str} {N i : Nat} {vts : List Vt} {q : Vt} {p1 p2 p3 p4 : Pos} (hin : Γ.In W d) (hdp : 1 ≤ d) (o : Γ.Ok s) (hk : scope.kind = .function) (hx : scope.names.lookup x = some .local) (hyk : Γ.env.kindOf y = some .cell) (hyf : scope.names.lookup y = some .free) (hy : Γ.ρ.lookup y = some (Y.pr N (vts.map Y.vt))) (hq : vts[i]? = some q) (hN : vts.length ≤ 1000)
    (hE : ∀ (C : Addr) (code : Value), eval (.Attribute (.Subscript (.Name y p1) (.Name x p2) p3) "weight" p4) (genEnv scope (clOf Γ.env.cells scope.names []) C code builtinsNs Γ.env) = (do
      let o ← eval (.Subscript (.Name y p1) (.Name x p2) p3) (genEnv scope (clOf Γ.env.cells scope.names []) C code builtinsNs Γ.env)
      standAt p4.atName
      let r ← holding [o] (getAttr o "weight" true)
      letTemporaryGo (.Subscript (.Name y p1) (.Name x p2) p3) o r
      pure r))
    (hd : (x == ("__debug__" : Str)) = false := by decide) (hd2 : (y == ("__debug__" : Str)) = false := by decide) (hc2 : (y == ("__classdict__" : Str)) = false := by decide) :
    EltSem Γ W s scope x (.Attribute (.Subscript (.Name y p1) (.Name x p2) p3) "weight" p4) (.int i) (fun v => ∃ tok, v = .int q.w tok) := fun A' E' v C code s₂ m₂ hA hD hU hv hns hm hkp hI => by
  cases hv with
  | int _ t =>
  obtain ⟨u, hu, hua⟩ := o.vars y _ hy
  obtain ⟨c, hl, oc, hoc, hdc⟩ := free_cell hua hyk (names_at hyf)
  have hcell : s₂.heap.IsCell c (some u) := ⟨oc, hkp c oc (tab_cell hdc) hoc, hdc⟩
  have hroom := hin.room.2.1
  have eM : Γ.M = model W.prog W.w := by unfold Cx.M; rw [hin.prog, hin.w]
  have hu₂ : VR s₂.heap (fun _ => True) (Y.pr N (vts.map Y.vt)) u := hu.mono (fun b ob _ e ht => hkp b ob ht e) fun _ _ => trivial
  rw [eM]
  refine Attribute_any_ (prog := W.prog) (w := W.w) (Subscript_ (wpAny_Name (wpAny_loadName_free hk hyf hl hcell ?_ hc2) hd2)) (hE C code)
  refine wpAny_Name (wpAny_loadName_local hk hx hns hm ?_) hd
  cases _root_.id hu₂ with
  | @inst _ xx dx sl es n _ fv _ hX hXd hxx hdx hf hfv =>
  refine sub_own Y (by omega) hI hu₂ hq hN (fun _ _ => rfl) fun v s' hkk hv => ?_
  obtain ⟨h', tk, rfl, hkeep⟩ := hkk
  have hI' : W.K.In h' := fun a o e => hkeep _ _ (hI.1 a o e)
  cases hv with
  | @inst _ y dx sl es n _ vs _ hX hXd hxx hdd hf hvs =>
    match vs, hvs with
    | [u₁, u₂], .cons h1 (.cons h2 .nil) =>
      cases h2 with
      | int _ tok =>
      refine get_value hI' (dict_inst hxx hdd) Y.pVo.ga (findObj_own Y.pVo.dct Y.weVo.find rfl (by show getL _ es = _; exact fieldsOK_at hf rfl)) rfl ⟨⟨tok, rfl⟩, h', _, rfl, hkeep⟩
end
end Mine

set_option maxHeartbeats 1000000
namespace Mine
open PySem PySem.Calls PyProof.Rows PyProof PySem.W

theorem fills_set_ior : fillsInplaceSlot (.type "set") "or" false = pure true := by
  unfold fillsInplaceSlot
  show (typeLookup (.type "set") (PySem.dunderI "or") >>= fun fi => pure (fi.isSome && !isSeqSlot fi)) = pure true
  rw [show typeLookup (.type "set") (PySem.dunderI "or") = pure (some (.builtin "set.__ior__")) by rw [typeLookup_type, builtinLookup_eq_fast]; kernel_rfl]
  rfl

section
variable {prog : Program} {w : World} {A : Around} {E : Value → Shared → Prop} {s : Shared} {a b r : Addr} {o oa ob : Obj} {sk sk₂ sk' : List Int} {t t₂ t' : SetTable}

theorem setMerge_none {Q : Unit → Shared → Prop} (hab : a ≠ b) (hb : s.heap.get? b = some ob) (y : SetIs [] t₂ ob) {each : Sem Unit} (h : Q () s) : wpAny (model prog w) A (setMerge a b each) Q E s := by
  unfold setMerge
  have hne : (a == b) = false := by simpa using hab
  rw [hne]
  simp only [Bool.false_eq_true, if_false]
  refine wpAny_bind (setState_S hb y fun eo epo hdo heo => ?_)
  dsimp only
  have : eo = #[] := Array.eq_empty_of_size_eq_zero heo.size
  subst this
  rw [if_pos (by rfl)]
  exact wpAny_pure h

/-- a |= b, two sets -/
theorem ior_S {Q : Value → Shared → Prop} (ha : s.heap.get? a = some oa) (x : SetIs sk t oa) (hb : s.heap.get? b = some ob) (y : SetIs sk₂ t₂ ob) (hab : a ≠ b)
    (hcase : (sk₂ = [] ∧ sk' = sk ∧ t' = t) ∨ (sk = [] ∧ sk₂.length < scanBound ∧ copyS t sk₂ t₂ = some (sk', t') ∧ t'.fits sk'.length = true))
    (h : ∀ h' o', Heap.SameBut a s.heap h' → h'.get? a = some o' → SetIs sk' t' o' → Q (.ref a) { s with heap := h' }) : wpAny (model prog w) A (inplaceOp .BitOr (.ref a) (.ref b)) Q E s := by
  have hT : s.TypeIs (.ref a) "set" := ⟨_, ha, x.1.1⟩
  unfold inplaceOp
  refine wpAny_holding (wpAny_bind (wpAny_typeOf hT (wpAny_bind (wpAny_of_eq fills_set_ior ?_))))
  rw [if_pos rfl]
  refine wpAny_bind (wpAny_tryMethod_slot hT F.slot_set_ior (wpAny_call_entry F.slot_set_ior hT F.entry_set_ior ?_ (F.args_set_ior_2 _ _)))
  unfold Builtin.«set.__ior__»
  k_delta "inPlace"
  unfold Builtin.Frozenset.slot1 slotArgs
  refine wpAny_bind (wpAny_pure ?_)
  dsimp only
  refine wpAny_bind (isAnySet_set hb y ?_)
  simp only [Bool.not_true, Bool.false_eq_true, if_false]
  refine wpAny_bind (m := Builtin.Frozenset.addrOf _) (wpAny_pure ?_)
  unfold Builtin.Frozenset.updateFrom
  have fin : ∀ {s' : Shared}, Q (.ref a) s' → wpAny (model prog w) A.in1 (ret (.ref a)) (fun fin s' => ∃ v, fin = Fin.done (Flow.ret v) ∧ v ≠ Value.notImplemented ∧ wpAny (model prog w) A (do rule "augassign.inplace"; pure v) Q E s') E s' := fun hq =>
    wpAny_pure ⟨_, rfl, (fun q => nomatch q), wpAny_bind (wpAny_rule (wpAny_pure hq))⟩
  refine wpAny_bind (wpAny_bind (isAnySet_set hb y ?_))
  simp only [if_true]
  refine wpAny_bind (m := Builtin.Frozenset.addrOf _) (wpAny_pure ?_)
  unfold Builtin.Frozenset.merge
  obtain ⟨hex, eo, epo, hdo, heo, hfo⟩ := _root_.id y
  refine wpAny_bind (wpAny_setEpoch_of hb hdo (by rw [heo.size]; exact hfo) ?_)
  rcases hcase with ⟨rfl, rfl, rfl⟩ | ⟨rfl, hz, hc, hf⟩
  · refine setMerge_none hab hb y ?_
    have e' : s = { s with heap := s.heap } := by cases s; rfl
    refine fin ?_
    rw [e']
    exact h _ oa (Heap.SameBut.refl ..) ha x
  · refine setMerge_S hab ha x hb y hz hc hf fun h' o' hs ho hx => fin (h h' o' hs ho hx)
end
end Mine

set_option maxHeartbeats 1000000
namespace Mine
open PySem PySem.Calls PyProof.Rows PyProof PySem.W

/-- a dict of one set, and a set beside it -/
def dgP (prog : Program) (w : World) (u : Int) (sk₀ : List Int) (t₀ : SetTable) (g : Addr) (sk : List Int) (t : SetTable) (h : Heap) (d : Addr) (D : Addr → Prop) : Prop :=
  d ≠ sysModules ∧ D d ∧ D g ∧ (∀ b, D b → ∃ o, h.get? b = some o ∧ tab o = false) ∧
    ∃ b ob og, b ≠ d ∧ b ≠ g ∧ g ≠ d ∧ D b ∧ h.get? b = some ob ∧ SetIs sk₀ t₀ ob ∧ h.get? g = some og ∧ SetIs sk t og ∧ h.DictOf (intKind prog w) d [(u, .ref b)]

def Own.dg (prog : Program) (w : World) (nm : Str) (u : Int) (sk₀ : List Int) (t₀ : SetTable) (g : Addr) (sk : List Int) (t : SetTable) : Own where
  name := nm
  pv := .obj AnyObj
  P := fun h v D => ∃ d, v = .ref d ∧ dgP prog w u sk₀ t₀ g sk t h d D
  read := fun h v D ⟨d, e, h1, h2, h3, h4, b, ob, og, n1, n2, n3, h5, h6, h7, h8, h9, h10⟩ => by
    subst e
    obtain ⟨o, ho, ht, hi⟩ := dictOf_at h10
    exact .obj h2 ho ht hi trivial
  loc := fun h h' v D hk ⟨d, e, h1, h2, h3, h4, b, ob, og, n1, n2, n3, h5, h6, h7, h8, h9, h10⟩ => ⟨d, e, h1, h2, h3, fun b hb => by
      obtain ⟨o, ho, ht⟩ := h4 b hb
      exact ⟨o, hk b o hb ho ht, ht⟩, b, ob, og, n1, n2, n3, h5, hk _ _ h5 h6 h7.tab, h7, hk _ _ h3 h8 h9.tab, h9, dictOf_keep h10 fun o ho ht => hk _ _ h2 ho ht⟩
  live := fun h v D ⟨d, e, x⟩ b hb => by
    obtain ⟨o, ho, _⟩ := x.2.2.2.1 b hb
    rw [ho]; rfl

section
variable {F : Fm} {σ σ' : St} {D : Addr → Prop} {s s₁ s' : Shared} {x : Str} {v : Value} {a : Addr}

/-- gn = set(), with a dict beside it -/
theorem Execs.newGroup {W : Wd} {dd : Nat} {nm gn : Str} {u : Int} {sk₀ : List Int} {t₀ : SetTable} {px p4 p5 pos : Pos} {ρ : List (Str × PV)} {rest : List Stmt} {out : Out} (hin : ∀ X ρ, (F.cx X ρ).In W dd) (g : ∀ X ρ, (F.cx X ρ).Glob "set" (.type "set")) (hx : varKind F.env gn = true) (hr : ρ.lookup gn = Option.none) (hne : nm ≠ gn)
    (hs : swapsWith (.Call (.Name "set" p4) [] [] p5) (Option.some (.Name gn px)) pos.line F.env = pure false)
    (h : ∀ ga, Execs F ⟨ρ, Option.some (Own.dg F.prog F.w nm u sk₀ t₀ ga [] (fresh0 W.w)), [(gn, .ref ga)]⟩ rest out) :
    Execs F ⟨ρ, Option.some (Own.dct F.prog F.w nm (Option.some (u, sk₀, t₀))), []⟩ (.Assign [.Name gn px] (.Call (.Name "set" p4) [] [] p5) pos :: rest) out := fun E D s o => by
  refine wpAny_execs_cons (wpAny_Assign_Name (wpAny_mono (EvalsN.setNew (hin (F.rd0 D s) ρ) (g _ _) E s o.cx0) (fun v s₁ h₁ => ?_) fun _ _ e => e) hs)
  obtain ⟨k, hn⟩ := h₁
  cases hn with
  | @obj _ ga og hga hog htb hit hP =>
  refine Stored.of (o.step k) (varKind.of hx) fun a s' st₁ => ?_
  have st := st₁.before k
  obtain ⟨k0, hns, hcells, hvars⟩ := st.rest o
  have hfr := st.fr
  have nD : ∀ b, D b → b ≠ a := fun b hb q => (o.dF b hb).2.1 (q ▸ hfr)
  have ngl : ∀ b, (s.heap.get? b).isSome = true → b ≠ ga := fun b hb q => by rw [q, hga] at hb; cases hb
  have nga : ga ≠ a := fun q => by have := o.frL hfr; rw [← q, hga] at this; cases this
  obtain ⟨v, hv, hva⟩ := o.own
  obtain ⟨d, rfl, h1, h2, h3, b, ob, n1, h4, h5, h6, h7⟩ := hv
  have keep : ∀ b ob, D b → s.heap.get? b = some ob → tab ob = false → s'.heap.get? b = some ob := fun b ob hb e ht => st.kp.keep _ _ (nD b hb) e ht
  have lD : ∀ b, D b → (s.heap.get? b).isSome = true := fun b hb => (o.dF b hb).2.2
  have hog' : s'.heap.get? ga = some og := st₁.kp.keep _ _ nga hog htb
  have ok : F.Ok ⟨ρ, Option.some (Own.dg F.prog F.w nm u sk₀ t₀ ga [] (fresh0 W.w)), [(gn, .ref ga)]⟩ (fun b => D b ∨ b = ga) s' := by
    refine ⟨k0, o.frF, hns, hcells, fun y q e => ?_, ⟨.ref d, ⟨d, rfl, h1, .inl h2, .inr rfl, fun b hb => ?_, b, ob, og, n1, ngl b (lD b h4), (ngl d (lD d h2)).symm, .inl h4, keep b ob h4 h5 h6.tab, h6, hog', hP, dictOf_keep h7 fun o e ht => keep _ _ h2 e ht⟩, st.vars _ _ hne hva⟩, fun y w e => ?_, fun b hb => ?_⟩
    · obtain ⟨w, h8, h9⟩ := hvars y q (fun t => by subst t; rw [hr] at e; cases e) e
      refine ⟨w, h8.mono (fun _ _ _ h _ => h) fun b hb => ⟨hb.1.1, fun q => ?_⟩, h9⟩
      rcases q with q | q | q
      · exact hb.1.2 (.inl q)
      · exact hb.1.2 (.inr q)
      · exact ngl b hb.2 q
    · rcases hb with hb | rfl
      · obtain ⟨o', ho', ht'⟩ := h3 b hb
        exact ⟨o', keep b o' hb ho' ht', ht'⟩
      · exact ⟨og, hog', htb⟩
    · rw [List.lookup_cons] at e
      by_cases q : y = gn
      · subst q
        simp at e; subst e
        exact st.var
      · have q' : (y == gn) = false := by simpa using q
        rw [q'] at e; cases e
    · rcases hb with hb | rfl
      · obtain ⟨p, q, r⟩ := o.dF b hb
        exact ⟨p, q, st.kp.live b r⟩
      · refine ⟨none_of_K o.k0 hga, fun q => ?_, by rw [hog']; rfl⟩
        have := o.frL q; rw [hga] at this; cases this
  have gg : Goes F ⟨ρ, Option.some (Own.dg F.prog F.w nm u sk₀ t₀ ga [] (fresh0 W.w)), [(gn, .ref ga)]⟩ D s (fun b => D b ∨ b = ga) s' := ⟨ok, st.kp.mono (fun b e => .inl (by rw [e]; exact hfr)) fun _ h => h, fun b hb => hb.imp id fun q => by rw [q]; exact hga⟩
  exact wpAny_mono (h ga E _ s' ok) (fun f s₂ h₂ => h₂.after gg) fun _ _ e => e

/-- the group alone goes on to be read -/
theorem Fm.Ok.freezeG {nm gn : Str} {u : Int} {sk₀ sk : List Int} {t₀ t : SetTable} {ga : Addr} {ρ : List (Str × PV)} (o : F.Ok ⟨ρ, Option.some (Own.dg F.prog F.w nm u sk₀ t₀ ga sk t), [(gn, .ref ga)]⟩ D s) : F.Ok ⟨(gn, .obj (SetIs sk t)) :: ρ, Option.none, []⟩ No s where
  k0 := o.k0
  frF := o.frF
  ns := o.ns
  cells := o.cells
  vars := fun x pv e => by
    have e : ((gn, PV.obj (SetIs sk t)) :: ρ).lookup x = some pv := e
    rw [List.lookup_cons] at e
    by_cases q : x = gn
    · subst q
      simp at e; subst e
      obtain ⟨v, ⟨d, rfl, h1, h2, h3, h4, b, ob, og, n1, n2, n3, h5, h6, h7, h8, h9, h10⟩, hva⟩ := o.own
      obtain ⟨p, q, r⟩ := o.dF ga h3
      exact ⟨.ref ga, .obj ⟨.inr p, fun h => h.elim q fun h => h.elim⟩ h8 h9.tab h9.it h9, o.pins x _ (by simp)⟩
    · have q' : (x == gn) = false := by simpa using q
      rw [q'] at e
      obtain ⟨v, a, b⟩ := o.vars x pv e
      exact ⟨v, a.mono (fun _ _ _ h _ => h) fun b h => ⟨h.1, fun q => h.2 (q.imp id fun h => h.elim)⟩, b⟩
  own := fun _ h => h
  pins := fun y v e => by cases e
  dF := fun b h => h.elim
theorem TestO.group {nm gn : Str} {u : Int} {sk₀ sk : List Int} {t₀ t : SetTable} {ga : Addr} {ρ : List (Str × PV)} {test : Expr} {b : Bool} (h : ∀ X, Tests (F.cx X ((gn, .obj (SetIs sk t)) :: ρ)) test b) :
    TestO F ⟨ρ, Option.some (Own.dg F.prog F.w nm u sk₀ t₀ ga sk t), [(gn, .ref ga)]⟩ test b := fun E D s o => h _ E s o.freezeG.cx
theorem Execs.freezeG {nm gn : Str} {u : Int} {sk₀ sk : List Int} {t₀ t : SetTable} {ga : Addr} {ρ : List (Str × PV)} {st : List Stmt} {out : Out} (h : Execs F ⟨(gn, .obj (SetIs sk t)) :: ρ, Option.none, []⟩ st out) :
    Execs F ⟨ρ, Option.some (Own.dg F.prog F.w nm u sk₀ t₀ ga sk t), [(gn, .ref ga)]⟩ st out := fun E D s o =>
  wpAny_mono (h E No s o.freezeG) (fun f s' h' => by
    cases out with
    | next σ' => cases f with
      | next => obtain ⟨D', g⟩ := h'; exact ⟨D', g.more fun _ h => h.elim⟩
      | _ => exact h'.elim
    | cont σ' => cases f with
      | cont => obtain ⟨D', g⟩ := h'; exact ⟨D', g.more fun _ h => h.elim⟩
      | _ => exact h'.elim
    | ret pv => cases f with
      | ret v => exact ⟨h'.1.mono (fun b q => q.imp id fun h => h.elim) fun _ h => h, h'.2⟩
      | _ => exact h'.elim) fun _ _ e => e

/-- group |= d.get(ell - 1, set()) -/
theorem Exec.orGroup {W : Wd} {dd : Nat} {nm gn el : Str} {u z : Int} {sk₀ sk sk' : List Int} {t₀ t t' : SetTable} {ga : Addr} {ρ : List (Str × PV)} {p1 p2 p3 p4 p5 p6 p7 p8 p9 pos : Pos} {kk : Nat} (hin : ∀ X ρ, (F.cx X ρ).In W dd) (g : ∀ X ρ, (F.cx X ρ).Glob "set" (.type "set"))
    (hz : ρ.lookup el = Option.some (.int z)) (hx : varKind F.env gn = true) (hne : nm ≠ gn) (hr : ρ.lookup gn = Option.none)
    (hcase : (z - 1 = u ∧ sk = [] ∧ sk₀.length < scanBound ∧ copyS t sk₀ t₀ = Option.some (sk', t') ∧ t'.fits sk'.length = true) ∨ (z - 1 ≠ u ∧ sk' = sk ∧ t' = t))
    (hbase : attributeBase (.Name nm p1) "get" F.env (eval (.Name nm p1) F.env) = eval (.Name nm p1) F.env := by rfl)
    (hs : starEach [.BinOp (.Name el p3) .Sub (.Constant (.int 1) kk p4) p5, .Call (.Name "set" p6) [] [] p7] F.env = [(false, eval (.BinOp (.Name el p3) .Sub (.Constant (.int 1) kk p4) p5) F.env), (false, eval (.Call (.Name "set" p6) [] [] p7) F.env)] := by rfl)
    (hline : (p2.endLine == p8.line) = true := by rfl)
    (hd : (nm == ("__debug__" : Str)) = false := by decide) (hc : (nm == ("__classdict__" : Str)) = false := by decide) (hc2 : (gn == ("__classdict__" : Str)) = false := by decide) (hd3 : (el == ("__debug__" : Str)) = false := by decide) (hc3 : (el == ("__classdict__" : Str)) = false := by decide) :
    Exec F ⟨ρ, Option.some (Own.dg F.prog F.w nm u sk₀ t₀ ga sk t), [(gn, .ref ga)]⟩ (.AugAssign (.Name gn p9) .BitOr (.Call (.Attribute (.Name nm p1) "get" p2) [.BinOp (.Name el p3) .Sub (.Constant (.int 1) kk p4) p5, .Call (.Name "set" p6) [] [] p7] [] p8) pos)
      (.next ⟨ρ, Option.some (Own.dg F.prog F.w nm u sk₀ t₀ ga sk' t'), [(gn, .ref ga)]⟩) := fun E D s o => by
  obtain ⟨v, ⟨d, rfl, h1, h2, h3, h4, b, ob, og, n1, n2, n3, h5, h6, h7, h8, h9, h10⟩, hva⟩ := o.own
  have hga : VarAt F.env s.heap gn (.ref ga) := o.pins gn _ (by simp)
  rw [arm_exec_AugAssign]
  refine wpAny_bind (wpAny_standAt (wpAny_bind (load_var (Γ := F.cx (fun _ => True) []) hga (wpAny_bind (wpAny_holding ?_)) hc2)))
  refine Call_method2 hbase hs hline (load_own hva ⟨"dict", "dict.get", PySem.F.plainAttrs_dict, PySem.F.slot_dict_get, PySem.F.type_dict_get, h10.typeIs, h10.mapOf.noDict, ?_⟩ hd hc)
  refine wpAny_dict_get2 (knd := intKind F.prog F.w) (by simpa using h1) ?_
  refine wpAny_mono (Evals.sub (Evals.name hz hd3 hc3) Evals.int E s o.cx0) (fun kv s₁ h₁ => ?_) fun _ _ e => e
  obtain ⟨k₁, hkv, _⟩ := h₁
  cases hkv with
  | int _ tok =>
  have o₁ := o.step k₁
  refine wpAny_mono (EvalsN.setNew (hin (F.rd0 D s₁) ρ) (g _ _) E s₁ o₁.cx0) (fun sv s₂ h₂ => ?_) fun _ _ e => e
  obtain ⟨k₂, hn⟩ := h₂
  cases hn with
  | @obj _ na on hna hon htb hit hP =>
  have k : K0 F.T s s₂ := Kp.trans (T := F.T) k₁ k₂
  refine ⟨z - 1, _, intKind_is _ _ _ _, (dictOf_keep h10 fun o e ht => k.get e ht).mapOf, ?_⟩
  refine wpAny_bind (wpAny_standAt (wpAny_bind (wpAny_operate' ?_)))
  have hna' : s.heap.get? na = none := none_of_K k₁ hna
  have fin : ∀ {h' : Heap} {o' : Obj} {tk : Nat}, Heap.SameBut ga s₂.heap h' → h'.get? ga = some o' → SetIs sk' t' o' →
      wpAny F.M F.A (do standAt p9; bindName F.env gn (.ref ga); pure Flow.next) (OutIs F D s (.next ⟨ρ, Option.some (Own.dg F.prog F.w nm u sk₀ t₀ ga sk' t'), [(gn, .ref ga)]⟩)) E { s₂ with heap := h', toks := tk } := fun {h' o' tk} hs' ho' hx' => by
    have hb2 : s₂.heap.get? b = some ob := k.get h6 h7.tab
    have kp : Kp F.T D No s { s₂ with heap := h', toks := tk } := k.of0.trans (Kp.of_but (tk := tk) hs' h3 (by rw [ho']; rfl) fun o'' e => by rw [k.get h8 h9.tab] at e; cases e; exact h9.tab)
    have dd' : h'.DictOf (intKind F.prog F.w) d [(u, .ref b)] := dictOf_keep h10 fun o e ht => hs'.extBut _ _ (Ne.symm n3) (k.get e ht)
    have gg := o.over (w' := Own.dg F.prog F.w nm u sk₀ t₀ ga sk' t') (D' := D) kp rfl (fun c hc => .inl hc) hva ⟨d, rfl, h1, h2, h3, fun c hc => (by
      by_cases q : c = ga
      · subst q; exact ⟨o', ho', hx'.tab⟩
      · obtain ⟨oo, e, ht⟩ := h4 c hc
        exact ⟨oo, hs'.extBut c oo q (k.get e ht), ht⟩), b, ob, o', n1, n2, n3, h5, hs'.extBut b ob n2 hb2, h7, ho', hx', dd'⟩
    have o₃ := gg.ok
    refine wpAny_bind (wpAny_standAt (wpAny_bind (bindName_ (Stored.of o₃ (varKind.of hx) fun a s' st => wpAny_pure ⟨D, ?_⟩))))
    obtain ⟨k0, hns, hcells, hvars⟩ := st.rest o₃
    have hfr := st.fr
    have nD : ∀ b, D b → b ≠ a := fun b hb q => (o₃.dF b hb).2.1 (q ▸ hfr)
    refine gg.trans ⟨⟨k0, o₃.frF, hns, hcells, fun y q e => ?_, ?_, fun y w e => ?_, fun b hb => ?_⟩, st.kp.mono (fun b e => .inl (by rw [e]; exact hfr)) fun _ h => h, fun b hb => .inl hb⟩
    · obtain ⟨w, h8, h9⟩ := hvars y q (fun t => by subst t; rw [show ρ.lookup _ = _ from hr] at e; cases e) e
      exact ⟨w, h8.mono (fun _ _ _ h _ => h) fun b hb => hb.1, h9⟩
    · obtain ⟨v', hv', hva'⟩ := o₃.own
      exact ⟨v', (Own.dg F.prog F.w nm u sk₀ t₀ ga sk' t').loc _ _ _ _ (fun b ob hb e ht => st.kp.keep _ _ (nD b hb) e ht) hv', st.vars _ _ hne hva'⟩
    · rw [List.lookup_cons] at e
      by_cases q : y = gn
      · subst q
        simp at e; subst e
        exact st.var
      · have q' : (y == gn) = false := by simpa using q
        rw [q'] at e; cases e
    · obtain ⟨p, q, r⟩ := o₃.dF b hb
      exact ⟨p, q, st.kp.live b r⟩
  have gaNa : ga ≠ na := fun q => by rw [← q, h8] at hna'; cases hna'
  rcases hcase with ⟨hzu, rfl, hsz, hcp, hft⟩ | ⟨hzu, rfl, rfl⟩
  · have e : ((valueAt [(u, Value.ref b)] (z - 1)).getD (.ref na)) = .ref b := by
      unfold valueAt
      rw [List.find?_cons_of_pos (by simpa using hzu.symm)]; rfl
    rw [e]
    refine ior_S (s := { s₂ with toks := s₂.toks + 1 }) (k.get h8 h9.tab) h9 (k.get h6 h7.tab) h7 (Ne.symm n2) (.inr ⟨rfl, hsz, hcp, hft⟩) fun h' o' hs' ho' hx' => fin hs' ho' hx'
  · have e : ((valueAt [(u, Value.ref b)] (z - 1)).getD (.ref na)) = .ref na := by
      unfold valueAt
      rw [List.find?_cons_of_neg (by simpa using Ne.symm hzu)]; rfl
    rw [e]
    refine ior_S (s := { s₂ with toks := s₂.toks + 1 }) (k.get h8 h9.tab) h9 hon hP gaNa (.inl ⟨rfl, rfl, rfl⟩) fun h' o' hs' ho' hx' => fin hs' ho' hx'
end
end Mine

set_option maxHeartbeats 1000000
namespace Mine
open PySem PySem.Calls PyProof.Rows PyProof PySem.W

/-! a set of one small int, and its copy -/
def oneOK (led : Bool) (k : Nat) : Bool :=
  let s1 := addS ([], .fresh 0 0 led) (k : Int)
  s1.1 == [(k : Int)] && (match copyS (.fresh 0 0 led) s1.1 s1.2 with
    | some (sk', t') => sk' == [(k : Int)] && t'.fits 1 && t'.plain && (t'.led == led) && chain t' 1 && t'.place.size == 1
    | none => false)
theorem ones_ok : ∀ led : Bool, ∀ k, k < 8 → oneOK led k = true := by decide +kernel
def cpK (f : SetTable) (k : Nat) : SK := (copyS f (addS ([], f) k).1 (addS ([], f) k).2).getD ([], f)
theorem cpK_ok (w : World) {k : Nat} (hk : k < 8) : (addS ([], fresh0 w) k).1 = [(k : Int)] ∧ copyS (fresh0 w) (addS ([], fresh0 w) k).1 (addS ([], fresh0 w) k).2 = some ((cpK (fresh0 w) k).1, (cpK (fresh0 w) k).2) ∧
    (cpK (fresh0 w) k).1 = [(k : Int)] ∧ (cpK (fresh0 w) k).2.fits (cpK (fresh0 w) k).1.length = true ∧ GoodS w (cpK (fresh0 w) k).1 (cpK (fresh0 w) k).2 := by
  have h := ones_ok (!byText w) k hk
  unfold oneOK at h
  dsimp only at h
  rw [Bool.and_eq_true, beq_iff_eq] at h
  obtain ⟨h1, h2⟩ := h
  split at h2
  · rename_i sk' t' e
    simp only [Bool.and_eq_true, beq_iff_eq] at h2
    obtain ⟨⟨⟨⟨⟨a1, a2⟩, a3⟩, a4⟩, a5⟩, a6⟩ := h2
    have e' : cpK (fresh0 w) k = (sk', t') := by
      show (copyS (SetTable.fresh 0 0 (!byText w)) _ _).getD _ = _
      rw [e]; rfl
    rw [e']
    subst a1
    refine ⟨h1, e, rfl, a2, ?_⟩
    by_cases hb : byText w = true
    · exact .inl hb
    · have hb' : byText w = false := Bool.eq_false_iff.mpr hb
      exact .inr ⟨hb', a3, by rw [a4, hb']; rfl, a6, a5⟩
  · cases h2
theorem good0 (w : World) : GoodS w [] (fresh0 w) := by
  by_cases hb : byText w = true
  · exact .inl hb
  · have hb' : byText w = false := Bool.eq_false_iff.mpr hb
    exact .inr ⟨hb', rfl, by show (!byText w) = true; rw [hb']; rfl, rfl, by show chain (SetTable.fresh 0 0 (!byText w)) 0 = true; rw [hb']; decide⟩

/-- the group after i turns -/
def gS (f : SetTable) (u k i : Nat) : SK := if u < i then cpK f k else ([], f)

section
variable {W : Wd} (Y : Lay20 W) {A : Around} {hA : A.handled = none} {st : Shared} {X : Addr → Prop} {hI : W.I st.heap} {ok : EnvOK (fdOf (stmtAt 21) .none Y.rE) Y.aE st.heap.objs.size}

def wAt (vts : List Vt) : PV → Int
  | .int m => ((vts[m.toNat]?).map (·.w)).getD 0
  | _ => 0

theorem ej_test {vts : List Vt} {N : Nat} {qn qd z Z : Int} {sk : List Int} {t : SetTable} {scope : Scope} (hr : Room A 5) (hn : 0 ≤ qn ∧ qn ≤ 1000000) (hd : 0 < qd ∧ qd ≤ 1000000) (hz : 0 ≤ z ∧ z ≤ 1000) (hnz : qn * z ≤ 1000000) (hvn : vts.length ≤ 900) (hZb : -(2 ^ 62) < Z ∧ Z < 2 ^ 62) {ρ : List (Str × PV)} {X' : Addr → Prop} {p1 p2 p3 p4 p5 p6 p7 p8 p9 px gpos q1 q2 q3 q4 : Pos}
    (h1 : ρ.lookup ("quota" : Str) = some (Y.fr qn qd)) (h2 : ρ.lookup ("ell" : Str) = some (.int z)) (h3 : ρ.lookup ("profile" : Str) = some (Y.pr N (vts.map Y.vt))) (h4 : ρ.lookup ("group" : Str) = some (.obj (SetIs sk t))) (g : GoodS W.w sk t)
    (hsk : ∀ m ∈ sk, ∃ i : Nat, m = i ∧ i < vts.length) (hZ : ∀ order : List Int, (∀ m ∈ order, m ∈ sk) → order.length = sk.length → ((order.map PV.int).map (wAt vts)).sum = Z)
    (G : GenOK scope "vi" (eF Y.toLay19 (hA := hA) (hI := hI) (X := X) (ok := ok)).env) (hyf : scope.names.lookup ("profile" : Str) = some .free)
    (hE : ∀ (C : Addr) (code : Value), eval (.Attribute (.Subscript (.Name "profile" q1) (.Name "vi" q2) q3) "weight" q4) (genEnv scope (clOf (eF Y.toLay19 (hA := hA) (hI := hI) (X := X) (ok := ok)).env.cells scope.names []) C code builtinsNs (eF Y.toLay19 (hA := hA) (hI := hI) (X := X) (ok := ok)).env) = (do
      let o ← eval (.Subscript (.Name "profile" q1) (.Name "vi" q2) q3) (genEnv scope (clOf (eF Y.toLay19 (hA := hA) (hI := hI) (X := X) (ok := ok)).env.cells scope.names []) C code builtinsNs (eF Y.toLay19 (hA := hA) (hI := hI) (X := X) (ok := ok)).env)
      standAt q4.atName
      let r ← holding [o] (getAttr o "weight" true)
      letTemporaryGo (.Subscript (.Name "profile" q1) (.Name "vi" q2) q3) o r
      pure r)) :
    Tests ((eF Y.toLay19 (hA := hA) (hI := hI) (X := X) (ok := ok)).cx X' ρ) (.Compare (.BinOp (.Call (.Name "Fraction" p1) [.Name "quota" p2] [] p3) .Mult (.Name "ell" p4) p5) [.LtE]
      [.Call (.Name "total" p6) [.GeneratorExp (.Attribute (.Subscript (.Name "profile" q1) (.Name "vi" q2) q3) "weight" q4) [⟨.Name "vi" px, .Name "group" p7, [], 0⟩] scope gpos] [] p8] p9) (decide (qn * z ≤ Z * qd)) := by
  have hin : ((eF Y.toLay19 (hA := hA) (hI := hI) (X := X) (ok := ok)).cx X' ρ).In W 4 := ⟨rfl, rfl, rfl, fun _ h => h, hr.deeper (by omega) _⟩
  have b1 := fr_bounds (u := qn) (l := 1 * qd) hn.1 (by omega)
  have hle : 0 ≤ qn * z := Int.mul_nonneg hn.1 hz.1
  have hnz2 : 0 ≤ frN qn (1 * qd) * z ∧ frN qn (1 * qd) * z ≤ 1000000 := ⟨Int.mul_nonneg b1.1 hz.1, Int.le_trans (Int.mul_le_mul_of_nonneg_right b1.2.1 hz.1) hnz⟩
  refine Tests.as (Tests.fle (Y := Y.toLay9) (n := frN (frN qn (1 * qd) * z) (frD qn (1 * qd))) (d := frD (frN qn (1 * qd) * z) (frD qn (1 * qd))) hin (by omega) (w := Z) hZb
    (Evals.fmul (Y := Y.toLay9) hin (by omega) (w := z) ⟨by omega, by omega⟩ hnz2 ⟨b1.2.2.1, by omega⟩ (EvalsN.toE (EvalsN.makeK hin Y.mFr (make_fi Y.toLay8 hn hd) (by omega) (.top Y.gFr (fun _ h => h) rfl) (ArgsOK.pos (EvalsL.cons (Evals.name h1) EvalsL.nil)))) (Evals.name h2))
    (Evals.totalGen Y.toLay14 hin (by omega) (.top Y.gTo (fun _ h => h) rfl) Y.cE G (Evals.name h4) (IterSem.set g) (f := wAt vts) (Z := Z) (fun xs hxs => ?_) (fun s o xs hxs p hp => ?_))) ?_
  · obtain ⟨order, rfl, ho1, ho2⟩ := hxs
    exact hZ order ho1 ho2
  · obtain ⟨order, rfl, ho1, ho2⟩ := hxs
    obtain ⟨m, hm, rfl⟩ := List.mem_map.mp hp
    obtain ⟨i, rfl, hi⟩ := hsk m (ho1 m hm)
    have hq : vts[i]? = some vts[i] := List.getElem?_eq_getElem hi
    have e : wAt vts (.int i) = vts[i].w := by
      show ((vts[((i : Nat) : Int).toNat]?).map (·.w)).getD 0 = _
      rw [Int.toNat_natCast, hq]; rfl
    rw [e]
    exact elt_pw Y (N := N) hin (by omega) o G.kind G.var rfl hyf h3 hq (by omega) hE
  · have e1 := fr_spec (u := qn) (l := 1 * qd) hn.1 (by omega)
    have g0 := frG_pos (u := qn) (l := 1 * qd) (by omega)
    apply decide_eq_decide.mpr
    rw [fr_le hnz2.1 b1.2.2.1]
    obtain ⟨e2, e3⟩ := e1
    generalize frN qn (1 * qd) = n at *
    generalize frD qn (1 * qd) = d at *
    generalize frG qn (1 * qd) = gg at *
    rw [Int.one_mul] at e3
    subst e2
    subst e3
    constructor
    · intro h
      calc n * gg * z = n * z * gg := by ac_rfl
        _ ≤ Z * d * gg := Int.mul_le_mul_of_nonneg_right h (Int.le_of_lt g0)
        _ = Z * (d * gg) := by ac_rfl
    · intro h
      have : n * z * gg ≤ Z * d * gg := by
        calc n * z * gg = n * gg * z := by ac_rfl
          _ ≤ Z * (d * gg) := h
          _ = Z * d * gg := by ac_rfl
      exact Int.le_of_mul_le_mul_right this g0
end
end Mine

set_option maxHeartbeats 1000000
namespace Mine
open PySem PySem.Calls PyProof.Rows PyProof PySem.W

def hitW (u : Nat) (w qn qd : Int) (i : Nat) : Bool := decide (qn * (1 + (i : Nat)) ≤ (if u < i + 1 then w else 0) * qd)

section
variable {W : Wd} (Y : Lay20 W) {A : Around} {hA : A.handled = none} {st : Shared} {X : Addr → Prop} {hI : W.I st.heap} {ok : EnvOK (fdOf (stmtAt 21) .none Y.rE) Y.aE st.heap.objs.size}

abbrev gLoop : Stmt := (eBody[5]?).getD (.Pass default)
abbrev gBody : List Stmt := match gLoop with
  | .For _ _ b _ _ => b
  | _ => []

theorem gS_len {w : World} {u k i : Nat} (hk : k < 8) : ((gS (fresh0 w) u k i).1 = [] ∧ ¬ u < i ∧ GoodS w (gS (fresh0 w) u k i).1 (gS (fresh0 w) u k i).2) ∨ ((gS (fresh0 w) u k i).1 = [(k : Int)] ∧ u < i ∧ GoodS w (gS (fresh0 w) u k i).1 (gS (fresh0 w) u k i).2) := by
  unfold gS
  by_cases h : u < i
  · rw [if_pos h]
    obtain ⟨_, _, h1, _, h2⟩ := cpK_ok w hk
    exact .inr ⟨h1, h, h2⟩
  · rw [if_neg h]
    exact .inl ⟨rfl, h, good0 w⟩

theorem ej_gtest {csk : List Int} {ct : SetTable} {vts : List Vt} {N k u i : Nat} {c qn qd ub : Int} {qk : Vt} (hr : Room A 5) (J : JOk csk vts) (hk : vts[k]? = some qk) (hk8 : k < 8) (hn : 0 ≤ qn ∧ qn ≤ 1000000) (hd : 0 < qd ∧ qd ≤ 1000000) (hi : i < 900) (hnz : qn * (1 + (i : Nat)) ≤ 1000000)
    {X' : Addr → Prop} {p1 p2 p3 p4 p5 p6 p7 p8 p9 px gpos q1 q2 q3 q4 : Pos} {scope : Scope}
    (G : GenOK scope "vi" (eF Y.toLay19 (hA := hA) (hI := hI) (X := X) (ok := ok)).env) (hyf : scope.names.lookup ("profile" : Str) = some .free)
    (hE : ∀ (C : Addr) (code : Value), eval (.Attribute (.Subscript (.Name "profile" q1) (.Name "vi" q2) q3) "weight" q4) (genEnv scope (clOf (eF Y.toLay19 (hA := hA) (hI := hI) (X := X) (ok := ok)).env.cells scope.names []) C code builtinsNs (eF Y.toLay19 (hA := hA) (hI := hI) (X := X) (ok := ok)).env) = (do
      let o ← eval (.Subscript (.Name "profile" q1) (.Name "vi" q2) q3) (genEnv scope (clOf (eF Y.toLay19 (hA := hA) (hI := hI) (X := X) (ok := ok)).env.cells scope.names []) C code builtinsNs (eF Y.toLay19 (hA := hA) (hI := hI) (X := X) (ok := ok)).env)
      standAt q4.atName
      let r ← holding [o] (getAttr o "weight" true)
      letTemporaryGo (.Subscript (.Name "profile" q1) (.Name "vi" q2) q3) o r
      pure r)) :
    Tests ((eF Y.toLay19 (hA := hA) (hI := hI) (X := X) (ok := ok)).cx X' (("group", .obj (SetIs (gS (fresh0 W.w) u k (i + 1)).1 (gS (fresh0 W.w) u k (i + 1)).2)) :: [("ell", .int (1 + (i : Nat))), ("ell_upper_bound", .int ub), ("cand", .int c), ("profile", Y.pr N (vts.map Y.vt)), ("committee", .obj (SetIs csk ct)), ("quota", Y.fr qn qd)]))
      (.Compare (.BinOp (.Call (.Name "Fraction" p1) [.Name "quota" p2] [] p3) .Mult (.Name "ell" p4) p5) [.LtE]
      [.Call (.Name "total" p6) [.GeneratorExp (.Attribute (.Subscript (.Name "profile" q1) (.Name "vi" q2) q3) "weight" q4) [⟨.Name "vi" px, .Name "group" p7, [], 0⟩] scope gpos] [] p8] p9) (hitW u qk.w qn qd i) := by
  obtain ⟨v1, v2, v3, v4, v5⟩ := J.vs qk (List.mem_of_getElem? hk)
  have hkl : k < vts.length := (List.getElem?_eq_some_iff.mp hk).1
  have hwk : wAt vts (.int (k : Int)) = qk.w := by
    show ((vts[((k : Nat) : Int).toNat]?).map (·.w)).getD 0 = _
    rw [Int.toNat_natCast, hk]; rfl
  rcases gS_len (w := W.w) (u := u) (k := k) (i := i + 1) hk8 with ⟨h1, h2, h3⟩ | ⟨h1, h2, h3⟩
  · refine Tests.as (ej_test Y (N := N) (Z := 0) (z := 1 + (i : Nat)) (sk := (gS (fresh0 W.w) u k (i + 1)).1) (t := (gS (fresh0 W.w) u k (i + 1)).2) hr hn hd ⟨by omega, by omega⟩ hnz J.vn ⟨by omega, by omega⟩ rfl rfl rfl rfl h3 (fun m hm => by rw [h1] at hm; cases hm) (fun order ho hl => ?_) G hyf hE) ?_
    · rw [h1] at hl
      have : order = [] := List.length_eq_zero_iff.mp hl
      subst this; rfl
    · unfold hitW; rw [if_neg h2]
  · refine Tests.as (ej_test Y (N := N) (Z := qk.w) (z := 1 + (i : Nat)) (sk := (gS (fresh0 W.w) u k (i + 1)).1) (t := (gS (fresh0 W.w) u k (i + 1)).2) hr hn hd ⟨by omega, by omega⟩ hnz J.vn ⟨by omega, by omega⟩ rfl rfl rfl rfl h3 (fun m hm => ?_) (fun order ho hl => ?_) G hyf hE) ?_
    · rw [h1] at hm
      simp only [List.mem_cons, List.not_mem_nil, or_false] at hm
      exact ⟨k, hm, hkl⟩
    · rw [h1] at hl ho
      match order, hl with
      | [m], _ =>
        have := ho m (.head _)
        simp only [List.mem_cons, List.not_mem_nil, or_false] at this
        subst this
        simp only [List.map_cons, List.map_nil, List.sum_cons, List.sum_nil]
        rw [hwk]; omega
    · unfold hitW; rw [if_pos h2]

/-- one turn over ell, told in full -/
theorem ej_ell {csk : List Int} {ct : SetTable} {vts : List Vt} {N k u i : Nat} {c qn qd ub : Int} {qk : Vt} {ga : Addr} (hr : Room A 5) (J : JOk csk vts) (hk : vts[k]? = some qk) (hk8 : k < 8) (hn : 0 ≤ qn ∧ qn ≤ 1000000) (hd : 0 < qd ∧ qd ≤ 1000000) (hi : i < 900) (hnz : qn * (1 + (i : Nat)) ≤ 1000000) :
    let ρE : List (Str × PV) := [("ell_upper_bound", .int ub), ("cand", .int c), ("profile", Y.pr N (vts.map Y.vt)), ("committee", .obj (SetIs csk ct)), ("quota", Y.fr qn qd)]
    let own := fun j : Nat => some (Own.dg W.prog W.w dNm u (addS ([], fresh0 W.w) k).1 (addS ([], fresh0 W.w) k).2 ga (gS (fresh0 W.w) u k j).1 (gS (fresh0 W.w) u k j).2)
    (hitW u qk.w qn qd i = false → Execs (eF Y.toLay19 (hA := hA) (hI := hI) (X := X) (ok := ok)) ⟨("ell", .int (1 + (i : Nat))) :: ρE, own i, [("group", .ref ga)]⟩ gBody (.next ⟨ρE, own (i + 1), [("group", .ref ga)]⟩)) ∧
    (hitW u qk.w qn qd i = true → Execs (eF Y.toLay19 (hA := hA) (hI := hI) (X := X) (ok := ok)) ⟨("ell", .int (1 + (i : Nat))) :: ρE, own i, [("group", .ref ga)]⟩ gBody (.ret (jrRes false))) := by
  intro ρE own
  have hin : ∀ X' ρ, ((eF Y.toLay19 (hA := hA) (hI := hI) (X := X) (ok := ok)).cx X' ρ).In W 4 := fun X' ρ => ⟨rfl, rfl, rfl, fun _ h => h, hr.deeper (by omega) _⟩
  obtain ⟨c1, c2, c3, c4, c5⟩ := cpK_ok W.w hk8
  have hcase : ((1 + (i : Nat) : Int) - 1 = u ∧ (gS (fresh0 W.w) u k i).1 = [] ∧ (addS ([], fresh0 W.w) k).1.length < scanBound ∧ copyS (gS (fresh0 W.w) u k i).2 (addS ([], fresh0 W.w) k).1 (addS ([], fresh0 W.w) k).2 = some ((gS (fresh0 W.w) u k (i + 1)).1, (gS (fresh0 W.w) u k (i + 1)).2) ∧ (gS (fresh0 W.w) u k (i + 1)).2.fits (gS (fresh0 W.w) u k (i + 1)).1.length = true) ∨
      ((1 + (i : Nat) : Int) - 1 ≠ u ∧ (gS (fresh0 W.w) u k (i + 1)).1 = (gS (fresh0 W.w) u k i).1 ∧ (gS (fresh0 W.w) u k (i + 1)).2 = (gS (fresh0 W.w) u k i).2) := by
    by_cases h : i = u
    · subst h
      have e0 : gS (fresh0 W.w) i k i = ([], fresh0 W.w) := by unfold gS; rw [if_neg (by omega)]
      have e1 : gS (fresh0 W.w) i k (i + 1) = cpK (fresh0 W.w) k := by unfold gS; rw [if_pos (by omega)]
      rw [e0, e1]
      exact .inl ⟨by omega, rfl, by rw [c1]; show 1 < scanBound; decide, c2, c4⟩
    · have e1 : gS (fresh0 W.w) u k (i + 1) = gS (fresh0 W.w) u k i := by
        unfold gS
        by_cases h' : u < i
        · rw [if_pos h', if_pos (by omega)]
        · rw [if_neg h', if_neg (by omega)]
      rw [e1]
      exact .inr ⟨by omega, rfl, rfl⟩
  refine ⟨fun hh => ?_, fun hh => ?_⟩
  · conv => arg 3; whnf
    refine Execs.cons (Exec.orGroup (F := eF Y.toLay19 (hA := hA) (hI := hI) (X := X) (ok := ok)) (z := 1 + (i : Nat)) hin (fun X' ρ => .blt Y.set (fun _ h => h) rfl) rfl (by rfl) (by decide) rfl hcase) ?_
    apply Execs.wk
    refine Execs.cons (Exec.iteO (b := hitW u qk.w qn qd i) (TestO.group (F := eF Y.toLay19 (hA := hA) (hI := hI) (X := X) (ok := ok)) fun X' => ej_gtest Y (ct := ct) (csk := csk) (N := N) (c := c) (ub := ub) hr J hk hk8 hn hd hi hnz (GenOK.of (by rfl)) rfl (fun C code => by with_unfolding_all rfl)) (fun h => by rw [hh] at h; cases h) fun _ => Execs.nil) Execs.nil
    exact .cons rfl (.cons rfl (.cons rfl (.cons rfl (.cons rfl .nil))))
  · conv => arg 3; whnf
    refine Execs.cons (Exec.orGroup (F := eF Y.toLay19 (hA := hA) (hI := hI) (X := X) (ok := ok)) (z := 1 + (i : Nat)) hin (fun X' ρ => .blt Y.set (fun _ h => h) rfl) rfl (by rfl) (by decide) rfl hcase) ?_
    refine Execs.ret (Exec.iteO (b := hitW u qk.w qn qd i) (TestO.group (F := eF Y.toLay19 (hA := hA) (hI := hI) (X := X) (ok := ok)) fun X' => ej_gtest Y (ct := ct) (csk := csk) (N := N) (c := c) (ub := ub) hr J hk hk8 hn hd hi hnz (GenOK.of (by rfl)) rfl (fun C code => by with_unfolding_all rfl)) (fun _ => ?_) fun h => by rw [hh] at h; cases h)
    refine Execs.freezeG (F := eF Y.toLay19 (hA := hA) (hI := hI) (X := X) (ok := ok)) ?_
    refine Execs.cons (Exec.assign (pv := .obj AnyObj) (.inr ⟨true, fun X' => EvalsN.toE (EvalsN.dict (.cons (pv := .obj (SetIs (gS (fresh0 W.w) u k (i + 1)).1 (gS (fresh0 W.w) u k (i + 1)).2)) (Evals.name rfl) (.cons (pv := .int c) (Evals.name rfl) (.cons (pv := .int (1 + (i : Nat))) (Evals.name rfl) .nil))) (by simp) (by simp))⟩) (by rfl) (by rfl) rfl) ?_
    exact Execs.ret (Exec.ret (fr := true) fun X' => Evals.tup (EvalsL.cons Evals.bool (EvalsL.cons (Evals.name rfl) EvalsL.nil)) (by simp))
end
end Mine

set_option maxHeartbeats 1000000
namespace Mine
open PySem PySem.Calls PyProof.Rows PyProof PySem.W

/-- every candidate off the committee has one supporter -/
structure EOk (csk : List Int) (vts : List Vt) (N : Nat) : Prop where
  small : vts.length ≤ 8
  sup : ∀ c ∈ upto N, c ∉ csk → ∃ (k : Nat) (q : Vt), vts[k]? = some q ∧ c ∈ q.sk ∧ ∀ (i : Nat) (q' : Vt), vts[i]? = some q' → c ∈ q'.sk → i = k

def supOf (vts : List Vt) (c : Int) : Option Vt := vts.find? (·.sk.contains c)
def ejC (csk : List Int) (vts : List Vt) (qn qd : Int) (ub : Nat) (c : Int) : Bool := !csk.contains c && match supOf vts c with
  | some q => (List.range ub).any (hitW (com csk q) q.w qn qd)
  | none => false

theorem supOf_eq {vts : List Vt} {c : Int} {k : Nat} {q : Vt} (hk : vts[k]? = some q) (hc : c ∈ q.sk) (hun : ∀ (i : Nat) (q' : Vt), vts[i]? = some q' → c ∈ q'.sk → i = k) : supOf vts c = some q := by
  unfold supOf
  cases h : vts.find? (·.sk.contains c) with
  | none =>
    rw [List.find?_eq_none] at h
    have := h q (List.mem_of_getElem? hk)
    exact absurd (List.contains_iff_mem.mpr hc) this
  | some q' =>
    have h1 := List.find?_some h
    have h2 := List.mem_of_find?_eq_some h
    obtain ⟨i, hi, e⟩ := List.getElem_of_mem h2
    have hi' : vts[i]? = some q' := by rw [List.getElem?_eq_getElem hi, e]
    have := hun i q' hi' (List.contains_iff_mem.mp h1)
    subst this
    rw [hk] at hi'
    exact congrArg some (Option.some.inj hi').symm

section
variable {W : Wd} (Y : Lay20 W) {A : Around} {hA : A.handled = none} {st : Shared} {X : Addr → Prop} {hI : W.I st.heap} {ok : EnvOK (fdOf (stmtAt 21) .none Y.rE) Y.aE st.heap.objs.size}

theorem Goes.dropAll {F : Fm} {D D' : Addr → Prop} {s s' : Shared} {ρ : List (Str × PV)} {own : Option Own} {pins : List (Str × Value)} (g : Goes F ⟨ρ, own, pins⟩ D s D' s') : Goes F ⟨ρ, none, []⟩ D s No s' := ⟨(g.ok.noOwn).nopins, g.kp, fun b h => h.elim⟩
theorem Execs.dropAll {F : Fm} {σ : St} {ρ : List (Str × PV)} {own : Option Own} {pins : List (Str × Value)} {st : List Stmt} (h : Execs F σ st (.next ⟨ρ, own, pins⟩)) : Execs F σ st (.next ⟨ρ, none, []⟩) := fun E D s o =>
  wpAny_mono (h E D s o) (fun f s' h' => by
    cases f with
    | next => obtain ⟨D', g⟩ := h'; exact ⟨_, g.dropAll⟩
    | _ => exact h'.elim) fun _ _ e => e

theorem Execs.contTo {F : Fm} {σ σ' : St} {st : List Stmt} {ρ : List (Str × PV)} (h : Execs F σ st (.cont σ')) (hr : Allin ρ σ'.ρ) : Execs F σ st (.cont { σ' with ρ := ρ }) := fun E D s o =>
  wpAny_mono (h E D s o) (fun f s' h' => by
    cases f with
    | cont => obtain ⟨D', g⟩ := h'; exact ⟨D', ⟨g.ok.weak hr, g.kp, g.new⟩⟩
    | _ => exact h'.elim) fun _ _ e => e

/-- the numbers fit -/
structure QOk (T qn qd : Int) (ub : Nat) : Prop where
  hn : 0 < qn ∧ qn ≤ 1000000
  hd : 0 < qd ∧ qd ≤ 1000000
  ht : 0 ≤ T ∧ T * qd ≤ 1000000
  hu : (T * qd).fdiv qn = ub
  un : ub ≤ 800
  hnz : qn * ub ≤ 1000000

theorem ej_head {csk : List Int} {ct : SetTable} {vts : List Vt} {N k : Nat} {c qn qd : Int} {ub : Nat} {qk : Vt} {out : Out} (hr : Room A 5) (J : JOk csk vts) (hT : (vts.map (·.w)).sum ≤ 1000000) (B : QOk (vts.map (·.w)).sum qn qd ub) (hcc : csk.contains c = false) (hcl : csk.length < 900) (hk : vts[k]? = some qk) (hck : c ∈ qk.sk) (hun : ∀ (i : Nat) (q : Vt), vts[i]? = some q → c ∈ q.sk → i = k)
    (h : ∀ ga, Execs (eF Y.toLay19 (hA := hA) (hI := hI) (X := X) (ok := ok)) ⟨[("ell_upper_bound", .int ub), ("cand", .int c), ("profile", Y.pr N (vts.map Y.vt)), ("committee", .obj (SetIs csk ct)), ("quota", Y.fr qn qd)], some (Own.dg W.prog W.w dNm (com csk qk) (addS ([], fresh0 W.w) k).1 (addS ([], fresh0 W.w) k).2 ga [] (fresh0 W.w)), [("group", .ref ga)]⟩ [gLoop] out) :
    Execs (eF Y.toLay19 (hA := hA) (hI := hI) (X := X) (ok := ok)) ⟨[("cand", .int c), ("profile", Y.pr N (vts.map Y.vt)), ("committee", .obj (SetIs csk ct)), ("quota", Y.fr qn qd)], none, []⟩ eBody out := by
  have hin : ∀ X' ρ, ((eF Y.toLay19 (hA := hA) (hI := hI) (X := X) (ok := ok)).cx X' ρ).In W 4 := fun X' ρ => ⟨rfl, rfl, rfl, fun _ h => h, hr.deeper (by omega) _⟩
  have hkl : k < vts.length := (List.getElem?_eq_some_iff.mp hk).1
  conv => arg 3; whnf
  refine Execs.cons (Exec.ite (b := csk.contains c) (fun X' => Tests.cmp (CmpSem.inSet (by omega)) (Evals.name rfl) (Evals.name rfl)) (fun h => by rw [hcc] at h; cases h) fun _ => Execs.nil) ?_
  refine Execs.cons (Exec.assignDct (F := eF Y.toLay19 (hA := hA) (hI := hI) (X := X) (ok := ok)) (hin _ _) (by rfl) (by rfl)) ?_
  refine Execs.cons (ej_loop Y.toLay19 (hr.mono (by omega)) J hk hck hun) ?_
  have e1 : dcK (fresh0 W.w) (com csk qk) k vts.length = some ((com csk qk : Int), (addS ([], fresh0 W.w) k).1, (addS ([], fresh0 W.w) k).2) := by unfold dcK; rw [if_pos hkl]
  rw [e1]
  have hb := fr_bounds (u := (vts.map (·.w)).sum * qd) (l := qn) (Int.mul_nonneg B.ht.1 (Int.le_of_lt B.hd.1)) B.hn.1
  have hbn := B.hn
  have hbd := B.hd
  have hbt := B.ht
  refine Execs.cons (Exec.assign (pv := .int ub) (.inl ⟨false, fun X' => Evals.as (Evals.method (hin _ _) Y.pFr Y.hFf Y.fFf (c_floor (Y := Y.toLay9) (n := frN ((vts.map (·.w)).sum * qd) qn) (d := frD ((vts.map (·.w)).sum * qd) qn) ⟨hb.2.2.1, by omega⟩) (by omega) rfl
      (EvalsN.toE (EvalsN.makeK (hin _ _) Y.mFr (make_if Y.toLay8 (u := (vts.map (·.w)).sum) (n := qn) (d := qd) ⟨Int.mul_nonneg B.ht.1 (Int.le_of_lt B.hd.1), B.ht.2⟩ ⟨B.hn.1, B.hn.2⟩ ⟨by omega, by omega⟩) (by omega) (.top Y.gFr (fun _ h => h) rfl)
        (ArgsOK.pos (EvalsL.cons (Evals.method (hin _ _) Y.pPr Y.hTW Y.fTW (c_tw Y.toLay15 (N := N)) (by omega) rfl (Evals.name (pv := Y.pr N (vts.map Y.vt)) rfl) (ArgsOK.pos EvalsL.nil)) (EvalsL.cons (Evals.name rfl) EvalsL.nil))))) (ArgsOK.pos EvalsL.nil)) ?_, rfl⟩) (by rfl) (by rfl) rfl) ?_
  · rw [fr_floor (Int.mul_nonneg B.ht.1 (Int.le_of_lt B.hd.1)) B.hn.1, B.hu]
  · exact Execs.newGroup (F := eF Y.toLay19 (hA := hA) (hI := hI) (X := X) (ok := ok)) hin (fun X' ρ => .blt Y.set (fun _ h => h) rfl) (by rfl) rfl (by decide) rfl h

theorem nz_le {qn : Int} {ub i : Nat} (h0 : 0 ≤ qn) (h : qn * ub ≤ 1000000) (hi : i < ub) : qn * (1 + (i : Nat)) ≤ 1000000 := by
  refine Int.le_trans (Int.mul_le_mul_of_nonneg_left ?_ h0) h
  omega

theorem ell_items (ub : Nat) : itemsOf (.range 1 ((ub : Int) + 1)) = some ((List.range ub).map fun i : Nat => PV.int (1 + (i : Nat))) := by
  show some ((List.range ((ub : Int) + 1 - 1).toNat).map fun i : Nat => PV.int (1 + (i : Nat))) = _
  rw [show ((ub : Int) + 1 - 1).toNat = ub by omega]

theorem ej_no {csk : List Int} {ct : SetTable} {vts : List Vt} {N k : Nat} {c qn qd : Int} {ub : Nat} {qk : Vt} (hr : Room A 5) (J : JOk csk vts) (hT : (vts.map (·.w)).sum ≤ 1000000) (B : QOk (vts.map (·.w)).sum qn qd ub) (hcc : csk.contains c = false) (hcl : csk.length < 900) (hk8 : k < 8) (hk : vts[k]? = some qk) (hck : c ∈ qk.sk) (hun : ∀ (i : Nat) (q : Vt), vts[i]? = some q → c ∈ q.sk → i = k)
    (hh : (List.range ub).any (hitW (com csk qk) qk.w qn qd) = false) :
    Execs (eF Y.toLay19 (hA := hA) (hI := hI) (X := X) (ok := ok)) ⟨[("cand", .int c), ("profile", Y.pr N (vts.map Y.vt)), ("committee", .obj (SetIs csk ct)), ("quota", Y.fr qn qd)], none, []⟩ eBody
      (.next ⟨[("profile", Y.pr N (vts.map Y.vt)), ("committee", .obj (SetIs csk ct)), ("quota", Y.fr qn qd)], none, []⟩) := by
  have hin : ∀ X' ρ, ((eF Y.toLay19 (hA := hA) (hI := hI) (X := X) (ok := ok)).cx X' ρ).In W 4 := fun X' ρ => ⟨rfl, rfl, rfl, fun _ h => h, hr.deeper (by omega) _⟩
  have hbn := B.hn
  have hbu := B.un
  refine ej_head Y hr J hT B hcc hcl hk hck hun fun ga => ?_
  conv => arg 3; whnf
  apply Execs.dropAll
  apply Execs.wk
  refine Execs.cons (for_any (src := .range 1 ((ub : Int) + 1)) (xs := (List.range ub).map fun i : Nat => PV.int (1 + (i : Nat)))
    (fun i => ⟨[("ell_upper_bound", .int ub), ("cand", .int c), ("profile", Y.pr N (vts.map Y.vt)), ("committee", .obj (SetIs csk ct)), ("quota", Y.fr qn qd)], some (Own.dg W.prog W.w dNm (com csk qk) (addS ([], fresh0 W.w) k).1 (addS ([], fresh0 W.w) k).2 ga (gS (fresh0 W.w) (com csk qk) k i).1 (gS (fresh0 W.w) (com csk qk) k i).2), [("group", .ref ga)]⟩) ub _
    (.inr ⟨true, fun X' => Evals.range2 (.blt Y.range (fun _ h => h) rfl) Evals.int (Evals.add (Evals.name rfl) Evals.int)⟩) (ell_items ub) (by refine ⟨?_, ?_, ?_, ?_⟩ <;> omega) (by simp) (by rfl) (fun i _ => by rfl) (fun i p hi hp => .inl ?_) (.inl ⟨by simp, rfl⟩)) Execs.nil
  · rw [List.getElem?_map, List.getElem?_range hi] at hp
    cases hp
    refine (ej_ell Y (ct := ct) (ub := ub) (N := N) (c := c) hr J hk hk8 ⟨by omega, by omega⟩ ⟨B.hd.1, B.hd.2⟩ (by omega) (nz_le (by omega) B.hnz hi)).1 ?_
    cases e : hitW (com csk qk) qk.w qn qd i with
    | false => rfl
    | true => rw [List.any_eq_true.mpr ⟨i, List.mem_range.mpr hi, e⟩] at hh; cases hh
  · exact .cons rfl (.cons rfl (.cons rfl .nil))

theorem ej_yes {csk : List Int} {ct : SetTable} {vts : List Vt} {N k : Nat} {c qn qd : Int} {ub : Nat} {qk : Vt} (hr : Room A 5) (J : JOk csk vts) (hT : (vts.map (·.w)).sum ≤ 1000000) (B : QOk (vts.map (·.w)).sum qn qd ub) (hcc : csk.contains c = false) (hcl : csk.length < 900) (hk8 : k < 8) (hk : vts[k]? = some qk) (hck : c ∈ qk.sk) (hun : ∀ (i : Nat) (q : Vt), vts[i]? = some q → c ∈ q.sk → i = k)
    (hh : (List.range ub).any (hitW (com csk qk) qk.w qn qd) = true) :
    Execs (eF Y.toLay19 (hA := hA) (hI := hI) (X := X) (ok := ok)) ⟨[("cand", .int c), ("profile", Y.pr N (vts.map Y.vt)), ("committee", .obj (SetIs csk ct)), ("quota", Y.fr qn qd)], none, []⟩ eBody (.ret (jrRes false)) := by
  have hin : ∀ X' ρ, ((eF Y.toLay19 (hA := hA) (hI := hI) (X := X) (ok := ok)).cx X' ρ).In W 4 := fun X' ρ => ⟨rfl, rfl, rfl, fun _ h => h, hr.deeper (by omega) _⟩
  have hbn := B.hn
  have hbu := B.un
  obtain ⟨n, m, hm, hit, hbef⟩ := first_hit _ hh
  have hnl : n < ub := by have := (List.getElem?_eq_some_iff.mp hm).1; simpa using this
  rw [List.getElem?_range hnl] at hm
  cases hm
  refine ej_head Y hr J hT B hcc hcl hk hck hun fun ga => ?_
  conv => arg 3; whnf
  have turn := fun (i : Nat) (hi : i < ub) => ej_ell Y (hA := hA) (hI := hI) (X := X) (ok := ok) (ct := ct) (ub := ub) (N := N) (c := c) (u := com csk qk) (ga := ga) hr J hk hk8 ⟨by omega, by omega⟩ ⟨B.hd.1, B.hd.2⟩ (by omega) (nz_le (by omega) B.hnz hi)
  refine Execs.ret (for_any (src := .range 1 ((ub : Int) + 1)) (xs := (List.range ub).map fun i : Nat => PV.int (1 + (i : Nat)))
    (fun i => ⟨[("ell_upper_bound", .int ub), ("cand", .int c), ("profile", Y.pr N (vts.map Y.vt)), ("committee", .obj (SetIs csk ct)), ("quota", Y.fr qn qd)], some (Own.dg W.prog W.w dNm (com csk qk) (addS ([], fresh0 W.w) k).1 (addS ([], fresh0 W.w) k).2 ga (gS (fresh0 W.w) (com csk qk) k i).1 (gS (fresh0 W.w) (com csk qk) k i).2), [("group", .ref ga)]⟩) n _
    (.inr ⟨true, fun X' => Evals.range2 (.blt Y.range (fun _ h => h) rfl) Evals.int (Evals.add (Evals.name rfl) Evals.int)⟩) (ell_items ub) (by refine ⟨?_, ?_, ?_, ?_⟩ <;> omega) (by simp; omega) (by rfl) (fun i _ => by rfl) (fun i p hi hp => .inl ?_) (.inr ⟨_, .int (1 + (n : Nat)), rfl, by rw [List.getElem?_map, List.getElem?_range hnl]; rfl, (turn n hnl).2 hit⟩))
  rw [List.getElem?_map, List.getElem?_range (by omega)] at hp
  cases hp
  exact (turn i (by omega)).1 (hbef i i hi (List.getElem?_range (by omega)))
end

theorem c_ej {W : Wd} (Y : Lay20 W) {csk : List Int} {ct : SetTable} {vts : List Vt} {N : Nat} {qn qd : Int} {ub : Nat} (J : JOk csk vts) (Ek : EOk csk vts N) (hN : N ≤ 4000) (hT : (vts.map (·.w)).sum ≤ 1000000) (B : QOk (vts.map (·.w)).sum qn qd ub) (hcl : csk.length < 900) :
    Contract W Y.aE 5 [Y.pr N (vts.map Y.vt), .obj (SetIs csk ct), Y.fr qn qd] [] [] (jrRes (!(upto N).any (ejC csk vts qn qd ub))) := by
  refine contract_of (xs := ["profile", "committee", "quota"]) (dps := []) Y.fE rfl (by rfl) (by rfl) (by rfl) (fun s vs kvs hI hv hkv => ?_) fun A hA st X hI ok hr => ?_
  · match vs, kvs, hv, hkv with
    | [u, v, q], [], _, _ => exact ⟨[], BindsTo.of_eq rfl, .nil⟩
  have hin : ∀ X' ρ, ((eF Y.toLay19 (hA := hA) (hI := hI) (X := X) (ok := ok)).cx X' ρ).In W 4 := fun X' ρ => ⟨rfl, rfl, rfl, fun _ h => h, hr.deeper (by omega) _⟩
  have hvn := Ek.small
  have no : ∀ c ∈ upto N, ejC csk vts qn qd ub c = false → (Execs (eF Y.toLay19 (hA := hA) (hI := hI) (X := X) (ok := ok)) ⟨[("cand", .int c), ("profile", Y.pr N (vts.map Y.vt)), ("committee", .obj (SetIs csk ct)), ("quota", Y.fr qn qd)], none, []⟩ eBody (.next ⟨[("profile", Y.pr N (vts.map Y.vt)), ("committee", .obj (SetIs csk ct)), ("quota", Y.fr qn qd)], none, []⟩)) ∨
      Execs (eF Y.toLay19 (hA := hA) (hI := hI) (X := X) (ok := ok)) ⟨[("cand", .int c), ("profile", Y.pr N (vts.map Y.vt)), ("committee", .obj (SetIs csk ct)), ("quota", Y.fr qn qd)], none, []⟩ eBody (.cont ⟨[("profile", Y.pr N (vts.map Y.vt)), ("committee", .obj (SetIs csk ct)), ("quota", Y.fr qn qd)], none, []⟩) := fun c hc he => by
    cases hcc : csk.contains c with
    | true =>
      refine .inr ?_
      conv => arg 3; whnf
      refine Execs.contTo (σ' := ⟨[("cand", .int c), ("profile", Y.pr N (vts.map Y.vt)), ("committee", .obj (SetIs csk ct)), ("quota", Y.fr qn qd)], none, []⟩) (Execs.cont (Exec.ite (b := csk.contains c) (fun X' => Tests.cmp (CmpSem.inSet (by omega)) (Evals.name rfl) (Evals.name rfl)) (fun _ => Execs.cont Exec.continue) fun h => by rw [hcc] at h; cases h)) ?_
      exact .cons rfl (.cons rfl (.cons rfl .nil))
    | false =>
      obtain ⟨k, q, hk, hck, hun⟩ := Ek.sup c hc (fun q => by rw [List.contains_iff_mem.mpr q] at hcc; cases hcc)
      have hkl : k < vts.length := (List.getElem?_eq_some_iff.mp hk).1
      unfold ejC at he
      rw [supOf_eq hk hck hun, hcc] at he
      exact .inl (ej_no Y hr J hT B hcc hcl (by omega) hk hck hun (by simpa using he))
  conv => arg 3; whnf
  cases hany : (upto N).any (ejC csk vts qn qd ub) with
  | false =>
    have hno : ∀ c ∈ upto N, ejC csk vts qn qd ub c = false := fun c hc => by
      cases e : ejC csk vts qn qd ub c with
      | false => rfl
      | true => rw [List.any_eq_true.mpr ⟨c, hc, e⟩] at hany; cases hany
    refine Execs.cons (σ₁ := ⟨[("profile", Y.pr N (vts.map Y.vt)), ("committee", .obj (SetIs csk ct)), ("quota", Y.fr qn qd)], none, []⟩) (for_any (src := .list ((upto N).map .int)) (xs := (upto N).map .int) (fun _ => ⟨[("profile", Y.pr N (vts.map Y.vt)), ("committee", .obj (SetIs csk ct)), ("quota", Y.fr qn qd)], none, []⟩) ((upto N).map PV.int).length _ (.inr ⟨false, fun X' => Evals.field (hin _ _) Y.pPr Y.caPr (Evals.name (pv := Y.pr N (vts.map Y.vt)) rfl) rfl⟩) rfl trivial (Nat.le_refl _) (by rfl) (fun i _ => by rfl) (fun i p hi hp => ?_) (.inl ⟨rfl, rfl⟩)) ?_
    · obtain ⟨c, hc, rfl⟩ := List.mem_map.mp (List.mem_of_getElem? hp)
      exact no c hc (hno c hc)
    · refine Execs.cons (Exec.assign (pv := .obj AnyObj) (.inr ⟨true, fun X' => EvalsN.toE EvalsN.dict0⟩) (by rfl) (by rfl) rfl) ?_
      exact Execs.ret (Exec.ret (fr := true) fun X' => Evals.tup (EvalsL.cons Evals.bool (EvalsL.cons (Evals.name rfl) EvalsL.nil)) (by simp))
  | true =>
    obtain ⟨n, c, hc, hit, hbef⟩ := first_hit _ hany
    have hnl : n < (upto N).length := (List.getElem?_eq_some_iff.mp hc).1
    have hit' := hit
    unfold ejC at hit'
    rw [Bool.and_eq_true] at hit'
    obtain ⟨hcc, hit'⟩ := hit'
    have hcc : csk.contains c = false := by simpa using hcc
    obtain ⟨k, q, hk, hck, hun⟩ := Ek.sup c (List.mem_of_getElem? hc) (fun q => by rw [List.contains_iff_mem.mpr q] at hcc; cases hcc)
    have hkl : k < vts.length := (List.getElem?_eq_some_iff.mp hk).1
    rw [supOf_eq hk hck hun] at hit'
    refine Execs.ret (for_any (src := .list ((upto N).map .int)) (xs := (upto N).map .int) (fun _ => ⟨[("profile", Y.pr N (vts.map Y.vt)), ("committee", .obj (SetIs csk ct)), ("quota", Y.fr qn qd)], none, []⟩) n _ (.inr ⟨false, fun X' => Evals.field (hin _ _) Y.pPr Y.caPr (Evals.name (pv := Y.pr N (vts.map Y.vt)) rfl) rfl⟩) rfl trivial (by rw [List.length_map]; omega) (by rfl) (fun i _ => by rfl) (fun i p hi hp => ?_) (.inr ⟨_, .int c, rfl, by rw [List.getElem?_map, hc]; rfl, ?_⟩))
    · rw [List.getElem?_map] at hp
      cases hu : (upto N)[i]? with
      | none => rw [hu] at hp; cases hp
      | some c' =>
        rw [hu] at hp
        cases hp
        exact no c' (List.mem_of_getElem? hu) (hbef i c' hi hu)
    · exact ej_yes Y hr J hT B hcc hcl (by omega) hk hck hun hit'
end Mine

set_option maxHeartbeats 1000000
namespace Mine
open PySem PySem.Calls PyProof.Rows PyProof PySem.W

theorem hitW_fr {T S : Int} (hT : 0 ≤ T) (hS : 0 < S) (u : Nat) (w : Int) (i : Nat) : hitW u w (frN T S) (frD T S) i = hitW u w T S i := by
  obtain ⟨e2, e3⟩ := fr_spec hT hS
  have g0 := frG_pos (u := T) hS
  unfold hitW
  apply decide_eq_decide.mpr
  generalize (if u < i + 1 then w else 0) = Z
  have z0 : (0 : Int) ≤ 1 + (i : Nat) := by omega
  generalize (1 + (i : Nat) : Int) = z at *
  generalize frN T S = n at *
  generalize frD T S = d at *
  generalize frG T S = gg at *
  subst e2
  subst e3
  constructor
  · intro h
    calc n * gg * z = n * z * gg := by ac_rfl
      _ ≤ Z * d * gg := Int.mul_le_mul_of_nonneg_right h (Int.le_of_lt g0)
      _ = Z * (d * gg) := by ac_rfl
  · intro h
    have : n * z * gg ≤ Z * d * gg := by
      calc n * z * gg = n * gg * z := by ac_rfl
        _ ≤ Z * (d * gg) := h
        _ = Z * d * gg := by ac_rfl
    exact Int.le_of_mul_le_mul_right this g0

theorem ejC_perm {csk cs : List Int} (h : csk.Perm cs) {vts : List Vt} {T S : Int} (hT : 0 ≤ T) (hS : 0 < S) (ub : Nat) (c : Int) : ejC csk vts (frN T S) (frD T S) ub c = ejC cs vts T S ub c := by
  unfold ejC
  have e : csk.contains c = cs.contains c := by
    rw [Bool.eq_iff_iff, List.contains_iff_mem, List.contains_iff_mem]
    exact h.mem_iff
  rw [e]
  cases supOf vts c with
  | none => rfl
  | some q =>
    dsimp only
    rw [com_perm h]
    have : hitW (com cs q) q.w (frN T S) (frD T S) = hitW (com cs q) q.w T S := funext fun i => hitW_fr hT hS _ _ i
    rw [this]

structure Lay21 (W : Wd) extends Lay20 W where
  aCE : Addr
  rCE : Rest
  tCE : Addr
  gCE : W.mg "check_EJR_plus" = some (.ref aCE)
  fCE : FnK W aCE (fdOf (stmtAt 20) (.ref tCE) rCE)
  dCE : ∃ o n, W.K.lookup tCE = some o ∧ o.data = .seq #[.none] n

theorem c_checkEJ {W : Wd} (Y : Lay21 W) {cs : List Int} {vts : List Vt} {N : Nat} (J : JOk cs vts) (Ek : EOk cs vts N) (hN : N ≤ 900) (hcs : ∀ c ∈ cs, 0 ≤ c ∧ c < N) (hc0 : 0 < cs.length) (hcl : cs.length ≤ 800)
    (hT0 : 0 < (vts.map (·.w)).sum) (hTS : (vts.map (·.w)).sum * cs.length ≤ 1000000) :
    Contract W Y.aCE 6 [Y.pr N (vts.map Y.vt), .list (cs.map .int)] [] [] (.bool (!(upto N).any (ejC cs vts (vts.map (·.w)).sum cs.length cs.length))) := by
  have P := runS_perm0 (fresh0 W.w) J.nd
  have J' := J.perm P
  have E' : EOk (runS ([], fresh0 W.w) cs).1 vts N := ⟨Ek.small, fun c hc h => Ek.sup c hc fun q => h (P.mem_iff.mpr q)⟩
  have hcl2 : (runS ([], fresh0 W.w) cs).1.length < 900 := by rw [P.length_eq]; omega
  have hT1 : (vts.map (·.w)).sum ≤ 1000000 := by
    have : (vts.map (·.w)).sum * 1 ≤ (vts.map (·.w)).sum * cs.length := Int.mul_le_mul_of_nonneg_left (by omega) (by omega)
    omega
  have hb := fr_bounds (u := (vts.map (·.w)).sum) (l := (cs.length : Int)) (by omega) (by omega)
  have hs := fr_spec (u := (vts.map (·.w)).sum) (l := (cs.length : Int)) (by omega) (by omega)
  have hg := frG_pos (u := (vts.map (·.w)).sum) (l := (cs.length : Int)) (by omega)
  have B : QOk (vts.map (·.w)).sum (frN (vts.map (·.w)).sum cs.length) (frD (vts.map (·.w)).sum cs.length) cs.length := by
    have n0 : 0 < frN (vts.map (·.w)).sum cs.length := by
      rcases Int.lt_or_eq_of_le hb.1 with h | h
      · exact h
      · rw [← h, Int.zero_mul] at hs; omega
    refine ⟨⟨n0, by omega⟩, ⟨hb.2.2.1, by omega⟩, ⟨by omega, ?_⟩, ?_, hcl, ?_⟩
    · exact Int.le_trans (Int.mul_le_mul_of_nonneg_left hb.2.2.2 (by omega)) hTS
    · have e : (vts.map (·.w)).sum * frD (vts.map (·.w)).sum cs.length = (cs.length : Int) * frN (vts.map (·.w)).sum cs.length := by
        obtain ⟨e1, e2⟩ := hs
        generalize frN (vts.map (·.w)).sum cs.length = n at *
        generalize frD (vts.map (·.w)).sum cs.length = d at *
        generalize frG (vts.map (·.w)).sum cs.length = gg at *
        rw [← e1, ← e2]
        ac_rfl
      rw [e, Int.fdiv_eq_ediv_of_nonneg _ (Int.le_of_lt n0), Int.mul_ediv_cancel _ (by omega)]
    · exact Int.le_trans (Int.mul_le_mul_of_nonneg_right hb.2.1 (by omega)) hTS
  refine contract_of (xs := ["profile", "committee", "quota"]) (dps := [.none]) Y.fCE rfl (by rfl) (by rfl) (by rfl) (fun s vs kvs hI hv hkv => ?_) fun A hA st X hI ok hr => ?_
  · match vs, kvs, hv, hkv with
    | [u, v], [], _, _ =>
      obtain ⟨o, n, h1, h2⟩ := Y.dCE
      exact ⟨[.none], BindsTo.of_defaults rfl (hI.1 _ _ h1) h2 rfl rfl, .cons .none .nil⟩
  have hin : ∀ X' ρ, ((frameOf W A hA (fdOf (stmtAt 20) (.ref Y.tCE) Y.rCE) Y.aCE st X hI rfl Y.fCE.glob Y.fCE.blt ok).cx X' ρ).In W 5 := fun X' ρ => ⟨rfl, rfl, rfl, fun _ h => h, hr.deeper (by omega) _⟩
  conv => arg 3; whnf
  refine Execs.cons (σ₁ := ⟨[("quota", Y.fr (frN (vts.map (·.w)).sum cs.length) (frD (vts.map (·.w)).sum cs.length)), ("profile", Y.pr N (vts.map Y.vt)), ("committee", .list (cs.map .int))], none, []⟩) (Exec.ite (b := true) (fun X' => Tests.cmp CmpSem.isNone (Evals.name rfl) Evals.cnone) (fun _ => ?_) fun h => nomatch h) ?_
  · apply Execs.wk
    refine Execs.cons (Exec.assign (pv := .bool true) (.inl ⟨true, fun X' => Evals.bool, rfl⟩) (by rfl) (by rfl) rfl) ?_
    refine Execs.cons (Exec.assign (pv := Y.fr (frN (vts.map (·.w)).sum cs.length) (frD (vts.map (·.w)).sum cs.length)) (.inr ⟨true, fun X' => EvalsN.toE (EvalsN.makeK (hin _ _) Y.mFr (make_ii Y.toLay8 ⟨by omega, hT1⟩ ⟨by omega, by omega⟩) (by omega) (.top Y.gFr (fun _ h => h) rfl) (ArgsOK.pos (EvalsL.cons (Evals.method (hin _ _) Y.pPr Y.hTW Y.fTW (c_tw Y.toLay15 (N := N)) (by omega) rfl (Evals.name (pv := Y.pr N (vts.map Y.vt)) rfl) (ArgsOK.pos EvalsL.nil)) (EvalsL.cons (Evals.as (Evals.len (.blt Y.len (fun _ h => h) rfl) (Evals.name rfl) (by rw [List.length_map]; omega)) (by rw [List.length_map])) EvalsL.nil))))⟩) (by rfl) (by rfl) rfl) Execs.nil
    exact .cons rfl (.cons rfl (.cons rfl .nil))
  · refine Execs.cons (Exec.assign (pv := .obj (SetIs (runS ([], fresh0 W.w) cs).1 (runS ([], fresh0 W.w) cs).2)) (.inr ⟨true, fun X' => EvalsN.toE (EvalsN.callF (hin _ _) Y.fCS (c_CS Y.toLay10 (nc := some (N : Int)) (canSrc_list J.nd J.ln) (fun xs hxs p hp => ?_)) (by omega) (.top Y.gCS (fun _ h => h) rfl) (ArgsOK.kw (ks := ["num_cand"]) (EvalsL.cons (Evals.name rfl) EvalsL.nil) (EvalsK.cons (Evals.numCand (Y := Y.toLay12) (hin _ _) (by omega) (by omega) (Evals.name (pv := Y.pr N (vts.map Y.vt)) rfl)) EvalsK.nil) rfl rfl rfl))⟩) (by rfl) (by rfl) rfl) ?_
    · subst hxs
      obtain ⟨m, hm, rfl⟩ := List.mem_map.mp hp
      exact ⟨m, rfl, (hcs m hm).1, fun N' e => by cases e; exact (hcs m hm).2⟩
    refine Execs.cons (Exec.unpack2 (p := .bool (!(upto N).any (ejC cs vts (vts.map (·.w)).sum cs.length cs.length))) (q := .obj AnyObj) (fun X' => Evals.as (Evals.callK (hin _ _) Y.fE (c_ej Y.toLay20 (N := N) (ct := (runS ([], fresh0 W.w) cs).2) J' E' (by omega) hT1 B hcl2) (by omega) (.top Y.gE (fun _ h => h) rfl) (ArgsOK.pos (EvalsL.cons (Evals.name rfl) (EvalsL.cons (Evals.name rfl) (EvalsL.cons (Evals.name rfl) EvalsL.nil))))) ?_) (by rfl) (by rfl) (by rfl) (by rfl)) ?_
    · show jrRes _ = _
      unfold jrRes
      congr 5
      funext c
      exact ejC_perm P (by omega) (by omega) _ c
    · exact Execs.ret (Exec.ret (fr := false) fun X' => Evals.name rfl)
end Mine

set_option maxHeartbeats 1000000
namespace Mine
open PySem PySem.Calls PyProof.Rows PyProof PySem.W

theorem CmpSem.eqBool {Γ : Cx} {a b : Bool} : CmpSem Γ .Eq (.bool a) (.bool b) (a == b) := fun X x y Q E s hx hy h => by
  cases hx; cases hy
  exact eq_bool (h _ Kp.refl)

section
variable {F : Fm} {σ σ' : St} {D D' : Addr → Prop} {s s₁ s' : Shared}

/-- the own thing told in other words -/
theorem Execs.reown {w w' : Own} {ρ : List (Str × PV)} {pins : List (Str × Value)} {st : List Stmt} {out : Out} (hn : w'.name = w.name) (hP : ∀ h v D, w.P h v D → w'.P h v D) (h : Execs F ⟨ρ, some w', pins⟩ st out) : Execs F ⟨ρ, some w, pins⟩ st out := fun E D s o =>
  h E D s { k0 := o.k0, frF := o.frF, ns := o.ns, cells := o.cells, vars := o.vars, own := (by
    obtain ⟨v, h1, h2⟩ := o.own
    exact ⟨v, hP _ _ _ h1, by rw [hn]; exact h2⟩), pins := o.pins, dF := o.dF }
end

theorem prof_of {C : Addr} {nm : Str} {N : Nat} (hN : 0 < N) {h : Heap} {v : Value} {D : Addr → Prop} (x : (Own.val nm (.inst C prKs [.list ((upto N).map .int), .list ((upto N).map fun n => .str (strI n)), .obj PlainNil])).P h v D) : (Own.prof C nm N []).P h v D := by
  obtain ⟨x, hl⟩ := x
  cases x with
  | @inst _ a da sl es n _ fv _ hX hXd hx hdx hf hfv =>
  cases hfv with
  | cons h1 hfv =>
  cases hfv with
  | cons h2 hfv =>
  cases hfv with
  | cons hul hfv =>
  cases hfv
  cases hul with
  | @obj _ lv ol hlX hlv ht hi hP =>
  obtain ⟨m, rfl⟩ := hP
  have hne : (upto N).map PV.int ≠ [] := fun e => by
    have := congrArg List.length e
    simp [upto_len] at this; omega
  have hne2 : ((upto N).map fun n => PV.str (strI n)) ≠ [] := fun e => by
    have := congrArg List.length e
    simp [upto_len] at this; omega
  refine ⟨hl, a, da, lv, sl, es, n, m, _, _, [], rfl, hX, hXd, hlX, fun q => ?_, fun q => ?_, hx, hdx, hf, hlv, VR.offL hlv rfl (by simp [isScalar]) hne h1, VR.offL hlv rfl (by simp [isScalar]) hne2 h2, .nil⟩
  · rw [q, hx] at hlv; cases hlv
  · rw [q, hdx] at hlv
    exact absurd (congrArg Obj.cls (Option.some.inj hlv)) (by simp [dictOf])
end Mine

set_option maxHeartbeats 1000000
namespace Mine
open PySem PySem.Calls PyProof.Rows PyProof PySem.W

theorem Evals.and2 {Γ : Cx} {a b : Expr} {x y f g : Bool} {pos : Pos} (ha : Evals Γ f a (.bool x)) (hb : Evals Γ g b (.bool y)) : Evals Γ true (.BoolOp .And [a, b] pos) (.bool (x && y)) := fun E s o => by
  refine BoolOp_and (wpAny_mono (ha E s o) (fun v s₁ h₁ => ?_) fun _ _ e => e)
  obtain ⟨k, hv, _⟩ := h₁
  cases hv
  refine wpAny_truthy_bool ?_
  cases x with
  | false => exact ⟨k, .bool _, fun _ _ h => nomatch h⟩
  | true =>
    simp only [if_true]
    refine BoolOp_one (wpAny_mono (hb E s₁ (o.step k)) (fun v s₂ h₂ => ?_) fun _ _ e => e)
    obtain ⟨k2, hv, _⟩ := h₂
    cases hv
    exact ⟨k.trans k2, .bool _, fun _ _ h => nomatch h⟩

/-! the committee, in numbers -/
def nmT (tn : Nat → Nat) : Nat → Nat
  | 0 => 0
  | i + 1 => nmT tn i + tn i + 1
def csT (tn : Nat → Nat) : Nat → List Int
  | 0 => []
  | i + 1 => csT tn i ++ runI (nmT tn i) (tn i)

theorem runI_mem {a n : Nat} {m : Int} : m ∈ runI a n ↔ ∃ k : Nat, m = k ∧ a ≤ k ∧ k < a + n := by
  unfold runI
  simp only [List.mem_map, List.mem_range]
  constructor
  · rintro ⟨i, hi, rfl⟩
    exact ⟨a + i, rfl, by omega, by omega⟩
  · rintro ⟨k, rfl, h1, h2⟩
    exact ⟨k - a, by omega, by congr 1; omega⟩
theorem runI_len {a n : Nat} : (runI a n).length = n := by simp [runI]
theorem runI_nodup {a n : Nat} : (runI a n).Nodup := by
  unfold runI
  rw [List.nodup_iff_pairwise_ne, List.pairwise_map]
  exact List.nodup_range.imp fun h e => h (by omega)
theorem runI_succ {a n : Nat} : runI a (n + 1) = runI a n ++ [((a + n : Nat) : Int)] := by
  unfold runI
  rw [List.range_succ, List.map_append]; rfl
theorem runI_take {a n k : Nat} (h : k ≤ n) : (runI a n).take k = runI a k := by
  unfold runI
  rw [← List.map_take, List.take_range, Nat.min_eq_left h]

theorem nmT_mono {tn : Nat → Nat} {i j : Nat} (h : i ≤ j) : nmT tn i ≤ nmT tn j := by
  induction j with
  | zero => have : i = 0 := by omega
            subst this; exact Nat.le_refl _
  | succ j ih =>
    rcases Nat.lt_or_ge i (j + 1) with h' | h'
    · have := ih (by omega)
      show _ ≤ nmT tn j + tn j + 1
      omega
    · have : i = j + 1 := by omega
      subst this; exact Nat.le_refl _
theorem nmT_lt {tn : Nat → Nat} {i j : Nat} (h : i < j) : nmT tn i + tn i < nmT tn j := by
  have := nmT_mono (tn := tn) (show i + 1 ≤ j by omega)
  have e : nmT tn (i + 1) = nmT tn i + tn i + 1 := rfl
  omega
/-- every name below is in one party -/
theorem nmT_find {tn : Nat → Nat} : ∀ {n k : Nat}, k < nmT tn n → ∃ i, i < n ∧ nmT tn i ≤ k ∧ k ≤ nmT tn i + tn i
  | 0, k, h => absurd h (Nat.not_lt_zero _)
  | n + 1, k, h => by
    rcases Nat.lt_or_ge k (nmT tn n) with h' | h'
    · obtain ⟨i, h1, h2⟩ := nmT_find h'
      exact ⟨i, by omega, h2⟩
    · have e : nmT tn (n + 1) = nmT tn n + tn n + 1 := rfl
      exact ⟨n, by omega, h', by omega⟩
theorem nmT_one {tn : Nat → Nat} {i j k : Nat} (h1 : nmT tn i ≤ k) (h2 : k ≤ nmT tn i + tn i) (h3 : nmT tn j ≤ k) (h4 : k ≤ nmT tn j + tn j) : i = j := by
  rcases Nat.lt_trichotomy i j with h | h | h
  · have := nmT_lt (tn := tn) h; omega
  · exact h
  · have := nmT_lt (tn := tn) h; omega

theorem csT_mem {tn : Nat → Nat} {m : Int} : ∀ {n : Nat}, m ∈ csT tn n ↔ ∃ j, j < n ∧ ∃ k : Nat, m = k ∧ nmT tn j ≤ k ∧ k < nmT tn j + tn j
  | 0 => by simp [csT]
  | n + 1 => by
    unfold csT
    rw [List.mem_append, csT_mem, runI_mem]
    constructor
    · rintro (⟨j, hj, r⟩ | ⟨k, h1, h2, h3⟩)
      · exact ⟨j, by omega, r⟩
      · exact ⟨n, by omega, k, h1, h2, h3⟩
    · rintro ⟨j, hj, r⟩
      rcases Nat.lt_or_ge j n with h | h
      · exact .inl ⟨j, h, r⟩
      · have : j = n := by omega
        subst this
        exact .inr r
theorem csT_nodup {tn : Nat → Nat} : ∀ {n : Nat}, (csT tn n).Nodup
  | 0 => by simp [csT]
  | n + 1 => by
    unfold csT
    rw [List.nodup_append]
    refine ⟨csT_nodup, runI_nodup, fun a ha b hb e => ?_⟩
    subst e
    obtain ⟨j, hj, k, rfl, h1, h2⟩ := csT_mem.mp ha
    obtain ⟨k', e, h3, h4⟩ := runI_mem.mp hb
    have : k = k' := by omega
    subst this
    have := nmT_lt (tn := tn) hj
    omega
theorem csT_lt {tn : Nat → Nat} {n : Nat} {m : Int} (h : m ∈ csT tn n) : 0 ≤ m ∧ m < nmT tn n := by
  obtain ⟨j, hj, k, rfl, h1, h2⟩ := csT_mem.mp h
  have := nmT_lt (tn := tn) hj
  omega
theorem csT_run {tn : Nat → Nat} {n j : Nat} (hj : j < n) {k : Nat} (h1 : nmT tn j ≤ k) (h2 : k ≤ nmT tn j + tn j) : ((k : Int) ∈ csT tn n) ↔ k < nmT tn j + tn j := by
  rw [csT_mem]
  constructor
  · rintro ⟨i, hi, k', e, h3, h4⟩
    have : k = k' := by omega
    subst this
    have := nmT_one h1 h2 h3 (by omega)
    subst this
    exact h4
  · intro h
    exact ⟨j, hj, k, rfl, h1, h⟩

/-- the parties' voters, as they stand in the profile -/
structure Pty (tn : Nat → Nat) (vs : Nat → Int) (n : Nat) (vts : List Vt) : Prop where
  len : vts.length = n
  at_ : ∀ (j : Nat) (q : Vt), vts[j]? = some q → q.sk.Perm (runI (nmT tn j) (tn j + 1)) ∧ q.w = vs j

section
variable {tn : Nat → Nat} {vs : Nat → Int} {n : Nat} {vts : List Vt}
theorem Pty.lt (p : Pty tn vs n vts) {j : Nat} {q : Vt} (h : vts[j]? = some q) : j < n := by rw [← p.len]; exact (List.getElem?_eq_some_iff.mp h).1
theorem Pty.mem (p : Pty tn vs n vts) {j : Nat} {q : Vt} (h : vts[j]? = some q) {m : Int} : m ∈ q.sk ↔ ∃ k : Nat, m = k ∧ nmT tn j ≤ k ∧ k ≤ nmT tn j + tn j := by
  rw [(p.at_ j q h).1.mem_iff, runI_mem]
  exact ⟨fun ⟨k, a, b, c⟩ => ⟨k, a, b, by omega⟩, fun ⟨k, a, b, c⟩ => ⟨k, a, b, by omega⟩⟩
theorem Pty.com (p : Pty tn vs n vts) {j : Nat} {q : Vt} (h : vts[j]? = some q) : com (csT tn n) q = tn j := by
  have hj := p.lt h
  unfold Mine.com
  rw [((p.at_ j q h).1.filter _).length_eq, runI_succ, List.filter_append, List.length_append]
  have e1 : (runI (nmT tn j) (tn j)).filter (csT tn n).contains = runI (nmT tn j) (tn j) := by
    rw [List.filter_eq_self]
    intro m hm
    obtain ⟨k, rfl, h1, h2⟩ := runI_mem.mp hm
    exact List.contains_iff_mem.mpr ((csT_run hj h1 (by omega)).mpr h2)
  have e2 : [((nmT tn j + tn j : Nat) : Int)].filter (csT tn n).contains = [] := by
    rw [List.filter_cons_of_neg]
    · rfl
    · intro hc
      have := (csT_run hj (by omega) (Nat.le_refl _)).mp (List.contains_iff_mem.mp hc)
      omega
  rw [e1, e2, runI_len]; rfl
theorem Pty.get (p : Pty tn vs n vts) {j : Nat} (h : j < n) : ∃ q, vts[j]? = some q := ⟨_, List.getElem?_eq_getElem (by rw [p.len]; exact h)⟩
theorem Pty.uniq (p : Pty tn vs n vts) {i j : Nat} {q q' : Vt} (h : vts[i]? = some q) (h' : vts[j]? = some q') {m : Int} (hm : m ∈ q.sk) (hm' : m ∈ q'.sk) : i = j := by
  obtain ⟨k, rfl, h1, h2⟩ := (p.mem h).mp hm
  obtain ⟨k', e, h3, h4⟩ := (p.mem h').mp hm'
  have : k = k' := by omega
  subst this
  exact nmT_one h1 h2 h3 h4
theorem Pty.jok (p : Pty tn vs n vts) (hn : n ≤ 8) (ht : ∀ j, j < n → tn j ≤ 6) (hv : ∀ j, j < n → 0 ≤ vs j ∧ vs j ≤ 1000) (hl : (csT tn n).length < 900) : JOk (csT tn n) vts where
  nd := csT_nodup
  ln := by omega
  vn := by rw [p.len]; omega
  vs := fun q hq => by
    obtain ⟨j, hj, e⟩ := List.getElem_of_mem hq
    have h : vts[j]? = some q := by rw [List.getElem?_eq_getElem hj, e]
    have hjn := p.lt h
    obtain ⟨h1, h2⟩ := p.at_ j q h
    refine ⟨h1.nodup_iff.mpr runI_nodup, by rw [h1.length_eq, runI_len]; have := ht j hjn; omega, ⟨((nmT tn j + tn j : Nat) : Int), (p.mem h).mpr ⟨_, rfl, by omega, Nat.le_refl _⟩, fun hc => ?_⟩, by rw [h2]; exact (hv j hjn).1, by rw [h2]; exact (hv j hjn).2⟩
    have := (csT_run hjn (by omega) (Nat.le_refl _)).mp hc
    omega
theorem Pty.eok (p : Pty tn vs n vts) (hn : n ≤ 8) : EOk (csT tn n) vts (nmT tn n) where
  small := by rw [p.len]; exact hn
  sup := fun c hc _ => by
    obtain ⟨k, rfl, hk⟩ := upto_mem hc
    obtain ⟨i, hi, h1, h2⟩ := nmT_find hk
    obtain ⟨q, hq⟩ := p.get hi
    have hm : (k : Int) ∈ q.sk := (p.mem hq).mpr ⟨k, rfl, h1, h2⟩
    exact ⟨i, q, hq, hm, fun i' q' hq' hm' => p.uniq hq' hq hm' hm⟩
end
end Mine

set_option maxHeartbeats 1000000
namespace Mine
open PySem PySem.Calls PyProof.Rows PyProof PySem.W

theorem filter_one {α : Type} {P : α → Bool} : ∀ {l : List α} {i : Nat} {x : α}, l[i]? = some x → P x = true → (∀ (j : Nat) (y : α), l[j]? = some y → P y = true → j = i) → l.filter P = [x]
  | [], i, x, h, _, _ => by simp at h
  | a :: l, 0, x, h, hp, hu => by
    simp at h
    subst h
    rw [List.filter_cons_of_pos hp]
    have : l.filter P = [] := List.filter_eq_nil_iff.mpr fun y hy hpy => by
      obtain ⟨j, hj, e⟩ := List.getElem_of_mem hy
      have := hu (j + 1) y (by rw [List.getElem?_cons_succ, List.getElem?_eq_getElem hj, e]) hpy
      omega
    rw [this]
  | a :: l, i + 1, x, h, hp, hu => by
    have ha : ¬ P a = true := fun q => by
      have := hu 0 a (by simp) q
      omega
    rw [List.filter_cons_of_neg ha]
    exact filter_one (i := i) (by simpa using h) hp fun j y hj hy => by
      have := hu (j + 1) y (by simpa using hj) hy
      omega

section
variable {tn : Nat → Nat} {vs : Nat → Int} {n : Nat} {vts : List Vt}

theorem Pty.gw (p : Pty tn vs n vts) {j : Nat} {q : Vt} (h : vts[j]? = some q) {c : Int} (hc : c ∈ q.sk) : gwAt (csT tn n) c vts vts.length = if tn j = 0 then vs j else 0 := by
  unfold gwAt
  rw [List.take_length]
  by_cases h0 : tn j = 0
  · rw [if_pos h0, filter_one h (P := inG (csT tn n) c)]
    · simp only [List.map_cons, List.map_nil, List.sum_cons, List.sum_nil]
      rw [(p.at_ j q h).2]; omega
    · unfold inG
      rw [p.com h, List.contains_iff_mem.mpr hc, h0]; rfl
    · intro i y hi hy
      unfold inG at hy
      rw [Bool.and_eq_true] at hy
      exact p.uniq hi h (List.contains_iff_mem.mp hy.1) hc
  · rw [if_neg h0]
    have : vts.filter (inG (csT tn n) c) = [] := List.filter_eq_nil_iff.mpr fun y hy hp => by
      obtain ⟨i, hi, e⟩ := List.getElem_of_mem hy
      have hi' : vts[i]? = some y := by rw [List.getElem?_eq_getElem hi, e]
      unfold inG at hp
      rw [Bool.and_eq_true] at hp
      have := p.uniq hi' h (List.contains_iff_mem.mp hp.1) hc
      subst this
      rw [p.com hi'] at hp
      have := hp.2
      rw [beq_iff_eq] at this
      omega
    rw [this]; rfl

theorem Pty.jr_any (p : Pty tn vs n vts) {T S : Int} (hT : 0 < T) : ((upto (nmT tn n)).any fun c => decide (T ≤ gwAt (csT tn n) c vts vts.length * S)) = true ↔ ∃ j, j < n ∧ tn j = 0 ∧ T ≤ vs j * S := by
  rw [List.any_eq_true]
  constructor
  · rintro ⟨c, hc, h⟩
    obtain ⟨k, rfl, hk⟩ := upto_mem hc
    obtain ⟨i, hi, h1, h2⟩ := nmT_find hk
    obtain ⟨q, hq⟩ := p.get hi
    have h := of_decide_eq_true h
    rw [p.gw hq ((p.mem hq).mpr ⟨k, rfl, h1, h2⟩)] at h
    by_cases h0 : tn i = 0
    · rw [if_pos h0] at h
      exact ⟨i, hi, h0, h⟩
    · rw [if_neg h0] at h; omega
  · rintro ⟨j, hj, h0, h⟩
    obtain ⟨q, hq⟩ := p.get hj
    have hlt := nmT_lt (tn := tn) hj
    refine ⟨((nmT tn j : Nat) : Int), ?_, ?_⟩
    · unfold upto
      exact List.mem_map.mpr ⟨nmT tn j, List.mem_range.mpr (by omega), rfl⟩
    · apply decide_eq_true
      rw [p.gw hq ((p.mem hq).mpr ⟨_, rfl, Nat.le_refl _, by omega⟩), if_pos h0]
      exact h

theorem Pty.ej_any (p : Pty tn vs n vts) {T : Int} {S : Nat} (hT : 0 < T) (hv : ∀ j, j < n → vs j ≤ T) (hS : 0 < S) : ((upto (nmT tn n)).any (ejC (csT tn n) vts T S S)) = true ↔ ∃ j, j < n ∧ T * ((tn j : Int) + 1) ≤ vs j * S := by
  rw [List.any_eq_true]
  constructor
  · rintro ⟨c, hc, h⟩
    obtain ⟨k, rfl, hk⟩ := upto_mem hc
    obtain ⟨i, hi, h1, h2⟩ := nmT_find hk
    obtain ⟨q, hq⟩ := p.get hi
    have hm : (k : Int) ∈ q.sk := (p.mem hq).mpr ⟨k, rfl, h1, h2⟩
    unfold ejC at h
    rw [supOf_eq hq hm fun i' q' hq' hm' => p.uniq hq' hq hm' hm, Bool.and_eq_true] at h
    obtain ⟨l, hl, hh⟩ := List.any_eq_true.mp h.2
    unfold hitW at hh
    have hh := of_decide_eq_true hh
    rw [p.com hq, (p.at_ i q hq).2] at hh
    refine ⟨i, hi, ?_⟩
    by_cases hu : tn i < l + 1
    · rw [if_pos hu] at hh
      refine Int.le_trans (Int.mul_le_mul_of_nonneg_left ?_ (Int.le_of_lt hT)) hh
      omega
    · rw [if_neg hu, Int.zero_mul] at hh
      have : 0 < T * (1 + (l : Nat)) := Int.mul_pos hT (by omega)
      omega
  · rintro ⟨j, hj, h⟩
    obtain ⟨q, hq⟩ := p.get hj
    have hlt := nmT_lt (tn := tn) hj
    have hm : ((nmT tn j + tn j : Nat) : Int) ∈ q.sk := (p.mem hq).mpr ⟨_, rfl, by omega, Nat.le_refl _⟩
    have hS' : tn j < S := by
      have h1 : T * ((tn j : Int) + 1) ≤ T * S := Int.le_trans h (Int.mul_le_mul_of_nonneg_right (hv j hj) (by omega))
      have := Int.le_of_mul_le_mul_left h1 hT
      omega
    refine ⟨((nmT tn j + tn j : Nat) : Int), ?_, ?_⟩
    · unfold upto
      exact List.mem_map.mpr ⟨nmT tn j + tn j, List.mem_range.mpr hlt, rfl⟩
    · unfold ejC
      rw [supOf_eq hq hm fun i' q' hq' hm' => p.uniq hq' hq hm' hm, Bool.and_eq_true]
      refine ⟨?_, List.any_eq_true.mpr ⟨tn j, List.mem_range.mpr hS', ?_⟩⟩
      · have : ((nmT tn j + tn j : Nat) : Int) ∉ csT tn n := fun hc => by
          have := (csT_run hj (by omega) (Nat.le_refl _)).mp hc
          omega
        simpa using this
      · unfold hitW
        apply decide_eq_true
        rw [p.com hq, (p.at_ j q hq).2, if_pos (by omega)]
        rw [Int.add_comm]
        exact h
end

theorem csT_len {tn : Nat → Nat} : ∀ {n : Nat}, (csT tn n).length + n = nmT tn n
  | 0 => rfl
  | n + 1 => by
    have ih := csT_len (tn := tn) (n := n)
    unfold csT nmT
    rw [List.length_append, runI_len]
    omega
end Mine

set_option maxHeartbeats 1000000
namespace Mine
open PySem PySem.Calls PyProof.Rows PyProof PySem.W

theorem runs_sz : ∀ led : Bool, ∀ a, a < 9 → ∀ n, n < 7 → (runS ([], .fresh 0 0 led) (runI a n)).2.place.size = n := by decide +kernel
def cpS (w : World) (a n : Nat) : SK := (copyS (fresh0 w) (runS ([], fresh0 w) (runI a n)).1 (runS ([], fresh0 w) (runI a n)).2).getD ([], fresh0 w)
theorem run_facts (w : World) {a n : Nat} (ha : a < 9) (hn : n < 7) : GoodS w (runS ([], fresh0 w) (runI a n)).1 (runS ([], fresh0 w) (runI a n)).2 ∧ copyS (fresh0 w) (runS ([], fresh0 w) (runI a n)).1 (runS ([], fresh0 w) (runI a n)).2 = some ((cpS w a n).1, (cpS w a n).2) ∧
    (cpS w a n).1.Perm (runI a n) ∧ (cpS w a n).2.fits (cpS w a n).1.length = true := by
  have h := runs_ok (!byText w) a ha n hn
  have hz := runs_sz (!byText w) a ha n hn
  have hp : (runS ([], fresh0 w) (runI a n)).1.Perm (runI a n) := runS_perm0 (fresh0 w) runI_nodup
  unfold runOK at h
  dsimp only at h
  simp only [Bool.and_eq_true, beq_iff_eq] at h
  obtain ⟨⟨⟨⟨h1, h2⟩, h3⟩, h4⟩, h5⟩ := h
  refine ⟨?_, ?_⟩
  · by_cases hb : byText w = true
    · exact .inl hb
    · have hb' : byText w = false := Bool.eq_false_iff.mpr hb
      refine .inr ⟨hb', h2, ?_, ?_, h4⟩
      · exact h3.trans (by rw [hb']; rfl)
      · rw [hp.length_eq, runI_len]; exact hz
  · split at h5
    · rename_i sk' t' e
      rw [Bool.and_eq_true] at h5
      have e' : cpS w a n = (sk', t') := by
        show (copyS (SetTable.fresh 0 0 (!byText w)) _ _).getD _ = _
        rw [e]; rfl
      rw [e']
      exact ⟨e, List.isPerm_iff.mp h5.1, h5.2⟩
    · cases h5

def vtAt (w : World) (tn : Nat → Nat) (vs : Nat → Int) (j : Nat) : Vt := ⟨(cpS w (nmT tn j) (tn j + 1)).1, (cpS w (nmT tn j) (tn j + 1)).2, vs j⟩
def vtsAt (w : World) (tn : Nat → Nat) (vs : Nat → Int) (i : Nat) : List Vt := (List.range i).map (vtAt w tn vs)
theorem vtsAt_succ {w : World} {tn : Nat → Nat} {vs : Nat → Int} {i : Nat} : vtsAt w tn vs (i + 1) = vtsAt w tn vs i ++ [vtAt w tn vs i] := by
  unfold vtsAt
  rw [List.range_succ, List.map_append]; rfl
theorem vts_pty {w : World} {tn : Nat → Nat} {vs : Nat → Int} {n : Nat} (h : ∀ j, j < n → nmT tn j < 9 ∧ tn j < 6) : Pty tn vs n (vtsAt w tn vs n) where
  len := by simp [vtsAt]
  at_ := fun j q hq => by
    have hj : j < n := by
      have := (List.getElem?_eq_some_iff.mp hq).1
      simpa [vtsAt] using this
    unfold vtsAt at hq
    rw [List.getElem?_map, List.getElem?_range hj] at hq
    cases hq
    exact ⟨(run_facts w (h j hj).1 (by have := (h j hj).2; omega)).2.2.1, rfl⟩

theorem range_run (a t : Nat) : itemsOf (.range (a : Int) ((a : Int) + (t : Int) + 1)) = some ((runI a (t + 1)).map .int) := by
  show some ((List.range ((a : Int) + (t : Int) + 1 - a).toNat).map fun i : Nat => PV.int ((a : Int) + (i : Nat))) = _
  rw [show ((a : Int) + (t : Int) + 1 - a).toNat = t + 1 by omega]
  unfold runI
  rw [List.map_map]
  rfl

section
variable {W : Wd} (Y : Lay21 W) {A : Around} {hA : A.handled = none} {st : Shared} {X : Addr → Prop} {hI : W.I st.heap} {ok : EnvOK (fdOf (stmtAt 25) .none Y.rLaw) Y.aLaw st.heap.objs.size}

abbrev tFor : Stmt := (lawBody[17]?).getD (.Pass default)
abbrev tBody : List Stmt := match tFor with
  | .For _ _ b _ _ => b
  | _ => []

/-- what the tail stands in -/
abbrev tRho (told votes : List Int) (least whole seats size : Int) (nm : Nat) (cs : List Int) : List (Str × PV) := [("names", .int nm), ("committee", .list (cs.map .int)), ("told", .list (told.map .int)), ("least", .int least), ("whole", .int whole), ("votes", .list (votes.map .int)), ("seats", .int seats), ("size", .int size)]

theorem tail_turn {told votes : List Int} {least whole seats size : Int} {tn : Nat → Nat} {vs : Nat → Int} {n i N : Nat} (hr : Room A 12) (hi : i < n) (ht : told.length = n) (hv : votes.length = n) (hn : n ≤ 4) (htn : ∀ j, j < n → told.getD j 0 = (tn j : Int) ∧ tn j ≤ 5) (hvs : ∀ j, j < n → votes.getD j 0 = vs j ∧ 0 < vs j) (hN : N = nmT tn n) (hN9 : N ≤ 9) (hcs : (csT tn n).length ≤ 100) :
    Execs (lawFrame W Y.toLay7 A hA st X hI ok) ⟨("i", .int i) :: tRho told votes least whole seats size (nmT tn i) (csT tn i), some (Own.prof Y.aPr "profile" N ((vtsAt W.w tn vs i).map Y.vt)), []⟩ tBody
      (.next ⟨tRho told votes least whole seats size (nmT tn (i + 1)) (csT tn (i + 1)), some (Own.prof Y.aPr "profile" N ((vtsAt W.w tn vs (i + 1)).map Y.vt)), []⟩) := by
  have hin : ∀ X' ρ, ((lawFrame W Y.toLay7 A hA st X hI ok).cx X' ρ).In W 11 := fun X' ρ => ⟨rfl, rfl, rfl, fun _ h => h, hr.deeper (by omega) _⟩
  obtain ⟨t1, t2⟩ := htn i hi
  obtain ⟨w1, w2⟩ := hvs i hi
  have hlt := nmT_lt (tn := tn) hi
  have hmono := nmT_mono (tn := tn) (show i + 1 ≤ n by omega)
  have eS : nmT tn (i + 1) = nmT tn i + tn i + 1 := rfl
  obtain ⟨g1, g2, g3, g4⟩ := run_facts W.w (a := nmT tn i) (n := tn i + 1) (by omega) (by omega)
  have P0 : (runS ([], fresh0 W.w) (runI (nmT tn i) (tn i + 1))).1.Perm (runI (nmT tn i) (tn i + 1)) := runS_perm0 _ runI_nodup
  have hcsi : (csT tn i).length + tn i ≤ 100 := by
    have h1 := csT_len (tn := tn) (n := i)
    omega
  have eT : ∀ Γ : Cx, Γ.ρ.lookup ("told" : Str) = some (.list (told.map .int)) → Γ.ρ.lookup ("i" : Str) = some (.int i) → ∀ p1 p2 p3, Evals Γ false (.Subscript (.Name "told" p1) (.Name "i" p2) p3) (.int (tn i)) := fun Γ h1 h2 p1 p2 p3 =>
    Evals.as (Evals.item (j := i) (Evals.name h1) (Evals.name h2) (by simp; omega) (.inl ⟨by omega, by omega⟩) (pv_get (by omega))) (by rw [t1])
  conv => arg 3; whnf
  rw [vtsAt_succ, List.map_append]
  apply Execs.wk
  refine Execs.cons (Exec.compI (src := .range (nmT tn i : Int) ((nmT tn i : Int) + (tn i : Int) + 1)) (ns := runI (nmT tn i) (tn i + 1)) (f := fun c => c) (ms := runI (nmT tn i) (tn i + 1)) (CompOK.of (by rfl)) (fun X' => Evals.range2 (.blt Y.range (fun _ h => h) rfl) (Evals.name rfl) (Evals.add (Evals.add (Evals.name rfl) (eT _ rfl rfl _ _ _)) Evals.int)) (range_run _ _) (by refine ⟨?_, ?_, ?_, ?_⟩ <;> omega) (by rw [runI_len]; omega) (fun X' X'' C c hc => Evals.name rfl) (List.map_id' _) rfl (by rfl) (by rfl)) ?_
  refine Execs.cons (Exec.assign (pv := .int (nmT tn (i + 1))) (.inl ⟨true, fun X' => Evals.as (Evals.add (Evals.add (Evals.name rfl) (eT _ rfl rfl _ _ _)) Evals.int) (by rw [eS]; push_cast; rfl), rfl⟩) (by rfl) (by rfl) rfl) ?_
  refine Execs.cons (Exec.addVoter Y.toLay13 hin (by omega) hI (by simp [vtsAt]; omega) (by omega) w2 g1 (by rw [P0.length_eq, runI_len]; omega) g2 g4 (by rw [g3.length_eq, P0.length_eq]) (fun m hm => ?_)
    (EvalsN.toV fun X' => EvalsN.makeK (hin _ _) Y.mVo (make_voterA Y.toLay11 (canSrc_list runI_nodup (by rw [runI_len]; omega)) (fun xs hxs p hp => ?_) w2) (by omega) (.top Y.gVo (fun _ h => h) rfl) (ArgsOK.pos (EvalsL.cons (Evals.name rfl) (EvalsL.cons (Evals.as (Evals.item (j := i) (Evals.name rfl) (Evals.name rfl) (by simp; omega) (.inl ⟨by omega, by omega⟩) (pv_get (by omega))) (by rw [w1])) EvalsL.nil))))) ?_
  · have hm' := P0.mem_iff.mp hm
    obtain ⟨k, rfl, h1, h2⟩ := runI_mem.mp hm'
    omega
  · subst hxs
    obtain ⟨m, hm, rfl⟩ := List.mem_map.mp hp
    obtain ⟨k, rfl, h1, h2⟩ := runI_mem.mp hm
    exact ⟨_, rfl, by omega, fun N' e => by cases e⟩
  refine Execs.cons (Exec.assign (pv := .list ((csT tn (i + 1)).map .int)) (.inl ⟨true, fun X' => Evals.as (Evals.cat (Evals.name rfl) (Evals.upto (Evals.name rfl) (eT _ rfl rfl _ _ _) ⟨by omega, by rw [List.length_map, runI_len]; omega⟩ (by rw [List.length_map, runI_len]; omega)) (by rw [List.length_map, List.length_take, List.length_map, runI_len]; omega)) (by
    rw [Int.toNat_natCast, ← List.map_take, runI_take (by omega), ← List.map_append]; rfl), by simp [flat, isScalar]⟩) (by rfl) (by rfl) rfl) Execs.nil
  exact .cons rfl (.cons rfl (.cons rfl (.cons rfl (.cons rfl (.cons rfl (.cons rfl (.cons rfl .nil)))))))
end
end Mine

set_option maxHeartbeats 2000000
namespace Mine
open PySem PySem.Calls PyProof.Rows PyProof PySem.W

def tnOf (told : List Int) (j : Nat) : Nat := (told.getD j 0).toNat
theorem nmT_sum {told : List Int} (h0 : ∀ r ∈ told, 0 ≤ r) : ∀ i, i ≤ told.length → (nmT (tnOf told) i : Int) = (told.take i).sum + i
  | 0, _ => by simp [nmT]
  | i + 1, hi => by
    have ih := nmT_sum h0 i (by omega)
    have hg := h0 _ (getD_mem (show i < told.length by omega))
    have e : told.take (i + 1) = told.take i ++ [told.getD i 0] := by
      rw [List.take_add_one, List.getElem?_eq_getElem (by omega), List.getD_eq_getElem?_getD, List.getElem?_eq_getElem (by omega)]; rfl
    rw [e, List.sum_append]
    have e2 : nmT (tnOf told) (i + 1) = nmT (tnOf told) i + tnOf told i + 1 := rfl
    rw [e2]
    have e3 : (tnOf told i : Int) = told.getD i 0 := by unfold tnOf; omega
    simp only [List.sum_cons, List.sum_nil]
    push_cast
    omega

theorem vts_w {w : World} {tn : Nat → Nat} {votes : List Int} : (vtsAt w tn (fun j => votes.getD j 0) votes.length).map (·.w) = votes := by
  unfold vtsAt
  rw [List.map_map]
  apply List.ext_getElem?
  intro i
  rw [List.getElem?_map]
  rcases Nat.lt_or_ge i votes.length with h | h
  · rw [List.getElem?_range h]
    show some (votes.getD i 0) = votes[i]?
    rw [List.getD_eq_getElem?_getD, List.getElem?_eq_getElem h]; rfl
  · rw [List.getElem?_eq_none (by simpa using h), List.getElem?_eq_none h]; rfl

theorem bnot_iff {a b : Bool} {J : Prop} (ha : a = true ↔ J) (hb : b = true ↔ ¬ J) : (!a) = b := by
  by_cases h : J
  · rw [ha.mpr h]
    cases hb' : b with
    | true => exact absurd h (hb.mp hb')
    | false => rfl
  · have : a = false := by
      cases ha' : a with
      | true => exact absurd (ha.mp ha') h
      | false => rfl
    rw [this, hb.mpr h]; rfl

theorem law_tail {W : Wd} (Y : Lay21 W) (ns : List Int) (h6 : pickOf ns ≤ 6) (A : Around) (hA : A.handled = none) (st : Shared) (X : Addr → Prop) (hI : W.I st.heap) (ok : EnvOK (fdOf (stmtAt 25) .none Y.rLaw) Y.aLaw st.heap.objs.size) (hr : Room A 12) :
    Execs (lawFrame W Y.toLay7 A hA st X hI ok) ⟨lawRho ns, none, []⟩ (lawBody.drop 14) (.ret (.bool true)) := by
  have hin : ∀ X' ρ, ((lawFrame W Y.toLay7 A hA st X hI ok).cx X' ρ).In W 11 := fun X' ρ => ⟨rfl, rfl, rfl, fun _ h => h, hr.deeper (by omega) _⟩
  have p2 := fmod_b (lawAt ns 1) (n := 3) (by omega)
  have p3 := fmod_b (lawAt ns 2) (n := 5) (by omega)
  have bSize : 2 ≤ sizeOf ns ∧ sizeOf ns ≤ 4 := by unfold sizeOf; omega
  have bSeats : 1 ≤ seatsOf ns ∧ seatsOf ns ≤ 5 := by
    have : seatsOf ns = seats0 ns := by unfold seatsOf; rw [if_neg (by omega)]
    rw [this]; unfold seats0; omega
  have lV : (votesOf ns).length = sizeOf ns := by simp [votesOf, upto_len]
  have bV : ∀ v ∈ votesOf ns, 1 ≤ v ∧ v ≤ 50 := fun v hv => by
    unfold votesOf at hv
    obtain ⟨i, _, rfl⟩ := List.mem_map.mp hv
    have := fmod_b (lawAt ns (3 + i.toNat)) (n := 50) (by omega)
    omega
  have hneV : votesOf ns ≠ [] := fun e => by rw [e] at lV; simp at lV; omega
  have sumB : ∀ l : List Int, (∀ v ∈ l, 1 ≤ v ∧ v ≤ 50) → (l.length : Int) ≤ l.sum ∧ l.sum ≤ 50 * l.length := fun l => by
    induction l with
    | nil => intro _; simp
    | cons a l ih =>
      intro h
      have h1 := ih fun v hv => h v (.tail _ hv)
      have h2 := h a (.head _)
      rw [List.sum_cons, List.length_cons]; push_cast; omega
  have bW := sumB (votesOf ns) bV
  rw [lV] at bW
  have bL0 : ∀ k, k < sizeOf ns → 1 ≤ (votesOf ns).getD k 0 ∧ (votesOf ns).getD k 0 ≤ 50 := fun k hk => bV _ (getD_mem (by rw [lV]; exact hk))
  have p7 := fmod_b (lawAt ns 7) (n := (sizeOf ns : Int)) (by omega)
  have p8 := fmod_b (lawAt ns 8) (n := 2) (by omega)
  have bLeast : 0 ≤ leastOf ns ∧ leastOf ns ≤ 1000 ∧ leastOf ns ≤ 2 * maxOf (votesOf ns) := by
    have h1 := bL0 ((lawAt ns 7).fmod (sizeOf ns)).toNat (by omega)
    have h2 := le_maxOf (getD_mem (l := votesOf ns) (j := ((lawAt ns 7).fmod (sizeOf ns)).toNat) (by rw [lV]; omega))
    unfold leastOf least0
    split <;> omega
  have zs0 : ∀ z ∈ zsOf (votesOf ns) (leastOf ns), 0 ≤ z ∧ z ≤ 50 := fun z hz => by
    obtain ⟨v, hv, rfl⟩ := List.mem_map.mp hz
    have := bV v hv
    split <;> omega
  have lZ : (zsOf (votesOf ns) (leastOf ns)).length = sizeOf ns := by simp [zsOf, lV]
  have zsS : 0 < (zsOf (votesOf ns) (leastOf ns)).sum := by
    obtain ⟨k, hk, e⟩ := List.getElem_of_mem (maxOf_mem hneV)
    have e1 : (votesOf ns).getD k 0 = maxOf (votesOf ns) := by rw [List.getD_eq_getElem?_getD, List.getElem?_eq_getElem hk]; exact e
    have e2 : (zsOf (votesOf ns) (leastOf ns)).getD k 0 = maxOf (votesOf ns) := by
      unfold zsOf
      rw [getD_map hk, e1, if_neg (by omega)]
    have := getD_le_sum (vs := zsOf (votesOf ns) (leastOf ns)) (i := k) (fun v h => (zs0 v h).1) (by rw [lZ, ← lV]; exact hk)
    have := bV _ (maxOf_mem hneV)
    omega
  have vpos : ∀ v ∈ votesOf ns, 0 < v := fun v h => by have := bV v h; omega
  have lT : (toldOf ns).length = sizeOf ns := by unfold toldOf; rw [meth_len, lZ]
  obtain ⟨tS, tLow⟩ := seven_zs (lawName_seven h6) (zs := zsOf (votesOf ns) (leastOf ns)) (s := seatsOf ns) (fun z h => (zs0 z h).1) bSeats zsS
  have t0 : ∀ r ∈ toldOf ns, 0 ≤ r := meth_nonneg (fun v h => (zs0 v h).1) zsS
  have tZ : ∀ i, i < (votesOf ns).length → (zsOf (votesOf ns) (leastOf ns)).getD i 0 = 0 → (toldOf ns).getD i 0 = 0 := fun i hi hz => by
    unfold toldOf
    rw [meth_spread bSeats (fun z h => (zs0 z h).1) zsS, spread_at, if_neg (by omega)]
  have tS : (toldOf ns).sum = seatsOf ns := tS
  rw [lZ] at tLow
  have tLow : ∀ i, i < sizeOf ns → (zsOf (votesOf ns) (leastOf ns)).getD i 0 * seatsOf ns < ((toldOf ns).getD i 0 + 1) * (zsOf (votesOf ns) (leastOf ns)).sum := tLow
  obtain ⟨cj1, cj2⟩ := checks_just (told := toldOf ns) (least := leastOf ns) (s := seatsOf ns) vpos tZ (fun i hi => t0 _ (getD_mem (by omega))) (fun i hi => tLow i (by omega))
  -- the party's numbers
  have hT : ∀ j, j < sizeOf ns → (toldOf ns).getD j 0 = (tnOf (toldOf ns) j : Int) ∧ tnOf (toldOf ns) j ≤ 5 := fun j hj => by
    have h1 := t0 _ (getD_mem (l := toldOf ns) (j := j) (by omega))
    have h2 := getD_le_sum (vs := toldOf ns) (i := j) t0 (by omega)
    unfold tnOf
    omega
  have hNm : nmT (tnOf (toldOf ns)) (sizeOf ns) = seatsOf ns + sizeOf ns := by
    have := nmT_sum t0 (sizeOf ns) (by omega)
    rw [List.take_of_length_le (by omega), tS] at this
    omega
  have hcl : (csT (tnOf (toldOf ns)) (sizeOf ns)).length = seatsOf ns := by
    have := csT_len (tn := tnOf (toldOf ns)) (n := sizeOf ns)
    omega
  have pt : Pty (tnOf (toldOf ns)) (fun j => (votesOf ns).getD j 0) (sizeOf ns) (vtsAt W.w (tnOf (toldOf ns)) (fun j => (votesOf ns).getD j 0) (sizeOf ns)) := vts_pty fun j hj => by
    have h1 := (hT j hj).2
    have h2 := nmT_lt (tn := tnOf (toldOf ns)) hj
    omega
  have vw : (vtsAt W.w (tnOf (toldOf ns)) (fun j => (votesOf ns).getD j 0) (sizeOf ns)).map (·.w) = votesOf ns := by rw [← lV]; exact vts_w
  have jk := pt.jok (by omega) (fun j hj => by have := (hT j hj).2; omega) (fun j hj => by have := bL0 j hj; omega) (by omega)
  have ek := pt.eok (by omega)
  rw [hNm] at ek
  have hcs : ∀ c ∈ csT (tnOf (toldOf ns)) (sizeOf ns), 0 ≤ c ∧ c < ((seatsOf ns + sizeOf ns : Nat) : Int) := fun c hc => by
    have := csT_lt hc
    rw [hNm] at this
    exact this
  have hsumv : ∀ j, j < sizeOf ns → (votesOf ns).getD j 0 ≤ (votesOf ns).sum := fun j hj => getD_le_sum (fun v h => by have := bV v h; omega) (by omega)
  have vl : (vtsAt W.w (tnOf (toldOf ns)) (fun j => (votesOf ns).getD j 0) (sizeOf ns)).length = sizeOf ns := pt.len
  have aJ := pt.jr_any (T := (votesOf ns).sum) (S := ((seatsOf ns : Nat) : Int)) (by omega)
  have aE := pt.ej_any (T := (votesOf ns).sum) (S := seatsOf ns) (by omega) hsumv (by omega)
  rw [hNm] at aJ aE
  have cJ := c_checkJR Y.toLay18 (N := seatsOf ns + sizeOf ns) jk (by rw [vl]; omega) (by omega) hcs (by omega) (by rw [vw]; omega)
  have cE := c_checkEJ Y (N := seatsOf ns + sizeOf ns) jk ek (by omega) hcs (by omega) (by omega) (by rw [vw]; omega) (by
    rw [vw, hcl]
    have : (votesOf ns).sum * (seatsOf ns : Int) ≤ 200 * 5 := Int.mul_le_mul (by omega) (by omega) (by omega) (by omega)
    omega)
  rw [vw, hcl] at cJ cE
  generalize hb1 : (!(upto (seatsOf ns + sizeOf ns)).any fun c => decide ((votesOf ns).sum ≤ gwAt (csT (tnOf (toldOf ns)) (sizeOf ns)) c (vtsAt W.w (tnOf (toldOf ns)) (fun j => (votesOf ns).getD j 0) (sizeOf ns)) (vtsAt W.w (tnOf (toldOf ns)) (fun j => (votesOf ns).getD j 0) (sizeOf ns)).length * ((seatsOf ns : Nat) : Int))) = b1 at cJ
  generalize hb2 : (!(upto (seatsOf ns + sizeOf ns)).any (ejC (csT (tnOf (toldOf ns)) (sizeOf ns)) (vtsAt W.w (tnOf (toldOf ns)) (fun j => (votesOf ns).getD j 0) (sizeOf ns)) (votesOf ns).sum ((seatsOf ns : Nat) : Int) (seatsOf ns))) = b2 at cE
  have jb : ∃ b : Bool, b = decide (((votesOf ns).filter fun v => decide (2 * v < leastOf ns) && decide ((votesOf ns).sum ≤ v * (seatsOf ns : Int))) = []) := ⟨_, rfl⟩
  obtain ⟨jb, hjb⟩ := jb
  have hJ : jb = true ↔ ¬ ∃ v ∈ votesOf ns, 2 * v < leastOf ns ∧ (votesOf ns).sum ≤ v * (seatsOf ns : Int) := by
    rw [hjb, decide_eq_true_iff, List.filter_eq_nil_iff]
    constructor
    · rintro h ⟨v, hv, h1, h2⟩
      exact h v hv (by simp [h1, h2])
    · intro h v hv q
      simp only [Bool.and_eq_true, decide_eq_true_eq] at q
      exact h ⟨v, hv, q⟩
  have e1 : b1 = jb := by
    rw [← hb1]
    refine bnot_iff (J := ∃ v ∈ votesOf ns, 2 * v < leastOf ns ∧ (votesOf ns).sum ≤ v * (seatsOf ns : Int)) (aJ.trans (Iff.trans ?_ cj1)) hJ
    constructor
    · rintro ⟨j, hj, h0, h⟩
      exact ⟨j, by omega, by rw [(hT j hj).1, h0]; rfl, h⟩
    · rintro ⟨j, hj, h0, h⟩
      refine ⟨j, by omega, ?_, h⟩
      rw [(hT j (by omega)).1] at h0
      omega
  have e2 : b2 = jb := by
    rw [← hb2]
    refine bnot_iff (J := ∃ v ∈ votesOf ns, 2 * v < leastOf ns ∧ (votesOf ns).sum ≤ v * (seatsOf ns : Int)) (aE.trans (Iff.trans ?_ cj2)) hJ
    constructor
    · rintro ⟨j, hj, h⟩
      exact ⟨j, by omega, by rw [(hT j hj).1]; exact h⟩
    · rintro ⟨j, hj, h⟩
      refine ⟨j, by omega, ?_⟩
      rw [(hT j (by omega)).1] at h
      exact h
  have h0 : 0 < seatsOf ns + sizeOf ns := by omega
  conv => arg 3; whnf
  refine Execs.cons (Exec.assignNew (pv := .inst Y.aPr prKs [.list ((upto (seatsOf ns + sizeOf ns)).map .int), .list ((upto (seatsOf ns + sizeOf ns)).map fun n => .str (strI n)), .obj PlainNil]) (EvalsN.toV fun X' => EvalsN.makeK (hin _ _) Y.mPr (make_profile Y.toLay11 (N := seatsOf ns + sizeOf ns) h0 (by omega)) (by omega) (.top Y.gPr (fun _ h => h) rfl) (ArgsOK.pos (EvalsL.cons (Evals.as (Evals.add (Evals.name rfl) (Evals.name rfl)) (by push_cast; rfl)) EvalsL.nil))) (by rfl) (by rfl) (by rfl)) ?_
  refine Execs.reown (w' := Own.prof Y.aPr "profile" (seatsOf ns + sizeOf ns) []) rfl (fun h v D q => prof_of h0 q) ?_
  refine Execs.cons (Exec.assign (pv := .list []) (.inl ⟨true, fun X' => Evals.list EvalsL.nil (by simp), rfl⟩) (by rfl) (by rfl) (by rfl)) ?_
  refine Execs.cons (Exec.assign (pv := .int 0) (.inl ⟨true, fun X' => Evals.int, rfl⟩) (by rfl) (by rfl) (by rfl)) ?_
  refine Execs.cons (σ₁ := ⟨tRho (toldOf ns) (votesOf ns) (leastOf ns) (votesOf ns).sum (seatsOf ns) (sizeOf ns) (nmT (tnOf (toldOf ns)) (sizeOf ns)) (csT (tnOf (toldOf ns)) (sizeOf ns)), some (Own.prof Y.aPr "profile" (seatsOf ns + sizeOf ns) ((vtsAt W.w (tnOf (toldOf ns)) (fun j => (votesOf ns).getD j 0) (sizeOf ns)).map Y.vt)), []⟩) (for_any (src := .range 0 (sizeOf ns)) (xs := (upto (sizeOf ns)).map .int) (fun i => ⟨tRho (toldOf ns) (votesOf ns) (leastOf ns) (votesOf ns).sum (seatsOf ns) (sizeOf ns) (nmT (tnOf (toldOf ns)) i) (csT (tnOf (toldOf ns)) i), some (Own.prof Y.aPr "profile" (seatsOf ns + sizeOf ns) ((vtsAt W.w (tnOf (toldOf ns)) (fun j => (votesOf ns).getD j 0) i).map Y.vt)), []⟩) (sizeOf ns) _
    (.inr ⟨true, fun X' => Evals.range1 (.blt Y.range (fun _ h => h) rfl) (Evals.name rfl)⟩) (items_range _) (by refine ⟨?_, ?_, ?_, ?_⟩ <;> omega) (by simp [upto_len]) (by rfl) (fun i _ => by rfl) (fun i p hi hp => .inl ?_) (.inl ⟨by simp [upto_len], rfl⟩)) ?_
  · rw [List.getElem?_map] at hp
    unfold upto at hp
    rw [List.getElem?_map, List.getElem?_range hi] at hp
    cases hp
    exact tail_turn Y hr hi lT lV bSize.2 hT (fun j hj => ⟨rfl, by have := bL0 j hj; omega⟩) hNm.symm (by omega) (by omega)
  refine Execs.freeze ?_
  refine Execs.cons (Exec.assign (pv := .bool jb) (.inl ⟨true, fun X' => Evals.as (Evals.cmp (CmpSem.eqInts (xs := (votesOf ns).filter fun v => decide (2 * v < leastOf ns) && decide ((votesOf ns).sum ≤ v * (seatsOf ns : Int))) (ys := []) (by have := hr.2.2; show A.units + 3 + 64 < cLine; omega))
    (Evals.compF (ns := votesOf ns) (f := .int) (k := fun v => decide (2 * v < leastOf ns) && decide ((votesOf ns).sum ≤ v * (seatsOf ns : Int))) (CompOK.of (by rfl)) (Evals.name rfl) rfl trivial (by omega) (fun X C n hn => Tests.and2 (Tests.cmp CmpSem.lt (Evals.mul Evals.int (Evals.name rfl) (.inl (by decide))) (Evals.name rfl)) (fun _ => Tests.cmp CmpSem.ge (Evals.mul (Evals.name rfl) (Evals.name rfl) (.inr (by omega))) (Evals.name rfl))) (fun X C n hn => Evals.name rfl))
    (Evals.list EvalsL.nil (by simp))) (by rw [hjb]), rfl⟩) (by rfl) (by rfl) (by rfl)) ?_
  refine Execs.ret (Exec.ret (fr := true) fun X' => Evals.as (Evals.and2 (Evals.cmp (CmpSem.eqBool (a := b1) (b := jb)) (Evals.callK (hin _ _) Y.fCJ cJ (by omega) (.top Y.gCJ (fun _ h => h) rfl) (ArgsOK.pos (EvalsL.cons (Evals.name rfl) (EvalsL.cons (Evals.name rfl) EvalsL.nil)))) (Evals.name rfl))
    (Evals.cmp (CmpSem.eqBool (a := b2) (b := jb)) (Evals.callK (hin _ _) Y.fCE cE (by omega) (.top Y.gCE (fun _ h => h) rfl) (ArgsOK.pos (EvalsL.cons (Evals.name rfl) (EvalsL.cons (Evals.name rfl) EvalsL.nil)))) (Evals.name rfl))) ?_)
  rw [e1, e2]
  simp

theorem c_law {W : Wd} (Y : Lay21 W) (ns : List Int) (hns : ns.length ≤ 63) : Contract W Y.aLaw 12 [.list (ns.map .int)] [] [] (.bool true) :=
  law_walk Y.toLay7 ns hns fun h6 A hA st X hI ok hr => law_tail Y ns h6 A hA st X hI ok hr
end Mine

set_option maxHeartbeats 4000000
namespace Mine
open PySem PySem.Calls PyProof.Rows PyProof PySem.W

/-- the fragment, and the builtins' module -/
noncomputable def jK (P : Params) (ob : Obj) : Frag := (4, ob) :: hd.heap_39 P
def jT (b : Addr) : Prop := b = 78 ∨ b = 304 ∨ b = 434

theorem jnt0 (P : Params) : (hd.heap_39 P).all (fun p => !tab p.2) = true := by kernel_rfl
theorem jnt {P : Params} {ob : Obj} (hc : ob.cls = .type "module") : ∀ a o, (jK P ob).lookup a = some o → tab o = false := fun a o h => by
  rcases List.mem_cons.mp (mem_of_lookupK h) with e | e
  · cases e
    exact tab_of_cls hc
  · have := List.all_eq_true.mp (jnt0 P) _ e
    simpa using this

noncomputable def jW (w : World) (ob : Obj) (hc : ob.cls = .type "module") (mg mb : Str → Option Value) : Wd where
  prog := PySem.Challenge.rw_fc0089_01.row.prog
  w := w
  T := jT
  K := jK w.params ob
  mg := mg
  mb := mb
  nt := jnt hc

def restOf (fd : FuncData) : Rest := ⟨fd.kwdefaults, fd.doc, fd.pyModule, fd.annotations, fd.code, fd.closureTuple⟩
def funcAt (K : Frag) (a : Addr) : FuncData := match K.lookup a with
  | some ⟨_, _, .func fd, _⟩ => fd
  | _ => default
def funOK (K : Frag) (a : Addr) (fd : FuncData) : Prop := (K.lookup a).map (·.data) = some (.func fd) ∧ codeIn K fd.code fd.qualname = true ∧ fd.globals = mainGlobals ∧ fd.builtins = builtinsNs ∧ fd.closure = []
theorem fnk {w : World} {ob : Obj} {hc : ob.cls = .type "module"} {mg mb : Str → Option Value} {a : Addr} {fd : FuncData} (h : funOK (jK w.params ob) a fd) : FnK (jW w ob hc mg mb) a fd := by
  obtain ⟨h1, h2, h3, h4, h5⟩ := h
  refine ⟨?_, h2, h3, h4, h5⟩
  show ∃ o, (jK w.params ob).lookup a = some o ∧ o.data = .func fd
  cases e : (jK w.params ob).lookup a with
  | none => rw [e] at h1; cases h1
  | some o => rw [e] at h1; exact ⟨o, rfl, Option.some.inj h1⟩

section
variable (P : Params) (ob : Obj)

theorem k_LawAt : funOK (jK P ob) 453 (fdOf (stmtAt 24) .none (restOf (funcAt (jK P ob) 453))) := ⟨by kernel_rfl, by kernel_rfl, by kernel_rfl, by kernel_rfl, by kernel_rfl⟩
theorem k_Thr : funOK (jK P ob) 49 (fdOf (stmtAt 4) .none (restOf (funcAt (jK P ob) 49))) := ⟨by kernel_rfl, by kernel_rfl, by kernel_rfl, by kernel_rfl, by kernel_rfl⟩
theorem k_Lr : funOK (jK P ob) 55 (fdOf (stmtAt 5) (.ref 50) (restOf (funcAt (jK P ob) 55))) := ⟨by kernel_rfl, by kernel_rfl, by kernel_rfl, by kernel_rfl, by kernel_rfl⟩
theorem k_Qu : funOK (jK P ob) 74 (fdOf (stmtAt 8) (.ref 69) (restOf (funcAt (jK P ob) 74))) := ⟨by kernel_rfl, by kernel_rfl, by kernel_rfl, by kernel_rfl, by kernel_rfl⟩
theorem k_Dv : funOK (jK P ob) 61 (fdOf (stmtAt 6) (.ref 56) (restOf (funcAt (jK P ob) 61))) := ⟨by kernel_rfl, by kernel_rfl, by kernel_rfl, by kernel_rfl, by kernel_rfl⟩
theorem k_Co : funOK (jK P ob) 42 (fdOf (stmtAt 3) (.ref 35) (restOf (funcAt (jK P ob) 42))) := ⟨by kernel_rfl, by kernel_rfl, by kernel_rfl, by kernel_rfl, by kernel_rfl⟩
theorem k_Nm : funOK (jK P ob) 446 (fdOf (stmtAt 23) .none (restOf (funcAt (jK P ob) 446))) := ⟨by kernel_rfl, by kernel_rfl, by kernel_rfl, by kernel_rfl, by kernel_rfl⟩
theorem k_Law : funOK (jK P ob) 458 (fdOf (stmtAt 25) .none (restOf (funcAt (jK P ob) 458))) := ⟨by kernel_rfl, by kernel_rfl, by kernel_rfl, by kernel_rfl, by kernel_rfl⟩
theorem k_FI : funOK (jK P ob) 106 (fdM (methAt 12 0) "Fraction.__init__" (.ref 99) (restOf (funcAt (jK P ob) 106))) := ⟨by kernel_rfl, by kernel_rfl, by kernel_rfl, by kernel_rfl, by kernel_rfl⟩
theorem k_Ff : funOK (jK P ob) 120 (fdM (methAt 12 2) "Fraction.floor" .none (restOf (funcAt (jK P ob) 120))) := ⟨by kernel_rfl, by kernel_rfl, by kernel_rfl, by kernel_rfl, by kernel_rfl⟩
theorem k_Fm : funOK (jK P ob) 176 (fdM (methAt 12 10) "Fraction.__mul__" .none (restOf (funcAt (jK P ob) 176))) := ⟨by kernel_rfl, by kernel_rfl, by kernel_rfl, by kernel_rfl, by kernel_rfl⟩
theorem k_Fl : funOK (jK P ob) 218 (fdM (methAt 12 16) "Fraction.__le__" .none (restOf (funcAt (jK P ob) 218))) := ⟨by kernel_rfl, by kernel_rfl, by kernel_rfl, by kernel_rfl, by kernel_rfl⟩
theorem k_CS : funOK (jK P ob) 83 (fdOf (stmtAt 10) (.ref 76) (restOf (funcAt (jK P ob) 83))) := ⟨by kernel_rfl, by kernel_rfl, by kernel_rfl, by kernel_rfl, by kernel_rfl⟩
theorem k_VI : funOK (jK P ob) 387 (fdM (methAt 16 0) "Voter.__init__" (.ref 380) (restOf (funcAt (jK P ob) 387))) := ⟨by kernel_rfl, by kernel_rfl, by kernel_rfl, by kernel_rfl, by kernel_rfl⟩
theorem k_PI : funOK (jK P ob) 259 (fdM (methAt 15 0) "Profile.__init__" (.ref 254) (restOf (funcAt (jK P ob) 259))) := ⟨by kernel_rfl, by kernel_rfl, by kernel_rfl, by kernel_rfl, by kernel_rfl⟩
theorem k_NC : funOK (jK P ob) 266 (fdM (methAt 15 1) "Profile.num_cand" .none (restOf (funcAt (jK P ob) 266))) := ⟨by kernel_rfl, by kernel_rfl, by kernel_rfl, by kernel_rfl, by kernel_rfl⟩
theorem k_UV : funOK (jK P ob) 288 (fdM (methAt 15 4) "Profile._unique_voter" .none (restOf (funcAt (jK P ob) 288))) := ⟨by kernel_rfl, by kernel_rfl, by kernel_rfl, by kernel_rfl, by kernel_rfl⟩
theorem k_AV : funOK (jK P ob) 295 (fdM (methAt 15 5) "Profile.add_voter" .none (restOf (funcAt (jK P ob) 295))) := ⟨by kernel_rfl, by kernel_rfl, by kernel_rfl, by kernel_rfl, by kernel_rfl⟩
theorem k_To : funOK (jK P ob) 246 (fdOf (stmtAt 13) .none (restOf (funcAt (jK P ob) 246))) := ⟨by kernel_rfl, by kernel_rfl, by kernel_rfl, by kernel_rfl, by kernel_rfl⟩
theorem k_TW : funOK (jK P ob) 309 (fdM (methAt 15 7) "Profile.total_weight" .none (restOf (funcAt (jK P ob) 309))) := ⟨by kernel_rfl, by kernel_rfl, by kernel_rfl, by kernel_rfl, by kernel_rfl⟩
theorem k_It : funOK (jK P ob) 337 (fdM (methAt 15 11) "Profile.__iter__" .none (restOf (funcAt (jK P ob) 337))) := ⟨by kernel_rfl, by kernel_rfl, by kernel_rfl, by kernel_rfl, by kernel_rfl⟩
theorem k_J : funOK (jK P ob) 424 (fdOf (stmtAt 19) .none (restOf (funcAt (jK P ob) 424))) := ⟨by kernel_rfl, by kernel_rfl, by kernel_rfl, by kernel_rfl, by kernel_rfl⟩
theorem k_CJ : funOK (jK P ob) 417 (fdOf (stmtAt 18) (.ref 410) (restOf (funcAt (jK P ob) 417))) := ⟨by kernel_rfl, by kernel_rfl, by kernel_rfl, by kernel_rfl, by kernel_rfl⟩
theorem k_E : funOK (jK P ob) 439 (fdOf (stmtAt 21) .none (restOf (funcAt (jK P ob) 439))) := ⟨by kernel_rfl, by kernel_rfl, by kernel_rfl, by kernel_rfl, by kernel_rfl⟩
theorem k_GI : funOK (jK P ob) 344 (fdM (methAt 15 12) "Profile.__getitem__" .none (restOf (funcAt (jK P ob) 344))) := ⟨by kernel_rfl, by kernel_rfl, by kernel_rfl, by kernel_rfl, by kernel_rfl⟩
theorem k_CE : funOK (jK P ob) 432 (fdOf (stmtAt 20) (.ref 425) (restOf (funcAt (jK P ob) 432))) := ⟨by kernel_rfl, by kernel_rfl, by kernel_rfl, by kernel_rfl, by kernel_rfl⟩
theorem k_Fr : PlainK (jK P ob) 235 := ⟨by kernel_rfl, by kernel_rfl, by kernel_rfl, by kernel_rfl, by kernel_rfl, by kernel_rfl, by kernel_rfl, by kernel_rfl, by kernel_rfl, by kernel_rfl, by kernel_rfl, by kernel_rfl⟩
theorem k_Vo : PlainK (jK P ob) 405 := ⟨by kernel_rfl, by kernel_rfl, by kernel_rfl, by kernel_rfl, by kernel_rfl, by kernel_rfl, by kernel_rfl, by kernel_rfl, by kernel_rfl, by kernel_rfl, by kernel_rfl, by kernel_rfl⟩
theorem k_Pr : PlainK (jK P ob) 368 := ⟨by kernel_rfl, by kernel_rfl, by kernel_rfl, by kernel_rfl, by kernel_rfl, by kernel_rfl, by kernel_rfl, by kernel_rfl, by kernel_rfl, by kernel_rfl, by kernel_rfl, by kernel_rfl⟩
theorem h_Ff : Has (jK P ob) 235 "floor" 120 := ⟨by kernel_rfl, by kernel_rfl⟩
theorem h_Fm : Has (jK P ob) 235 "__mul__" 176 := ⟨by kernel_rfl, by kernel_rfl⟩
theorem h_Fl : Has (jK P ob) 235 "__le__" 218 := ⟨by kernel_rfl, by kernel_rfl⟩
theorem h_UV : Has (jK P ob) 368 "_unique_voter" 288 := ⟨by kernel_rfl, by kernel_rfl⟩
theorem h_AV : Has (jK P ob) 368 "add_voter" 295 := ⟨by kernel_rfl, by kernel_rfl⟩
theorem h_TW : Has (jK P ob) 368 "total_weight" 309 := ⟨by kernel_rfl, by kernel_rfl⟩
theorem h_It : Has (jK P ob) 368 "__iter__" 337 := ⟨by kernel_rfl, by kernel_rfl⟩
theorem h_GI : Has (jK P ob) 368 "__getitem__" 344 := ⟨by kernel_rfl, by kernel_rfl⟩
theorem h_rmul : Has (jK P ob) 235 "__rmul__" 183 := ⟨by kernel_rfl, by kernel_rfl⟩
theorem f_nuFr : FieldK (jK P ob) 235 "numerator" := ⟨⟨by kernel_rfl, by kernel_rfl, by kernel_rfl, by kernel_rfl⟩, by kernel_rfl⟩
theorem f_deFr : FieldK (jK P ob) 235 "denominator" := ⟨⟨by kernel_rfl, by kernel_rfl, by kernel_rfl, by kernel_rfl⟩, by kernel_rfl⟩
theorem f_apVo : FieldK (jK P ob) 405 "approved" := ⟨⟨by kernel_rfl, by kernel_rfl, by kernel_rfl, by kernel_rfl⟩, by kernel_rfl⟩
theorem f_weVo : FieldK (jK P ob) 405 "weight" := ⟨⟨by kernel_rfl, by kernel_rfl, by kernel_rfl, by kernel_rfl⟩, by kernel_rfl⟩
theorem f_caPr : FieldK (jK P ob) 368 "candidates" := ⟨⟨by kernel_rfl, by kernel_rfl, by kernel_rfl, by kernel_rfl⟩, by kernel_rfl⟩
theorem f_cnPr : FieldK (jK P ob) 368 "cand_names" := ⟨⟨by kernel_rfl, by kernel_rfl, by kernel_rfl, by kernel_rfl⟩, by kernel_rfl⟩
theorem f_voPr : FieldK (jK P ob) 368 "_voters" := ⟨⟨by kernel_rfl, by kernel_rfl, by kernel_rfl, by kernel_rfl⟩, by kernel_rfl⟩
end
end Mine

set_option maxHeartbeats 8000000
namespace Mine
open PySem PySem.Calls PyProof.Rows PyProof PySem.W

theorem seq_at {K : Frag} {t : Addr} {xs : Array Value} (h : (K.lookup t).map (·.data) = some (.seq xs 0)) : ∃ o n, K.lookup t = some o ∧ o.data = .seq xs n := by
  cases e : K.lookup t with
  | none => rw [e] at h; cases h
  | some o => rw [e] at h; exact ⟨o, 0, rfl, Option.some.inj h⟩

def codeOK (K : Frag) (c P : Addr) : Bool := match K.lookup c with
  | some ⟨cl, _, .fields vs, _⟩ => cl == .type "code" && (match vs.getD 11 .none with | .ref q => q == P | _ => false) && (match vs.getD 18 .none with | .str _ _ => true | _ => false) &&
      (match vs.getD 7 .none with | .int _ _ => true | _ => false) && (match vs.getD 9 .none with | .bool _ => true | _ => false) && (match vs.getD 10 .none with | .int _ _ => true | _ => false)
  | _ => false
theorem codeT_of {W : Wd} {cd : Value} {c P : Addr} (hcd : cd = .ref c) (h : codeOK W.K c P = true) (hT : W.T P) : CodeT W cd := by
  unfold codeOK at h
  split at h
  · rename_i cl dd vs sl e
    simp only [Bool.and_eq_true] at h
    obtain ⟨⟨⟨⟨⟨h1, h2⟩, h3⟩, h4⟩, h5⟩, h6⟩ := h
    split at h2
    · rename_i q e2
      have h2 := beq_iff_eq.mp h2
      subst h2
      split at h3
      · rename_i f tf e3
        split at h4
        · rename_i fl tg e4
          split at h5
          · rename_i b e5
            split at h6
            · rename_i n tt e6
              exact ⟨c, q, _, vs, f, tf, fl, tg, b, n, tt, hcd, e, beq_iff_eq.mp h1, rfl, e2, e3, e4, e5, e6, hT⟩
            · cases h6
          · cases h5
        · cases h4
      · cases h3
    · cases h2
  · cases h

def gEs (K : Frag) : Array DictEntry := match K.lookup 3 with
  | some ⟨_, _, .dict es _, _⟩ => es
  | _ => #[]

noncomputable def jY {w : World} {ob : Obj} (hc : ob.cls = .type "module") (hob : ob.dict = some builtinsNs ∧ ob.data = .plain) {mg mb : Str → Option Value} (hmg : ∀ x, mg x = nsFind (gEs (jK w.params ob)) x) (hmb : ∀ x : Str, x ≠ "__name__" → mb x = bootBuiltins x) : Lay21 (jW w ob hc mg mb) where
  sum := ⟨(hmg _).trans (by kernel_rfl), (hmb _ (by decide)).trans (by kernel_rfl)⟩
  len := ⟨(hmg _).trans (by kernel_rfl), (hmb _ (by decide)).trans (by kernel_rfl)⟩
  max := ⟨(hmg _).trans (by kernel_rfl), (hmb _ (by decide)).trans (by kernel_rfl)⟩
  sorted := ⟨(hmg _).trans (by kernel_rfl), (hmb _ (by decide)).trans (by kernel_rfl)⟩
  range := ⟨(hmg _).trans (by kernel_rfl), (hmb _ (by decide)).trans (by kernel_rfl)⟩
  int := ⟨(hmg _).trans (by kernel_rfl), (hmb _ (by decide)).trans (by kernel_rfl)⟩
  isi := ⟨(hmg _).trans (by kernel_rfl), (hmb _ (by decide)).trans (by kernel_rfl)⟩
  set := ⟨(hmg _).trans (by kernel_rfl), (hmb _ (by decide)).trans (by kernel_rfl)⟩
  all := ⟨(hmg _).trans (by kernel_rfl), (hmb _ (by decide)).trans (by kernel_rfl)⟩
  any := ⟨(hmg _).trans (by kernel_rfl), (hmb _ (by decide)).trans (by kernel_rfl)⟩
  list := ⟨(hmg _).trans (by kernel_rfl), (hmb _ (by decide)).trans (by kernel_rfl)⟩
  str := ⟨(hmg _).trans (by kernel_rfl), (hmb _ (by decide)).trans (by kernel_rfl)⟩
  enumerate := ⟨(hmg _).trans (by kernel_rfl), (hmb _ (by decide)).trans (by kernel_rfl)⟩
  aLawAt := 453
  rLawAt := restOf (funcAt (jK w.params ob) 453)
  fLawAt := fnk (k_LawAt w.params ob)
  gLawAt := (hmg _).trans (by kernel_rfl)
  aThr := 49
  rThr := restOf (funcAt (jK w.params ob) 49)
  fThr := fnk (k_Thr w.params ob)
  gThr := (hmg _).trans (by kernel_rfl)
  aLr := 55
  rLr := restOf (funcAt (jK w.params ob) 55)
  fLr := fnk (k_Lr w.params ob)
  gLr := (hmg _).trans (by kernel_rfl)
  tLr := 50
  aQu := 74
  rQu := restOf (funcAt (jK w.params ob) 74)
  fQu := fnk (k_Qu w.params ob)
  gQu := (hmg _).trans (by kernel_rfl)
  tQu := 69
  aDv := 61
  rDv := restOf (funcAt (jK w.params ob) 61)
  fDv := fnk (k_Dv w.params ob)
  gDv := (hmg _).trans (by kernel_rfl)
  tDv := 56
  aCo := 42
  rCo := restOf (funcAt (jK w.params ob) 42)
  fCo := fnk (k_Co w.params ob)
  gCo := (hmg _).trans (by kernel_rfl)
  tCo := 35
  aNm := 446
  rNm := restOf (funcAt (jK w.params ob) 446)
  fNm := fnk (k_Nm w.params ob)
  gNm := (hmg _).trans (by kernel_rfl)
  aLaw := 458
  rLaw := restOf (funcAt (jK w.params ob) 458)
  fLaw := fnk (k_Law w.params ob)
  aFI := 106
  rFI := restOf (funcAt (jK w.params ob) 106)
  fFI := fnk (k_FI w.params ob)
  tFI := 99
  aFf := 120
  rFf := restOf (funcAt (jK w.params ob) 120)
  fFf := fnk (k_Ff w.params ob)
  hFf := h_Ff w.params ob
  aFm := 176
  rFm := restOf (funcAt (jK w.params ob) 176)
  fFm := fnk (k_Fm w.params ob)
  hFm := h_Fm w.params ob
  aFl := 218
  rFl := restOf (funcAt (jK w.params ob) 218)
  fFl := fnk (k_Fl w.params ob)
  hFl := h_Fl w.params ob
  aCS := 83
  rCS := restOf (funcAt (jK w.params ob) 83)
  fCS := fnk (k_CS w.params ob)
  gCS := (hmg _).trans (by kernel_rfl)
  tCS := 76
  aVI := 387
  rVI := restOf (funcAt (jK w.params ob) 387)
  fVI := fnk (k_VI w.params ob)
  tVI := 380
  aPI := 259
  rPI := restOf (funcAt (jK w.params ob) 259)
  fPI := fnk (k_PI w.params ob)
  tPI := 254
  aNC := 266
  rNC := restOf (funcAt (jK w.params ob) 266)
  fNC := fnk (k_NC w.params ob)
  aUV := 288
  rUV := restOf (funcAt (jK w.params ob) 288)
  fUV := fnk (k_UV w.params ob)
  hUV := h_UV w.params ob
  aAV := 295
  rAV := restOf (funcAt (jK w.params ob) 295)
  fAV := fnk (k_AV w.params ob)
  hAV := h_AV w.params ob
  aTo := 246
  rTo := restOf (funcAt (jK w.params ob) 246)
  fTo := fnk (k_To w.params ob)
  gTo := (hmg _).trans (by kernel_rfl)
  aTW := 309
  rTW := restOf (funcAt (jK w.params ob) 309)
  fTW := fnk (k_TW w.params ob)
  hTW := h_TW w.params ob
  aIt := 337
  rIt := restOf (funcAt (jK w.params ob) 337)
  fIt := fnk (k_It w.params ob)
  hIt := h_It w.params ob
  aJ := 424
  rJ := restOf (funcAt (jK w.params ob) 424)
  fJ := fnk (k_J w.params ob)
  gJ := (hmg _).trans (by kernel_rfl)
  aCJ := 417
  rCJ := restOf (funcAt (jK w.params ob) 417)
  fCJ := fnk (k_CJ w.params ob)
  gCJ := (hmg _).trans (by kernel_rfl)
  tCJ := 410
  aE := 439
  rE := restOf (funcAt (jK w.params ob) 439)
  fE := fnk (k_E w.params ob)
  gE := (hmg _).trans (by kernel_rfl)
  aGI := 344
  rGI := restOf (funcAt (jK w.params ob) 344)
  fGI := fnk (k_GI w.params ob)
  hGI := h_GI w.params ob
  aCE := 432
  rCE := restOf (funcAt (jK w.params ob) 432)
  fCE := fnk (k_CE w.params ob)
  gCE := (hmg _).trans (by kernel_rfl)
  tCE := 425
  dLr := seq_at (by kernel_rfl)
  dQu := seq_at (by kernel_rfl)
  dDv := seq_at (by kernel_rfl)
  dCo := seq_at (by kernel_rfl)
  dPI := seq_at (by kernel_rfl)
  dCJ := seq_at (by kernel_rfl)
  dCE := seq_at (by kernel_rfl)
  dFI := (by obtain ⟨o, n, h1, h2⟩ := seq_at (K := jK w.params ob) (t := 99) (xs := #[.int 0 306, .int 1 307]) (by kernel_rfl); exact ⟨o, n, _, _, h1, h2⟩)
  dVI := (by obtain ⟨o, n, h1, h2⟩ := seq_at (K := jK w.params ob) (t := 380) (xs := #[.int 1 637, .none]) (by kernel_rfl); exact ⟨o, n, _, h1, h2⟩)
  dCS := (by obtain ⟨o, n, h1, h2⟩ := seq_at (K := jK w.params ob) (t := 76) (xs := #[.ref 75, .none]) (by kernel_rfl); exact ⟨o, n, _, h1, h2⟩)
  aFr := 235
  gFr := (hmg _).trans (by kernel_rfl)
  pFr := k_Fr w.params ob
  aVo := 405
  gVo := (hmg _).trans (by kernel_rfl)
  pVo := k_Vo w.params ob
  aPr := 368
  gPr := (hmg _).trans (by kernel_rfl)
  pPr := k_Pr w.params ob
  mFr := ⟨by kernel_rfl, by kernel_rfl, by kernel_rfl, by kernel_rfl⟩
  mVo := ⟨by kernel_rfl, by kernel_rfl, by kernel_rfl, by kernel_rfl⟩
  mPr := ⟨by kernel_rfl, by kernel_rfl, by kernel_rfl, by kernel_rfl⟩
  nuFr := f_nuFr w.params ob
  deFr := f_deFr w.params ob
  apVo := f_apVo w.params ob
  weVo := f_weVo w.params ob
  caPr := f_caPr w.params ob
  cnPr := f_cnPr w.params ob
  voPr := f_voPr w.params ob
  aFr' := 183
  hFr' := h_rmul w.params ob
  sFr := by kernel_rfl
  blt := ⟨4, ob, (hmg _).trans (by kernel_rfl), by decide, rfl, hc, hob.1, hob.2⟩
  cCS := codeT_of (c := 82) (P := 78) (by kernel_rfl) (by kernel_rfl) (.inl rfl)
  cTW := codeT_of (c := 308) (P := 304) (by kernel_rfl) (by kernel_rfl) (.inr (.inl rfl))
  cE := codeT_of (c := 438) (P := 434) (by kernel_rfl) (by kernel_rfl) (.inr (.inr rfl))
  pNC := 267
  qNC := ((recIn (jK w.params ob) 267 "property").getD []).tail
  h1NC := by kernel_rfl
  h2NC := by kernel_rfl
  h3NC := by kernel_rfl
  h4NC := by kernel_rfl
  nGI := by kernel_rfl
end Mine

set_option maxHeartbeats 8000000
namespace Mine
open PySem PySem.Calls PyProof.Rows PyProof PySem.W

theorem oldK_of {T : Addr → Prop} {s s' : Shared} (k : K0 T s s') (hT : ∀ b, T b → isCodeTable s.heap b) : OldK s.heap s'.heap where
  old := fun b o e => by
    cases ht : tab o with
    | false => exact .inl (k.get e ht)
    | true =>
      rcases k.tabs b o e ht with h | ⟨hb, vs, more, rfl, h, _⟩
      · exact .inl h
      · exact .inr (.inl ⟨hT b hb, rfl, vs, more, rfl, h⟩)
  there := fun b o e => Option.isSome_iff_exists.mp (k.live b (by rw [e]; rfl))

theorem law_ends {w : World} {s₁ : Shared} {mg mb : Str → Option Value} {a : Addr} {vs : List Value} {ns : List Int} {E : Value → Shared → Prop} {Q : Value → Shared → Prop} (KX : (hd.heap_39 w.params).In s₁.heap) (KT : ∀ P ∈ [(78 : Addr), 304, 434], s₁.heap.get? P = some (tabObj #[]))
    (hg : s₁.heap.Ns mainGlobals mg) (hb : s₁.heap.Ns builtinsNs mb) (hl : s₁.heap.NoLimit) (hm : ∃ bm ob, mg "__builtins__" = some (.ref bm) ∧ bm ≠ builtinsNs ∧ s₁.heap.get? bm = some ob ∧ ob.cls = .type "module" ∧ ob.dict = some builtinsNs ∧ ob.data = .plain)
    (hbt : ∀ x : Str, x ≠ "__name__" → mb x = bootBuiltins x) (hv : s₁.heap.IsList a vs.toArray) (hi : IntsAre vs ns) (hn : ns.length ≤ 63) (hgen : s₁.gens = #[])
    (hQ : ∀ s', OldK s₁.heap s'.heap → s'.os = s₁.os → AllBare s'.gens → Q (.bool true) s') : wpAny (model PySem.Challenge.rw_fc0089_01.row.prog w) callerA (call (.ref 458) [.ref a]) Q E s₁ := by
  obtain ⟨bm, ob, hbm, hne, hob, hc, hd1, hd2⟩ := hm
  -- what the globals are
  have hmg : ∀ ob', ∀ x, mg x = nsFind (gEs (jK w.params ob')) x := fun ob' x => by
    obtain ⟨o, es, ep, ho, hdd, _, hf⟩ := hg
    have e3 : (hd.heap_39 w.params).lookup 3 = some ⟨.type "dict", none, .dict (gEs (jK w.params ob')) 30, #[]⟩ := by kernel_rfl
    have := KX 3 _ e3
    rw [show s₁.heap.get? 3 = some o from ho] at this
    cases this
    cases hdd
    exact (hf x).symm
  have hb4 : bm = 4 := by
    have := hmg ob "__builtins__"
    rw [hbm] at this
    have e4 : nsFind (gEs (jK w.params ob)) "__builtins__" = some (.ref 4) := by kernel_rfl
    rw [e4] at this
    cases this
    rfl
  subst hb4
  have KI : (jK w.params ob).In s₁.heap := fun b o e => by
    rcases List.mem_cons.mp (mem_of_lookupK e) with q | q
    · cases q; exact hob
    · by_cases hb : b = 4
      · subst hb
        have : (jK w.params ob).lookup 4 = some ob := rfl
        rw [this] at e; cases e; exact hob
      · refine KX b o ?_
        unfold jK at e
        rw [List.lookup_cons] at e
        have : (b == 4) = false := by simpa using hb
        rw [this] at e
        exact e
  have hI : (jW w ob hc mg mb).I s₁.heap := ⟨KI, hg, hb, hl, fun P hP => ⟨#[], KT P (by
    rcases hP with rfl | rfl | rfl <;> simp), trivial⟩⟩
  have C : Contract (jW w ob hc mg mb) 458 12 [.list (ns.map .int)] [] [] (.bool true) := c_law (jY hc ⟨hd1, hd2⟩ (hmg ob) hbt) ns hn
  have hargs : VRs s₁.heap (fun _ => True) [.list (ns.map .int)] [.ref a] := .cons (VR.of_list trivial hv (VRs.of_ints hi)) .nil
  have hroom : Room callerA 12 := ⟨rfl, by decide +kernel, by decide +kernel⟩
  refine wpAny_mono (C callerA E (fun _ => True) s₁ [.ref a] [] hroom hI hargs .nil) (fun v s' h => ?_) fun _ _ e => e
  obtain ⟨k, hv⟩ := h
  cases hv
  have tabs : ∀ c P : Addr, codeOK (jK w.params ob) c P = true → P ∈ [(78 : Addr), 304, 434] → isCodeTable s₁.heap P := fun c P h hP => by
    unfold codeOK at h
    split at h
    · rename_i cl dd vs' sl e
      simp only [Bool.and_eq_true] at h
      obtain ⟨⟨⟨⟨⟨h1, h2⟩, _⟩, _⟩, _⟩, _⟩ := h
      split at h2
      · rename_i q e2
        have h2 := beq_iff_eq.mp h2
        subst h2
        refine Heap.TableAt.isCodeTable (c := c) (ps := #[]) ⟨⟨_, vs', KI _ _ e, beq_iff_eq.mp h1, rfl, ?_⟩, KT _ hP⟩
        rw [Array.getD_eq_getD_getElem?] at e2
        cases q11 : vs'[11]? with
        | none => rw [q11] at e2; cases e2
        | some v => rw [q11] at e2; exact congrArg _ e2
      · cases h2
    · cases h
  refine hQ s' (oldK_of k fun b hb => ?_) k.os (k.bare (by rw [hgen]; exact AllBare.empty))
  rcases hb with rfl | rfl | rfl
  · exact tabs 82 78 (by kernel_rfl) (by simp)
  · exact tabs 308 304 (by kernel_rfl) (by simp)
  · exact tabs 438 434 (by kernel_rfl) (by simp)

theorem law_is {w : World} {h : Heap} {mg : Str → Option Value} {fa : Addr} (KX : (hd.heap_39 w.params).In h) (hg : h.Ns mainGlobals mg) (hm : mg "law" = some (.ref fa)) : fa = 458 := by
  obtain ⟨o, es, ep, ho, hdd, _, hf⟩ := hg
  have e3 : (hd.heap_39 w.params).lookup 3 = some ⟨.type "dict", none, .dict (gEs (hd.heap_39 w.params)) 30, #[]⟩ := by kernel_rfl
  have := KX 3 _ e3
  rw [show h.get? 3 = some o from ho] at this
  cases this
  cases hdd
  have e := hf "law"
  rw [hm] at e
  have e4 : nsFind (gEs (hd.heap_39 w.params)) "law" = some (.ref 458) := by kernel_rfl
  rw [e4] at e
  cases e
  rfl
end Mine

set_option maxHeartbeats 8000000
open PySem PySem.W PyProof.Rows

theorem PySem.Challenge.cw_fc0089_01_holds : PySem.Challenge.rw_fc0089_01.Holds := by
  refine Mine.hd ?_
  k_fill
  intro w s0 s1 mg mb G Y fa o pm cd doc dV kV ho hd hcd hD hmg hg args vals as hpre hlay hrd hwl hlo
  have KX := km_in_of Y
  have KT := km_tabs_of Y
  refine Ground.open G ?_
  intro T B D TE TW
  have hfa := Mine.law_is KX T.g hmg
  subst hfa
  clear ho hd hcd hD hmg
  wrow_args hpre hlay hrd hwl hlo
  refine Mine.law_ends KX KT T.g T.b T.nolimit T.bmain T.builtins (by assumption) (by assumption) (by omega) hg fun s' hK hos hb => ?_
  exact ⟨.inl ⟨_, _, [], rfl, fun _ => rfl, ReadsW.bool true, (by first | rfl | wrow_post), fun _ => ⟨List.nodup_nil, fun _ hm => (nomatch hm)⟩⟩, hK, hos, hb⟩
