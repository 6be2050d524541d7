import PyProof.Rows.All
import Wide.All
import OpenK.AllK
import Wide.FinOn
import PySem.Challenge.RW_oc0053_01
set_option Elab.async false
set_option rowWalk.seconds 0
namespace Mine
section
open PySem PySem.W PyProof.Rows PySem.Calls PySem.Spec
local macro_rules | `(tactic| walk_at "m_look") => `(tactic| (repeat' (first | rfl | assumption | (refine Eq.trans (if_neg (by decide)) ?_) | (refine Eq.trans (if_pos rfl) ?_))))
local macro_rules | `(tactic| walk_at "f_mem") => `(tactic| repeat' (first | exact List.Mem.head _ | apply List.Mem.tail))
local macro_rules | `(tactic| walk_at "go") => `(tactic| repeat' (first | walk1 | (dsimp only; walk1)))
section
open PySem PySem.W PyProof.Rows PySem.Calls PySem.Spec
set_option maxRecDepth 100000

abbrev P0 : Program := PySem.Challenge.pw_oc0053_01
def stAt (i : Nat) : Stmt := P0.main.body.getD i default
def dName : Stmt → Str | .FunctionDef n .. => n | _ => default
def dParams : Stmt → Arguments | .FunctionDef _ a .. => a | _ => default
def dBody : Stmt → List Stmt | .FunctionDef _ _ b .. => b | _ => []
def dScope : Stmt → Scope | .FunctionDef _ _ _ _ _ _ sc .. => sc | _ => default

/-- a plain def stands at an address -/
def FnAt (h : Heap) (a : Addr) (st : Stmt) : Prop :=
  ∃ o pm c doc, h.get? a = some o ∧ o.data = .func (docDef (dName st) (dParams st) (dBody st) (dScope st) pm (.ref c) doc) ∧ h.CodeRec (.ref c) (dName st)
theorem FnAt.keeps {h h' : Heap} {a : Addr} {st : Stmt} (x : FnAt h a st) (k : ∀ b o, h.get? b = some o → h'.get? b = some o) : FnAt h' a st :=
  let ⟨o, pm, c, doc, e, d, r⟩ := x; ⟨o, pm, c, doc, k _ _ e, d, r.keeps k⟩

def fnList : List (Str × Nat × Nat) := [("_iter_escaped_chars", 21, 1), ("_strip_quoted_realnames", 28, 2), ("_check_parenthesis", 35, 3), ("unorderable_list_difference", 58, 9), ("three_way_cmp", 65, 10),
  ("_law_piece", 70, 12), ("_law_form", 77, 13), ("_law_melted", 84, 14), ("_law_key", 91, 15), ("_law_turned", 96, 16), ("_law_orders", 101, 17), ("_law_closed", 108, 18), ("_law_text", 113, 19)]
def noneList : List Str := ["enumerate", "len", "range", "sum", "max", "sorted", "list", "iter", "next", "ValueError", "StopIteration", "TypeError", "object"]
structure TopF (mg mb : Str → Option Value) (h : Heap) : Prop where
  g : h.Ns mainGlobals mg
  b : h.Ns builtinsNs mb
  nolimit : h.NoLimit
  builtins : ∀ x : Str, x ≠ "__name__" → mb x = bootBuiltins x
  none_ : ∀ x ∈ noneList, mg x = none
  fns : ∀ p ∈ fnList, mg p.1 = some (.ref p.2.1) ∧ FnAt h p.2.1 (stAt p.2.2)

theorem TopF.keeps {mg mb : Str → Option Value} {h h' : Heap} (T : TopF mg mb h) (k : ∀ b o, h.get? b = some o → h'.get? b = some o) : TopF mg mb h' where
  g := T.g.keeps k
  b := T.b.keeps k
  nolimit := T.nolimit.keeps k
  builtins := T.builtins
  none_ := T.none_
  fns := fun p hp => ⟨(T.fns p hp).1, (T.fns p hp).2.keeps k⟩
theorem TopF.fn {mg mb : Str → Option Value} {h : Heap} (T : TopF mg mb h) (x : Str) (a i : Nat) (hp : (x, a, i) ∈ fnList := by decide) : FnAt h a (stAt i) := (T.fns _ hp).2

/-- a bound on the stack around -/
abbrev AL (k : Nat) : Around := { handled := none, depth := k, frames := none, guards := none, units := 8 * k }
theorem AL.of {α : Type} {M : Model} {A : Around} {t : Sem α} {Q : α → Shared → Prop} {E : Value → Shared → Prop} {s : Shared} (k : Nat) (hh : A.handled = none) (hd : A.depth ≤ k) (hu : A.units ≤ 8 * k)
    (h : wpAny M (AL k) t Q E s) : wpAny M A t Q E s :=
  fun Γ p hΓ => h Γ p ⟨hΓ.1.trans hh, Nat.le_trans hΓ.2.1 hd, fun _ e => (nomatch e), fun _ e => (nomatch e), Nat.le_trans hΓ.2.2.2.2 hu⟩

/-- what a call of pure code leaves -/
structure Ext (s s' : Shared) : Prop where
  keep : ∀ b o, s.heap.get? b = some o → s'.heap.get? b = some o
  gens : ∀ (i : Nat) (x : GenState), s.gens[i]? = some x → s'.gens[i]? = some x
  bare : (∀ x ∈ s.gens, x.bare = true) → ∀ x ∈ s'.gens, x.bare = true
  os : s'.os = s.os
theorem Ext.refl (s : Shared) : Ext s s := ⟨fun _ _ e => e, fun _ _ e => e, fun h => h, rfl⟩
theorem Ext.trans {s s' s'' : Shared} (x : Ext s s') (y : Ext s' s'') : Ext s s'' :=
  ⟨fun b o e => y.keep b o (x.keep b o e), fun i g e => y.gens i g (x.gens i g e), fun h => y.bare (x.bare h), y.os.trans x.os⟩
theorem Ext.heap {s : Shared} {h : Heap} {t : Nat} (k : ∀ b o, s.heap.get? b = some o → h.get? b = some o) : Ext s { s with heap := h, toks := t } :=
  ⟨k, fun _ _ e => e, fun h => h, rfl⟩

section
variable {w : World} {k : Nat} {E : Value → Shared → Prop} {s : Shared} {mg mb : Str → Option Value}

/-- a call of a plain def without cells -/
theorem call_fn {a : Addr} {st : Stmt} {vals : List Value} {binds : List (Str × Value)} {Q : Value → Shared → Prop} (F : FnAt s.heap a st) (T : TopF mg mb s.heap)
    (hb : ∀ pm c doc, bindArgs (docDef (dName st) (dParams st) (dBody st) (dScope st) pm c doc) ⟨vals, []⟩ = pure binds)
    (hloc : ∀ x ∈ binds, (dScope st).names.lookup x.1 = some .local)
    (h : ∀ c h₁, Fr s.heap s.heap.objs.size h₁ (fun x => binds.reverse.lookup x) →
      wpAny (model P0 w) ((AL k).deeper (envOf (dName st) (dScope st) s.heap.objs.size a (.ref c))) (execs (dBody st) (envOf (dName st) (dScope st) s.heap.objs.size a (.ref c)))
        (fun f s' => Q (match f with | .ret v => v | _ => .none) s') (fun _ _ => False) { s with heap := h₁, toks := s.toks + binds.length })
    (hr : k < recursionLimit := by decide) (hco : (dScope st).isCoroutine = false := by rfl) (hgen : (dScope st).isGenerator = false := by rfl) (hk : (dScope st).kind = .function := by rfl)
    (hcell : ∀ x ∈ (dScope st).names, x.2 ≠ .cell := by decide) :
    wpAny (model P0 w) (AL k) (call (.ref a) vals) Q E s := by
  obtain ⟨o, pm, c, doc, ho, hd, hc⟩ := F
  refine wpAny_call (call_plain_ret hr ho hd T.nolimit hc (hb pm _ doc) hloc (fun h₁ F₁ => ?_) hco hgen hk hcell)
  exact h c h₁ F₁

/-- a call of a plain def with cells -/
theorem call_fnC {a : Addr} {st : Stmt} {vals : List Value} {binds : List (Str × Value)} {Q : Value → Shared → Prop} (F : FnAt s.heap a st) (T : TopF mg mb s.heap)
    (hb : ∀ pm c doc, bindArgs (docDef (dName st) (dParams st) (dBody st) (dScope st) pm c doc) ⟨vals, []⟩ = pure binds)
    (hkind : ∀ x ∈ binds, (dScope st).names.lookup x.1 = some .local ∨ ((dScope st).names.lookup x.1 = some .cell ∧ ((cellsFrom (s.heap.objs.size + 1) (dScope st).names []).lookup x.1).isSome = true))
    (h : ∀ c h₁ tk, Fr s.heap s.heap.objs.size h₁ (bindL (envOfC (dName st) (dScope st) s.heap.objs.size a (.ref c)).kindOf binds fun _ => none) →
      Cl s.heap.objs.size (cellsFrom (s.heap.objs.size + 1) (dScope st).names []) h₁ (bindC (envOfC (dName st) (dScope st) s.heap.objs.size a (.ref c)).kindOf binds fun _ => none) →
      wpAny (model P0 w) ((AL k).deeper (envOfC (dName st) (dScope st) s.heap.objs.size a (.ref c))) (execs (dBody st) (envOfC (dName st) (dScope st) s.heap.objs.size a (.ref c)))
        (fun f s' => Q (match f with | .ret v => v | _ => .none) s') (fun _ _ => False) { s with heap := h₁, toks := tk })
    (hr : k < recursionLimit := by decide) (hco : (dScope st).isCoroutine = false := by rfl) (hgen : (dScope st).isGenerator = false := by rfl) (hk : (dScope st).kind = .function := by rfl) :
    wpAny (model P0 w) (AL k) (call (.ref a) vals) Q E s := by
  obtain ⟨o, pm, c, doc, ho, hd, hc⟩ := F
  refine wpAny_call (call_cells_ret hr ho hd T.nolimit hc (hb pm _ doc) hkind (fun h₁ tk F₁ X₁ => ?_) hco hgen hk)
  exact h c h₁ tk F₁ X₁

theorem nm_cell {env : Env} {x : Str} {pos : Pos} {c : Addr} {v : Value} {Q : Value → Shared → Prop} {A : Around} (hv : s.heap.IsCell c (some v)) (hc : env.cells.lookup x = some c) (h : Q v s)
    (hk : env.scope.kind = .function := by rfl) (hx : env.kindOf x = some .cell := by rfl) (hd : (x == ("__debug__" : Str)) = false := by decide) : wpAny (model P0 w) A (eval (.Name x pos) env) Q E s :=
  wpAny_Name (wpAny_loadName_cell hk hx hc hv h) hd
/-- a global name in a function's block -/
theorem nm_bi {env : Env} {x : Str} {pos : Pos} {v : Value} {Q : Value → Shared → Prop} {A : Around} (T : TopF mg mb s.heap) (hm : x ∈ noneList) (hv : bootBuiltins x = some v) (h : Q v s)
    (hk : env.scope.kind = .function := by rfl) (hx : env.kindOf x = some .globalImplicit := by rfl) (hg : env.globals = mainGlobals := by rfl) (hb : env.builtins = builtinsNs := by rfl)
    (hn : x ≠ "__name__" := by decide) (hd : (x == ("__debug__" : Str)) = false := by decide) : wpAny (model P0 w) A (eval (.Name x pos) env) Q E s :=
  Name_function_global hk hx (loadGlobal_builtin (hg ▸ T.g) (T.none_ x hm) (hb ▸ T.b) ((T.builtins x hn).trans hv) h) hd
theorem nm_loc {env : Env} {x : Str} {pos : Pos} {v : Value} {m : Str → Option Value} {Q : Value → Shared → Prop} {A : Around} (hn : s.heap.Ns env.locals m) (hv : m x = some v) (h : Q v s)
    (hk : env.scope.kind = .function := by rfl) (hx : env.kindOf x = some .local := by rfl) (hd : (x == ("__debug__" : Str)) = false := by decide) : wpAny (model P0 w) A (eval (.Name x pos) env) Q E s :=
  wpAny_Name (wpAny_loadName_local hk hx hn hv h) hd
theorem nm_fn {env : Env} {x : Str} {pos : Pos} {a i : Nat} {Q : Value → Shared → Prop} {A : Around} (T : TopF mg mb s.heap) (hp : (x, a, i) ∈ fnList) (h : Q (.ref a) s)
    (hk : env.scope.kind = .function := by rfl) (hx : env.kindOf x = some .globalImplicit := by rfl) (hg : env.globals = mainGlobals := by rfl)
    (hd : (x == ("__debug__" : Str)) = false := by decide) : wpAny (model P0 w) A (eval (.Name x pos) env) Q E s :=
  Name_function_global hk hx (loadGlobal_global (hg ▸ T.g) (T.fns _ hp).1 h) hd
end
end
section
open PySem PySem.W PyProof.Rows PySem.Calls PySem.Spec
local macro_rules | `(tactic| walk_at "nm_l") => `(tactic| first | refine ld (by assumption) (by walk_at "m_look") ?_ | refine nm_loc (by assumption) (by walk_at "m_look") ?_)
local macro_rules | `(tactic| walk_at "nm_b") => `(tactic| first | refine nm_bi (by assumption) (by decide) (by boot_by_name) ?_ | refine nm_fn (by assumption) (by walk_at "f_mem") ?_)
local macro_rules | `(tactic| walk_at "nm_t") => `(tactic| first
  | refine nm_bi (TopF.keeps (by assumption) (Fr.keep (by assumption))) (by decide) (by boot_by_name) ?_
  | refine nm_fn (TopF.keeps (by assumption) (Fr.keep (by assumption))) (by walk_at "f_mem") ?_
  | walk_at "nm_b")
local macro_rules | `(tactic| walk_at "eval Name") => `(tactic| first | walk_at "nm_l" | refine nm_cell (by assumption) rfl ?_ | walk_at "nm_t")
section
open PySem PySem.W PyProof.Rows PySem.Calls PySem.Spec
set_option maxRecDepth 100000

/-- where a walk ends -/
def Here (P : Prop) : Prop := P
theorem Here.mk {P : Prop} (h : P) : Here P := h

structure GExt (s s' : Shared) : Prop where
  gens : ∀ (i : Nat) (x : GenState), s.gens[i]? = some x → s'.gens[i]? = some x
  bare : (∀ x ∈ s.gens, x.bare = true) → ∀ x ∈ s'.gens, x.bare = true
  os : s'.os = s.os
theorem GExt.refl (s : Shared) : GExt s s := ⟨fun _ _ e => e, fun h => h, rfl⟩
theorem GExt.same {s : Shared} {h : Heap} {t : Nat} : GExt s { s with heap := h, toks := t } := ⟨fun _ _ e => e, fun h => h, rfl⟩
theorem GExt.trans {s s' s'' : Shared} (x : GExt s s') (y : GExt s' s'') : GExt s s'' :=
  ⟨fun i g e => y.gens i g (x.gens i g e), fun h => y.bare (x.bare h), y.os.trans x.os⟩
theorem GExt.ext {s s' : Shared} (g : GExt s s') (k : ∀ b o, s.heap.get? b = some o → s'.heap.get? b = some o) : Ext s s' := ⟨k, g.gens, g.bare, g.os⟩
theorem Ext.g {s s' : Shared} (x : Ext s s') : GExt s s' := ⟨x.gens, x.bare, x.os⟩

theorem isList_keeps {h h' : Heap} {a : Addr} {items : Array Value} (x : h.IsList a items) (k : ∀ b o, h.get? b = some o → h'.get? b = some o) : h'.IsList a items := let ⟨o, e, r⟩ := x; ⟨o, k _ _ e, r⟩
theorem isList_keeps' {h h' : Heap} {a : Addr} {items : Array Value} (x : h.IsList a items) (k : ∀ o, h.get? a = some o → h'.get? a = some o) : h'.IsList a items := let ⟨o, e, r⟩ := x; ⟨o, k _ e, r⟩
theorem news_some {h₀ h : Heap} {L : Addr} {l l' : List (Addr × Obj)} (N : News h₀ L h l) (hs : ∀ p ∈ l', p ∈ l) : News h₀ L h l' := fun p hp => N p (hs p hp)
theorem fr_sameBut {h₀ h h' : Heap} {L it : Addr} {m : Str → Option Value} (F : Fr h₀ L h m) (hL : L ≠ it) (hz : h₀.get? it = none) (hs : Heap.SameBut it h h') : Fr h₀ L h' m :=
  ⟨F.ns.sameBut hs hL, fun b o e => (hs.2 b (fun q => by subst q; rw [hz] at e; cases e)).trans (F.keep b o e), F.above⟩
theorem fr_extBut {h₀ h h' : Heap} {L it : Addr} {m : Str → Option Value} (F : Fr h₀ L h m) (hL : L ≠ it) (hz : h₀.get? it = none) (hs : Heap.ExtBut it h h') : Fr h₀ L h' m :=
  ⟨F.ns.at' fun o e => hs L o hL e, fun b o e => hs b o (fun q => by subst q; rw [hz] at e; cases e) (F.keep b o e), F.above⟩
theorem get_size_none (h : Heap) : h.get? h.objs.size = none := by
  cases e : h.get? h.objs.size with
  | none => rfl
  | some o => exact absurd (Heap.lt_size e) (Nat.lt_irrefl _)
theorem get_none_of_ge {h : Heap} {a : Addr} (hz : h.objs.size ≤ a) : h.get? a = none := by
  cases e : h.get? a with
  | none => rfl
  | some o => exact absurd (Heap.lt_size e) (Nat.not_lt.mpr hz)

theorem paired_mono {α β : Type} {R S : α → β → Prop} (h : ∀ a b, R a b → S a b) {l₁ : List α} {l₂ : List β} (x : Paired R l₁ l₂) : Paired S l₁ l₂ := by
  induction x with
  | nil => exact .nil
  | cons h₁ _ ih => exact .cons (h _ _ h₁) ih
/-- after a turn of a loop over a list -/
inductive Turned (h₀ : Heap) (L it : Addr) (o : Obj) (K : (Str → Option Value) → Prop) (s s₃ : Shared) : Prop
  | mk (m : Str → Option Value) (F : Fr h₀ L s₃.heap m) (N : News h₀ L s₃.heap [(it, o)]) (hK : K m) (g : GExt s s₃) : Turned h₀ L it o K s s₃
/-- ahead of a turn -/
inductive AtTurn (h₀ : Heap) (L it l : Addr) (len : Nat) (K : Nat → (Str → Option Value) → Prop) (s : Shared) (n : Nat) (s' : Shared) : Prop
  | mk (i : Nat) (m : Str → Option Value) (hi : i ≤ len) (hn : n = len + 1 - i) (F : Fr h₀ L s'.heap m) (hI : s'.heap.IsListIter it l i) (hK : K i m) (g : GExt s s') : AtTurn h₀ L it l len K s n s'
section
variable {w : World} {A : Around} {E : Value → Shared → Prop} {s : Shared} {name : Str} {scope : Scope} {L a : Addr} {cd : Value}

theorem for_list {h₀ : Heap} {m : Str → Option Value} {x : Str} {px pos : Pos} {iter : Expr} {body : List Stmt} {l : Addr} {vs : List Value} (K : Nat → (Str → Option Value) → Prop) {Q : Flow → Shared → Prop}
    (hh : A.handled = none) (hk : scope.kind = .function) (hx : (envOf name scope L a cd).kindOf x = some .local)
    (F : Fr h₀ L s.heap m) (hl : h₀.IsList l vs.toArray) (h0 : K 0 m)
    (hiter : ∀ Q' : Value → Shared → Prop, Q' (.ref l) s → wpAny (model P0 w) A (eval iter (envOf name scope L a cd)) Q' E s)
    (turn : ∀ i v s' m' it o, vs[i]? = some v → Fr h₀ L s'.heap (fun y => if y = x then some v else m' y) → News h₀ L s'.heap [(it, o)] → K i m' → GExt s s' →
      wpAny (model P0 w) A (execs body (envOf name scope L a cd)) (fun f s₃ => match f with
        | .next | .cont => Here (Turned h₀ L it o (K (i + 1)) s s₃)
        | .brk => False
        | .ret v => Here (Q (.ret v) s₃)) (fun _ _ => False) s')
    (done : ∀ s' m', Fr h₀ L s'.heap m' → K vs.length m' → GExt s s' → Q .next s')
    (hs : ∀ x, foldedSetIterable iter (envOf name scope L a cd) x = pure x := by intro _; rfl) :
    wpAny (model P0 w) A (exec (.For (.Name x px) iter body [] pos) (envOf name scope L a cd)) Q E s := by
  refine wpAny_For (hiter _ ?_) hs
  have hl₁ := isList_keeps hl F.keep
  refine wpAny_pyIter_list hl₁ ?_
  have hLs : L < s.heap.objs.size := F.ns.lt
  have hz : h₀.get? s.heap.objs.size = none := get_none_of_ge (Nat.le_of_lt (Nat.lt_of_le_of_lt F.above hLs))
  have hne : L ≠ s.heap.objs.size := Nat.ne_of_lt hLs
  generalize hit : s.heap.objs.size = it at *
  refine codeAny_forLoop (AtTurn h₀ L it l vs.length K s) ?_ (vs.length + 1)
    ⟨0, m, Nat.zero_le _, rfl, F.push _, ⟨_, hit ▸ Heap.get?_push_size _ rfl, rfl, rfl⟩, h0, GExt.same⟩
  rintro n s' ⟨i, m', hi, rfl, F', hI, hK, hg⟩
  have hl' := isList_keeps hl F'.keep
  cases hv : vs[i]? with
  | none =>
    refine wpAny_pyNext_list_end hh hI hl' (by simpa using hv) fun h' he => ?_
    have : i = vs.length := Nat.le_antisymm hi (List.getElem?_eq_none_iff.mp hv)
    subst this
    exact wpAny_execs_nil (done _ m' (fr_extBut F' hne hz he) hK ⟨hg.gens, hg.bare, hg.os⟩)
  | some v =>
    have hlt : i < vs.length := (List.getElem?_eq_some_iff.mp hv).1
    refine wpAny_pyNext_list_item hI hl' (by simpa using hv) fun h' hI' hs' => ?_
    have F'' := fr_sameBut F' hne hz hs'
    refine wpAny_assign_Name ?_
    obtain ⟨o, ho, hc, hd⟩ := hI'
    have N : News h₀ L h' [(it, o)] := fun p hp => by
      rcases List.mem_cons.mp hp with rfl | hp
      · exact ⟨ho, Ne.symm hne, hz⟩
      · cases hp
    refine stN F'' N (fun h₂ F₂ N₂ => ?_) hk hx
    refine wpAny_mono (turn i v _ m' it o hv F₂ N₂ hK ⟨hg.gens, hg.bare, hg.os⟩) (fun f s₃ h₃ => ?_) fun _ _ h => h.elim
    cases f with
    | next => obtain ⟨m'', F₃, N₃, hK₃, hg₃⟩ := h₃; exact ⟨_, by omega, i + 1, m'', hlt, rfl, F₃, ⟨o, (N₃ _ (.head _)).1, hc, hd⟩, hK₃, hg₃⟩
    | cont => obtain ⟨m'', F₃, N₃, hK₃, hg₃⟩ := h₃; exact ⟨_, by omega, i + 1, m'', hlt, rfl, F₃, ⟨o, (N₃ _ (.head _)).1, hc, hd⟩, hK₃, hg₃⟩
    | brk => exact h₃.elim
    | ret v => exact h₃
end
end
section
open PySem PySem.W PyProof.Rows PySem.Calls PySem.Spec
set_option maxRecDepth 100000
set_option maxHeartbeats 4000000
def IsStrV (v : Value) (u : Str) : Prop := ∃ t, v = Value.str u t
def IsIntV (v : Value) (i : Int) : Prop := ∃ t, v = Value.int i t
theorem paired_flip {α β : Type} {R : α → β → Prop} {l₁ : List α} {l₂ : List β} (x : Paired R l₁ l₂) : Paired (fun b a => R a b) l₂ l₁ := by
  induction x with
  | nil => exact .nil
  | cons h₁ _ ih => exact .cons h₁ ih
theorem paired_get {α β : Type} {R : α → β → Prop} {l₁ : List α} {l₂ : List β} (x : Paired R l₁ l₂) : ∀ {i : Nat} {v : α}, l₁[i]? = some v → ∃ u, l₂[i]? = some u ∧ R v u := by
  induction x with
  | nil => intro i v h; cases h
  | cons h₁ _ ih =>
    intro i v h
    cases i with
    | zero => cases h; exact ⟨_, rfl, h₁⟩
    | succ i => exact ih (i := i) h
theorem paired_get' {α β : Type} {R : α → β → Prop} {l₁ : List α} {l₂ : List β} (x : Paired R l₁ l₂) {i : Nat} {u : β} (h : l₂[i]? = some u) : ∃ v, l₁[i]? = some v ∧ R v u := paired_get (paired_flip x) h
theorem foldl_take_succ {α β : Type} (f : β → α → β) (b : β) (l : List α) (i : Nat) (x : α) (h : l[i]? = some x) : (l.take (i + 1)).foldl f b = f ((l.take i).foldl f b) x := by
  rw [List.take_add_one, h]; simp

def formStep (p : Int × Int) (u : Str) : Int × Int :=
  let p := if u == Str.ofString ")" then (p.1 + (if (p.2 == 0) = true then 1 else 0), if p.2 - 1 > 0 then p.2 - 1 else 0) else p
  (p.1, p.2 + if u == Str.ofString "(" then 1 else 0)
def formOf (us : List Str) : Int × Int := us.foldl formStep (0, 0)
end
section
open PySem PySem.W PyProof.Rows PySem.Calls PySem.Spec
set_option maxRecDepth 100000
set_option maxHeartbeats 4000000
abbrev tup2 (a : Int) (ta : Tok) (b : Int) (tb : Tok) : Obj := { cls := .type "tuple", data := .seq #[.int a ta, .int b tb] }
/-- what the loop of _law_form keeps -/
inductive FormK (us : List Str) (i : Nat) (m : Str → Option Value) : Prop
  | mk (c l : Int) (t1 t2 : Tok) (h1 : m (Str.ofString "closes") = some (.int c t1)) (h2 : m (Str.ofString "leaves") = some (.int l t2)) (h3 : formOf (us.take i) = (c, l)) : FormK us i m
section
variable {w : World} {E : Value → Shared → Prop} {s : Shared} {mg mb : Str → Option Value}
theorem form_spec' {t : Addr} {vs : List Value} {us : List Str} {Q : Value → Shared → Prop} (T : TopF mg mb s.heap) (ht : s.heap.IsList t vs.toArray) (hu : Paired IsStrV vs us)
    (hQ : ∀ k s' t1 t2, Ext s s' → s.heap.get? k = none → s'.heap.get? k = some (tup2 (formOf us).1 t1 (formOf us).2 t2) → IsTup s'.heap k #[.int (formOf us).1 t1, .int (formOf us).2 t2] → Q (.ref k) s') :
    wpAny (model P0 w) (AL 500) (call (.ref 77) [.ref t]) Q E s := by
  refine call_fn (T.fn "_law_form" 77 13) T (binds := [("units", .ref t)]) (fun _ _ _ => rfl) (by simp; decide) fun cd h₁ F => ?_
  have N : News s.heap s.heap.objs.size h₁ [] := News.nil
  refine wpAny_execs_cons ?_
  repeat' walk1
  rename_i h' F' N'
  refine for_list (FormK us)
    rfl rfl rfl F' ht ⟨_, _, _, _, rfl, rfl, rfl⟩ (fun Q' h => ?_) (fun i v s' m' it o hv F N hK hg => ?_) (fun s' m' F hK hg => ?_)
  · walk1
    exact h
  · obtain ⟨c, l, t1, t2, h1, h2, h3⟩ := hK
    obtain ⟨u, hu', tu, rfl⟩ := paired_get hu hv
    have e : formOf (us.take (i + 1)) = formStep (c, l) u := by rw [← h3]; exact foldl_take_succ _ _ _ _ _ hu'
    repeat' walk1
    all_goals (refine Here.mk ⟨_, by assumption, news_some (by assumption) (by simp), ⟨_, _, _, _, by walk_at "m_look", by walk_at "m_look", ?_⟩, ⟨hg.gens, hg.bare, hg.os⟩⟩; rw [e])
    · unfold formStep; rw [show (u == Str.ofString ")") = true by assumption]; rfl
    · unfold formStep; rw [show (u == Str.ofString ")") = false by assumption]; rfl
  · obtain ⟨c, l, t1, t2, h1, h2, h3⟩ := hK
    rw [hu.length, List.take_length] at h3
    rw [h3] at hQ
    have N : News s.heap s.heap.objs.size s'.heap [] := News.nil
    walk_at "go"
    rename_i F' N'
    exact hQ _ _ _ _ (GExt.ext ⟨hg.gens, hg.bare, hg.os⟩ F'.keep) (N' _ (.head _)).2.2 (N' _ (.head _)).1 ⟨_, (N' _ (.head _)).1, rfl, _, rfl⟩
end
end
section
open PySem PySem.W PyProof.Rows PySem.Calls PySem.Spec
open SeqAt MeetsSeq MeetsSeq2 MeetsSeq3 SeqRoads2
set_option maxRecDepth 100000
set_option maxHeartbeats 4000000
theorem tuple_lt2 (l k : Addr) (a b c d : Int) (ta tb tc td : Tok) (n n2 : Nat) (dd dd2 : Option Addr) (sl sl2 : Array (Option Value)) :
    Meets (Builtin.«tuple.__lt__» ⟨[.ref l, .ref k], []⟩)
      (fun A R s => s.heap.get? l = some { cls := .type "tuple", dict := dd, data := .seq #[.int a ta, .int b tb] n, slots := sl } ∧ s.heap.get? k = some { cls := .type "tuple", dict := dd2, data := .seq #[.int c tc, .int d td] n2, slots := sl2 } ∧
        R (.ok (.ret (.bool (if a = c then (decide (b < d)) else decide (a < c))))) s) :=
  .of_wp fun prog w A R s h => by
    obtain ⟨hp, g, dr, tk, os⟩ := s; obtain ⟨hl, hb, h⟩ := h
    have f2 := AutoSeq1.sub_tuple_tuple
    wp_walk using AutoSeq1.wpAny_loadPart' hl, AutoSeq1.wpAny_loadPart' hb
    refine (wpAny_eqBool_int ?_ : wpAny (model prog w) A.in1 (eqBool (.int a ta) (.int c tc)) _ _ _)
    cases hac : a == c with
    | false =>
      have hne : ¬ a = c := by simpa using hac
      rw [if_neg hne] at h
      simp only [Bool.not_false, if_true]
      refine wpAny_bind (wpAny_rule (wpAny_bind ((wpAny_lt_int ?_ : wpAny (model prog w) A.in1 (compareOp .Lt (.int a ta) (.int c tc)) _ _ _))))
      wp_walk
      exact ⟨_, rfl, h⟩
    | true =>
      have hne : a = c := by simpa using hac
      rw [if_pos hne] at h
      wp_walk
      refine (wpAny_eqBool_int ?_ : wpAny (model prog w) A.in1 (eqBool (.int b tb) (.int d td)) _ _ _)
      cases hbd : b == d with
      | false =>
        simp only [Bool.not_false, if_true]
        refine wpAny_bind (wpAny_rule (wpAny_bind ((wpAny_lt_int ?_ : wpAny (model prog w) A.in1 (compareOp .Lt (.int b tb) (.int d td)) _ _ _))))
        wp_walk
        exact ⟨_, rfl, h⟩
      | true =>
        have hne2 : b = d := by simpa using hbd
        rw [decide_eq_false (by omega)] at h
        wp_walk
        exact ⟨_, rfl, h⟩
theorem tuple_gt2 (l k : Addr) (a b c d : Int) (ta tb tc td : Tok) (n n2 : Nat) (dd dd2 : Option Addr) (sl sl2 : Array (Option Value)) :
    Meets (Builtin.«tuple.__gt__» ⟨[.ref l, .ref k], []⟩)
      (fun A R s => s.heap.get? l = some { cls := .type "tuple", dict := dd, data := .seq #[.int a ta, .int b tb] n, slots := sl } ∧ s.heap.get? k = some { cls := .type "tuple", dict := dd2, data := .seq #[.int c tc, .int d td] n2, slots := sl2 } ∧
        R (.ok (.ret (.bool (if a = c then (decide (d < b)) else decide (c < a))))) s) :=
  .of_wp fun prog w A R s h => by
    obtain ⟨hp, g, dr, tk, os⟩ := s; obtain ⟨hl, hb, h⟩ := h
    have f2 := AutoSeq1.sub_tuple_tuple
    wp_walk using AutoSeq1.wpAny_loadPart' hl, AutoSeq1.wpAny_loadPart' hb
    refine (wpAny_eqBool_int ?_ : wpAny (model prog w) A.in1 (eqBool (.int a ta) (.int c tc)) _ _ _)
    cases hac : a == c with
    | false =>
      have hne : ¬ a = c := by simpa using hac
      rw [if_neg hne] at h
      simp only [Bool.not_false, if_true]
      refine wpAny_bind (wpAny_rule (wpAny_bind ((PyProof.Rows.gt_int ?_ : wpAny (model prog w) A.in1 (compareOp .Gt (.int a ta) (.int c tc)) _ _ _))))
      wp_walk
      exact ⟨_, rfl, h⟩
    | true =>
      have hne : a = c := by simpa using hac
      rw [if_pos hne] at h
      wp_walk
      refine (wpAny_eqBool_int ?_ : wpAny (model prog w) A.in1 (eqBool (.int b tb) (.int d td)) _ _ _)
      cases hbd : b == d with
      | false =>
        simp only [Bool.not_false, if_true]
        refine wpAny_bind (wpAny_rule (wpAny_bind ((PyProof.Rows.gt_int ?_ : wpAny (model prog w) A.in1 (compareOp .Gt (.int b tb) (.int d td)) _ _ _))))
        wp_walk
        exact ⟨_, rfl, h⟩
      | true =>
        have hne2 : b = d := by simpa using hbd
        rw [decide_eq_false (by omega)] at h
        wp_walk
        exact ⟨_, rfl, h⟩

def tltB (p q : Int × Int) : Bool := if p.1 = q.1 then decide (p.2 < q.2) else decide (p.1 < q.1)
section
variable {w : World} {A : Around} {E : Value → Shared → Prop} {s : Shared}
theorem cmp_lt2 {t u : Addr} {a b c d : Int} {ta tb tc td : Tok} {Q : Value → Shared → Prop} (ht : IsTup s.heap t #[.int a ta, .int b tb]) (hu : IsTup s.heap u #[.int c tc, .int d td])
    (h : Q (.bool (tltB (a, b) (c, d))) s) (hr : A.units < cLine := by exact Nat.le_of_ble_eq_true rfl) : wpAny (model P0 w) A (compareOp .Lt (.ref t) (.ref u)) Q E s := by
  obtain ⟨⟨cls, dd, data, sl⟩, ho, hc, n, hd⟩ := id ht
  obtain ⟨⟨cls2, dd2, data2, sl2⟩, ho2, hc2, n2, hd2⟩ := id hu
  simp only at hc hd hc2 hd2
  subst hc hd hc2 hd2
  exact richCompare_meets_room (op := .Lt) ⟨_, ho, rfl⟩ ⟨_, ho2, rfl⟩ F.slot_tuple_lt F.entry_tuple_lt (F.args_tuple_lt_2 _ _) (tuple_lt2 t u a b c d ta tb tc td n n2 dd dd2 sl sl2)
    ⟨ho, ho2, (fun x => nomatch x), h⟩ hr
theorem cmp_gt2 {t u : Addr} {a b c d : Int} {ta tb tc td : Tok} {Q : Value → Shared → Prop} (ht : IsTup s.heap t #[.int a ta, .int b tb]) (hu : IsTup s.heap u #[.int c tc, .int d td])
    (h : Q (.bool (tltB (c, d) (a, b))) s) (hr : A.units < cLine := by exact Nat.le_of_ble_eq_true rfl) : wpAny (model P0 w) A (compareOp .Gt (.ref t) (.ref u)) Q E s := by
  obtain ⟨⟨cls, dd, data, sl⟩, ho, hc, n, hd⟩ := id ht
  obtain ⟨⟨cls2, dd2, data2, sl2⟩, ho2, hc2, n2, hd2⟩ := id hu
  simp only at hc hd hc2 hd2
  subst hc hd hc2 hd2
  refine richCompare_meets_room (op := .Gt) ⟨_, ho, rfl⟩ ⟨_, ho2, rfl⟩ F.slot_tuple_gt F.entry_tuple_gt (F.args_tuple_gt_2 _ _) (tuple_gt2 t u a b c d ta tb tc td n n2 dd dd2 sl sl2)
    ⟨ho, ho2, (fun x => nomatch x), ?_⟩ hr
  have e : tltB (c, d) (a, b) = if a = c then decide (d < b) else decide (c < a) := by unfold tltB; simp only [eq_comm]
  rw [e] at h
  exact h
end
end
section
open PySem PySem.W PyProof.Rows PySem.Calls PySem.Spec
set_option maxRecDepth 100000
set_option maxHeartbeats 4000000
section
variable {w : World} {E : Value → Shared → Prop} {s : Shared} {mg mb : Str → Option Value}

def keyOf (p : Int × Int) : Int × Int := if p.1 ≤ p.2 then (0, p.1) else (1, 0 - p.2)
theorem key_spec {t : Addr} {c l : Int} {tc tl : Tok} {Q : Value → Shared → Prop} (T : TopF mg mb s.heap) (ht : IsTup s.heap t #[.int c tc, .int l tl])
    (hQ : ∀ k s' t1 t2, Ext s s' → IsTup s'.heap k #[.int (keyOf (c, l)).1 t1, .int (keyOf (c, l)).2 t2] → Q (.ref k) s') :
    wpAny (model P0 w) (AL 500) (call (.ref 91) [.ref t]) Q E s := by
  refine call_fn (T.fn "_law_key" 91 15) T (binds := [("form", .ref t)]) (fun _ _ _ => rfl) (by simp; decide) fun cd h₁ F => ?_
  have N : News s.heap s.heap.objs.size h₁ [] := News.nil
  have ht₁ := ht.keeps F.keep
  walk_at "go"
  · rename_i hc _ F' N'
    rw [show keyOf (c, l) = (0, c) from if_pos hc] at hQ
    exact hQ _ _ _ _ (Ext.heap F'.keep) ⟨_, (N' _ (.head _)).1, rfl, _, rfl⟩
  · rename_i hc _ F' N'
    rw [show keyOf (c, l) = (1, 0 - l) from if_neg hc] at hQ
    exact hQ _ _ _ _ (Ext.heap F'.keep) ⟨_, (N' _ (.head _)).1, rfl, _, rfl⟩

def meltOf (p q : Int × Int) : Int × Int := (p.1 + max 0 (q.1 - p.2), q.2 + max 0 (p.2 - q.1))
theorem melted_spec {t u : Addr} {a b c d : Int} {ta tb tc td : Tok} {Q : Value → Shared → Prop} (T : TopF mg mb s.heap) (ht : IsTup s.heap t #[.int a ta, .int b tb]) (hu : IsTup s.heap u #[.int c tc, .int d td])
    (hQ : ∀ k s' t1 t2, Ext s s' → IsTup s'.heap k #[.int (meltOf (a, b) (c, d)).1 t1, .int (meltOf (a, b) (c, d)).2 t2] → Q (.ref k) s') :
    wpAny (model P0 w) (AL 500) (call (.ref 84) [.ref t, .ref u]) Q E s := by
  refine call_fn (T.fn "_law_melted" 84 14) T (binds := [("one", .ref t), ("two", .ref u)]) (fun _ _ _ => rfl) (by simp; decide) fun cd h₁ F => ?_
  have N : News s.heap s.heap.objs.size h₁ [] := News.nil
  have ht₁ := ht.keeps F.keep
  have hu₁ := hu.keeps F.keep
  walk_at "go"
  rename_i F' N'
  have e : ∀ x : Int, (if x > 0 then x else 0) = max 0 x := fun x => by omega
  simp only [e] at N'
  exact hQ _ _ _ _ (Ext.heap F'.keep) ⟨_, (N' _ (.head _)).1, rfl, _, rfl⟩

theorem three_spec {t u : Addr} {a b c d : Int} {ta tb tc td : Tok} {Q : Value → Shared → Prop} (T : TopF mg mb s.heap) (ht : IsTup s.heap t #[.int a ta, .int b tb]) (hu : IsTup s.heap u #[.int c tc, .int d td])
    (hQ : ∀ s' t1, Ext s s' → Q (.int (b2i (tltB (c, d) (a, b)) - b2i (tltB (a, b) (c, d))) t1) s') :
    wpAny (model P0 w) (AL 500) (call (.ref 65) [.ref t, .ref u]) Q E s := by
  refine call_fn (T.fn "three_way_cmp" 65 10) T (binds := [("x", .ref t), ("y", .ref u)]) (fun _ _ _ => rfl) (by simp; decide) fun cd h₁ F => ?_
  have N : News s.heap s.heap.objs.size h₁ [] := News.nil
  have ht₁ := ht.keeps F.keep
  have hu₁ := hu.keeps F.keep
  walk_at "go"
  refine cmp_gt2 ht₁ hu₁ ?_
  walk_at "go"
  refine cmp_lt2 ht₁ hu₁ ?_
  walk_at "go"
  exact hQ _ _ (Ext.heap F.keep)
end
end
section
open PySem PySem.W PyProof.Rows PySem.Calls PySem.Spec
set_option maxRecDepth 100000
set_option maxHeartbeats 4000000
def cBody : Stmt → List Stmt | .ClassDef _ _ _ b .. => b | _ => []
def ltSt : Stmt := (cBody ((dBody (stAt 5)).getD 0 default)).getD 3 default
def ltQual : Str := "cmp_to_key.<locals>.K.__lt__"
def clsV (o : Obj) : Option (List Value × Addr × List Str × Bool) := match o.data with | .cls cd => some (cd.mro, cd.ns, cd.slotNames, cd.hasDict) | _ => none
def fldV (o : Obj) : Option (List Value) := match o.data with | .fields vs => some vs.toList | _ => none
def qualV (o : Obj) : Option Str := match o.data with | .fields vs => (match (vs.toList[1]? : Option Value) with | some (.str q _) => some q | _ => none) | _ => none
def DescAt (o : Obj) (v : Value) (b : Int) : Prop := ∃ d n tn tb sl, o = ⟨.type "member_descriptor", d, .fields #[.str n tn, v, .builtin "proto.slot", .builtin "proto.slot#set", .int b tb], sl⟩
def cellV (o : Obj) : Option Value := match o.data with | .cell v => v | _ => none
def FunAt (o : Obj) (fd : FuncData) : Prop := o.cls = .type "function" ∧ o.data = .func fd

/-- what the class K and its parts are, after a call of cmp_to_key -/
structure KObjs (h : Heap) (C lam N D f cell c : Addr) (oC oN oD of ol oc : Obj) : Prop where
  hC : h.get? C = some oC
  hN : h.get? N = some oN
  hD : h.get? D = some oD
  hf : h.get? f = some of
  hl : h.get? cell = some ol
  hc : h.get? c = some oc
  nNC : N ≠ C
  nDC : D ≠ C
  nDN : D ≠ N
  nfC : f ≠ C
  nfN : f ≠ N
  nfD : f ≠ D
  cls : clsV oC = some ([Value.ref C, Value.type "object"], N, [Str.ofString "obj"], false)
  obj : lookIn "obj" oN = some (some (.ref D))
  lt : lookIn "__lt__" oN = some (some (.ref f))
  ga : lookIn "__getattribute__" oN = some none
  gt : lookIn "__getattr__" oN = some none
  desc : DescAt oD (.ref C) 0
  fn : ∃ pm ct, FunAt of (fnX "__lt__" ltQual (dParams ltSt) (dBody ltSt) (dScope ltSt) [("mycmp", cell)] .none .none .none pm none (.ref c) ct)
  lam : cellV ol = some (.ref lam)
  code : qualV oc = some ltQual

structure InstK (h : Heap) (x C : Addr) (v : Value) (ox od : Obj) : Prop where
  at_ : h.get? x = some ox
  cls : ox.cls = .ref C
  no : notCls ox = true
  dict : ∃ dx, ox.dict = some dx ∧ h.get? dx = some od
  slot : (ox.slots[0]?).join = some v
theorem InstK.inst {h : Heap} {x C : Addr} {v : Value} {ox od : Obj} (I : InstK h x C v ox od) : InstAt h x ox C (some od) := ⟨I.at_, I.cls, I.no, by obtain ⟨dx, e1, e2⟩ := I.dict; rw [e1]; exact e2⟩
theorem InstK.keeps {h h' : Heap} {x C : Addr} {v : Value} {ox od : Obj} (I : InstK h x C v ox od) (k : ∀ b o, h.get? b = some o → h'.get? b = some o) : InstK h' x C v ox od := ⟨k _ _ I.at_, I.cls, I.no, let ⟨dx, e1, e2⟩ := I.dict; ⟨dx, e1, k _ _ e2⟩, I.slot⟩

section
variable {h : Heap} {C lam N D f cell c : Addr} {oC oN oD of ol oc : Obj}
abbrev kFrag (C N D f : Addr) (oC oN oD of : Obj) : Frag := [(C, oC), (N, oN), (D, oD), (f, of)]
/-- the class K, its namespace, its slot's descriptor and one of its defs -/
structure KCore (h : Heap) (C N D f : Addr) (oC oN oD of : Obj) : Prop where
  hC : h.get? C = some oC
  hN : h.get? N = some oN
  hD : h.get? D = some oD
  hf : h.get? f = some of
  nNC : N ≠ C
  nDC : D ≠ C
  nDN : D ≠ N
  nfC : f ≠ C
  nfN : f ≠ N
  nfD : f ≠ D
  cls : clsV oC = some ([Value.ref C, Value.type "object"], N, [Str.ofString "obj"], false)
theorem KObjs.core (R : KObjs h C lam N D f cell c oC oN oD of ol oc) : KCore h C N D f oC oN oD of := ⟨R.hC, R.hN, R.hD, R.hf, R.nNC, R.nDC, R.nDN, R.nfC, R.nfN, R.nfD, R.cls⟩
theorem KObjs.keeps {h' : Heap} (R : KObjs h C lam N D f cell c oC oN oD of ol oc) (k : ∀ b o, h.get? b = some o → h'.get? b = some o) : KObjs h' C lam N D f cell c oC oN oD of ol oc :=
  { R with hC := k _ _ R.hC, hN := k _ _ R.hN, hD := k _ _ R.hD, hf := k _ _ R.hf, hl := k _ _ R.hl, hc := k _ _ R.hc }
theorem KCore.in_ (R : KCore h C N D f oC oN oD of) : (kFrag C N D f oC oN oD of).In h := by
  refine Frag.in_of (as := [C, N, D, f]) rfl ?_
  simp [kFrag, R.hC, R.hN, R.hD, R.hf]
theorem KCore.lC (_R : KCore h C N D f oC oN oD of) : (kFrag C N D f oC oN oD of).lookup C = some oC := by simp [kFrag, List.lookup]
theorem KCore.lN (R : KCore h C N D f oC oN oD of) : (kFrag C N D f oC oN oD of).lookup N = some oN := by
  have h1 : (N == C) = false := beq_eq_false_iff_ne.mpr R.nNC
  simp [kFrag, List.lookup, h1]
theorem KCore.lD (R : KCore h C N D f oC oN oD of) : (kFrag C N D f oC oN oD of).lookup D = some oD := by
  have h1 : (D == C) = false := beq_eq_false_iff_ne.mpr R.nDC
  have h2 : (D == N) = false := beq_eq_false_iff_ne.mpr R.nDN
  simp [kFrag, List.lookup, h1, h2]
theorem KCore.lf (R : KCore h C N D f oC oN oD of) : (kFrag C N D f oC oN oD of).lookup f = some of := by
  have h1 : (f == C) = false := beq_eq_false_iff_ne.mpr R.nfC
  have h2 : (f == N) = false := beq_eq_false_iff_ne.mpr R.nfN
  have h3 : (f == D) = false := beq_eq_false_iff_ne.mpr R.nfD
  simp [kFrag, List.lookup, h1, h2, h3]
theorem clsV_some {o : Obj} {mro : List Value} {N : Addr} {sl : List Str} {hd : Bool} (e : clsV o = some (mro, N, sl, hd)) : ∃ a b cd d, o = ⟨a, b, .cls cd, d⟩ ∧ cd.mro = mro ∧ cd.ns = N ∧ cd.slotNames = sl ∧ cd.hasDict = hd := by
  obtain ⟨a, b, data, d⟩ := o
  unfold clsV at e
  cases data <;> simp at e
  exact ⟨_, _, _, _, rfl, e.1, e.2.1, e.2.2.1, e.2.2.2⟩
theorem nsIn_of {K : Frag} {N : Addr} {oN : Obj} (hl : K.lookup N = some oN) (name : Str) : nsIn K N name = lookIn name oN := by
  obtain ⟨a, b, data, d⟩ := oN
  unfold nsIn lookIn
  rw [hl]
  cases data <;> rfl
theorem KCore.find_own {name : Str} {v : Value} (R : KCore h C N D f oC oN oD of) (e : lookIn name oN = some (some v)) : findIn (kFrag C N D f oC oN oD of) (.ref C) name = some (some v) := by
  obtain ⟨a, b, cd, d, hoC, h1, h2, h3, h4⟩ := clsV_some R.cls
  have hC := R.lC
  have hN := nsIn_of R.lN name
  unfold findIn
  generalize kFrag C N D f oC oN oD of = K at *
  dsimp only
  rw [hC, hoC]
  dsimp only
  simp only [h1, alongIn, ownIn, hC, hoC, h2, hN, e]
theorem KCore.find_base {name : Str} (R : KCore h C N D f oC oN oD of) (e : lookIn name oN = some none) : findIn (kFrag C N D f oC oN oD of) (.ref C) name = some (fastBuiltinOwn "object" name) := by
  obtain ⟨a, b, cd, d, hoC, h1, h2, h3, h4⟩ := clsV_some R.cls
  have hC := R.lC
  have hN := nsIn_of R.lN name
  unfold findIn
  generalize kFrag C N D f oC oN oD of = K at *
  dsimp only
  rw [hC, hoC]
  dsimp only
  simp only [h1, alongIn, ownIn, hC, hoC, h2, hN, e]
  cases fastBuiltinOwn "object" name <;> rfl
theorem cellV_some {o : Obj} {v : Value} (e : cellV o = some v) : o.data = .cell (some v) := by
  unfold cellV at e
  split at e
  · rename_i h1; rw [h1, e]
  · cases e
theorem qualV_some {h : Heap} {c : Addr} {o : Obj} {q : Str} (ho : h.get? c = some o) (e : qualV o = some q) : h.CodeRec (.ref c) q := by
  unfold qualV at e
  split at e
  · rename_i vs h1
    split at e
    · rename_i q' t h2
      cases e
      exact ⟨c, o, vs, t, rfl, ho, h1, by simpa using h2⟩
    · cases e
  · cases e
end

section
variable {w : World} {A : Around} {E : Value → Shared → Prop} {s : Shared} {C lam N D f cell c : Addr} {oC oN oD of ol oc : Obj}
theorem get_obj {x : Addr} {v : Value} {ox od : Obj} {expr : Bool} {Q : Value → Shared → Prop} (R : KObjs s.heap C lam N D f cell c oC oN oD of ol oc) (I : InstK s.heap x C v ox od) (hh : handedIn v = true) (h : Q v { s with toks := s.toks + 1 }) :
    wpAny (model P0 w) A (getAttr (.ref x) "obj" expr) Q E s := by
  obtain ⟨d, n, tn, tb, sl, hoD⟩ := R.desc
  have hT : typeIn (kFrag C N D f oC oN oD of) (.ref D) = some (.type "member_descriptor") := by unfold typeIn; dsimp only; rw [R.core.lD, Option.map_some, hoD]
  have hS : ∀ n, specialIn (kFrag C N D f oC oN oD of) (.ref D) n = fastLookup "member_descriptor" n := fun n => by simp only [specialIn, hT, Option.bind_some, findIn]
  obtain ⟨a, b, cd, d', hoC, h1, h2, h3, h4⟩ := clsV_some R.cls
  have hcl : clsIn (kFrag C N D f oC oN oD of) C = some cd := by unfold clsIn; rw [R.core.lC, hoC]
  have hslot : slotIn (kFrag C N D f oC oN oD of) D C = some 0 := by
    unfold slotIn recIn
    rw [R.core.lD, hcl, hoD]
    simp [h1, h3]
  have hget : specialIn (kFrag C N D f oC oN oD of) (.ref D) "__get__" = some (some (.builtin "member_descriptor.__get__")) := (hS _).trans (by decide +kernel)
  have hset : specialIn (kFrag C N D f oC oN oD of) (.ref D) "__set__" = some (some (.builtin "member_descriptor.__set__")) := (hS _).trans (by decide +kernel)
  have htk : takesIn (kFrag C N D f oC oN oD of) (.ref D) = some true := by unfold takesIn; rw [hset]
  have hfo : findObj (kFrag C N D f oC oN oD of) C (some od) "obj" = some (.bind (.builtin "member_descriptor.__get__") (.ref D)) := by
    unfold findObj
    rw [hcl, Option.bind_some, R.core.find_own R.obj, Option.bind_some]
    simp [hget, htk]
  exact get_bind R.core.in_ I.inst ((R.core.find_base R.ga).trans (by decide +kernel)) hfo ((R.core.find_base R.gt).trans (by decide +kernel))
    (wpAny_call (slot_get (s := { s with toks := s.toks + 1 }) R.core.in_ I.inst hslot I.slot (handed_on hh h)))

/-- a call of a def that keeps names of the frame around it -/
theorem call_clos {k : Nat} {a : Addr} {fo : Obj} {name qual : Str} {params : Arguments} {body : List Stmt} {scope : Scope} {cl : List (Str × Addr)} {dV kV doc pm ct : Value} {an : Option Addr} {vals : List Value} {binds : List (Str × Value)} {Q : Value → Shared → Prop}
    (ho : s.heap.get? a = some fo) (hd : fo.data = .func (fnX name qual params body scope cl dV kV doc pm an (.ref c) ct)) (hlim : s.heap.NoLimit) (hcd : s.heap.CodeRec (.ref c) qual)
    (hb : bindArgs (fnX name qual params body scope cl dV kV doc pm an (.ref c) ct) ⟨vals, []⟩ = pure binds) (hloc : ∀ x ∈ binds, scope.names.lookup x.1 = some .local)
    (h : ∀ h₁, Fr s.heap s.heap.objs.size h₁ (fun x => binds.reverse.lookup x) →
      wpAny (model P0 w) ((AL k).deeper (envX qual scope s.heap.objs.size a (.ref c) cl)) (execs body (envX qual scope s.heap.objs.size a (.ref c) cl))
        (fun f s' => Q (match f with | .ret v => v | _ => .none) s') (fun _ _ => False) { s with heap := h₁, toks := s.toks + binds.length })
    (hr : k < recursionLimit := by decide) (hco : scope.isCoroutine = false := by rfl) (hgen : scope.isGenerator = false := by rfl) (hk : scope.kind = .function := by rfl)
    (hcell : ∀ x ∈ scope.names, x.2 ≠ .cell := by decide) :
    wpAny (model P0 w) (AL k) (call (.ref a) vals) Q E s := by
  refine wpAny_call (codeAny_call_def (fd := fnX name qual params body scope cl dV kV doc pm an (.ref c) ct) (body := body) (binds := binds) hr ho hd hlim hcd rfl (BindsTo.of_eq hb) hcell hloc (fun h₁ hns hk₁ => ?_) hco hgen hk)
  exact wpAny_mono (h h₁ ⟨hns, hk₁, Nat.le_refl _⟩) (fun _ _ x => x) fun _ _ x => x.elim
end
end
section
open PySem PySem.W PyProof.Rows PySem.Calls PySem.Spec PySem.W.X
set_option maxRecDepth 100000
set_option maxHeartbeats 4000000
def MakePost (C : Addr) (i : Int) (t : Tok) (s2 : Shared) (v : Value) (s3 : Shared) : Prop := ∃ x ox od, v = .ref x ∧ s2.heap.get? x = none ∧ InstK s3.heap x C (.int i t) ox od ∧
    (∀ b o, s2.heap.get? b = some o → s3.heap.get? b = some o) ∧ s3.gens = s2.gens ∧ s3.os = s2.os
/-- the class makes keys -/
def KMake (w : World) (h : Heap) (C : Addr) : Prop := ∀ (s2 : Shared), (∀ b o, h.get? b = some o → s2.heap.get? b = some o) → ∀ (i : Int) (t : Tok),
  wpAny (model P0 w) (AL 400) (call (.ref C) [.int i t]) (MakePost C i t s2) (fun _ _ => False) s2
def KReady (w : World) (h : Heap) (C lam : Addr) : Prop := KMake w h C ∧ ∃ N D f cell c oC oN oD of ol oc, KObjs h C lam N D f cell c oC oN oD of ol oc
theorem cmp_keep {h₀ h : Heap} {a37 : Addr} {o37 : Obj} {news : List (Addr × Obj)} (M : Mem h₀ h [(a37, o37)] news) (h37 : a37 = 37) : ∀ b o, b ≠ 37 → h₀.get? b = some o → h.get? b = some o := by
  subst h37
  intro b o hb e
  refine M.keep b o e ?_
  have z : Nat.beq 37 b = false := by
    cases q : Nat.beq 37 b with
    | false => rfl
    | true => exact absurd (Nat.eq_of_beq_eq_true q).symm hb
  simp [away, z]
def pmO (o : Obj) : Value := match o.data with | .func fd => fd.pyModule | _ => .none
end
section
open PySem PySem.W PyProof.Rows PySem.Calls PySem.Spec PySem.W.X
set_option maxRecDepth 100000
set_option maxHeartbeats 4000000
def clsM (o : Obj) : Option (List Value × Addr) := match o.data with | .cls cd => some (cd.mro, cd.ns) | _ => none
section
variable {α : Type} {M : Model} {A : Around} {Q : α → Shared → Prop} {E : Value → Shared → Prop} {h0 hh : Heap} {chg news : List (Addr × Obj)} {g : Array GenState} {d : Drawn} {t : Nat} {os : OsState}
theorem m_old {a : Addr} {p : Option Value} {k : Obj → Sem α} {o : Obj} (D : Mem h0 hh [] news) (e : h0.get? a = some o) (h : wpAny M A (k o) Q E ⟨hh, g, d, t, os⟩) : wpAny M A (.load a p k) Q E ⟨hh, g, d, t, os⟩ :=
  nd_load (D.keep a o e (by simp [away])) h
theorem m_new {a : Addr} {p : Option Value} {k : Obj → Sem α} {o : Obj} (D : Mem h0 hh chg news) (i : Nat) (hi : news[i]? = some (a, o)) (h : wpAny M A (k o) Q E ⟨hh, g, d, t, os⟩) : wpAny M A (.load a p k) Q E ⟨hh, g, d, t, os⟩ :=
  nd_load (D.at _ _ _ hi) h
theorem m_alloc {o : Obj} {k : Addr → Sem α} (D : Mem h0 hh chg news) (hf : o.isFreed = false) (h : ∀ a h', Mem h0 h' chg ((a, o) :: news) → wpAny M A (k a) Q E ⟨h', g, d, t, os⟩) : wpAny M A (.alloc o k) Q E ⟨hh, g, d, t, os⟩ :=
  nd_alloc (h _ _ (D.alloc hf))
theorem m_update {a : Addr} {p : Option Value} {f : Obj → Obj} {k : Unit → Sem α} {o : Obj} (D : Mem h0 hh chg news) (i : Nat) (hi : news[i]? = some (a, o)) (hf : (f o).isFreed = false)
    (h : ∀ h', Mem h0 h' chg (news.set i (a, f o)) → wpAny M A (k ()) Q E ⟨h', g, d, t, os⟩) : wpAny M A (.update a p f k) Q E ⟨hh, g, d, t, os⟩ :=
  wpAny_bind (m := updatePart a p f) (f := k) (wpAny_updatePart (D.at _ _ _ hi) (h _ (D.update hi hf)))
theorem ite_no {s : Shared} {c : Prop} [i : Decidable c] {x y : Sem α} (hc : ¬ c) (h : wpAny M A y Q E s) : wpAny M A (if c then x else y) Q E s := by rw [if_neg hc]; exact h
theorem ite_yes {s : Shared} {c : Prop} [i : Decidable c] {x y : Sem α} (hc : c) (h : wpAny M A x Q E s) : wpAny M A (if c then x else y) Q E s := by rw [if_pos hc]; exact h
theorem nd_for {β γ : Type} {s : Shared} {x : γ} {l : List γ} {b : β} {f : γ → β → Sem (ForInStep β)} {Q : β → Shared → Prop} (h : wpAny M A (f x b >>= fun r => match r with | .done b => pure b | .yield b => forIn l b f) Q E s) : wpAny M A (forIn (x :: l) b f) Q E s := by rw [List.forIn_cons]; exact h
theorem nd_forA {β γ : Type} {s : Shared} {l : List γ} {b : β} {f : γ → β → Sem (ForInStep β)} {Q : β → Shared → Prop} (h : wpAny M A (forIn l b f) Q E s) : wpAny M A (forIn (⟨l⟩ : Array γ) b f) Q E s := by
  show wpAny M A (forIn l.toArray b f) Q E s
  rw [List.forIn_toArray]; exact h
theorem nd_for0 {β γ : Type} {s : Shared} {b : β} {f : γ → β → Sem (ForInStep β)} {Q : β → Shared → Prop} (h : Q b s) : wpAny M A (forIn ([] : List γ) b f) Q E s := by rw [List.forIn_nil]; exact wpAny_pure h
theorem ite_nb {s : Shared} {b : Bool} {x y : Sem α} (hc : b = false) (h : wpAny M A y Q E s) : wpAny M A (if b = true then x else y) Q E s := by rw [if_neg (by rw [hc]; decide)]; exact h
theorem ite_yb {s : Shared} {b : Bool} {x y : Sem α} (hc : b = true) (h : wpAny M A x Q E s) : wpAny M A (if b = true then x else y) Q E s := by rw [if_pos hc]; exact h
theorem m_newObj {T : String} {data : Data} {Q : Value → Shared → Prop} (D : Mem h0 hh chg news) (hd : sizeOk data) (hf : ({ cls := .type T, data := data } : Obj).isFreed = false)
    (h : ∀ a h', Mem h0 h' chg ((a, { cls := .type T, data := data }) :: news) → Q (.ref a) ⟨h', g, d, t, os⟩) : wpAny M A (newObj (.type T) data) Q E ⟨hh, g, d, t, os⟩ :=
  wpAny_newObj_type (h _ _ (D.alloc hf)) hd
theorem L_ns {a : Addr} {o : Obj} {name : Str} {r : Option Value} (e : hh.get? a = some o) (hl : lookIn name o = some r) : Looks M hh (nsGet a name) r := (Looks.ld e).andThen (Looks.of_pure (nsLook_of hl))
theorem m_slot {a : Addr} {o : Obj} {j : Nat} {v : Option Value} {Q : Unit → Shared → Prop} (D : Mem h0 hh chg news) (i : Nat) (hi : news[i]? = some (a, o)) (hj : j < sizeLine) (hf : ({ o with slots := (o.slots ++ Array.replicate (j + 1 - o.slots.size) none).setIfInBounds j v } : Obj).isFreed = false)
    (h : ∀ h', Mem h0 h' chg (news.set i (a, { o with slots := (o.slots ++ Array.replicate (j + 1 - o.slots.size) none).setIfInBounds j v })) → Q () ⟨h', g, d, t, os⟩) : wpAny M A (setSlotAt a j v) Q E ⟨hh, g, d, t, os⟩ := by
  unfold setSlotAt
  refine ite_no (Nat.not_le.mpr hj) ?_
  exact wpAny_updatePart (D.at _ _ _ hi) (h _ (D.update hi hf))
theorem m_nsDel {a : Addr} {o : Obj} {name : Str} {Q : Bool → Shared → Prop} (D : Mem h0 hh chg news) (i : Nat) (hi : news[i]? = some (a, o)) (hn : nsHas name o = pure true) (hf : (Obj.dropName name o).isFreed = false)
    (h : ∀ h', Mem h0 h' chg (news.set i (a, Obj.dropName name o)) → Q true ⟨h', g, d, t, os⟩) : wpAny M A (nsDel a name) Q E ⟨hh, g, d, t, os⟩ := by
  unfold nsDel
  refine wpAny_bind (wpAny_loadPart (D.at _ _ _ hi) ?_)
  rw [hn]
  refine wpAny_bind (wpAny_pure ?_)
  exact wpAny_bind (wpAny_updatePart (D.at _ _ _ hi) (wpAny_pure (h _ (D.update hi hf))))
theorem m_nsSet {a : Addr} {o : Obj} {c : Value} {dd : Option Addr} {es : Array DictEntry} {n : Nat} {sl : Array (Option Value)} {name : Str} {v : Value} {Q : Unit → Shared → Prop} (D : Mem h0 hh chg news) (i : Nat) (hi : news[i]? = some (a, o)) (ho : o = ⟨c, dd, .dict es n, sl⟩)
    (hk : aRefKeyMayBeTheName name es = false) (hf : ∀ hs, (Obj.putName name hs (.str name t) v o).isFreed = false)
    (h : ∀ h' hs, Mem h0 h' chg (news.set i (a, Obj.putName name hs (.str name t) v o)) → Q () ⟨h', g, d, t + 1, os⟩) : wpAny M A (nsSet a name v) Q E ⟨hh, g, d, t, os⟩ := by
  unfold nsSet strHash
  refine wpAny_bind (wpAny_bind (wpAny_askSetting (wpAny_pure ?_)))
  refine wpAny_bind (wpAny_mkText ?_)
  refine wpAny_bind (wpAny_loadPart (D.at _ _ _ hi) ?_)
  have e2 := hf
  subst ho
  dsimp only
  refine ite_no (by rw [hk]; decide) ?_
  exact wpAny_updatePart (D.at _ _ _ hi) (h _ _ (D.update hi (hf _)))
theorem m_updateCls {a : Addr} {o : Obj} {c : Value} {dd : Option Addr} {cd : ClassData} {sl : Array (Option Value)} {f : ClassData → ClassData} {Q : Unit → Shared → Prop} (D : Mem h0 hh chg news) (i : Nat) (hi : news[i]? = some (a, o)) (ho : o = ⟨c, dd, .cls cd, sl⟩)
    (hf : (Obj.mapCls f o).isFreed = false) (hp : (Obj.mapCls f o).data.pastItsLine = none)
    (h : ∀ h', Mem h0 h' chg (news.set i (a, Obj.mapCls f o)) → Q () ⟨h', g, d, t, os⟩) : wpAny M A (updateCls a f) Q E ⟨hh, g, d, t, os⟩ := by
  unfold updateCls
  refine wpAny_bind (wpAny_load (D.at _ _ _ hi) ?_)
  have hl : i < news.length := (List.getElem?_eq_some_iff.mp hi).1
  subst ho
  dsimp only
  refine wpAny_bind (wpAny_update (D.at _ _ _ hi) ?_)
  have D' := D.update hi hf
  have e' : (hh.update a (Obj.mapCls f)).get? a = some (Obj.mapCls f ⟨c, dd, .cls cd, sl⟩) := D'.at i a _ (by rw [List.getElem?_set]; simp [hl])
  unfold lookBehind
  refine wpAny_bind (wpAny_loadPart e' ?_)
  rw [hp]
  exact wpAny_pure (h _ D')
theorem clsM_some {o : Obj} {mro : List Value} {N : Addr} (e : clsM o = some (mro, N)) : ∃ a b cd d, o = ⟨a, b, .cls cd, d⟩ ∧ cd.mro = mro ∧ cd.ns = N := by
  obtain ⟨a, b, data, d⟩ := o
  unfold clsM at e
  cases data <;> simp at e
  exact ⟨_, _, _, _, rfl, e.1, e.2⟩
theorem looks_base {a : Addr} {N : Addr} {oC oN : Obj} {name : Str} (hC : hh.get? a = some oC) (hN : hh.get? N = some oN) (hne : N ≠ a) (hc : clsM oC = some ([Value.ref a, Value.type "object"], N))
    (e : lookIn name oN = some none) : Looks M hh (typeLookup (.ref a) name) (fastBuiltinOwn "object" name) := by
  refine looks_findIn (K := [(a, oC), (N, oN)]) (Frag.in_of (as := [a, N]) rfl (by simp [hC, hN])) ?_
  obtain ⟨x, b, cd, y, hoC, h1, h2⟩ := clsM_some hc
  have hC' : List.lookup a [(a, oC), (N, oN)] = some oC := by simp [List.lookup]
  have hN' := nsIn_of (K := [(a, oC), (N, oN)]) (N := N) (oN := oN) (by have h1 : (N == a) = false := beq_eq_false_iff_ne.mpr hne; simp [List.lookup, h1]) name
  unfold findIn
  generalize [(a, oC), (N, oN)] = K at *
  dsimp only
  rw [hC', hoC]
  dsimp only
  simp only [h1, alongIn, ownIn, hC', hoC, h2, hN', e]
  cases fastBuiltinOwn "object" name <;> rfl
theorem refresh {a N : Addr} {oC oN : Obj} {id : String} {Q : Unit → Shared → Prop} (D : Mem h0 hh chg news) (h0' : news[0]? = some (a, oC)) (h1 : news[1]? = some (N, oN)) (hc : clsM oC = some ([Value.ref a, Value.type "object"], N))
    (e : lookIn "__new__" oN = some none) (hs : (oC.slots[4]?).join = some (.builtin id)) (h : Q () ⟨hh, g, d, t, os⟩) : wpAny M A (Bind.refreshMaker a) Q E ⟨hh, g, d, t, os⟩ := by
  have hC := D.at _ _ _ h0'
  have hN := D.at _ _ _ h1
  have L1 : Looks M hh (slotAt a 4) (some (.builtin id)) := by
    refine Looks.andThen (Looks.ld hC) ?_
    rw [hs]
    exact .now
  have L2 := looks_base (M := M) (name := "__new__") hC hN (Ne.symm (D.ne 0 1 _ _ _ _ h0' h1 rfl)) hc e
  unfold Bind.refreshMaker
  refine wpAny_bind (L1.at ?_)
  refine ite_nb rfl ?_
  refine wpAny_bind (L2.at ?_)
  exact Looks.at (r := ()) (Looks.of_pure (by kernel_rfl)) h
theorem L_sn {a : Addr} {o : Obj} {T : String} (e : hh.get? a = some o) (hc : o.cls = .type T) (ht : typeLookup (.type T) "__set_name__" = pure none) : Looks M hh (specialOf (.ref a) "__set_name__") none := by
  have L : Looks M hh (typeOf (.ref a)) (.type T) := hc ▸ (Looks.ld e).andThen .now
  exact L.andThen (Looks.of_pure ht)
end
end
section
open PySem PySem.W PyProof.Rows PySem.Calls PySem.Spec PySem.W.X
set_option maxRecDepth 100000
set_option maxHeartbeats 4000000
section
variable {M : Model} {A : Around} {E : Value → Shared → Prop} {h0 hh : Heap} {chg rest : List (Addr × Obj)} {g : Array GenState} {d : Drawn} {t : Nat} {os : OsState}
abbrev descO (C : Addr) (t : Tok) : Obj := { cls := .type "member_descriptor", data := .fields [.str "obj" t, .ref C, .builtin "proto.slot", .builtin "proto.slot#set", rawInt 0].toArray }
theorem install_spec {C N : Addr} {oC oN : Obj} {c cN : Value} {dd dN : Option Addr} {cd : ClassData} {sl slN : Array (Option Value)} {es : Array DictEntry} {n : Nat} {Q : Unit → Shared → Prop}
    (D : Mem h0 hh chg ((C, oC) :: (N, oN) :: rest)) (hoC : oC = ⟨c, dd, .cls cd, sl⟩) (hoN : oN = ⟨cN, dN, .dict es n, slN⟩) (hl : lookIn "obj" oN = some none) (hk : aRefKeyMayBeTheName "obj" es = false) (hz : es.size ≤ sizeLine)
    (hf : ∀ hs k v, (Obj.putName "obj" hs k v oN).isFreed = false) (hp : (Obj.mapCls (fun c => { c with hasDict := false, slotNames := [Str.ofString "obj"] }) oC).data.pastItsLine = none)
    (h : ∀ h' Dd hs, Mem h0 h' chg ((Dd, descO C t) :: (C, Obj.mapCls (fun c => { c with hasDict := false, slotNames := [Str.ofString "obj"] }) oC) :: (N, Obj.putName "obj" hs (.str "obj" (t + 1)) (.ref Dd) oN) :: rest) → Q () ⟨h', g, d, t + 1 + 1, os⟩) :
    wpAny M A (Builtin.Slots.install (.ref C) N [.type "object"] { names := [Str.ofString "obj"], dict := false, weak := false }) Q E ⟨hh, g, d, t, os⟩ := by
  unfold Builtin.Slots.install
  refine wpAny_bind (nd_for ?_)
  refine wpAny_bind (wpAny_bind ((L_ns (name := "obj") (r := none) (D.at 1 _ _ rfl) hl).at ?_))
  refine wpAny_bind (wpAny_mkStr ?_)
  refine wpAny_bind (m_newObj (T := "member_descriptor") (data := .fields [.str "obj" t, .ref C, .builtin "proto.slot", .builtin "proto.slot#set", rawInt 0].toArray) D (by size_fits) rfl fun Dd h1 D1 => ?_)
  unfold nsSetByValue
  refine wpAny_bind (wpAny_bind (wpAny_loadPart (D1.at 2 _ _ rfl) ?_))
  have hes : oN.data = .dict es n := by rw [hoN]
  rw [hes]
  refine ite_nb ?_ ?_
  · rw [Bool.and_eq_false_iff]; left; exact decide_eq_false (Nat.not_lt.mpr hz)
  refine m_nsSet D1 2 rfl hoN hk (fun hs => hf hs _ _) fun h2 hs D2 => ?_
  refine wpAny_pure ?_
  refine nd_for0 ?_
  refine wpAny_bind ?_
  refine Looks.at (r := false) (Looks.of_pure (by kernel_rfl)) ?_
  refine ite_no (by decide) ?_
  exact m_updateCls D2 1 rfl hoC (by subst hoC; rfl) hp fun h3 D3 => h _ _ _ D3
end
end
section
open PySem PySem.W PyProof.Rows PySem.Calls PySem.Spec PySem.W.X PySem.W.ZRun
set_option maxRecDepth 100000
set_option maxHeartbeats 4000000
/-- a call that changes no old object and hands back a new one -/
inductive ObjPost (V : Obj → Prop) (s : Shared) : Value → Shared → Prop
  | mk (p : Addr) (o : Obj) (h : Heap) (t : Nat) (e : h.get? p = some o) (v : V o) (fresh : s.heap.get? p = none) (keep : ∀ b o, s.heap.get? b = some o → h.get? b = some o) : ObjPost V s (.ref p) ⟨h, s.gens, s.drawn, t, s.os⟩
theorem obj_post {V : Obj → Prop} {s : Shared} {h : Heap} {t : Nat} {news : List (Addr × Obj)} {p : Addr} {o : Obj} (M : Mem s.heap h [] news) (hi : news[0]? = some (p, o)) (ho : V o) : ObjPost V s (.ref p) ⟨h, s.gens, s.drawn, t, s.os⟩ :=
  .mk p o h t (M.at _ _ _ hi) ho (M.nw _ (List.mem_of_getElem? hi)).2 fun b o e => M.keep b o e (by simp [away])
theorem ObjPost.use {V : Obj → Prop} {M : Model} {A : Around} {E : Value → Shared → Prop} {X : Sem Value} {h : Heap} {g : Array GenState} {d : Drawn} {t : Nat} {os : OsState} {Q : Value → Shared → Prop}
    (x : wpAny M A X (ObjPost V ⟨h, g, d, t, os⟩) (fun _ _ => False) ⟨h, g, d, t, os⟩)
    (k : ∀ p o h' t', h'.get? p = some o → V o → h.get? p = none → (∀ b o, h.get? b = some o → h'.get? b = some o) → Q (.ref p) ⟨h', g, d, t', os⟩) : wpAny M A X Q E ⟨h, g, d, t, os⟩ :=
  wpAny_mono x (fun v s' hv => by cases hv with | mk p o h' t' e v f kp => exact k p o h' t' e v f kp) fun _ _ x => x.elim
/-- a record of three parts or two: the object of a class T with these fields -/
def RecAt (T : String) (vs : Array Value) (o : Obj) : Prop := ∃ d sl, o = ⟨.type T, d, .fields vs, sl⟩
theorem ObjPost.rec_ {T : String} {vs : Array Value} {M : Model} {A : Around} {E : Value → Shared → Prop} {X : Sem Value} {h : Heap} {g : Array GenState} {d : Drawn} {t : Nat} {os : OsState} {Q : Value → Shared → Prop}
    (x : wpAny M A X (ObjPost (RecAt T vs) ⟨h, g, d, t, os⟩) (fun _ _ => False) ⟨h, g, d, t, os⟩)
    (k : ∀ p dd sl h' t', h'.get? p = some ⟨.type T, dd, .fields vs, sl⟩ → h.get? p = none → (∀ b o, h.get? b = some o → h'.get? b = some o) → Q (.ref p) ⟨h', g, d, t', os⟩) : wpAny M A X Q E ⟨h, g, d, t, os⟩ :=
  ObjPost.use x fun p o h' t' e v f kp => by
    obtain ⟨dd, sl, rfl⟩ := v
    exact k p dd sl h' t' e f kp
inductive NonePost (s : Shared) : Value → Shared → Prop
  | mk (h : Heap) (t : Nat) (keep : ∀ b o, s.heap.get? b = some o → h.get? b = some o) : NonePost s .none ⟨h, s.gens, s.drawn, t, s.os⟩
theorem none_post {s : Shared} {h : Heap} {t : Nat} {news : List (Addr × Obj)} (M : Mem s.heap h [] news) : NonePost s .none ⟨h, s.gens, s.drawn, t, s.os⟩ := .mk h t fun b o e => M.keep b o e (by simp [away])
theorem NonePost.use {M : Model} {A : Around} {E : Value → Shared → Prop} {X : Sem Value} {h : Heap} {g : Array GenState} {d : Drawn} {t : Nat} {os : OsState} {Q : Value → Shared → Prop}
    (x : wpAny M A X (NonePost ⟨h, g, d, t, os⟩) (fun _ _ => False) ⟨h, g, d, t, os⟩) (k : ∀ h' t', (∀ b o, h.get? b = some o → h'.get? b = some o) → Q .none ⟨h', g, d, t', os⟩) : wpAny M A X Q E ⟨h, g, d, t, os⟩ :=
  wpAny_mono x (fun v s' hv => by cases hv with | mk h' t' kp => exact k h' t' kp) fun _ _ x => x.elim
local macro_rules | `(tactic| x_close) => `(tactic| first
  | exact NonePost.mk _ _ fun _ _ e => e
  | (rename Mem _ _ _ _ => D1; first
    | exact none_post D1
    | (refine obj_post D1 rfl ?q; (case q => exact ⟨none, #[], by kernel_rfl⟩))))
theorem super_call {prog : Program} {w : World} {s : Shared} {C : Addr} {dd : Option Addr} {sl : Array (Option Value)} {cd : ClassData}
    (hC : s.heap.get? C = some ⟨.type "type", dd, .cls { cd with mro := [.ref C, .type "object"] }, sl⟩) :
    wpAny (model prog w) (AL 400) (call (.type "super") [.ref C, .ref C]) (ObjPost (RecAt "super" #[.ref C, .ref C, .ref C]) s) (fun _ _ => False) s := by
  x_run
theorem cm_get {prog : Program} {w : World} {s : Shared} {C : Addr} {dd : Option Addr} {sl : Array (Option Value)} {cd : ClassData}
    (hC : s.heap.get? C = some ⟨.type "type", dd, .cls { cd with mro := [.ref C, .type "object"] }, sl⟩) :
    wpAny (model prog w) (AL 420) (call (.builtin "classmethod_descriptor.__get__") [.builtin "object.__init_subclass__", .none, .ref C]) (ObjPost (RecAt "builtin_function_or_method" #[.builtin "object.__init_subclass__", .ref C]) s) (fun _ _ => False) s := by
  x_run
theorem init_sub {prog : Program} {w : World} {s : Shared} {C m N : Addr} {dd dm : Option Addr} {slm : Array (Option Value)} {bs sub : List Value} {tq tn : Tok} {v0 v4 v5 v1 : Option Value}
    (hC : s.heap.get? C = some ⟨.type "type", dd, .cls { name := Str.ofString "K", bases := bs, mro := [.ref C, .type "object"], ns := N, qualname := Str.ofString "cmp_to_key.<locals>.K", hasDict := false, slotNames := [Str.ofString "obj"], subclasses := sub }, #[v0, v1, some (.str (Str.ofString "K") tn), some (.str (Str.ofString "cmp_to_key.<locals>.K") tq), v4, v5]⟩)
    (hm : s.heap.get? m = some ⟨.type "builtin_function_or_method", dm, .fields #[.builtin "object.__init_subclass__", .ref C], slm⟩) :
    wpAny (model prog w) (AL 400) (call (.ref m) []) (NonePost s) (fun _ _ => False) s := by
  x_run
theorem slot_sup : Slot "super" "__getattribute__" "super.__getattribute__" :=
  .of (owner := "super") (n := "__getattribute__") (by rw [typeLookup_type, builtinLookup_eq_fast]; kernel_rfl) (by decide +kernel) (by decide +kernel) (by decide +kernel)
    (by first | exact .inl (by decide +kernel) | exact .inr (by decide +kernel)) (by rw [isSubtype_type]; kernel_rfl)
theorem entry_sup : entryFor table "super.__getattribute__" = some Builtin.«super.__getattribute__» := entryFor_of_tree (by kernel_rfl)
theorem args_sup (a b : Value) : argsOk "super.__getattribute__" ⟨[a, b], []⟩ := by unfold argsOk; kernel_rfl
theorem getattr_sup {w : World} {A : Around} {E : Value → Shared → Prop} {Q : Value → Shared → Prop} {s : Shared} {p C : Addr} {d : Option Addr} {sl slC : Array (Option Value)} {dC : Option Addr} {cd : ClassData} (ho : s.heap.get? p = some ⟨.type "super", d, .fields #[.ref C, .ref C, .ref C], sl⟩)
    (hC : s.heap.get? C = some ⟨.type "type", dC, .cls cd, slC⟩) (hm : cd.mro = [.ref C, .type "object"]) (hl2 : Looks (model P0 w) s.heap (opaqueClassAbove (.ref C)) none) (hA1 : A.in1.handled = none) (hA2 : A.in1.depth ≤ 420) (hA3 : A.in1.units ≤ 8 * 420)
    (hQ : ∀ m dm slm h' t', h'.get? m = some ⟨.type "builtin_function_or_method", dm, .fields #[.builtin "object.__init_subclass__", .ref C], slm⟩ → (∀ b o, s.heap.get? b = some o → h'.get? b = some o) → Q (.ref m) ⟨h', s.gens, s.drawn, t', s.os⟩) : wpAny (model P0 w) A (getAttr (.ref p) "__init_subclass__") Q E s := by
  unfold getAttr getAttrBy
  have L0 : Looks (model P0 w) s.heap (typeOf (.ref p)) (.type "super") := (Looks.ld ho).andThen .now
  refine wpAny_bind (wpAny_mkText (wpAny_holding (wpAny_bind (Looks.here (s := { s with toks := s.toks + 1 }) L0 (wpAny_bind ?_)))))
  refine Looks.here (s := { s with toks := s.toks + 1 }) (r := some (.builtin "super.__getattribute__")) (Looks.of_pure (by rw [typeLookup_type, builtinLookup_eq_fast]; kernel_rfl)) ?_
  refine ite_nb rfl ?_
  unfold getAttrByItsOwn
  refine wpAny_bind ?_
  refine Looks.here (s := { s with toks := s.toks + 1 }) (r := none) (Looks.of_pure (by kernel_rfl)) ?_
  refine wpAny_bind (wpAny_attempt (wpAny_holding ?_))
  unfold callGetattribute
  refine ite_nb rfl ?_
  unfold boundAndCalled
  rw [slot_sup.bind]
  refine wpAny_bind (wpAny_pure ?_)
  refine wpAny_call (codeAny_call_builtin slot_sup.plain entry_sup (slot_sup.check _ _ _ _ _ _ _ _ ⟨_, ho, rfl⟩ (args_sup _ _) ?_))
  unfold Builtin.«super.__getattribute__»
  have f0 := looks_field (M := model P0 w) ho 0 (v := .ref C) rfl
  have f1 := looks_field (M := model P0 w) ho 1 (v := .ref C) rfl
  have f2 := looks_field (M := model P0 w) ho 2 (v := .ref C) rfl
  have hS : ∀ {α : Type} {t : Sem α} {r : α} {Q : α → Shared → Prop} {E : Value → Shared → Prop} {A : Around}, Looks (model P0 w) s.heap t r → Q r { s with toks := s.toks + 1 } → wpAny (model P0 w) A t Q E { s with toks := s.toks + 1 } := fun L q => Looks.here (s := { s with toks := s.toks + 1 }) L q
  refine wpAny_bind (hS (r := some (Str.ofString "__init_subclass__")) (Looks.of_pure (by kernel_rfl)) ?_)
  refine wpAny_bind (hS (r := some (Str.ofString "__init_subclass__")) (Looks.of_pure (by kernel_rfl)) ?_)
  refine wpAny_bind (hS f0 ?_)
  refine wpAny_bind (hS f1 ?_)
  refine wpAny_bind (hS f2 ?_)
  refine ite_nb ?_ ?_
  · kernel_rfl
  refine wpAny_bind ?_
  unfold notOfAnOpaqueClass
  refine wpAny_bind (hS hl2 (wpAny_pure ?_))
  refine ite_nb ?_ ?_
  · kernel_rfl
  have Lm : Looks (model P0 w) s.heap (mroOf (.ref C)) cd.mro := ((Looks.ld hC).andThen .now).andThen .now
  refine wpAny_bind (hS Lm ?_)
  rw [hm]
  rw [show List.drop 1 (List.dropWhile (fun x => x != Value.ref C) [Value.ref C, Value.type "object"]) = [Value.type "object"] from by rw [List.dropWhile_cons_of_neg (by simp)]; rfl]
  refine wpAny_bind (nd_for (wpAny_bind (wpAny_bind ?_)))
  refine hS (r := some (.builtin "object.__init_subclass__")) (Looks.of_pure (by kernel_rfl)) ?_
  refine wpAny_bind ?_
  refine hS (r := .type "classmethod_descriptor") (Looks.of_pure (by kernel_rfl)) ?_
  refine wpAny_bind ?_
  refine hS (r := some (.builtin "classmethod_descriptor.__get__")) (Looks.of_pure (by rw [typeLookup_type, builtinLookup_eq_fast]; kernel_rfl)) ?_
  rw [if_pos (beq_self_eq_true (Value.ref C))]
  refine wpAny_bind (wpAny_holding (AL.of 420 hA1 hA2 hA3 (ObjPost.rec_ (cm_get (s := { s with toks := s.toks + 1 }) (cd := cd) (by rw [← hm]; exact hC)) fun m dm slm h' t' e1 _ e3 => ?_)))
  refine wpAny_bind (wpAny_pure (wpAny_pure (wpAny_pure ?_)))
  refine wpAny_pure ?_
  exact handed_on rfl (hQ m dm slm h' t' e1 e3)
end
section
open PySem PySem.W PyProof.Rows PySem.Calls PySem.Spec PySem.W.X
set_option maxRecDepth 100000
set_option maxHeartbeats 4000000
abbrev kEnts (h0 h1 h2 h3 h4 h5 h6 h7 h8 h9 h10 h11 : Int) (t0 t1 t2 t3 t4 t5 t6 t7 t8 t9 t10 t11 : Tok) (vm vq vl : Value) (SL f1 f2 f3 f4 f5 f6 SA : Addr) : List DictEntry :=
  [⟨h0, .str "__module__" t0, vm⟩, ⟨h1, .str "__qualname__" t1, vq⟩, ⟨h2, .str "__firstlineno__" t2, vl⟩, ⟨h3, .str "__slots__" t3, .ref SL⟩, ⟨h4, .str "__init__" t4, .ref f1⟩, ⟨h5, .str "__lt__" t5, .ref f2⟩,
   ⟨h6, .str "__gt__" t6, .ref f3⟩, ⟨h7, .str "__eq__" t7, .ref f4⟩, ⟨h8, .str "__le__" t8, .ref f5⟩, ⟨h9, .str "__ge__" t9, .ref f6⟩, ⟨h10, .str "__hash__" t10, .none⟩, ⟨h11, .str "__static_attributes__" t11, .ref SA⟩]
abbrev kEnts2 (h0 h2 h3 h4 h5 h6 h7 h8 h9 h10 h11 h12 h13 : Int) (t0 t2 t3 t4 t5 t6 t7 t8 t9 t10 t11 t12 t13 : Tok) (vm vl : Value) (SL f1 f2 f3 f4 f5 f6 SA Dd : Addr) : List DictEntry :=
  [⟨h0, .str "__module__" t0, vm⟩, ⟨h2, .str "__firstlineno__" t2, vl⟩, ⟨h3, .str "__slots__" t3, .ref SL⟩, ⟨h4, .str "__init__" t4, .ref f1⟩, ⟨h5, .str "__lt__" t5, .ref f2⟩,
   ⟨h6, .str "__gt__" t6, .ref f3⟩, ⟨h7, .str "__eq__" t7, .ref f4⟩, ⟨h8, .str "__le__" t8, .ref f5⟩, ⟨h9, .str "__ge__" t9, .ref f6⟩, ⟨h10, .str "__hash__" t10, .none⟩, ⟨h11, .str "__static_attributes__" t11, .ref SA⟩,
   ⟨h12, .str "obj" t12, .ref Dd⟩, ⟨h13, .str "__doc__" t13, .none⟩]
abbrev kCd (C N : Addr) : ClassData := { name := Str.ofString "K", bases := [.type "object"], mro := [.ref C, .type "object"], ns := N, qualname := Str.ofString "cmp_to_key.<locals>.K", hasDict := false, slotNames := [Str.ofString "obj"], subclasses := [] }
abbrev kCls (C N T : Addr) (t tq : Tok) : Obj := ⟨.type "type", none, .cls (kCd C N),
  #[some (.ref T), none, some (.str (Str.ofString "K") t), some (.str (Str.ofString "cmp_to_key.<locals>.K") tq), some (.builtin "object.__new__"), some (.bool false)]⟩
theorem L_opq {M : Model} {h : Heap} {C : Addr} {o2 : Obj} (e : h.get? cStatics = some o2) (hl : lookIn "thirdparty.any" o2 = some none) : Looks M h (opaqueClassAbove (.ref C)) none := by
  unfold opaqueClassAbove anyOpaqueLoaded
  exact Looks.andThen (Looks.andThen (L_ns e hl) .now) .now
theorem slots_read {w : World} {A : Around} {E : Value → Shared → Prop} {s : Shared} {SL : Addr} {ts : Tok} {nl : Nat} {vm vq vl : Value} {f1 f2 f3 f4 f5 f6 SA : Addr} {h0 h1 h2 h3 h4 h5 h6 h7 h8 h9 h10 h11 : Int} {t0 t1 t2 t3 t4 t5 t6 t7 t8 t9 t10 t11 : Tok}
    {Q : Builtin.Slots.Plan → Shared → Prop}
    (hS : s.heap.get? SL = some { cls := .type "list", data := .seq #[.str "obj" ts] nl })
    (h : ∀ h', (∀ b o, s.heap.get? b = some o → h'.get? b = some o) → Q { names := [Str.ofString "obj"], dict := false, weak := false, inherited := [] } { s with heap := h' }) :
    wpAny (model P0 w) A (Builtin.Slots.read "K" [.type "object"] ⟨kEnts h0 h1 h2 h3 h4 h5 h6 h7 h8 h9 h10 h11 t0 t1 t2 t3 t4 t5 t6 t7 t8 t9 t10 t11 vm vq vl SL f1 f2 f3 f4 f5 f6 SA⟩) Q E s := by
  unfold Builtin.Slots.read
  refine wpAny_bind (Looks.here (r := Value.type "object") (Looks.of_pure (by kernel_rfl)) ?_)
  refine wpAny_bind (Looks.here (r := ([] : List Str)) (Looks.of_pure (by kernel_rfl)) ?_)
  refine wpAny_bind (Looks.here (r := false) (Looks.of_pure (by kernel_rfl)) ?_)
  refine wpAny_bind (Looks.here (r := false) (Looks.of_pure (by kernel_rfl)) ?_)
  refine wpAny_bind (Looks.here (r := false) (Looks.of_pure (by kernel_rfl)) ?_)
  refine wpAny_bind (wpAny_rule ?_)
  have LS : Looks (model P0 w) s.heap (asStr? (.ref SL)) none := Looks.andThen (Looks.ld hS) (Looks.of_pure (by kernel_rfl))
  refine wpAny_bind (m := asStr? (.ref SL)) (Looks.here LS ?_)
  refine wpAny_bind (m := collect (.ref SL)) (collect_list (vs := [.str "obj" ts]) ⟨_, hS, rfl, _, rfl⟩ ?_)
  refine Looks.here (r := { names := [Str.ofString "obj"], dict := false, weak := false, inherited := [] }) (Looks.of_pure (by kernel_rfl)) (h _ fun b o e => ?_)
  rw [Heap.get?_update_ne _ _ _ _ (Nat.ne_of_lt (Heap.lt_size e)), Heap.get?_push_ne _ _ _ (Nat.ne_of_lt (Heap.lt_size e))]
  exact e
theorem tn {w : World} {A : Around} {P : PySem.Fin → Shared → Prop} {E : Value → Shared → Prop} {hh : Heap} {g : Array GenState} {d : Drawn} {tk : Nat} {os : OsState} {T NS SL : Addr} {t tq ts : Tok} {n nl : Nat}
    {f1 f2 f3 f4 f5 f6 SA : Addr} {sm : Str} {tm tl : Tok} {il : Int} {e0 e1 e2 e3 e4 e5 e6 e7 e8 e9 e10 e11 : Int} {t0 t1 t2 t3 t4 t5 t6 t7 t8 t9 t10 t11 : Tok} {o1 o2 o3 o4 o5 o6 oA : Obj}
    (hT : hh.get? T = some { cls := .type "tuple", data := .seq #[.type "object"] 0 })
    (hN : hh.get? NS = some { cls := .type "dict", data := .dict ⟨kEnts e0 e1 e2 e3 e4 e5 e6 e7 e8 e9 e10 e11 t0 t1 t2 t3 t4 t5 t6 t7 t8 t9 t10 t11 (.str sm tm) (.str "cmp_to_key.<locals>.K" tq) (.int il tl) SL f1 f2 f3 f4 f5 f6 SA⟩ n })
    (hS : hh.get? SL = some { cls := .type "list", data := .seq #[.str "obj" ts] nl })
    (hF1 : hh.get? f1 = some o1) (hc1 : o1.cls = .type "function") (hF2 : hh.get? f2 = some o2) (hc2 : o2.cls = .type "function") (hF3 : hh.get? f3 = some o3) (hc3 : o3.cls = .type "function")
    (hF4 : hh.get? f4 = some o4) (hc4 : o4.cls = .type "function") (hF5 : hh.get? f5 = some o5) (hc5 : o5.cls = .type "function") (hF6 : hh.get? f6 = some o6) (hc6 : o6.cls = .type "function")
    (hA : hh.get? SA = some oA) (hcA : oA.cls = .type "tuple")
    (hns : NS ≠ sysModules) {oS : Obj} (hst : hh.get? cStatics = some oS) (hl2 : lookIn "thirdparty.any" oS = some none) (hA1 : A.handled = none) (hA2 : A.depth ≤ 390) (hA3 : A.units ≤ 8 * 390)
    (hP : ∀ s' C N Dd hs hs12 oC oN, (∀ b o, hh.get? b = some o → s'.heap.get? b = some o) → s'.heap.get? C = some oC → oC = kCls C N T t tq → s'.heap.get? N = some oN →
      oN = { cls := .type "dict", data := .dict ⟨kEnts2 e0 e2 e3 e4 e5 e6 e7 e8 e9 e10 e11 hs hs12 t0 t2 t3 t4 t5 t6 t7 t8 t9 t10 t11 (tk + 1) (tk + 1 + 1) (.str sm tm) (.int il tl) SL f1 f2 f3 f4 f5 f6 SA Dd⟩ 3 } →
      s'.heap.get? Dd = some (descO C tk) → hh.get? C = none → hh.get? N = none → hh.get? Dd = none → N ≠ C → Dd ≠ C → Dd ≠ N → s'.gens = g → s'.os = os → P (.done (.ret (.ref C))) s') :
    wpAny (model P0 w) A (Builtin.«type.__new__» ⟨[.type "type", .str "K" t, .ref T, .ref NS], []⟩) P E ⟨hh, g, d, tk, os⟩ := by
  have D := Mem.start hh
  have LT : Looks (model P0 w) hh (isInstance (.ref T) (.type "tuple")) true := ((Looks.ld hT).andThen .now).andThen (Looks.of_pure (by kernel_rfl))
  have LN : Looks (model P0 w) hh (isInstance (.ref NS) (.type "dict")) true := ((Looks.ld hN).andThen .now).andThen (Looks.of_pure (by kernel_rfl))
  have LI : Looks (model P0 w) hh (seqItems? (.ref T)) (some #[.type "object"]) := (Looks.ld hT).andThen .now
  refine wpAny_bind (m := asStr? (Value.str "K" t)) ?_
  refine Looks.at (r := some (Str.ofString "K")) (Looks.of_pure (by kernel_rfl)) ?_
  refine wpAny_bind (m := isInstance (.ref T) (.type "tuple")) (LT.at ?_)
  refine wpAny_bind (m := isInstance (.ref NS) (.type "dict")) (LN.at ?_)
  refine wpAny_bind (m := seqItems? (.ref T)) (LI.at ?_)
  refine wpAny_bind ?_
  refine Looks.at (r := PUnit.unit) (Looks.of_pure (by kernel_rfl)) ?_
  refine wpAny_bind ?_
  refine Looks.at (r := Value.type "type") (Looks.of_pure (by kernel_rfl)) ?_
  refine wpAny_bind ?_
  refine Looks.at (r := ()) (Looks.of_pure (by kernel_rfl)) ?_
  refine wpAny_bind ?_
  refine Looks.at (r := Value.type "object") (Looks.of_pure (by kernel_rfl)) ?_
  refine ite_no (c := (NS == sysModules) = true) (by simpa using hns) ?_
  have LE : Looks (model P0 w) hh (dictEntries NS) ⟨kEnts e0 e1 e2 e3 e4 e5 e6 e7 e8 e9 e10 e11 t0 t1 t2 t3 t4 t5 t6 t7 t8 t9 t10 t11 (.str sm tm) (.str "cmp_to_key.<locals>.K" tq) (.int il tl) SL f1 f2 f3 f4 f5 f6 SA⟩ := (Looks.ld hN).andThen .now
  have LW : Looks (model P0 w) hh (specialOf (Value.ref NS) "__iter__") (some (.builtin "dict.__iter__")) := ((Looks.ld hN).andThen .now).andThen (Looks.of_pure (by kernel_rfl))
  refine wpAny_bind (LE.at ?_)
  refine wpAny_bind (LW.at ?_)
  refine wpAny_bind (wpAny_pure ?_)
  refine wpAny_bind (wpAny_holding (slots_read (s := ⟨hh, g, d, tk, os⟩) hS fun h1 k1 => ?_))
  refine wpAny_bind (m_newObj (Mem.start h1) (by size_fits) rfl fun N h2 D2 => ?_)
  have hn2 := D2.at 0 _ _ rfl
  refine ite_nb ?_ ?_
  · kernel_rfl
  refine wpAny_bind ?_
  refine Looks.at (r := ()) (Looks.of_pure (by kernel_rfl)) ?_
  refine ite_nb ?_ ?_
  · kernel_rfl
  refine wpAny_bind ((L_ns (name := "__qualname__") (r := some (.str "cmp_to_key.<locals>.K" tq)) hn2 (by kernel_rfl)).at ?_)
  refine wpAny_bind ((L_ns (name := "__qualname__") (r := some (.str "cmp_to_key.<locals>.K" tq)) hn2 (by kernel_rfl)).at ?_)
  refine wpAny_bind ?_
  refine Looks.at (r := some (Str.ofString "cmp_to_key.<locals>.K")) (Looks.of_pure (by kernel_rfl)) ?_
  refine wpAny_bind (wpAny_pure ?_)
  refine wpAny_bind ((L_ns (name := "__doc__") (r := none) hn2 (by kernel_rfl)).at ?_)
  refine wpAny_bind (m_alloc D2 rfl fun C h3 D3 => wpAny_pure ?_)
  refine wpAny_bind (m_slot D3 0 rfl (by decide) rfl fun h4 D4 => ?_)
  refine wpAny_bind (m_slot D4 0 rfl (by decide) rfl fun h5 D5 => ?_)
  refine wpAny_bind (m_slot D5 0 rfl (by decide) rfl fun h6 D6 => ?_)
  refine wpAny_bind (m_nsDel D6 1 rfl (by kernel_rfl) rfl fun h7 D7 => ?_)
  have hn7 := D7.at 1 _ _ rfl
  refine wpAny_bind ((L_ns (name := "__new__") (r := none) hn7 (by kernel_rfl)).at ?_)
  refine wpAny_bind ?_
  refine nd_for ?_
  refine wpAny_bind (wpAny_bind ((L_ns (name := "__init_subclass__") (r := none) hn7 (by kernel_rfl)).at (wpAny_pure ?_)))
  refine nd_for ?_
  refine wpAny_bind (wpAny_bind ((L_ns (name := "__class_getitem__") (r := none) hn7 (by kernel_rfl)).at (wpAny_pure ?_)))
  refine nd_for0 ?_
  refine wpAny_bind ((L_ns (name := "__classcell__") (r := none) hn7 (by kernel_rfl)).at ?_)
  refine wpAny_bind ((L_ns (name := "__classdictcell__") (r := none) hn7 (by kernel_rfl)).at ?_)
  refine wpAny_bind ?_
  refine Looks.at (r := (none : Option Value)) (Looks.of_pure (by kernel_rfl)) ?_
  refine wpAny_bind ?_
  refine Looks.at (r := [Value.type "object"]) (Looks.of_pure (by kernel_rfl)) ?_
  refine wpAny_bind (wpAny_pure ?_)
  refine wpAny_bind ?_
  rw [show List.filter (fun x => x != Value.ref C) [Value.ref C, Value.type "object"] = [Value.type "object"] from by rw [List.filter_cons_of_neg (by simp), List.filter_cons_of_pos (by simp), List.filter_nil]]
  refine Looks.at (r := false) (Looks.of_pure (by kernel_rfl)) ?_
  refine wpAny_bind (m_updateCls D7 0 rfl rfl rfl (by kernel_rfl) fun h8 D8 => ?_)
  refine wpAny_bind ?_
  refine Looks.at (r := some "object.__new__") (Looks.of_pure (by kernel_rfl)) ?_
  refine wpAny_bind (m_slot D8 0 rfl (by decide) rfl fun h9 D9 => ?_)
  refine wpAny_bind (refresh (id := "object.__new__") D9 rfl rfl (by kernel_rfl) (by kernel_rfl) (by kernel_rfl) ?_)
  refine wpAny_bind (install_spec (rest := []) D9 rfl rfl (by kernel_rfl) (by kernel_rfl) (Nat.le_of_ble_eq_true rfl) (fun _ _ _ => rfl) (by kernel_rfl) fun h10 Dd hs D10 => ?_)
  refine wpAny_bind ?_
  refine Looks.at (r := false) (Looks.of_pure (by kernel_rfl)) ?_
  refine wpAny_bind (m_slot D10 1 rfl (by decide) rfl fun h11 D11 => ?_)
  have hn11 := D11.at 2 _ _ rfl
  refine wpAny_bind ((L_ns (name := "__doc__") (r := none) hn11 (by kernel_rfl)).at ?_)
  refine wpAny_bind (m_nsSet D11 2 rfl rfl (by kernel_rfl) (fun _ => rfl) fun h12 hs12 D12 => ?_)
  have hn12 := D12.at 2 _ _ rfl
  refine wpAny_bind ((L_ns (name := "__eq__") (r := some (.ref f4)) hn12 (by kernel_rfl)).at ?_)
  refine wpAny_bind ((L_ns (name := "__hash__") (r := some .none) hn12 (by kernel_rfl)).at ?_)
  refine wpAny_bind ?_
  refine Looks.at (r := PUnit.unit) (Looks.of_pure (by kernel_rfl)) ?_
  refine wpAny_bind (wpAny_tryCatch (wpAny_holding ?_))
  have LE12 : Looks (model P0 w) h12 (dictEntries N) ⟨kEnts2 e0 e2 e3 e4 e5 e6 e7 e8 e9 e10 e11 hs hs12 t0 t2 t3 t4 t5 t6 t7 t8 t9 t10 t11 (tk + 1) (tk + 1 + 1) (.str sm tm) (.int il tl) SL f1 f2 f3 f4 f5 f6 SA Dd⟩ := Looks.andThen (Looks.ld hn12) (Looks.of_pure (by kernel_rfl))
  refine wpAny_bind (LE12.at ?_)
  refine wpAny_bind ?_
  refine Looks.at (r := false) (Looks.of_pure (by kernel_rfl)) ?_
  refine ite_nb rfl ?_
  refine wpAny_bind (LE12.at ?_)
  have old : ∀ b o, hh.get? b = some o → h12.get? b = some o := fun b o e => D12.keep b o (k1 b o e) (by simp [away])
  have L0 : Looks (model P0 w) h12 (specialOf (.str sm tm) "__set_name__") none := Looks.of_pure (by kernel_rfl)
  have Li : Looks (model P0 w) h12 (specialOf (.int il tl) "__set_name__") none := Looks.of_pure (by kernel_rfl)
  have Ln : Looks (model P0 w) h12 (specialOf .none "__set_name__") none := Looks.of_pure (by kernel_rfl)
  have LSL := L_sn (M := model P0 w) (old _ _ hS) rfl (by kernel_rfl)
  have LF1 := L_sn (M := model P0 w) (old _ _ hF1) hc1 (by kernel_rfl)
  have LF2 := L_sn (M := model P0 w) (old _ _ hF2) hc2 (by kernel_rfl)
  have LF3 := L_sn (M := model P0 w) (old _ _ hF3) hc3 (by kernel_rfl)
  have LF4 := L_sn (M := model P0 w) (old _ _ hF4) hc4 (by kernel_rfl)
  have LF5 := L_sn (M := model P0 w) (old _ _ hF5) hc5 (by kernel_rfl)
  have LF6 := L_sn (M := model P0 w) (old _ _ hF6) hc6 (by kernel_rfl)
  have LSA := L_sn (M := model P0 w) (old _ _ hA) hcA (by kernel_rfl)
  have LDd := L_sn (M := model P0 w) (D12.at 0 _ _ rfl) rfl (by kernel_rfl)
  refine wpAny_bind (nd_forA ?_)
  refine nd_for (wpAny_bind (ite_nb rfl (wpAny_bind (Looks.at L0 (wpAny_pure ?_)))))
  refine nd_for (wpAny_bind (ite_nb rfl (wpAny_bind (Looks.at Li (wpAny_pure ?_)))))
  refine nd_for (wpAny_bind (ite_nb rfl (wpAny_bind (Looks.at LSL (wpAny_pure ?_)))))
  refine nd_for (wpAny_bind (ite_nb rfl (wpAny_bind (Looks.at LF1 (wpAny_pure ?_)))))
  refine nd_for (wpAny_bind (ite_nb rfl (wpAny_bind (Looks.at LF2 (wpAny_pure ?_)))))
  refine nd_for (wpAny_bind (ite_nb rfl (wpAny_bind (Looks.at LF3 (wpAny_pure ?_)))))
  refine nd_for (wpAny_bind (ite_nb rfl (wpAny_bind (Looks.at LF4 (wpAny_pure ?_)))))
  refine nd_for (wpAny_bind (ite_nb rfl (wpAny_bind (Looks.at LF5 (wpAny_pure ?_)))))
  refine nd_for (wpAny_bind (ite_nb rfl (wpAny_bind (Looks.at LF6 (wpAny_pure ?_)))))
  refine nd_for (wpAny_bind (ite_nb rfl (wpAny_bind (Looks.at Ln (wpAny_pure ?_)))))
  refine nd_for (wpAny_bind (ite_nb rfl (wpAny_bind (Looks.at LSA (wpAny_pure ?_)))))
  refine nd_for (wpAny_bind (ite_nb rfl (wpAny_bind (Looks.at LDd (wpAny_pure ?_)))))
  refine nd_for (wpAny_bind (ite_nb rfl (wpAny_bind (Looks.at Ln (wpAny_pure ?_)))))
  refine nd_for0 ?_
  have hC12 : h12.get? C = some (kCls C N T t tq) := (D12.at 1 _ _ rfl).trans (congrArg some (by kernel_rfl))
  refine wpAny_bind (AL.of 400 hA1 (by omega) (by omega) (ObjPost.rec_ (super_call (cd := kCd C N) hC12) fun p dp slp hh1 tk1 p1 _ p3 => ?_))
  refine wpAny_bind (wpAny_holding (getattr_sup (s := ⟨hh1, g, d, tk1, os⟩) (cd := kCd C N) p1 (p3 _ _ hC12) rfl (L_opq (p3 _ _ (old _ _ hst)) hl2) hA1 (by simp only [Around.in1_depth]; omega) (by show A.units + 1 ≤ _; omega) fun m dm slm hh2 tk2 m1 m3 => ?_))
  dsimp only at m3
  refine wpAny_bind (AL.of 400 hA1 (by omega) (by omega) (NonePost.use (init_sub (s := ⟨hh2, g, d, tk2, os⟩) (m3 _ _ (p3 _ _ hC12)) m1) fun hh3 tk3 n3 => ?_))
  refine wpAny_pure (wpAny_pure ?_)
  have up : ∀ b o, h12.get? b = some o → hh3.get? b = some o := fun b o e => n3 _ _ (m3 _ _ (p3 _ _ e))
  have hfr : ∀ b, h1.get? b = none → hh.get? b = none := fun b e => by
    cases q : hh.get? b with
    | none => rfl
    | some o => rw [k1 _ _ q] at e; cases e
  refine hP ⟨hh3, g, d, tk3, os⟩ C N Dd hs hs12 _ _ (fun b o e => up b o (old b o e)) (up _ _ hC12) rfl (up _ _ hn12) (by kernel_rfl) (up _ _ (D12.at 0 _ _ rfl)) (hfr _ ?_) (hfr _ ?_) (hfr _ ?_) (Ne.symm (D12.ne 1 2 _ _ _ _ rfl rfl rfl)) (D12.ne 0 1 _ _ _ _ rfl rfl rfl) (D12.ne 0 2 _ _ _ _ rfl rfl rfl) rfl rfl
  · exact (D12.nw _ (List.mem_of_getElem? (show _ = some (C, _) from (rfl : (_ : List (Addr × Obj))[1]? = _)))).2
  · exact (D12.nw _ (List.mem_of_getElem? (show _ = some (N, _) from (rfl : (_ : List (Addr × Obj))[2]? = _)))).2
  · exact (D12.nw _ (List.mem_of_getElem? (show _ = some (Dd, _) from (rfl : (_ : List (Addr × Obj))[0]? = _)))).2
end
section
open PySem PySem.W PyProof.Rows PySem.Calls PySem.Spec PySem.W.X PySem.W.ZRun
set_option maxRecDepth 100000
set_option maxHeartbeats 4000000
theorem entry_tnew : entryFor table "type.__new__" = some Builtin.«type.__new__» := entryFor_of_tree (by kernel_rfl)
local macro_rules | `(tactic| x_close) => `(tactic| first
  | exact NonePost.mk _ _ fun _ _ e => e
  | (rename Mem _ _ _ _ => D1; exact none_post D1))
theorem type_init {prog : Program} {w : World} {s : Shared} {C T NS N : Addr} {t tq : Tok} (hC : s.heap.get? C = some (kCls C N T t tq)) :
    wpAny (model prog w) (AL 400) (call (.builtin "type.__init__") [.ref C, .str "K" t, .ref T, .ref NS]) (NonePost s) (fun _ _ => False) s := by
  unfold kCls at hC
  x_run
theorem tc {w : World} {A : Around} {Q : Value → Shared → Prop} {E : Value → Shared → Prop} {hh : Heap} {g : Array GenState} {d : Drawn} {tk : Nat} {os : OsState} {T NS SL : Addr} {t tq ts : Tok} {n nl : Nat}
    {f1 f2 f3 f4 f5 f6 SA : Addr} {sm : Str} {tm tl : Tok} {il : Int} {e0 e1 e2 e3 e4 e5 e6 e7 e8 e9 e10 e11 : Int} {t0 t1 t2 t3 t4 t5 t6 t7 t8 t9 t10 t11 : Tok} {o1 o2 o3 o4 o5 o6 oA : Obj}
    (hT : hh.get? T = some { cls := .type "tuple", data := .seq #[.type "object"] 0 })
    (hN : hh.get? NS = some { cls := .type "dict", data := .dict ⟨kEnts e0 e1 e2 e3 e4 e5 e6 e7 e8 e9 e10 e11 t0 t1 t2 t3 t4 t5 t6 t7 t8 t9 t10 t11 (.str sm tm) (.str "cmp_to_key.<locals>.K" tq) (.int il tl) SL f1 f2 f3 f4 f5 f6 SA⟩ n })
    (hS : hh.get? SL = some { cls := .type "list", data := .seq #[.str "obj" ts] nl })
    (hF1 : hh.get? f1 = some o1) (hc1 : o1.cls = .type "function") (hF2 : hh.get? f2 = some o2) (hc2 : o2.cls = .type "function") (hF3 : hh.get? f3 = some o3) (hc3 : o3.cls = .type "function")
    (hF4 : hh.get? f4 = some o4) (hc4 : o4.cls = .type "function") (hF5 : hh.get? f5 = some o5) (hc5 : o5.cls = .type "function") (hF6 : hh.get? f6 = some o6) (hc6 : o6.cls = .type "function")
    (hA : hh.get? SA = some oA) (hcA : oA.cls = .type "tuple")
    (hns : NS ≠ sysModules) {oS : Obj} (hst : hh.get? cStatics = some oS) (hl2 : lookIn "thirdparty.any" oS = some none) (hA1 : A.handled = none) (hA2 : A.depth ≤ 380) (hA3 : A.units ≤ 8 * 380)
    (hP : ∀ s' C N Dd hs hs12 oC oN, (∀ b o, hh.get? b = some o → s'.heap.get? b = some o) → s'.heap.get? C = some oC → oC = kCls C N T t tq → s'.heap.get? N = some oN →
      oN = { cls := .type "dict", data := .dict ⟨kEnts2 e0 e2 e3 e4 e5 e6 e7 e8 e9 e10 e11 hs hs12 t0 t2 t3 t4 t5 t6 t7 t8 t9 t10 t11 (tk + 1) (tk + 1 + 1) (.str sm tm) (.int il tl) SL f1 f2 f3 f4 f5 f6 SA Dd⟩ 3 } →
      s'.heap.get? Dd = some (descO C tk) → hh.get? C = none → hh.get? N = none → hh.get? Dd = none → N ≠ C → Dd ≠ C → Dd ≠ N → s'.gens = g → s'.os = os → Q (.ref C) s') :
    wpAny (model P0 w) A (call (.type "type") [.str "K" t, .ref T, .ref NS]) Q E ⟨hh, g, d, tk, os⟩ := by
  refine wpAny_call (codeAny_of_tree ?_)
  show wpAny _ _ (callAny (.type "type") _) _ _ _
  refine wpAny_pure ⟨Code.quiet_builtin _ (by decide +kernel), codeAny_builtin F.entry_type_call ?_⟩
  rw [Around.under_plain (weight_type_call_type "type" [.str "K" t, .ref T, .ref NS] []) (units_type_call_type "type" [.str "K" t, .ref T, .ref NS] [])]
  unfold Builtin.«type.__call__»
  refine ite_yb ?_ ?_
  · kernel_rfl
  refine ite_nb ?_ ?_
  · kernel_rfl
  refine ite_nb ?_ ?_
  · kernel_rfl
  refine ite_nb ?_ ?_
  · kernel_rfl
  refine wpAny_bind ?_
  refine Looks.at (r := ()) (Looks.of_pure (by kernel_rfl)) ?_
  refine wpAny_bind ?_
  refine Looks.at (r := [Value.type "type", Value.type "object"]) (Looks.of_pure (by kernel_rfl)) ?_
  refine wpAny_bind ?_
  refine Looks.at (r := some "type.__new__") (Looks.of_pure (by kernel_rfl)) ?_
  refine wpAny_bind (wpAny_pure ?_)
  refine wpAny_bind (wpAny_holding (wpAny_call (codeAny_call_builtin (by decide +kernel) entry_tnew ?_)))
  refine Looks.at (r := ()) (Looks.of_pure (by kernel_rfl)) ?_
  refine tn (hh := hh) (A := A.in1.in1) hT hN hS hF1 hc1 hF2 hc2 hF3 hc3 hF4 hc4 hF5 hc5 hF6 hc6 hA hcA hns hst hl2 hA1 (by show A.depth ≤ _; omega) (by show A.units + 1 + 1 ≤ _; omega) fun s' C N Dd hs hs12 oC oN q1 q2 q3 q4 q5 q6 q7 q8 q9 q10 q11 q12 q13 q14 => ?_
  subst q3
  have LT : Looks (model P0 w) s'.heap (typeOf (.ref C)) (.type "type") := (Looks.ld q2).andThen .now
  have LI : Looks (model P0 w) s'.heap (isInstance (.ref C) (.type "type")) true := LT.andThen (Looks.of_pure (by kernel_rfl))
  have LS : Looks (model P0 w) s'.heap (specialOf (.ref C) "__init__") (some (.builtin "type.__init__")) := LT.andThen (Looks.of_pure (by kernel_rfl))
  refine wpAny_bind (LI.here ?_)
  refine ite_nb rfl ?_
  unfold callSpecial?
  refine wpAny_bind (wpAny_holding (wpAny_bind (LS.here (wpAny_holding (wpAny_bind ?_)))))
  refine Looks.here (r := (Value.builtin "type.__init__", [Value.ref C])) (Looks.of_pure (by kernel_rfl)) ?_
  obtain ⟨gh, gg, gd, gt, go⟩ := s'
  refine wpAny_bind (AL.of 400 hA1 (by show A.depth ≤ _; omega) (by show A.units + 1 ≤ _; omega) (NonePost.use (type_init q2) fun hh3 tk3 n3 => ?_))
  refine wpAny_pure ?_
  refine ite_nb rfl ?_
  refine wpAny_pure ?_
  exact hP ⟨hh3, gg, gd, tk3, go⟩ C N Dd hs hs12 _ _ (fun b o e => n3 _ _ (q1 b o e)) (n3 _ _ q2) rfl (n3 _ _ q4) q5 (n3 _ _ q6) q7 q8 q9 q10 q11 q12 q13 q14
end
section
open PySem PySem.W PyProof.Rows PySem.Calls PySem.Spec PySem.W.X PySem.W.ZRun
set_option maxRecDepth 100000
set_option maxHeartbeats 4000000
def EmptyD (o : Obj) : Prop := o = { cls := .type "dict", data := .dict #[] 0 }
local macro_rules | `(tactic| x_close) => `(tactic| (rename Mem _ _ _ _ => D1; refine obj_post D1 rfl ?q; (case q => first | exact ⟨none, #[], by kernel_rfl⟩ | (unfold EmptyD; kernel_rfl))))
theorem prep1 {prog : Program} {w : World} {s : Shared} {t : Tok} :
    wpAny (model prog w) (AL 330) (call (.builtin "type.__getattribute__") [.type "type", .str "__prepare__" t]) (ObjPost (RecAt "builtin_function_or_method" #[.builtin "type.__prepare__", .type "type"]) s) (fun _ _ => False) s := by
  x_run
theorem prep2 {prog : Program} {w : World} {s : Shared} {m T : Addr} {t : Tok} {dm : Option Addr} {slm : Array (Option Value)} (hm : s.heap.get? m = some ⟨.type "builtin_function_or_method", dm, .fields #[.builtin "type.__prepare__", .type "type"], slm⟩) :
    wpAny (model prog w) (AL 330) (call (.ref m) [.str "K" t, .ref T]) (ObjPost EmptyD s) (fun _ _ => False) s := by
  x_run
end
section
open PySem PySem.W PyProof.Rows PySem.Calls PySem.Spec PySem.W.X PySem.W.ZRun
set_option maxRecDepth 100000
set_option maxHeartbeats 0
/-- an entry of the main module's namespace -/
def en (p : Params) (x : String) (t : Nat) (v : Value) : DictEntry := { hash := PyData.keyHash p (Str.ofString x), key := .str (Str.ofString x) t, val := v }
/-- the fields of a top def's code object -/
def cdF (x : String) (t line a b c t2 : Nat) (d e : Value) : Array Value :=
  #[.str (Str.ofString x) t, .str (Str.ofString x) (t + 1), .str (Str.ofString "/claim/cut.py") (t + 2), .int line 0, .int 1 0, .int 0 0, .int 0 0, .int 3 0, .ref a, .bool true, .int 181 0, .ref b, .none, d, e, .ref c, .int t2 0, .int line 0, .str (Str.ofString "/claim/cut.py") (t2 + 1)]
def fnTop (i : Nat) (cd : Addr) (m : String) (t : Tok) : Obj := { cls := .type "function", data := .func (docDef (dName (stAt i)) (dParams (stAt i)) (dBody (stAt i)) (dScope (stAt i)) (.str (Str.ofString m) t) (.ref cd) .none) }
/-- the objects that the top leaves and that the law reads -/
def ob (p : Params) (a : Nat) : Obj := (([(1, { cls := .type "dict", data := .dict (#[en p "builtins" 162 (.ref 4), en p "__main__" 163 (.ref 5)] : Array DictEntry) 2 }),
  (2, { cls := .none, data := .dict (#[] : Array DictEntry) }),
  (3, { cls := .type "dict", data := .dict (#[
   en p "__name__" 165 (.str (Str.ofString "law_oc0053_01") 265),
   en p "__doc__" 166 .none,
   en p "__package__" 167 .none,
   en p "__loader__" 168 (.builtin "__main__.__loader__#opaque"),
   en p "__spec__" 169 .none,
   en p "__annotations__" 170 (.ref 6),
   en p "__builtins__" 171 (.ref 4),
   en p "__file__" 173 (.str (Str.ofString "/claim/cut.py") 172),
   en p "__cached__" 174 .none,
   en p "_iter_escaped_chars" 198 (.ref 21),
   en p "_strip_quoted_realnames" 210 (.ref 28),
   en p "_check_parenthesis" 220 (.ref 35),
   en p "cmp_to_key" 231 (.ref 42),
   en p "_initial_missing" 232 (.ref 43),
   en p "reduce" 244 (.ref 51),
   en p "unorderable_list_difference" 256 (.ref 58),
   en p "three_way_cmp" 264 (.ref 65),
   en p "_law_piece" 272 (.ref 70),
   en p "_law_form" 282 (.ref 77),
   en p "_law_melted" 290 (.ref 84),
   en p "_law_key" 297 (.ref 91),
   en p "_law_turned" 303 (.ref 96),
   en p "_law_orders" 309 (.ref 101),
   en p "_law_closed" 319 (.ref 108),
   en p "_law_text" 325 (.ref 113),
   en p "law" 331 (.ref 118)] : Array DictEntry) 26 }),
  (4, { cls := .type "module", dict := some 0 }),
  (37, { cls := .none, data := .fields (#[] : Array Value) }),
  (41, { cls := .type "code", data := .fields (cdF "cmp_to_key" 223 45 36 37 40 229 (.ref 38) (.ref 39)) }),
  (42, fnTop 5 41 "cpy313.functools" 221),
  (115, { cls := .none, data := .fields (#[] : Array Value) }),
  (117, { cls := .type "code", data := .fields (cdF "law" 326 124 114 115 116 329 .none .none) }),
  (118, fnTop 20 117 "law_oc0053_01" 265)] : List (Nat × Obj)).lookup a).getD default
def adr3 : List Nat := nat_lit 1 :: nat_lit 2 :: nat_lit 3 :: nat_lit 4 :: nat_lit 41 :: nat_lit 42 :: nat_lit 117 :: nat_lit 118 :: []
def K3 (p : Params) : Frag :=
  (nat_lit 1, ob p (nat_lit 1)) :: (nat_lit 2, ob p (nat_lit 2)) :: (nat_lit 3, ob p (nat_lit 3)) :: (nat_lit 4, ob p (nat_lit 4)) :: (nat_lit 41, ob p (nat_lit 41)) :: (nat_lit 42, ob p (nat_lit 42)) :: (nat_lit 117, ob p (nat_lit 117)) :: (nat_lit 118, ob p (nat_lit 118)) :: []
end
section
open PySem PySem.W PyProof.Rows PySem.Calls PySem.Spec
set_option maxRecDepth 100000
set_option maxHeartbeats 4000000
section
variable {M : Model} {A : Around} {R : GenEnd} {Y : Protocol} {n : Nat} {s₀ : Shared} {c : Code} {fs : List Frame} {s : Shared} {env : Env}
  {K : Flow → Sem Fin} {H : Value → Sem Fin} {gd : Bool → Bool} {lv : List Value → List Value}

theorem seg_bindW {α β : Type} {m : Sem α} {f : α → Sem β} {K : β → Sem Fin} (h : wpAny M (A.over c fs) m (fun a s' => Seg M A R Y n s₀ c ((f a).wrap K H gd lv) fs s') (fun x s' => Seg M A R Y n s₀ c (H x) fs s') s) :
    Seg M A R Y n s₀ c ((m >>= f).wrap K H gd lv) fs s := by
  rw [Sem.bind_eq_wrap', Sem.wrap_wrap]
  exact seg_wrap h
theorem seg_If {test : Expr} {body orelse : List Stmt} {pos : Pos}
    (h : wpAny M (A.over c fs) (isTrue test env (eval test env)) (fun b s' => if b = true then Seg M A R Y n s₀ c ((execs body env).wrap K H gd lv) fs s' else Seg M A R Y n s₀ c ((execs orelse env).wrap K H gd lv) fs s')
      (fun x s' => Seg M A R Y n s₀ c (H x) fs s') s) : Seg M A R Y n s₀ c ((exec (.If test body orelse pos) env).wrap K H gd lv) fs s := by
  show Seg M A R Y n s₀ c ((standAt pos >>= fun _ => isTrue test env (eval test env) >>= fun b => if b = true then execs body env else execs orelse env).wrap K H gd lv) fs s
  refine seg_bindW (wpAny_standAt (seg_bindW (wpAny_mono h (fun b s' hb => ?_) fun _ _ e => e)))
  cases b with
  | true => simpa using hb
  | false => simpa using hb
theorem seg_For {target iter : Expr} {body orelse : List Stmt} {pos : Pos}
    (h : wpAny M (A.over c fs) (eval iter env) (fun x s₁ => wpAny M (A.over c fs) (pyIter x) (fun it s₂ => ∀ p, Seg M A R Y n s₀ (.forLoop target it body orelse env) (M.den (.forLoop target it body orelse env))
      (.ret (fun r => ((match r with | .ok f => (.pure f : Sem Flow) | .error e => .raise e).onRaise fun (x : Value) => do
        if (← field x 1) == Value.none then unsupported "frame.own-activation:exception-without-traceback"
        setFlight x env.frame).wrap K H gd lv) none (gd false) (lv []) c p [] :: fs) s₂) (fun x s' => Seg M A R Y n s₀ c (H x) fs s') s₁) (fun x s' => Seg M A R Y n s₀ c (H x) fs s') s)
    (hs : ∀ x, foldedSetIterable iter env x = pure x := by intro _; rfl) :
    Seg M A R Y n s₀ c ((exec (.For target iter body orelse pos) env).wrap K H gd lv) fs s := by
  rw [exec_For]
  refine seg_bindW (wpAny_standAt (seg_bindW (wpAny_mono h (fun x s₁ h₁ => seg_bindW (wpAny_of_eq (hs x) (seg_bindW (wpAny_standAt (seg_bindW (wpAny_holding (wpAny_mono h₁ (fun it s₂ h₂ => ?_) fun _ _ e => e))))))) fun _ _ e => e)))
  exact seg_call h₂
end
section
variable {prog : Program} {w : World} {A : Around} {R : GenEnd} {Y : Protocol} {n : Nat} {s₀ : Shared} {fs : List Frame} {s : Shared} {env : Env}
theorem seg_forLoop {target : Expr} {it : Value} {body : List Stmt}
    (h : wpAny (model prog w) (A.over (.forLoop target it body [] env) fs) (pyNext it) (fun r s₁ => match r with
      | none => Seg (model prog w) A R Y n s₀ (.block [] env) ((model prog w).den (.block [] env)) fs s₁
      | some v => wpAny (model prog w) (A.over (.forLoop target it body [] env) fs) (letOwnedTupleGo target it v) (fun _ s₁' => wpAny (model prog w) (A.over (.forLoop target it body [] env) fs) (assign target env v) (fun _ s₂ =>
          Seg (model prog w) A R Y n s₀ (.forLoop target it body [] env) ((execs body env).wrap (fun f => match f with
            | .next | .cont => .pure (.again (.forLoop target it body [] env))
            | .brk => .pure (.done .next)
            | .ret v => .pure (.done (.ret v))) (fun e => (do noteFrame e env; theTreesLotGoes e : Sem Unit).wrap (fun _ => .raise e) .raise id id) id id) fs s₂) (fun _ _ => False) s₁') (fun _ _ => False) s₁) (fun _ _ => False) s) :
    Seg (model prog w) A R Y n s₀ (.forLoop target it body [] env) ((model prog w).den (.forLoop target it body [] env)) fs s := by
  show Seg _ A R Y n s₀ _ ((forTurn target it body [] env).onRaise (fun x => do noteFrame x env; theTreesLotGoes x)) fs s
  simp only [forTurn]
  rw [Sem.onRaise_eq_wrap]
  refine seg_bindW (wpAny_standAt (seg_bindW (wpAny_onRaise (wpAny_mono h (fun r s₁ h₁ => ?_) fun _ _ h' => h'.elim))))
  cases r with
  | none => exact seg_again rfl h₁
  | some v =>
    refine seg_bindW (wpAny_mono h₁ (fun _ s₁' h₁' => seg_bindW (wpAny_mono h₁' (fun _ s₂ h₂ => ?_) fun _ _ e => e.elim)) fun _ _ e => e.elim)
    rw [Sem.bind_eq_wrap', Sem.wrap_wrap]
    rw [Sem.wrap_congr (execs body env) _ _ (K' := fun f => match f with
            | .next | .cont => .pure (.again (.forLoop target it body [] env))
            | .brk => .pure (.done .next)
            | .ret v => .pure (.done (.ret v))) (H' := (fun e => (do noteFrame e env; theTreesLotGoes e : Sem Unit).wrap (fun _ => .raise e) .raise id id))
        (fun f => by cases f <;> rfl)
        (fun e => by first | exact Sem.bind_eq_wrap _ _ | (show (do noteFrame e env; theTreesLotGoes e : Sem Unit).bind (fun _ => .raise e) = _; rw [Sem.bind_eq_wrap]))]
    exact h₂
end
end
section
open PySem PySem.W PyProof.Rows PySem.Calls PySem.Spec
set_option maxRecDepth 100000
set_option maxHeartbeats 4000000
local macro_rules | `(tactic| walk_at "storeName") => `(tactic| (refine wpAny_storeName_local (by rfl) (by assumption) ?_ (by rfl); intro h' hn' hs'))
local macro_rules | `(tactic| walk_at "newTuple") => `(tactic| refine wpAny_newTuple ?_)

/-- what the generator hands on -/
def itsOf (i : Nat) : Bool → List Nat → List (Nat × List Nat)
  | true, [] => [(i - 1, [92])]
  | false, [] => []
  | true, c :: cs => (i, [92, c]) :: itsOf (i + 1) false cs
  | false, c :: cs => if c = 92 then itsOf (i + 1) true cs else (i, [c]) :: itsOf (i + 1) false cs
def endEsc : Bool → List Nat → Bool
  | e, [] => e
  | true, _ :: cs => endEsc false cs
  | false, c :: cs => endEsc (c == 92) cs

/-- since a waking: all but the generator's own objects -/
def SinceG (fp : List Addr) (s₀ s₁ : Shared) : Prop := ∃ h₁ tk₁, s₁ = { s₀ with heap := h₁, toks := tk₁ } ∧ ∀ b o, b ∉ fp → s₀.heap.get? b = some o → h₁.get? b = some o
theorem SinceG.refl (fp : List Addr) (s : Shared) : SinceG fp s s := ⟨s.heap, s.toks, rfl, fun _ _ _ e => e⟩
theorem SinceG.step {fp : List Addr} {s₀ s₁ : Shared} {h : Heap} {t : Nat} (x : SinceG fp s₀ s₁) (k : ∀ b o, b ∉ fp → s₁.heap.get? b = some o → h.get? b = some o) : SinceG fp s₀ { s₁ with heap := h, toks := t } := by
  obtain ⟨h₁, tk₁, rfl, k₁⟩ := x
  exact ⟨h, t, rfl, fun b o hb e => k b o hb (k₁ b o hb e)⟩

def genR (fp : List Addr) : GenEnd := fun n s₀ r s₁ => r = .ok (.ret .none) ∧ (n = 0 ∧ SinceG fp s₀ s₁)
def genY (fp : List Addr) (all : List (Nat × List Nat)) : Protocol := fun k s₀ v s₁ kap => ∃ p u t a b, all[all.length - 1 - k]? = some (p, u) ∧ v = .ref t ∧ s₀.heap.get? t = none ∧ t ∉ fp ∧ IsTup s₁.heap t #[.int (p : Nat) a, .str ⟨List.toArray u⟩ b] ∧
  SinceG fp s₀ s₁ ∧ ∀ s'', (∀ b ∈ fp, ∀ o, s₁.heap.get? b = some o → s''.heap.get? b = some o) → kap (.send .none) s''

abbrev eI (C : Addr) (cd : Addr) : Env := envOf (dName (stAt 1)) (dScope (stAt 1)) C 21 (.ref cd)
/-- the loop's parts -/
def forTarget : Stmt → Expr | .For t .. => t | _ => default
def forBody : Stmt → List Stmt | .For _ _ b .. => b | _ => []
abbrev loopI : Stmt := (dBody (stAt 1)).getD 2 default

theorem nm_bi' {w : World} {A : Around} {E : Value → Shared → Prop} {s : Shared} {mg mb : Str → Option Value} {env : Env} {x : Str} {pos : Pos} {v : Value} {Q : Value → Shared → Prop} (hg : s.heap.Ns env.globals mg) (hm : mg x = none) (hb : s.heap.Ns env.builtins mb) (hv : mb x = some v) (h : Q v s)
    (hk : env.scope.kind = .function := by rfl) (hx : env.kindOf x = some .globalImplicit := by rfl) (hd : (x == ("__debug__" : Str)) = false := by decide) : wpAny (model P0 w) A (eval (.Name x pos) env) Q E s :=
  Name_function_global hk hx (loadGlobal_builtin hg hm hb hv h) hd
structure GenSt (x : Str) (t : Tok) (C e it : Addr) (i : Nat) (esc : Bool) (h : Heap) : Prop where
  ns : ∃ m, h.Ns C m ∧ m (Str.ofString "escape") = some (.bool esc)
  en : ∃ old, IsEnum h e it i old
  si : h.IsStrIter it "str_ascii_iterator" x t i

section
variable {w : World} {A : Around} {s : Shared}
abbrev cI (C e cd : Addr) : Code := .forLoop (forTarget loopI) (.ref e) (forBody loopI) [] (eI C cd)
abbrev kI (C e cd : Addr) : Flow → Sem Fin := fun f => match f with
            | .next | .cont => .pure (.again (cI C e cd))
            | .brk => .pure (.done .next)
            | .ret v => .pure (.done (.ret v))
abbrev hI (C cd : Addr) : Value → Sem Fin := fun x => (do noteFrame x (eI C cd); theTreesLotGoes x : Sem Unit).wrap (fun _ => .raise x) .raise id id
theorem gen_body {x : Str} {t : Tok} {C e it cd : Addr} {all : List (Nat × List Nat)} {fs : List Frame} {n i c : Nat} {a b : Tok} {s₀ s : Shared} {m : Str → Option Value} {esc : Bool} (hfs : splitAtGen fs = none) (hfg : fs.any Frame.guarded = false)
    (hCe : C ≠ e) (hCi : C ≠ it) (hm : s.heap.Ns C m) (h1 : m (Str.ofString "escape") = some (.bool esc)) (h2 : m (Str.ofString "pos") = some (.int i a)) (h3 : m (Str.ofString "ch") = some (.str ⟨#[c]⟩ b))
    (hen : ∃ old, IsEnum s.heap e it ((i + 1 : Nat) : Int) old) (hsi : s.heap.IsStrIter it "str_ascii_iterator" x t (i + 1)) (hS : SinceG [C, e, it] s₀ s)
    (hskip : esc = false → c = 92 → ∀ s', GenSt x t C e it (i + 1) true s'.heap → SinceG [C, e, it] s₀ s' → Seg (model P0 w) A (genR [C, e, it]) (genY [C, e, it] all) n s₀ (cI C e cd) ((model P0 w).den (cI C e cd)) fs s')
    (hyield : (esc = true ∨ c ≠ 92) → ∃ n', n = n' + 1 ∧ all[all.length - 1 - n']? = some (i, if esc then [92, c] else [c]) ∧
      ∀ s₁ s', GenSt x t C e it (i + 1) false s'.heap → SinceG [C, e, it] s₁ s' → Seg (model P0 w) A (genR [C, e, it]) (genY [C, e, it] all) n' s₁ (cI C e cd) ((model P0 w).den (cI C e cd)) fs s') :
    Seg (model P0 w) A (genR [C, e, it]) (genY [C, e, it] all) n s₀ (cI C e cd) ((execs (forBody loopI) (eI C cd)).wrap (kI C e cd) (hI C cd) id id) fs s := by
  have fr : s₀.heap.get? s.heap.objs.size = none ∧ s.heap.objs.size ∉ [C, e, it] := by
    have hn : s.heap.objs.size ∉ [C, e, it] := by
      simp only [List.mem_cons, List.not_mem_nil, or_false, not_or]
      obtain ⟨old, hen⟩ := hen
      obtain ⟨o, q, _⟩ := hsi
      exact ⟨Nat.ne_of_gt hm.lt, Nat.ne_of_gt (Heap.lt_size hen), Nat.ne_of_gt (Heap.lt_size q)⟩
    refine ⟨?_, hn⟩
    obtain ⟨h₁, tk₁, rfl, k⟩ := hS
    cases q : s₀.heap.get? h₁.objs.size with
    | none => rfl
    | some o => exact absurd (Heap.lt_size (k _ o hn q)) (Nat.lt_irrefl _)
  refine seg_execs_cons (seg_If ?_)
  walk_at "go"
  · rename_i hb
    subst hb
    obtain ⟨n', rfl, hit, hgo⟩ := hyield (.inl rfl)
    refine seg_execs_cons (seg_Expr_Yield hfs rfl hfg ?_)
    walk_at "go"
    rename_i t' k' kap hkap
    refine ⟨i, [92, c], s.heap.objs.size, _, _, hit, rfl, fr.1, fr.2, ⟨_, Heap.get?_push_size _ rfl, rfl, _, rfl⟩, hS.step fun b o _ q => Heap.get?_push_of_some _ q, fun s'' hk => hkap .none s'' ?_⟩
    have hk' : ∀ b ∈ [C, e, it], ∀ o, s.heap.get? b = some o → s''.heap.get? b = some o := fun b hb o q => hk b hb o (Heap.get?_push_of_some _ q)
    have hm'' : s''.heap.Ns C m := hm.at' fun o q => hk' C (by simp) o q
    obtain ⟨old, hen⟩ := hen
    have hen'' : IsEnum s''.heap e it ((i + 1 : Nat) : Int) old := hk' e (by simp) _ hen
    have hsi'' : s''.heap.IsStrIter it "str_ascii_iterator" x t (i + 1) := let ⟨o, q, r⟩ := hsi; ⟨o, hk' it (by simp) o q, r⟩
    refine seg_execs_cons (seg_wrap ?_)
    walk_at "go"
    rename_i h₅ hn₅ hs₅
    refine seg_again rfl (hgo _ _ ⟨⟨_, hn₅, rfl⟩, ⟨old, hs₅.extBut e _ (Ne.symm hCe) hen''⟩, hsi''.extBut hs₅.extBut (Ne.symm hCi)⟩ ((SinceG.refl _ _).step fun b o hb q => hs₅.extBut b o (fun z => hb (z ▸ List.mem_cons_self)) q))
  · rename_i hb
    subst hb
    refine seg_execs_cons (seg_If ?_)
    walk_at "go"
    · rename_i hc
      have hc : c = 92 := by
        have := eq_of_beq hc
        injection this with this
        injection this with this
        injection this
      refine seg_execs_cons (seg_wrap ?_)
      walk_at "go"
      rename_i h₅ hn₅ hs₅
      obtain ⟨old, hen⟩ := hen
      refine seg_again rfl (hskip rfl hc _ ⟨⟨_, hn₅, rfl⟩, ⟨old, hs₅.extBut e _ (Ne.symm hCe) hen⟩, hsi.extBut hs₅.extBut (Ne.symm hCi)⟩ (hS.step fun b o hb q => hs₅.extBut b o (fun z => hb (z ▸ List.mem_cons_self)) q))
    · rename_i hc
      have hc : c ≠ 92 := by
        rintro rfl
        exact absurd hc (by decide)
      obtain ⟨n', rfl, hit, hgo⟩ := hyield (.inr hc)
      refine seg_execs_cons (seg_Expr_Yield hfs rfl hfg ?_)
      walk_at "go"
      rename_i kap hkap
      refine ⟨i, [c], s.heap.objs.size, _, _, hit, rfl, fr.1, fr.2, ⟨_, Heap.get?_push_size _ rfl, rfl, _, rfl⟩, hS.step fun b o _ q => Heap.get?_push_of_some _ q, fun s'' hk => hkap .none s'' ?_⟩
      have hk' : ∀ b ∈ [C, e, it], ∀ o, s.heap.get? b = some o → s''.heap.get? b = some o := fun b hb o q => hk b hb o (Heap.get?_push_of_some _ q)
      have hm'' : s''.heap.Ns C m := hm.at' fun o q => hk' C (by simp) o q
      obtain ⟨old, hen⟩ := hen
      have hen'' : IsEnum s''.heap e it ((i + 1 : Nat) : Int) old := hk' e (by simp) _ hen
      have hsi'' : s''.heap.IsStrIter it "str_ascii_iterator" x t (i + 1) := let ⟨o, q, r⟩ := hsi; ⟨o, hk' it (by simp) o q, r⟩
      exact seg_again rfl (hgo _ _ ⟨⟨m, hm'', h1⟩, ⟨old, hen''⟩, hsi''⟩ (SinceG.refl _ _))

theorem gen_loop {x : Str} {t : Tok} {C e it cd : Addr} {all : List (Nat × List Nat)} {fs : List Frame} (hA : A.handled = none) (hov : ∀ c, (A.over c fs).handled = none) (hfs : splitAtGen fs = none) (hfg : fs.any Frame.guarded = false)
    (hCe : C ≠ e) (hCi : C ≠ it) (hei : e ≠ it)
    (hend : ∀ s₀ s', (∃ m, s'.heap.Ns C m ∧ m (Str.ofString "escape") = some (.bool false)) → SinceG [C, e, it] s₀ s' → Seg (model P0 w) A (genR [C, e, it]) (genY [C, e, it] all) 0 s₀ (.block [] (eI C cd)) ((model P0 w).den (.block [] (eI C cd))) fs s') :
    ∀ (rest : List Nat) (i : Nat) (esc : Bool) (n : Nat) (pre : List (Nat × List Nat)) (s₀ s : Shared), i ≤ x.cps.size → x.cps.toList.drop i = rest → endEsc esc rest = false → all = pre ++ itsOf i esc rest → n = (itsOf i esc rest).length →
      GenSt x t C e it i esc s.heap → SinceG [C, e, it] s₀ s →
      Seg (model P0 w) A (genR [C, e, it]) (genY [C, e, it] all) n s₀ (.forLoop (forTarget loopI) (.ref e) (forBody loopI) [] (eI C cd)) ((model P0 w).den (.forLoop (forTarget loopI) (.ref e) (forBody loopI) [] (eI C cd))) fs s := by
  intro rest
  induction rest with
  | nil =>
    intro i esc n pre s₀ s hi0 hr he hall hn hst hs
    have hi : x.cps.size ≤ i := by have := List.drop_eq_nil_iff.mp hr; simpa using this
    cases esc with
    | true => cases he
    | false =>
    obtain rfl : i = x.cps.size := Nat.le_antisymm hi0 hi
    obtain ⟨⟨m, hm, hme⟩, ⟨old, hen⟩, hsi⟩ := hst
    refine seg_forLoop ?_
    have DD := Draws.strAscii (prog := P0) (w := w) (A := (A.over (.forLoop (forTarget loopI) (.ref e) (forBody loopI) [] (eI C cd)) fs).in1) (hov (.forLoop (forTarget loopI) (.ref e) (forBody loopI) [] (eI C cd))) it x t
    refine wpAny_pyNext_enum_endD DD hen hsi fun h₁ hx₁ => ?_
    have hn0 : n = 0 := hn
    subst hn0
    exact hend s₀ _ ⟨m, hm.at' fun o q => hx₁ C o hCi q, hme⟩ (hs.step fun b o hb q => hx₁ b o (fun z => hb (by simp [z])) q)
  | cons c cs ih =>
    intro i esc n pre s₀ s hi0 hr he hall hn hst hs
    obtain ⟨⟨m, hm, hme⟩, ⟨old, hen⟩, hsi⟩ := hst
    have hlt : i < x.cps.size := by
      have : i < x.cps.toList.length := by
        rcases Nat.lt_or_ge i x.cps.toList.length with h | h
        · exact h
        · rw [List.drop_of_length_le h] at hr; cases hr
      simpa using this
    have hc : x.cps[i]? = some c := by
      rw [List.drop_eq_getElem_cons (by simpa using hlt)] at hr
      injection hr with h1 h2
      rw [← h1]; simp [hlt]
    have hr' : x.cps.toList.drop (i + 1) = cs := by
      rw [List.drop_eq_getElem_cons (by simpa using hlt)] at hr
      injection hr
    refine seg_forLoop ?_
    have DD := Draws.strAscii (prog := P0) (w := w) (A := (A.over (.forLoop (forTarget loopI) (.ref e) (forBody loopI) [] (eI C cd)) fs).in1) (hov (.forLoop (forTarget loopI) (.ref e) (forBody loopI) [] (eI C cd))) it x t
    refine wpAny_pyNext_enum_itemD DD hen hsi hlt hei (by simpa using hei) fun xv h₁ tk₁ hP hout hsi₁ htup hsz₁ hk₁ => ?_
    obtain ⟨c', tc, hc', rfl⟩ := hP
    obtain rfl : c' = c := by rw [hc] at hc'; cases hc'; rfl
    dsimp only
    refine wpAny_letOwnedTupleGo_enum hout fun h₂ hen₂ hs₂ => ?_
    have hk₂ : ∀ b o, b ∉ [C, e, it] → s.heap.get? b = some o → h₂.get? b = some o := fun b o hb q => by
      simp only [List.mem_cons, List.not_mem_nil, or_false, not_or] at hb
      exact hs₂.extBut b o hb.2.1 (hk₁ b o hb.2.1 hb.2.2 q)
    have hm₂ : h₂.Ns C m := hm.at' fun o q => hs₂.extBut C o hCe (hk₁ C o hCe hCi q)
    have hsi₂ := hsi₁.extBut hs₂.extBut (Ne.symm hei)
    have htz : s.heap.objs.size ≠ e := Nat.ne_of_gt (Heap.lt_size hen)
    have htup₂ : h₂.IsTuple s.heap.objs.size #[.int i tk₁, .str ⟨#[c']⟩ tc] := ⟨_, hs₂.extBut _ _ htz htup, rfl, _, rfl⟩
    have hs2 : SinceG [C, e, it] s₀ { s with heap := h₂, toks := tk₁ + 1 } := hs.step hk₂
    refine wpAny_assign_Tuple (hov _) htup₂ rfl rfl fun h₃ hx₃ => ?_
    have k₃ : ∀ b o, h₂.get? b = some o → h₃.get? b = some o := fun b o q => hx₃ b o (Nat.ne_of_lt (Heap.lt_size q)) q
    have hm₃ := hm₂.keeps k₃
    walk_at "go"
    rename_i h₅ hn₅ hs₅ h₆ hn₆ hs₆
    have k₆ : ∀ b o, b ≠ C → h₂.get? b = some o → h₆.get? b = some o := fun b o hb q => hs₆.extBut b o hb (hs₅.extBut b o hb (k₃ b o q))
    refine gen_body (i := i) (c := c') hfs hfg hCe hCi hn₆ (by walk_at "m_look") (by walk_at "m_look") (by walk_at "m_look") ⟨_, k₆ e _ (Ne.symm hCe) hen₂⟩ (let ⟨o, q, r⟩ := hsi₂; ⟨o, k₆ it o (Ne.symm hCi) q, r⟩)
      (hs2.step fun b o hb q => k₆ b o (fun z => hb (z ▸ List.mem_cons_self)) q) ?_ ?_
    · intro he0 hc0 s' hst' hS'
      subst he0 hc0
      refine ih (i + 1) true n pre s₀ s' hlt hr' (by simpa [endEsc] using he) (by simpa [itsOf] using hall) (by simpa [itsOf] using hn) hst' hS'
    · intro hy
      have ei : itsOf i esc (c' :: cs) = (i, if esc then [92, c'] else [c']) :: itsOf (i + 1) false cs := by
        cases esc with
        | true => rfl
        | false =>
          have hc0 : c' ≠ 92 := hy.resolve_left (by decide)
          simp [itsOf, hc0]
      have ee : endEsc false cs = false := by
        cases esc with
        | true => exact he
        | false =>
          have hc0 : c' ≠ 92 := hy.resolve_left (by decide)
          have : (c' == 92) = false := by simpa using hc0
          simpa [endEsc, this] using he
      rw [ei] at hall hn
      refine ⟨(itsOf (i + 1) false cs).length, by rw [hn]; rfl, ?_, fun s₁ s' hst' hS' => ?_⟩
      · rw [hall]
        simp
      · exact ih (i + 1) false _ (pre ++ [(i, if esc then [92, c'] else [c'])]) s₁ s' hlt hr' ee (by rw [hall]; simp) rfl hst' hS'

abbrev kEnd : Flow → Sem Fin := fun f => .pure (.done (.ret (match f with | .ret v => v | _ => .none)))
abbrev hEnd (C cd : Addr) : Value → Sem Fin := fun x => (leaving (eI C cd) x).wrap (fun _ => .raise x) .raise id id
abbrev kMid (C cd : Addr) : Flow → Sem Fin := fun f => match f with
  | .next => (execs ((dBody (stAt 1)).drop 3) (eI C cd)).wrap kEnd (hEnd C cd) id id
  | f => kEnd f
/-- the loop's frame -/
abbrev fI (C cd : Addr) (p : Pos) : List Frame := [.ret (fun r => ((match r with | .ok f => (.pure f : Sem Flow) | .error e => .raise e).onRaise fun (x : Value) => do
        if (← field x 1) == Value.none then unsupported "frame.own-activation:exception-without-traceback"
        setFlight x (eI C cd).frame).wrap (kMid C cd) (hEnd C cd) id id) none false [] (.func (dBody (stAt 1)) (eI C cd)) p []]

theorem gen_end {C e it cd : Addr} {all : List (Nat × List Nat)} {p : Pos} {s₀ s : Shared} (hm : ∃ m, s.heap.Ns C m ∧ m (Str.ofString "escape") = some (.bool false)) (hS : SinceG [C, e, it] s₀ s) :
    Seg (model P0 w) A (genR [C, e, it]) (genY [C, e, it] all) 0 s₀ (.block [] (eI C cd)) ((model P0 w).den (.block [] (eI C cd))) (fI C cd p) s := by
  obtain ⟨m, hm, h1⟩ := hm
  show Seg _ _ _ _ _ _ _ (leafOf (.ok .next)) _ _
  refine seg_leaf (.ok .next) ?_
  refine seg_execs_cons (seg_If ?_)
  walk_at "go"
  show Seg _ _ _ _ _ _ _ (leafOf (.ok (.ret .none))) _ _
  exact seg_end _ ⟨rfl, rfl, hS⟩

/-- the first waking -/
theorem gen_start {x : Str} {t : Tok} {C cd : Addr} {mg mb : Str → Option Value} {h₀ : Heap} {m : Str → Option Value} (hA : A.handled = none) (T : TopF mg mb s.heap) (hn : s.heap.Ns C m) (hma : m (Str.ofString "addr") = some (.str x t)) (hx : x.cps.all (· < 128) = true) (he : endEsc false x.cps.toList = false)
    (hCm : C ≠ mainGlobals) (hCb : C ≠ builtinsNs) :
    ∃ e it, e ≠ C ∧ it ≠ C ∧ s.heap.get? e = none ∧ s.heap.get? it = none ∧
      Seg (model P0 w) A (genR [C, e, it]) (genY [C, e, it] (itsOf 0 false x.cps.toList)) (itsOf 0 false x.cps.toList).length s (.func (dBody (stAt 1)) (eI C cd)) ((model P0 w).den (.func (dBody (stAt 1)) (eI C cd))) [] s := by
  have hCs : C < s.heap.objs.size := hn.lt
  refine ⟨s.heap.objs.size + 1, s.heap.objs.size, Nat.ne_of_gt (Nat.lt_succ_of_lt hCs), Nat.ne_of_gt hCs, get_none_of_ge (Nat.le_succ _), get_none_of_ge (Nat.le_refl _), ?_⟩
  generalize hall : itsOf 0 false x.cps.toList = all
  refine seg_func (seg_execs_cons (seg_wrap ?_))
  walk_at "go"
  refine seg_execs_cons (seg_wrap ?_)
  walk_at "go"
  rename_i h₁ hn₁ hs₁ h₂ hn₂ hs₂
  have k₂ : ∀ b o, b ≠ C → s.heap.get? b = some o → h₂.get? b = some o := fun b o hb q => hs₂.extBut b o hb (hs₁.extBut b o hb q)
  have z₂ : h₂.objs.size = s.heap.objs.size := by rw [hs₂.1, hs₁.1]
  refine seg_execs_cons (seg_For ?_)
  refine wpAny_Call_NameR (nm_bi' (T.g.at' fun o q => k₂ _ o (Ne.symm hCm) q) (T.none_ _ (by decide)) (T.b.at' fun o q => k₂ _ o (Ne.symm hCb) q) ((T.builtins _ (by decide)).trans (by boot_by_name)) ?_)
  walk_at "go"
  refine call_enumerate_str fun h₃ he₃ hi₃ hz₃ k₃ => ?_
  dsimp only at he₃ hi₃ hz₃ k₃ ⊢
  rw [z₂] at he₃ hi₃ ⊢
  have hty : strIterType x = "str_ascii_iterator" := if_pos hx
  rw [hty] at hi₃
  refine wpAny_pyIter_enum he₃ ?_
  intro p
  have hCe : C ≠ s.heap.objs.size + 1 := Nat.ne_of_lt (Nat.lt_succ_of_lt hCs)
  have hCi : C ≠ s.heap.objs.size := Nat.ne_of_lt hCs
  have hnb : ∀ b o, b ∉ [C, s.heap.objs.size + 1, s.heap.objs.size] → s.heap.get? b = some o → h₃.get? b = some o := fun b o hb q => k₃ b o (k₂ b o (fun z => hb (z ▸ List.mem_cons_self)) q)
  refine gen_loop (x := x) (t := t) (C := C) (e := s.heap.objs.size + 1) (it := s.heap.objs.size) (cd := cd) (all := all) (fs := fI C cd p) hA (fun c => hA) rfl rfl hCe hCi (Nat.ne_of_gt (Nat.lt_succ_self _)) (fun s₀ s' hm' hS' => gen_end hm' hS') x.cps.toList 0 false all.length [] s _ (Nat.zero_le _) rfl he (by rw [hall]; rfl) (by rw [hall]) ⟨⟨_, hn₂.keeps k₃, by walk_at "m_look"⟩, ⟨_, he₃⟩, hi₃⟩ ((SinceG.refl _ s).step hnb)
end
end
section
open PySem PySem.W PyProof.Rows PySem.Calls PySem.Spec
set_option maxRecDepth 100000
set_option maxHeartbeats 4000000
/-- a generator ready to go on: all its items, how many are left, its own objects -/
def Ready (w : World) (mg mb : Str → Option Value) (all : List (Nat × List Nat)) (n : Nat) (own : List Addr) (gs : GenState) (h : Heap) (A : Around) : Prop :=
  ∀ s', A.handled = none → TopF mg mb s'.heap → (∀ b ∈ own, ∀ o, h.get? b = some o → s'.heap.get? b = some o) →
    ∃ fp, (∀ b ∈ fp, b ∈ own ∨ s'.heap.get? b = none) ∧ gs.Goes (model P0 w) A (genR fp) (genY fp all) n (.send .none) s'

section
variable {w : World} {A : Around} {E : Value → Shared → Prop} {s : Shared} {mg mb : Str → Option Value}
theorem letOwned_gen {elts : List Expr} {x1} {pos : Pos} {a T : Addr} {g : Nat} {Q : Unit → Shared → Prop} (hg : s.heap.IsGen a g) (hQ : Q () s) :
    wpAny (model P0 w) A (letOwnedTupleGo (.Tuple elts x1 pos) (.ref a) (.ref T)) Q E s := by
  obtain ⟨o, nm, qn, ho, hc, hd, _⟩ := hg
  unfold letOwnedTupleGo
  refine wpAny_bind (wpAny_load ho ?_)
  rw [hc, hd]
  show wpAny _ A (if (["enumerate", "zip", "dict_itemiterator", "dict_reverseitemiterator", "odict_iterator", "itertools.zip_longest", "itertools.pairwise"].contains "generator" &&
      (#[.int g 0, nm, qn] : Array Value)[0]? == some (rawInt T)) = true then _ else _) Q E s
  rw [if_neg (by
    intro h
    rw [show (["enumerate", "zip", "dict_itemiterator", "dict_reverseitemiterator", "odict_iterator", "itertools.zip_longest", "itertools.pairwise"].contains "generator") = false from by decide, Bool.false_and] at h
    cases h)]
  exact wpAny_pure hQ

theorem next_genQ {a : Addr} {g n : Nat} {gs : GenState} {P : Nat → Shared → Shared → Prop} {Y : Protocol} {Q : Option Value → Shared → Prop} (hh : A.handled = none)
    (hl : s.heap.NoLimit) (hroom : A.depth < recursionLimit)
    (hg : s.heap.IsGen a g) (hgs : s.gens[g]? = some gs)
    (hgo : gs.Goes (model P0 w) A.in1 (fun n s₀ r s₁ => r = .ok (.ret .none) ∧ P n s₀ s₁) Y n (.send .none) (s.setGen g .running))
    (hY : ∀ v s₁ gs', gs'.bare = true → Y (n - 1) (s.setGen g .running) v s₁ (fun r' s'' => match n with
        | 0 => False
        | m + 1 => gs'.Goes (model P0 w) A.in1 (fun n s₀ r s₁ => r = .ok (.ret .none) ∧ P n s₀ s₁) Y m r' s'') → Q (some v) (s₁.setGen g gs'))
    (hP : ∀ s₁, P n (s.setGen g .running) s₁ → ∀ h', (∀ b o, s₁.heap.get? b = some o → h'.get? b = some o) → Q none { s₁.setGen g .finished with heap := h' }) :
    wpAny (model P0 w) A (pyNext (.ref a)) Q E s := by
  unfold pyNext
  refine wpAny_bind (wpAny_attempt (wpAny_callSpecial?_slot (name := Str.ofString "__next__") hg.typeIs slot_gen_next
    (wpAny_call_entry slot_gen_next hg.typeIs entry_gen_next ?_ (args_gen_next _))))
  show wpAny _ A.in1 (Builtin.Generator.genWake (.ref a) (.send .none)) _ _ s
  unfold Builtin.Generator.genWake
  refine wpAny_bind (wpAny_holding (wpAny_genNumber hg (wpAny_bind (wpAny_genState hgs ?_))))
  cases gs with
  | running => exact hgo.elim
  | finished => exact hgo.elim
  | _ =>
    refine wpAny_bind (wpAny_roomToWake hl hroom ?_)
    show wpAny _ A.in1 (.resume g (.send .none) [] _) _ _ s
    refine wpAny_resumeQ hgs hgo (fun x s₁ hx => ?_) (fun v s₁ gs' hb hv => ?_)
    · obtain ⟨rfl, hp⟩ := hx
      show wpAny _ A.in1 (newExc (.type "StopIteration") [] >>= _) _ _ _
      refine wpAny_bind ?_
      simp only [newExc, newTuple]
      refine wpAny_bind (wpAny_newObj_type ?_ (by size_fits))
      refine wpAny_bind (m := firstArgMember _ _) (wpAny_of_eq (a := Value.none) (by first | rfl | (simp only [firstArgMember]; rfl)) ?_)
      refine wpAny_newObj_type ?_ (by size_fits)
      simp only [raiseNew]
      refine wpAny_bind (wpAny_bind (wpAny_handled ?_))
      first | rw [show A.in1.handled = none from hh] | rw [hh]
      refine wpAny_throw ?_
      refine wpAny_bind (wpAny_isInstance (T := "StopIteration") (b := true) ⟨_, Heap.get?_push_size _ rfl, rfl⟩ isSubtype_stop ?_)
      exact wpAny_pure (hP s₁ hp _ fun b o hb => Heap.get?_push_of_some _ (Heap.get?_push_of_some _ hb))
    · exact wpAny_pure ⟨v, rfl, wpAny_pure (hY v s₁ gs' hb hv)⟩

theorem next_gen {a : Addr} {g n : Nat} {gs : GenState} {all : List (Nat × List Nat)} {own : List Addr} {Q : Option Value → Shared → Prop} (hh : A.handled = none) (T : TopF mg mb s.heap) (hroom : A.depth < recursionLimit)
    (hg : s.heap.IsGen a g) (hgs : s.gens[g]? = some gs) (R : Ready w mg mb all n own gs s.heap A.in1)
    (hY : ∀ n' p u t ta tb gs' own' h₁ tk₁, n = n' + 1 → all[all.length - 1 - n']? = some (p, u) → gs'.bare = true → s.heap.get? t = none → t ∉ own' → h₁.IsTuple t #[.int (p : Nat) ta, .str ⟨List.toArray u⟩ tb] →
      (∀ b ∈ own', b ∈ own ∨ s.heap.get? b = none) → (∀ b o, b ∉ own' → s.heap.get? b = some o → h₁.get? b = some o) → Ready w mg mb all n' own' gs' h₁ A.in1 →
      Q (some (.ref t)) { s with heap := h₁, toks := tk₁, gens := s.gens.setIfInBounds g gs' })
    (hP : ∀ h₁ tk₁, n = 0 → (∀ b o, b ∉ own → s.heap.get? b = some o → h₁.get? b = some o) → Q none { s with heap := h₁, toks := tk₁, gens := s.gens.setIfInBounds g .finished }) :
    wpAny (model P0 w) A (pyNext (.ref a)) Q E s := by
  obtain ⟨fp, hfp, hgo⟩ := R (s.setGen g .running) hh T fun b _ o e => e
  have hset : ∀ x, (s.gens.setIfInBounds g GenState.running).setIfInBounds g x = s.gens.setIfInBounds g x := fun x => by simp
  refine next_genQ hh T.nolimit hroom hg hgs hgo (fun v s₁ gs' hb hv => ?_) (fun s₁ hp h' hk => ?_)
  · obtain ⟨p, u, t, ta, tb, hit, rfl, htn, htf, htup, ⟨h₁, tk₁, rfl, hS⟩, hkap⟩ := hv
    cases n with
    | zero => exact (hkap (s.setGen g .running |> fun z => { z with heap := h₁ }) fun _ _ _ e => e).elim
    | succ n' =>
      have := hY n' p u t ta tb gs' fp h₁ tk₁ rfl (by simpa using hit) hb htn htf (let ⟨o, q, r1, n, r2⟩ := htup; ⟨o, q, r1, n, r2⟩) hfp (fun b o hb e => hS b o hb e) (fun s' _ _ hk => ⟨fp, fun b hb => .inl hb, hkap s' hk⟩)
      simp only [Shared.setGen, hset]
      exact this
  · obtain ⟨rfl, h₁, tk₁, rfl, hS⟩ := hp
    have := hP h' tk₁ rfl fun b o hb e => hk b o (hS b o (fun z => (hfp b z).elim hb fun q => by
      have q' : s.heap.get? b = none := q
      rw [q'] at e; cases e) e)
    simp only [Shared.setGen, hset]
    exact this

theorem call_gen {x : Str} {t : Tok} {Q : Value → Shared → Prop} (T : TopF mg mb s.heap) (hroom : A.depth < recursionLimit) (hx : x.cps.all (· < 128) = true) (he : endEsc false x.cps.toList = false)
    (h : ∀ h₁ tk gs, h₁.IsGen (s.heap.objs.size + 1) s.gens.size → gs.bare = true → (∀ b o, s.heap.get? b = some o → h₁.get? b = some o) → h₁.objs.size = s.heap.objs.size + 2 →
      (∀ A', Ready w mg mb (itsOf 0 false x.cps.toList) (itsOf 0 false x.cps.toList).length [s.heap.objs.size] gs h₁ A') → Q (.ref (s.heap.objs.size + 1)) { s with heap := h₁, toks := tk, gens := s.gens.push gs }) :
    wpAny (model P0 w) A (call (.ref 21) [.str x t]) Q E s := by
  obtain ⟨o, pm, c, doc, ho, hd, hc⟩ := T.fn "_iter_escaped_chars" 21 1
  have hb : bindArgs (docDef (dName (stAt 1)) (dParams (stAt 1)) (dBody (stAt 1)) (dScope (stAt 1)) pm (.ref c) doc) ⟨[.str x t], []⟩ = pure [(Str.ofString "addr", .str x t)] := rfl
  refine wpAny_call (codeAny_call_generator (body := dBody (stAt 1)) hroom ho hd rfl rfl rfl hc ?_)
  rw [hb]
  refine wpAny_pure ?_
  have hd1 : ∀ x ∈ (dScope (stAt 1)).names, x.2 ≠ .cell := by decide
  refine wpAny_newFunctionEnv hd1 (by intro y hy; rcases List.mem_cons.mp hy with rfl | hy; · rfl
                                      · cases hy) fun h₁ hn₁ hs₁ => ?_
  have k₁ : ∀ b o, s.heap.get? b = some o → h₁.get? b = some o := fun b o e => hs₁.extBut b o (Nat.ne_of_lt (Heap.lt_size e)) (Heap.get?_push_of_some _ e)
  have z₁ : h₁.objs.size = s.heap.objs.size + 1 := by rw [hs₁.1, Heap.size_push]
  refine ⟨T.nolimit.keeps k₁, ?_⟩
  have k₂ : ∀ b o, s.heap.get? b = some o → (h₁.push { cls := .type "generator", data := .fields #[.int s.gens.size 0, .str (dName (stAt 1)) (s.toks + 1), .str (dName (stAt 1)) (s.toks + 1 + 1)] }).get? b = some o := fun b o e => Heap.get?_push_of_some _ (k₁ b o e)
  have := h _ (s.toks + 1 + 1 + 1) (.fresh (.func (dBody (stAt 1)) (eI s.heap.objs.size c))) ⟨_, _, _, by rw [← z₁]; exact Heap.get?_push_size _ rfl, rfl, rfl, rfl⟩ rfl k₂ (by rw [Heap.size_push, z₁]) ?_
  · dsimp only
    rw [z₁]
    exact this
  · intro A' s' hA' T' hk'
    have hn' : s'.heap.Ns s.heap.objs.size (fun y => [(Str.ofString "addr", Value.str x t)].reverse.lookup y) := hn₁.at' fun o e => hk' _ (by simp) o (Heap.get?_push_of_some _ e)
    obtain ⟨e, it, h1, h2, h3, h4, hs⟩ := gen_start (w := w) (cd := c) (h₀ := s.heap) hA' T' hn' rfl hx he (Nat.ne_of_gt T.g.lt) (Nat.ne_of_gt T.b.lt)
    refine ⟨[s.heap.objs.size, e, it], ?_, rfl, hs⟩
    intro b hb
    rcases List.mem_cons.mp hb with rfl | hb
    · exact .inl (by simp)
    rcases List.mem_cons.mp hb with rfl | hb
    · exact .inr h3
    rcases List.mem_cons.mp hb with rfl | hb
    · exact .inr h4
    · cases hb

def objsAt (h : Heap) (own : List Addr) : List (Addr × Obj) := own.filterMap fun b => (h.get? b).map fun o => (b, o)
theorem mem_objsAt {h : Heap} {own : List Addr} {p : Addr × Obj} : p ∈ objsAt h own ↔ p.1 ∈ own ∧ h.get? p.1 = some p.2 := by
  obtain ⟨b, o⟩ := p
  simp only [objsAt, List.mem_filterMap, Option.map_eq_some_iff, Prod.mk.injEq]
  constructor
  · rintro ⟨c, hc, o', ho, rfl, rfl⟩; exact ⟨hc, ho⟩
  · rintro ⟨hc, ho⟩; exact ⟨b, hc, o, ho, rfl, rfl⟩
theorem news_objsAt {h₀ h : Heap} {L : Addr} {own : List Addr} (ho : ∀ b ∈ own, b ≠ L ∧ h₀.get? b = none) : News h₀ L h (objsAt h own) := fun p hp =>
  ⟨(mem_objsAt.mp hp).2, (ho _ (mem_objsAt.mp hp).1).1, (ho _ (mem_objsAt.mp hp).1).2⟩
theorem objsAt_keep {h₀ h h' : Heap} {L : Addr} {own : List Addr} (N : News h₀ L h' (objsAt h own)) : ∀ b ∈ own, ∀ o, h.get? b = some o → h'.get? b = some o := fun b hb o e =>
  (N (b, o) (mem_objsAt.mpr ⟨hb, e⟩)).1

/-- after a turn of a loop over the generator -/
inductive TurnedG (h₀ : Heap) (L : Addr) (nw nn : List (Addr × Obj)) (K : (Str → Option Value) → List (Addr × Obj) → Prop) (gs : Array GenState) (os : OsState) (s₃ : Shared) : Prop
  | mk (m : Str → Option Value) (nw' : List (Addr × Obj)) (F : Fr h₀ L s₃.heap m) (N : News h₀ L s₃.heap (nw' ++ nn)) (hn : nw'.map (·.1) = nw.map (·.1)) (hK : K m nw') (hg : s₃.gens = gs) (ho : s₃.os = os) : TurnedG h₀ L nw nn K gs os s₃
inductive AtTurnG (w : World) (mg mb : Str → Option Value) (A : Around) (h₀ : Heap) (L ga : Addr) (g : Nat) (all : List (Nat × List Nat)) (nw : List (Addr × Obj)) (K : Nat → (Str → Option Value) → List (Addr × Obj) → Prop) (s : Shared) (n : Nat) (s' : Shared) : Prop
  | mk (i : Nat) (m : Str → Option Value) (nw' : List (Addr × Obj)) (own : List Addr) (gs' : GenState) (hi : i ≤ all.length) (hn : n = all.length + 1 - i) (F : Fr h₀ L s'.heap m) (N : News h₀ L s'.heap nw') (hnm : nw'.map (·.1) = nw.map (·.1)) (hK : K i m nw')
      (hg : s'.heap.IsGen ga g) (hgs : s'.gens[g]? = some gs') (hown : ∀ b ∈ own, b ≠ L ∧ h₀.get? b = none ∧ b ≠ ga ∧ b ∉ nw.map (·.1)) (hR : Ready w mg mb all (all.length - i) own gs' s'.heap A.in1) (hE : GExt s s') : AtTurnG w mg mb A h₀ L ga g all nw K s n s'
theorem for_gen {h₀ : Heap} {m : Str → Option Value} {nw : List (Addr × Obj)} {x y : Str} {px py pos pt : Pos} {ct : Nat} {iter : Expr} {body : List Stmt} {name : Str} {scope : Scope} {L a : Addr} {cd : Value} {z : Str} {tz : Tok} (K : Nat → (Str → Option Value) → List (Addr × Obj) → Prop) {Q : Flow → Shared → Prop}
    (hh : A.handled = none) (hk : scope.kind = .function) (hx : (envOf name scope L a cd).kindOf x = some .local) (hy : (envOf name scope L a cd).kindOf y = some .local) (hroom : A.depth < recursionLimit)
    (T : TopF mg mb h₀) (F : Fr h₀ L s.heap m) (N : News h₀ L s.heap nw) (h0 : K 0 m nw) (hz : z.cps.all (· < 128) = true) (he : endEsc false z.cps.toList = false)
    (hiter : ∀ Q' : Value → Shared → Prop, wpAny (model P0 w) A (call (.ref 21) [.str z tz]) Q' E s → wpAny (model P0 w) A (eval iter (envOf name scope L a cd)) Q' E s)
    (turn : ∀ i p u s' m' nw' nn ta tb, (itsOf 0 false z.cps.toList)[i]? = some (p, u) → Fr h₀ L s'.heap (fun v => if v = y then some (.str ⟨List.toArray u⟩ tb) else if v = x then some (.int (p : Nat) ta) else m' v) → News h₀ L s'.heap (nw' ++ nn) →
      nw'.map (·.1) = nw.map (·.1) → (∀ q ∈ nn, q.1 ∉ nw'.map (·.1)) → K i m' nw' → GExt s s' →
      wpAny (model P0 w) A (execs body (envOf name scope L a cd)) (fun f s₃ => match f with
        | .next | .cont => Here (TurnedG h₀ L nw nn (K (i + 1)) s'.gens s'.os s₃)
        | .brk => False
        | .ret v => Here (Q (.ret v) s₃)) (fun _ _ => False) s')
    (done : ∀ s' m' nw', Fr h₀ L s'.heap m' → News h₀ L s'.heap nw' → nw'.map (·.1) = nw.map (·.1) → K (itsOf 0 false z.cps.toList).length m' nw' → GExt s s' → Q .next s')
    (hs : ∀ x, foldedSetIterable iter (envOf name scope L a cd) x = pure x := by intro _; rfl) :
    wpAny (model P0 w) A (exec (.For (.Tuple [.Name x px, .Name y py] ct pt) iter body [] pos) (envOf name scope L a cd)) Q E s := by
  refine wpAny_For (hiter _ ?_) hs
  refine call_gen (T.keeps F.keep) hroom hz he fun h₁ tk gs hg hb hk₁ hz₁ hR => ?_
  refine wpAny_pyIter_gen hg ?_
  generalize hall : itsOf 0 false z.cps.toList = all at *
  have hLs : L < s.heap.objs.size := F.ns.lt
  have h0s : h₀.objs.size ≤ s.heap.objs.size := Nat.le_of_lt (Nat.lt_of_le_of_lt F.above hLs)
  have hzn : h₀.get? s.heap.objs.size = none := get_none_of_ge h0s
  have hgn : h₀.get? (s.heap.objs.size + 1) = none := get_none_of_ge (Nat.le_succ_of_le h0s)
  have hgnone : s.gens[s.gens.size]? = none := by simp
  have hganw : s.heap.objs.size + 1 ∉ nw.map (·.1) := fun hc => by
    obtain ⟨q, hq, e⟩ := List.mem_map.mp hc
    exact absurd (Heap.lt_size (N q hq).1) (by rw [e]; exact Nat.not_lt.mpr (Nat.le_succ _))
  generalize hga : s.heap.objs.size + 1 = ga at *
  generalize hgi : s.gens.size = g at *
  refine codeAny_forLoop_any (AtTurnG w mg mb A h₀ L ga g all nw K s) ?_ (all.length + 1)
    ⟨0, m, nw, [s.heap.objs.size], gs, Nat.zero_le _, rfl, ?_, ?_, rfl, h0, hg, ?_, ?_, hR _, ?_⟩
  · rintro n s' ⟨i, m', nw', own, gs', hi, rfl, F', N', hnm, hK, hg', hgs', hown, hR', hE⟩
    refine next_gen hh (T.keeps F'.keep) hroom hg' hgs' hR' ?_ ?_
    · intro n' p u t ta tb gs'' own' h₂ tk₂ hn' hit hb' htn hto htup hsub hk₂ hR''
      dsimp only
      have hin' : n' = all.length - (i + 1) := by omega
      have hlt : i < all.length := by omega
      subst hin'
      have hit' : all[i]? = some (p, u) := by
        rw [← hit]; congr 1; omega
      have exists_ne : ∀ b o, s'.heap.get? b = some o → s'.heap.get? b ≠ none := fun b o e z => by rw [e] at z; cases z
      have hown' : ∀ b ∈ own', b ≠ L ∧ h₀.get? b = none ∧ b ≠ ga ∧ b ∉ nw.map (·.1) := by
        intro b hb
        rcases hsub b hb with h | h
        · exact hown b h
        · refine ⟨?_, ?_, ?_, ?_⟩
          · rintro rfl
            have := F'.ns.lt
            obtain ⟨o, _, _, q, _⟩ := F'.ns
            rw [q] at h; cases h
          · cases q : h₀.get? b with
            | none => rfl
            | some o => rw [F'.keep b o q] at h; cases h
          · rintro rfl
            obtain ⟨o, _, _, q, _⟩ := hg'
            rw [q] at h; cases h
          · intro hb'
            rw [← hnm] at hb'
            obtain ⟨q, hq, rfl⟩ := List.mem_map.mp hb'
            rw [(N' q hq).1] at h; cases h
      have F₂ : Fr h₀ L h₂ m' := ⟨F'.ns.at' fun o e => hk₂ L o (fun z => (hown' _ z).1 rfl) e, fun b o e => hk₂ b o (fun z => by have := (hown' _ z).2.1; rw [this] at e; cases e) (F'.keep b o e), F'.above⟩
      have N₂ : News h₀ L h₂ nw' := fun q hq => ⟨hk₂ _ _ (fun z => (hown' _ z).2.2.2 (hnm ▸ List.mem_map_of_mem hq)) (N' q hq).1, (N' q hq).2⟩
      have hg₂ : h₂.IsGen ga g := let ⟨o, nm, qn, ho, r⟩ := hg'; ⟨o, nm, qn, hk₂ _ _ (fun z => (hown' _ z).2.2.1 rfl) ho, r⟩
      refine letOwned_gen hg₂ ?_
      have hoa : ∀ b ∈ ga :: own', b ≠ L ∧ h₀.get? b = none := by
        intro b hb
        rcases List.mem_cons.mp hb with rfl | hb
        · refine ⟨?_, hgn⟩
          subst hga; exact Nat.ne_of_gt (Nat.lt_succ_of_lt hLs)
        · exact ⟨(hown' b hb).1, (hown' b hb).2.1⟩
      have N₃ : News h₀ L h₂ (nw' ++ objsAt h₂ (ga :: own')) := fun q hq => (List.mem_append.mp hq).elim (fun x => N₂ q x) (fun x => news_objsAt hoa q x)
      refine wpAny_assign_Tuple hh htup rfl rfl fun h₃ hx₃ => ?_
      have F₃ : Fr h₀ L h₃ m' := fr_extBut F₂ (Nat.ne_of_lt F₂.ns.lt) (get_none_of_ge (Nat.le_of_lt (Nat.lt_of_le_of_lt F₂.above F₂.ns.lt))) hx₃
      have N₄ : News h₀ L h₃ (nw' ++ objsAt h₂ (ga :: own')) := fun q hq => ⟨hx₃ _ _ (Nat.ne_of_lt (Heap.lt_size (N₃ q hq).1)) (N₃ q hq).1, (N₃ q hq).2⟩
      refine assignInOrder_cons (wpAny_assign_Name (stN F₃ N₄ (fun h₅ F₅ N₅ => ?_) hk hx))
      refine assignInOrder_cons (wpAny_assign_Name (stN F₅ N₅ (fun h₆ F₆ N₆ => ?_) hk hy))
      refine assignInOrder_nil ?_
      have hgsz : g < s'.gens.size := (Array.getElem?_eq_some_iff.mp hgs').1
      have hGE : ∀ h t, GExt s { s' with heap := h, gens := s'.gens.setIfInBounds g gs'', toks := t } := fun h t => ⟨fun j x hx => by
          have hj : g ≠ j := by rintro rfl; rw [hgnone] at hx; cases hx
          show (s'.gens.setIfInBounds g gs'')[j]? = some x
          rw [Array.getElem?_setIfInBounds_ne hj]; exact hE.gens j x hx, fun hb x hx => by
          have hx : x ∈ s'.gens.setIfInBounds g gs'' := hx
          rcases Array.mem_or_eq_of_mem_setIfInBounds hx with h | h
          · exact hE.bare hb x h
          · exact h ▸ hb', hE.os⟩
      refine wpAny_mono (turn i p u _ m' nw' (objsAt h₂ (ga :: own')) ta tb hit' F₆ N₆ hnm ?_ hK (hGE _ _)) (fun f s₃ h₃ => ?_) fun _ _ h => h.elim
      · rintro ⟨b, o⟩ hq
        have hb : b ∈ ga :: own' := (mem_objsAt.mp hq).1
        rcases List.mem_cons.mp hb with rfl | hb
        · intro hc
          rw [hnm] at hc
          exact hganw hc
        · rw [hnm]; exact (hown' _ hb).2.2.2
      have fin : Here (TurnedG h₀ L nw (objsAt h₂ (ga :: own')) (K (i + 1)) (s'.gens.setIfInBounds g gs'') s'.os s₃) → 
          ∃ m, m < all.length + 1 - i ∧ AtTurnG w mg mb A h₀ L ga g all nw K s m s₃ := by
        rintro ⟨m'', nw'', F₇, N₇, hnm₇, hK₇, hg₇, ho₇⟩
        have hk₇ := objsAt_keep (h₀ := h₀) (L := L) (h := h₂) (h' := s₃.heap) (own := ga :: own') fun q hq => N₇ q (List.mem_append.mpr (.inr hq))
        refine ⟨all.length + 1 - (i + 1), by omega, i + 1, m'', nw'', own', gs'', hlt, rfl, F₇, fun q hq => N₇ q (List.mem_append.mpr (.inl hq)), hnm₇, hK₇, ?_, ?_, hown', ?_, ?_⟩
        · obtain ⟨o, nm, qn, ho, r⟩ := hg₂
          exact ⟨o, nm, qn, hk₇ ga (by simp) o ho, r⟩
        · rw [hg₇]; simp [hgsz]
        · intro s4 hA4 T4 hk4
          exact hR'' s4 hA4 T4 fun b hb o e => hk4 b hb o (hk₇ b (List.mem_cons_of_mem _ hb) o e)
        · have := hGE s₃.heap s₃.toks
          exact ⟨fun j x hx => hg₇ ▸ this.gens j x hx, fun hb x hx => this.bare hb x (by rw [hg₇] at hx; exact hx), ho₇.trans hE.os⟩
      cases f with
      | next => exact fin h₃
      | cont => exact fin h₃
      | brk => exact h₃.elim
      | ret v => exact h₃
    · intro h₂ tk₂ hn0 hk₂
      have : i = all.length := by omega
      subst this
      refine wpAny_execs_nil (done _ m' nw' ⟨F'.ns.at' fun o e => hk₂ L o (fun z => (hown _ z).1 rfl) e, fun b o e => hk₂ b o (fun z => by have := (hown _ z).2.1; rw [this] at e; cases e) (F'.keep b o e), F'.above⟩
        (fun q hq => ⟨hk₂ _ _ (fun z => (hown _ z).2.2.2 (hnm ▸ List.mem_map_of_mem hq)) (N' q hq).1, (N' q hq).2⟩) hnm hK ?_)
      refine ⟨fun j x hx => ?_, fun hb x hx => ?_, hE.os⟩
      · have hj : g ≠ j := by rintro rfl; rw [hgnone] at hx; cases hx
        show (s'.gens.setIfInBounds g .finished)[j]? = some x
        rw [Array.getElem?_setIfInBounds_ne hj]; exact hE.gens j x hx
      · have hx : x ∈ s'.gens.setIfInBounds g .finished := hx
        rcases Array.mem_or_eq_of_mem_setIfInBounds hx with h | h
        · exact hE.bare hb x h
        · exact h ▸ rfl
  · exact ⟨F.ns.keeps hk₁, fun b o e => hk₁ b o (F.keep b o e), F.above⟩
  · exact fun q hq => ⟨hk₁ _ _ (N q hq).1, (N q hq).2⟩
  · show (s.gens.push gs)[g]? = some gs
    subst hgi; simp
  · intro b hb
    rcases List.mem_cons.mp hb with rfl | hb
    · refine ⟨Nat.ne_of_gt hLs, hzn, by subst hga; exact Nat.ne_of_lt (Nat.lt_succ_self _), fun hc => ?_⟩
      obtain ⟨q, hq, e⟩ := List.mem_map.mp hc
      exact absurd (Heap.lt_size (N q hq).1) (by rw [e]; exact Nat.lt_irrefl _)
    · cases hb
  · refine ⟨fun j x hx => ?_, fun hb' x hx => ?_, rfl⟩
    · show (s.gens.push gs)[j]? = some x
      have := (Array.getElem?_eq_some_iff.mp hx).1
      rw [Array.getElem?_push, if_neg (by omega)]; exact hx
    · rcases Array.mem_push.mp hx with h | h
      · exact hb' x h
      · exact h ▸ hb
end
end
section
open PySem PySem.W PyProof.Rows PySem.Calls PySem.Spec
set_option maxRecDepth 100000
set_option maxHeartbeats 4000000

/-- an element y made of an item v: a value told by G, or a new object told by O -/
def El (G : Value → Value → Prop) (O : Value → Obj → Prop) (X : List Addr) (v y : Value) (h : Heap) : Prop := G v y ∨ ∃ r o, y = .ref r ∧ r ∉ X ∧ h.get? r = some o ∧ O v o
theorem El.mono {G : Value → Value → Prop} {O : Value → Obj → Prop} {X : List Addr} {v y : Value} {h h' : Heap} (e : El G O X v y h) (k : ∀ b o, b ∉ X → h.get? b = some o → h'.get? b = some o) : El G O X v y h' :=
  e.imp id fun ⟨r, o, e1, e2, e3, e4⟩ => ⟨r, o, e1, e2, k _ _ e2 e3, e4⟩
def Made1 (G : Value → Value → Prop) (O : Value → Obj → Prop) (v y : Value) (h h' : Heap) : Prop := G v y ∨ ∃ r o, y = .ref r ∧ h.get? r = none ∧ h'.get? r = some o ∧ O v o
theorem getElem?_snoc {α : Type} {P : Nat → α → Prop} {vs : List α} {v : α} (hP : ∀ j u, vs[j]? = some u → P j u) (hv : P vs.length v) : ∀ j u, (vs ++ [v])[j]? = some u → P j u := fun j u hj => by
  rcases Nat.lt_trichotomy j vs.length with h | h | h
  · exact hP j u (by rwa [List.getElem?_append_left h] at hj)
  · subst h; simp at hj; subst hj; exact hv
  · have hnone : (vs ++ [v])[j]? = none := List.getElem?_eq_none (by rw [List.length_append, List.length_singleton]; omega)
    rw [hnone] at hj; cases hj

/-- ahead of a turn of a comprehension's loop -/
inductive CompTurn (C D : Addr) (wr : List Addr) (n : Nat) (P : Nat → Value → Prop) (St : Nat → Heap → Prop) (p : Value → Bool) (G : Value → Value → Prop) (O : Value → Obj → Prop) (s : Shared) (k : Nat) (s' : Shared) : Prop
  | mk (m' : Str → Option Value) (ys : Array Value) (vs : List Value) (hst : St vs.length s'.heap) (hacc : s'.heap.PlainList D ys) (hn : s'.heap.Ns C m') (hP : ∀ j v, vs[j]? = some v → P j v)
      (hF : Paired (fun v y => El G O (C :: D :: wr) v y s'.heap) (vs.filter p) ys.toList) (hi : vs.length ≤ n) (hk : k = n + 1 - vs.length)
      (kp : ∀ b o, b ≠ C → b ∉ wr → b ≠ D → s.heap.get? b = some o → s'.heap.get? b = some o) (hg : GExt s s') : CompTurn C D wr n P St p G O s k s'
section
variable {w : World} {A : Around} {E : Value → Shared → Prop} {s : Shared} {R : Result → Shared → Prop}

theorem comp_loop {elt iter : Expr} {x : Str} {px : Pos} {ifs : List Expr} {scope : Scope} {pos : Pos} {I D : Addr} {fp wr : List Addr} {n : Nat} {P : Nat → Value → Prop} {St : Nat → Heap → Prop}
    {cenv : Env} {m : Str → Option Value} (W : Walks P0 w A I fp wr n P St) (hlive : ∀ i h, St i h → ∀ b ∈ wr, ∃ o, h.get? b = some o) (p : Value → Bool) (G : Value → Value → Prop) (O : Value → Obj → Prop)
    (hx : cenv.kindOf x = some .local) (hp : (cenv.scope.kind == .class || (cenv.scope.kind == .module && cenv.locals != cenv.globals)) = false)
    (hDC : D ≠ cenv.locals) (hDf : D ∉ fp) (hCf : cenv.locals ∉ fp)
    (hst : St 0 s.heap) (hacc : s.heap.PlainList D #[]) (hn : s.heap.Ns cenv.locals m)
    (htests : ∀ i v s₂ m₂, P i v → s₂.heap.Ns cenv.locals m₂ → m₂ x = some v → (∀ b o, b ≠ cenv.locals → b ∉ wr → b ≠ D → s.heap.get? b = some o → s₂.heap.get? b = some o) → GExt s s₂ →
      wpAny (model P0 w) A (forIn ifs true fun c r => if r = true then do let ok ← isTrue c cenv (eval c cenv); pure (ForInStep.yield ok) else pure (ForInStep.yield r))
        (fun ok s₃ => ok = p v ∧ Ext s₂ s₃) (fun _ _ => False) s₂)
    (helt : ∀ i v s₂ m₂, P i v → p v = true → s₂.heap.Ns cenv.locals m₂ → m₂ x = some v → (∀ b o, b ≠ cenv.locals → b ∉ wr → b ≠ D → s.heap.get? b = some o → s₂.heap.get? b = some o) → GExt s s₂ →
      wpAny (model P0 w) A (eval elt cenv) (fun y s₃ => Made1 G O v y s₂.heap s₃.heap ∧ Ext s₂ s₃) (fun _ _ => False) s₂)
    (hR : ∀ s' m' ys (vs : List Value), s'.heap.Ns cenv.locals m' → s'.heap.PlainList D ys → vs.length = n → (∀ j v, vs[j]? = some v → P j v) → Paired (fun v y => El G O (cenv.locals :: D :: wr) v y s'.heap) (vs.filter p) ys.toList →
      (∀ b o, b ≠ cenv.locals → b ∉ wr → b ≠ D → s.heap.get? b = some o → s'.heap.get? b = some o) → GExt s s' → R (.ok .next) s')
    (hsz : n ≤ sizeLine := by size_fits) :
    codeAny (model P0 w) A (.compLoop (.ListComp elt [⟨.Name x px, iter, ifs, 0⟩] scope pos) 0 (.ref I) (.ref D) cenv) R s := by
  refine codeAny_compLoop_tests
    (CompTurn cenv.locals D wr n P St p G O s) ?_ (n + 1)
    ⟨m, #[], [], hst, hacc, hn, by simp, by simpa using Paired.nil, Nat.zero_le _, rfl, fun _ _ _ _ _ e => e, GExt.refl s⟩
  rintro k s' ⟨m', ys, vs, hst', hacc', hn', hP, hF, hi, rfl, hk, hg⟩
  have hCw : cenv.locals ∉ wr := fun h => hCf (W.sub _ h)
  have hDw : D ∉ wr := fun h => hDf (W.sub _ h)
  by_cases hlt : vs.length < n
  · refine W.item vs.length _ _ _ hlt hst' fun v h₁ tk₁ hPv hst₁ hk₁ => ?_
    refine wpAny_assign_Name (wpAny_storeName_local hx (hn'.at' fun o e => hk₁ _ o hCw e) (fun h₂ hn₂ hs₂ => ?_) hp)
    have up₂ : ∀ b o, b ≠ cenv.locals → b ∉ wr → s'.heap.get? b = some o → h₂.get? b = some o := fun b o hbC hbf e => hs₂.extBut b o hbC (hk₁ b o hbf e)
    have hst₂ : St (vs.length + 1) h₂ := W.frame _ _ _ hst₁ fun b hb o e => hs₂.extBut b o (fun h => hCf (h ▸ hb)) e
    have hg₂ : GExt s { s' with heap := h₂, toks := tk₁ + 1 } := ⟨hg.gens, hg.bare, hg.os⟩
    refine wpAny_mono (htests vs.length v _ _ hPv hn₂ (by simp) (fun b o hbC hbf hbD e => up₂ b o hbC hbf (hk b o hbC hbf hbD e)) hg₂) (fun ok s₃ h₃ => ?_) fun _ _ e => e.elim
    obtain ⟨rfl, x₃⟩ := h₃
    have hst₃ : St (vs.length + 1) s₃.heap := W.frame _ _ _ hst₂ fun b _ o e => x₃.keep b o e
    have hacc₃ : s₃.heap.PlainList D ys := hacc'.at fun o e => x₃.keep _ o (up₂ D o hDC hDw e)
    have hn₃ := hn₂.keeps x₃.keep
    have hg₃ := hg₂.trans x₃.g
    have hP' := getElem?_snoc hP hPv
    have upX : ∀ b o, b ∉ (cenv.locals :: D :: wr) → s'.heap.get? b = some o → s₃.heap.get? b = some o := fun b o hb e => by
      simp only [List.mem_cons, not_or] at hb
      exact x₃.keep b o (up₂ b o hb.1 hb.2.2 e)
    have hF₃ := paired_mono (fun v y (e : El G O (cenv.locals :: D :: wr) v y s'.heap) => e.mono upX) hF
    cases hpv : p v with
    | false =>
      simp only [Bool.false_eq_true, if_false]
      refine ⟨n + 1 - (vs.length + 1), by omega, _, ys, vs ++ [v], by simpa using hst₃, hacc₃, hn₃, hP', ?_, (by rw [List.length_append, List.length_singleton]; exact hlt), (by rw [List.length_append, List.length_singleton]),
        fun b o hbC hbf hbD e => x₃.keep b o (up₂ b o hbC hbf (hk b o hbC hbf hbD e)), hg₃⟩
      rw [List.filter_append]; simpa [hpv] using hF₃
    | true =>
      simp only [if_true]
      refine wpAny_mono (helt vs.length v s₃ _ hPv hpv hn₃ (by simp) (fun b o hbC hbf hbD e => x₃.keep b o (up₂ b o hbC hbf (hk b o hbC hbf hbD e))) hg₃) (fun y s₄ h₄ => ?_) fun _ _ e => e.elim
      obtain ⟨hFy, x₄⟩ := h₄
      have hys : ys.size ≤ sizeLine := by
        have e1 := hF.length
        have e2 : (vs.filter p).length ≤ vs.length := List.length_filter_le _ _
        have e4 : ys.toList.length = ys.size := by simp
        omega
      refine wpAny_list_append_plain (hsz := hys) (hacc₃.at fun o e => x₄.keep _ o e) fun h₅ hl₅ hs₅ => ?_
      have hEl : El G O (cenv.locals :: D :: wr) v y h₅ := by
        rcases hFy with hG | ⟨r, o, rfl, hr, ho, hO⟩
        · exact .inl hG
        · have hrX : r ∉ cenv.locals :: D :: wr := by
            intro hm
            have : ∃ o, s₃.heap.get? r = some o := by
              simp only [List.mem_cons] at hm
              rcases hm with rfl | rfl | hm
              · obtain ⟨o, _, _, e, _⟩ := hn₃; exact ⟨o, e⟩
              · obtain ⟨n, e⟩ := hacc₃; exact ⟨_, e⟩
              · exact hlive _ _ hst₃ r hm
            obtain ⟨o, e⟩ := this
            rw [hr] at e; cases e
          exact .inr ⟨r, o, rfl, hrX, hs₅.extBut r o (fun q => hrX (by simp [q])) ho, hO⟩
      refine ⟨n + 1 - (vs.length + 1), by omega, _, ys.push y, vs ++ [v], ?_, hl₅, (hn₃.keeps x₄.keep).sameBut hs₅ (Ne.symm hDC), hP', ?_, (by rw [List.length_append, List.length_singleton]; exact hlt), (by rw [List.length_append, List.length_singleton]),
        fun b o hbC hbf hbD e => hs₅.extBut b o hbD (x₄.keep b o (x₃.keep b o (up₂ b o hbC hbf (hk b o hbC hbf hbD e)))), ?_⟩
      · have := W.frame _ _ h₅ hst₃ fun b hb o e => hs₅.extBut b o (fun h => hDf (h ▸ hb)) (x₄.keep b o e)
        simpa using this
      · rw [List.filter_append]
        have := Paired.snoc (paired_mono (fun v y (e : El G O (cenv.locals :: D :: wr) v y s₃.heap) => e.mono (h' := h₅) fun b o hb e => hs₅.extBut b o (fun q => hb (by simp [q])) (x₄.keep b o e)) hF₃) hEl
        simpa [hpv] using this
      · have := hg₃.trans x₄.g
        exact ⟨this.gens, this.bare, this.os⟩
  · have hin : vs.length = n := by omega
    refine W.done _ _ _ (hin ▸ hst') fun h₁ tk₁ hk₁ => ?_
    exact hR _ m' ys vs (hn'.at' fun o e => hk₁ _ o hCw e) (hacc'.at fun o e => hk₁ _ o hDw e) hin hP (paired_mono (fun v y (e : El G O (cenv.locals :: D :: wr) v y s'.heap) => e.mono fun b o hb e => hk₁ b o (fun q => hb (by simp [q])) e) hF)
      (fun b o hbC hbf hbD e => hk₁ b o hbf (hk b o hbC hbf hbD e)) ⟨hg.gens, hg.bare, hg.os⟩
end

section
variable {w : World} {A : Around} {E : Value → Shared → Prop} {env : Env}

abbrev testsOf (ifs : List Expr) (cenv : Env) : Sem Bool := forIn ifs true fun c r => if r = true then do let ok ← isTrue c cenv (eval c cenv); pure (ForInStep.yield ok) else pure (ForInStep.yield r)

/-- what a comprehension's source, tests and element must tell -/
structure CompOk (w : World) (A : Around) (env : Env) (scope : Scope) (cl : List (Str × Addr)) (x : Str) (ifs : List Expr) (elt : Expr) (p : Value → Bool) (G : Value → Value → Prop) (O : Value → Obj → Prop) (s₂ : Shared)
    (I : Addr) (fp wr : List Addr) (n : Nat) (P : Nat → Value → Prop) (St : Nat → Heap → Prop) : Prop where
  W : Walks P0 w A I fp wr n P St
  live : ∀ i h, St i h → ∀ b ∈ wr, ∃ o, h.get? b = some o
  size : n ≤ sizeLine
  st : St 0 s₂.heap
  fp : ∀ b ∈ fp, b < s₂.heap.objs.size
  tests : ∀ C i v s₃ m₃, s₂.heap.objs.size ≤ C → P i v → s₃.heap.Ns C m₃ → m₃ x = some v → (∀ b o, b ∉ wr → s₂.heap.get? b = some o → s₃.heap.get? b = some o) → GExt s₂ s₃ →
    wpAny (model P0 w) A (testsOf ifs (compEnvC scope cl C env)) (fun ok s₄ => Here (ok = p v ∧ Ext s₃ s₄)) (fun _ _ => False) s₃
  elt : ∀ C i v s₃ m₃, s₂.heap.objs.size ≤ C → P i v → p v = true → s₃.heap.Ns C m₃ → m₃ x = some v → (∀ b o, b ∉ wr → s₂.heap.get? b = some o → s₃.heap.get? b = some o) → GExt s₂ s₃ →
    wpAny (model P0 w) A (eval elt (compEnvC scope cl C env)) (fun y s₄ => Here (Made1 G O v y s₃.heap s₄.heap ∧ Ext s₃ s₄)) (fun _ _ => False) s₃

theorem comp_block {elt iter : Expr} {x : Str} {px : Pos} {ifs : List Expr} {scope : Scope} {cl : List (Str × Addr)} {pos : Pos} {s₂ : Shared} {I : Addr} {fp wr : List Addr} {n : Nat} {P : Nat → Value → Prop}
    {St : Nat → Heap → Prop} {p : Value → Bool} {G : Value → Value → Prop} {O : Value → Obj → Prop} {RR : Value → Addr → Result → Shared → Prop}
    (hcell : ∀ y ∈ scope.names, y.2 ≠ .cell) (hkind : scope.kind = .function) (hx : scope.names.lookup x = some .local) (hq : CompOk w A env scope cl x ifs elt p G O s₂ I fp wr n P St)
    (hRR : ∀ D C s' m' ys (vs : List Value), s₂.heap.get? D = none → s₂.heap.get? C = none → D ≠ C → s'.heap.Ns C m' → s'.heap.PlainList D ys → vs.length = n → (∀ j v, vs[j]? = some v → P j v) →
      Paired (fun v y => El G O (C :: D :: wr) v y s'.heap) (vs.filter p) ys.toList → (∀ b o, b ∉ wr → s₂.heap.get? b = some o → s'.heap.get? b = some o) → GExt s₂ s' → RR (.ref D) C (.ok .next) s') :
    wpAny (model P0 w) A (newList []) (fun acc s₃ => wpAny (model P0 w) A (newFunctionEnv scope env.globals cl [] env.qual none .none (some env)) (fun cenv s₄ =>
      codeAny (model P0 w) A (.compStart (.ListComp elt [⟨.Name x px, iter, ifs, 0⟩] scope pos) 0 (.ref I) acc { cenv with scope := relabel scope env }) (RR acc cenv.locals) s₄) E s₃) E s₂ := by
  refine wpAny_newObj_type (wpAny_newFunctionEnv hcell (by intro y hy; simp at hy) (fun h₁ hns₁ hsb₁ => ?_) hkind)
  dsimp only at hns₁ hsb₁ ⊢
  generalize hH2 : s₂.heap.push { cls := .type "list", dict := none, data := .seq ([] : List Value).toArray } = H2 at hns₁ hsb₁ ⊢
  have hC : H2.objs.size = s₂.heap.objs.size + 1 := by rw [← hH2, Heap.size_push]
  have hDC : s₂.heap.objs.size ≠ H2.objs.size := by rw [hC]; exact Nat.ne_of_lt (Nat.lt_succ_self _)
  have hCle : s₂.heap.objs.size ≤ H2.objs.size := by rw [hC]; exact Nat.le_succ _
  have below : ∀ b, b < s₂.heap.objs.size → b ≠ H2.objs.size ∧ b ≠ s₂.heap.objs.size := fun b hb => ⟨by rw [hC]; exact Nat.ne_of_lt (Nat.lt_succ_of_lt hb), Nat.ne_of_lt hb⟩
  have hDf : s₂.heap.objs.size ∉ fp := fun hm => Nat.lt_irrefl _ (hq.fp _ hm)
  have hCf : H2.objs.size ∉ fp := fun hm => by have := hq.fp _ hm; rw [hC] at this; exact Nat.lt_irrefl _ (Nat.lt_of_succ_lt this)
  have old : ∀ b o, s₂.heap.get? b = some o → h₁.get? b = some o := fun b o e => hsb₁.extBut b o (below b (Heap.lt_size e)).1 (Heap.get?_push_of_some _ (hH2 ▸ Heap.get?_push_of_some _ e))
  have hacc : h₁.PlainList s₂.heap.objs.size #[] := ⟨_, hsb₁.extBut _ _ hDC (Heap.get?_push_of_some _ (hH2 ▸ Heap.get?_push_size _ rfl))⟩
  have hst₁ : St 0 h₁ := hq.W.frame _ _ _ hq.st fun b _ o e => old b o e
  have loop : ∀ s₃ : Shared, s₃ = { s₂ with heap := h₁, toks := s₂.toks + ([] : List (Str × Value)).length } →
      codeAny (model P0 w) A (.compLoop (.ListComp elt [⟨.Name x px, iter, ifs, 0⟩] scope pos) 0 (.ref I) (.ref s₂.heap.objs.size) (compEnvC scope cl H2.objs.size env))
        (RR (.ref s₂.heap.objs.size) H2.objs.size) s₃ := by
    rintro s₃ rfl
    refine comp_loop (hsz := hq.size) (cenv := compEnvC scope cl H2.objs.size env) hq.W hq.live p G O (lookup_relabel_local hx) (by simp [compEnvC, relabel, hkind]) hDC hDf hCf hst₁ hacc hns₁
      (fun i v s₃ m₃ hv hn hm hk hg => hq.tests _ i v s₃ m₃ hCle hv hn hm (fun b o hbf e => hk b o (below b (Heap.lt_size e)).1 hbf (below b (Heap.lt_size e)).2 (old b o e)) ⟨hg.gens, hg.bare, hg.os⟩)
      (fun i v s₃ m₃ hv hpv hn hm hk hg => hq.elt _ i v s₃ m₃ hCle hv hpv hn hm (fun b o hbf e => hk b o (below b (Heap.lt_size e)).1 hbf (below b (Heap.lt_size e)).2 (old b o e)) ⟨hg.gens, hg.bare, hg.os⟩)
      fun s' m' ys vs hn ha hlen hP hF hk hg => ?_
    exact hRR _ _ s' m' ys vs (get_none_of_ge (Nat.le_refl _)) (get_none_of_ge (by rw [hC]; exact Nat.le_succ _)) hDC hn ha hlen hP hF (fun b o hbf e =>
      hk b o (below b (Heap.lt_size e)).1 hbf (below b (Heap.lt_size e)).2 (old b o e)) ⟨hg.gens, hg.bare, hg.os⟩
  exact codeAny_compStart_list (loop _ rfl) (hq.W.self 0 _ _ _ hst₁ (loop _ rfl))

/-- the elements of a comprehension's list -/
def ElN (G : Value → Value → Prop) (O : Value → Obj → Prop) (D : Addr) (v y : Value) (h : Heap) : Prop := G v y ∨ ∃ r o, y = .ref r ∧ r ≠ D ∧ h.get? r = some o ∧ O v o

theorem comp_eval {s : Shared} {elt iter : Expr} {x : Str} {px : Pos} {ifs : List Expr} {scope : Scope} {cl : List (Str × Addr)} {pos : Pos} {Q : Value → Shared → Prop} (p : Value → Bool) (G : Value → Value → Prop) (O : Value → Obj → Prop)
    (hclos : closureFor scope env = pure cl) (hcell : ∀ y ∈ scope.names, y.2 ≠ .cell) (hkind : scope.kind = .function)
    (hnames : ∀ y ∈ scope.names, y.2 = .local → scope.names.lookup y.1 = some .local) (hx : scope.names.lookup x = some .local)
    (h : wpAny (model P0 w) A (eval iter env) (fun xv s₁ => wpAny (model P0 w) A (pyIter xv) (fun it s₂ => Here (∃ I fp wr n P St, it = .ref I ∧ CompOk w A env scope cl x ifs elt p G O s₂ I fp wr n P St ∧
      (∀ D s' ys (vs : List Value), s₂.heap.get? D = none → s'.heap.PlainList D ys → vs.length = n → (∀ j v, vs[j]? = some v → P j v) → Paired (fun v y => ElN G O D v y s'.heap) (vs.filter p) ys.toList →
        (∀ b o, b ∉ wr → s₂.heap.get? b = some o → s'.heap.get? b = some o) → GExt s₂ s' → Q (.ref D) s'))) E s₁) E s)
    (hs : ∀ x, foldedSetIterable iter env x = pure x := by intro _; rfl) :
    wpAny (model P0 w) A (eval (.ListComp elt [⟨.Name x px, iter, ifs, 0⟩] scope pos) env) Q E s := by
  rw [eval_ListComp]
  refine wpAny_comprehension_free (use := none) rfl hs hclos hkind hnames (wpAny_mono h (fun xv s₁ h₁ => wpAny_mono h₁ (fun it s₂ h₂ => ?_) fun _ _ e => e) fun _ _ e => e)
  obtain ⟨I, fp, wr, n, P, St, rfl, hq, hQ⟩ := h₂
  refine comp_block (RR := fun acc C => compPost (model P0 w) A E none Q acc C) hcell hkind hx hq ?_
  intro D C s' m' ys vs hD hC hDC hn hpl hlen hP hF hk hg
  refine ⟨m', hn, fun h'' hs'' => hQ D _ ys vs hD (hpl.at fun o e => hs''.extBut _ o hDC e) hlen hP (paired_mono (fun v y e => ?_) hF) (fun b o hbf e => hs''.extBut b o (by rintro rfl; rw [hC] at e; cases e) (hk b o hbf e)) ⟨hg.gens, hg.bare, hg.os⟩⟩
  rcases e with e | ⟨r, o, rfl, hr, ho, hO⟩
  · exact .inl e
  · simp only [List.mem_cons, not_or] at hr
    exact .inr ⟨r, o, rfl, hr.2.1, hs''.extBut r o hr.1 ho, hO⟩

theorem comp_assign {s : Shared} {elt iter : Expr} {x y : Str} {px py : Pos} {ifs : List Expr} {scope : Scope} {cl : List (Str × Addr)} {pos spos : Pos} {Q : Flow → Shared → Prop}
    (p : Value → Bool) (G : Value → Value → Prop) (O : Value → Obj → Prop)
    (hsw : swapsWith (.ListComp elt [⟨.Name x px, iter, ifs, 0⟩] scope pos) (some (.Name y py)) spos.line env = pure true)
    (hclos : closureFor scope env = pure cl) (hcell : ∀ z ∈ scope.names, z.2 ≠ .cell) (hkind : scope.kind = .function)
    (hnames : ∀ z ∈ scope.names, z.2 = .local → scope.names.lookup z.1 = some .local) (hx : scope.names.lookup x = some .local)
    (hy : env.kindOf y = some .local) (hp : (env.scope.kind == .class || (env.scope.kind == .module && env.locals != env.globals)) = false)
    (h : wpAny (model P0 w) A (eval iter env) (fun xv s₁ => wpAny (model P0 w) A (pyIter xv) (fun it s₂ => Here (∃ I fp wr n P St m, it = .ref I ∧ CompOk w A env scope cl x ifs elt p G O s₂ I fp wr n P St ∧
      env.locals ∉ wr ∧ s₂.heap.Ns env.locals m ∧
      (∀ D s' ys (vs : List Value), s₂.heap.get? D = none → s'.heap.PlainList D ys → vs.length = n → (∀ j v, vs[j]? = some v → P j v) → Paired (fun v y => ElN G O D v y s'.heap) (vs.filter p) ys.toList →
        s'.heap.Ns env.locals (fun z => if z = y then some (.ref D) else m z) → (∀ b o, b ≠ env.locals → b ∉ wr → s₂.heap.get? b = some o → s'.heap.get? b = some o) → GExt s₂ s' → Q .next s'))) E s₁) E s)
    (hO : ∀ v o, O v o → ∀ es ep, o.data ≠ .dict es ep)
    (hs : ∀ x, foldedSetIterable iter env x = pure x := by intro _; rfl) :
    wpAny (model P0 w) A (exec (.Assign [.Name y py] (.ListComp elt [⟨.Name x px, iter, ifs, 0⟩] scope pos) spos) env) Q E s := by
  rw [exec_Assign_Name_used _ _ _ _ hsw]
  refine wpAny_bind (wpAny_standAt (wpAny_bind ?_))
  show wpAny _ A (do let _ ← comprehension (.ListComp elt [⟨.Name x px, iter, ifs, 0⟩] scope pos) scope env _ (newList []) false (eval iter env) (some (assign (.Name y py) env))) _ _ s
  refine wpAny_bind (wpAny_mono (wpAny_comprehension_free (use := some (assign (.Name y py) env)) (Q := fun _ s' => Q .next s') rfl hs hclos hkind hnames
    (wpAny_mono h (fun xv s₁ h₁ => wpAny_mono h₁ (fun it s₂ h₂ => ?_) fun _ _ e => e) fun _ _ e => e)) (fun _ s' hq => wpAny_pure (wpAny_pure hq)) fun _ _ e => e)
  obtain ⟨I, fp, wr, n, P, St, m, rfl, hq, hLf, hn, hQ⟩ := h₂
  refine comp_block (RR := fun acc C => compPost (model P0 w) A E (some (assign (.Name y py) env)) (fun _ s' => Q .next s') acc C) hcell hkind hx hq ?_
  intro D C s' m' ys vs hD hC hDC hnC hplD hlen hP hF hk hg
  have hLC : env.locals ≠ C := by rintro rfl; obtain ⟨o, _, _, ho, _⟩ := hn; rw [hC] at ho; cases ho
  have hLD : env.locals ≠ D := by rintro rfl; obtain ⟨o, _, _, ho, _⟩ := hn; rw [hD] at ho; cases ho
  have hn' := hn.at' fun o e => hk _ o hLf e
  show wpAny _ A (assign (.Name y py) env (.ref D)) _ _ _
  refine wpAny_assign_Name (wpAny_storeName_local hy hn' (fun h₂ hn₂ hs₂ => ?_) hp)
  refine ⟨m', hnC.sameBut hs₂ (Ne.symm hLC), fun h₃ hs₃ => ?_⟩
  refine hQ D _ ys vs hD (hplD.at fun o e => hs₃.extBut _ o hDC (hs₂.extBut _ o (Ne.symm hLD) e)) hlen hP (paired_mono (fun v y e => ?_) hF) (hn₂.sameBut hs₃ hLC) (fun b o hbL hbf e =>
    hs₃.extBut b o (by rintro rfl; rw [hC] at e; cases e) (hs₂.extBut b o hbL (hk b o hbf e))) ⟨hg.gens, hg.bare, hg.os⟩
  rcases e with e | ⟨r, o, rfl, hr, ho, hOo⟩
  · exact .inl e
  · simp only [List.mem_cons, not_or] at hr
    have hrL : r ≠ env.locals := by
      rintro rfl
      obtain ⟨o', es, ep, ho', hd', _⟩ := hn'
      have e' := ho.symm.trans ho'
      injection e' with e'
      subst e'
      exact hO v o hOo es ep hd'
    exact .inr ⟨r, o, rfl, hr.2.1, hs₃.extBut r o hr.1 (hs₂.extBut r o hrL ho), hOo⟩

/-- the same for a list as the source -/
structure ListOk (w : World) (A : Around) (env : Env) (scope : Scope) (cl : List (Str × Addr)) (x : Str) (ifs : List Expr) (elt : Expr) (p : Value → Bool) (G : Value → Value → Prop) (O : Value → Obj → Prop) (s₁ : Shared) (vs : List Value) : Prop where
  tests : ∀ (C : Addr) (i : Nat) v s₃ m₃, s₁.heap.objs.size ≤ C → vs[i]? = some v → s₃.heap.Ns C m₃ → m₃ x = some v → (∀ b o, s₁.heap.get? b = some o → s₃.heap.get? b = some o) → GExt s₁ s₃ →
    wpAny (model P0 w) A (testsOf ifs (compEnvC scope cl C env)) (fun ok s₄ => Here (ok = p v ∧ Ext s₃ s₄)) (fun _ _ => False) s₃
  elt : ∀ (C : Addr) (i : Nat) v s₃ m₃, s₁.heap.objs.size ≤ C → vs[i]? = some v → p v = true → s₃.heap.Ns C m₃ → m₃ x = some v → (∀ b o, s₁.heap.get? b = some o → s₃.heap.get? b = some o) → GExt s₁ s₃ →
    wpAny (model P0 w) A (eval elt (compEnvC scope cl C env)) (fun y s₄ => Here (Made1 G O v y s₃.heap s₄.heap ∧ Ext s₃ s₄)) (fun _ _ => False) s₃

theorem list_ext_of {α : Type} {vs us : List α} (hl : us.length = vs.length) (h : ∀ (j : Nat) v, us[j]? = some v → vs[j]? = some v) : us = vs := by
  apply List.ext_getElem?
  intro j
  cases e : us[j]? with
  | some v => exact (h j v e).symm
  | none => rw [List.getElem?_eq_none]; rw [← hl]; exact List.getElem?_eq_none_iff.mp e

theorem ListOk.comp {scope : Scope} {cl : List (Str × Addr)} {x : Str} {ifs : List Expr} {elt : Expr} {p : Value → Bool} {G : Value → Value → Prop} {O : Value → Obj → Prop} {s₁ : Shared} {vs : List Value} {l : Addr}
    (hh : A.handled = none) (hl : s₁.heap.IsList l vs.toArray) (hz : vs.length ≤ sizeLine) (k : ListOk w A env scope cl x ifs elt p G O s₁ vs) :
    CompOk w A env scope cl x ifs elt p G O { s₁ with heap := s₁.heap.push { cls := .type "list_iterator", data := .fields #[.ref l, .int 0 0] } } s₁.heap.objs.size [s₁.heap.objs.size, l] [s₁.heap.objs.size] vs.toArray.size
      (fun i v => vs.toArray[i]? = some v) (fun i h => h.IsListIter s₁.heap.objs.size l i ∧ h.IsList l vs.toArray) := by
  have hls : l < s₁.heap.objs.size := let ⟨_, e, _⟩ := hl; Heap.lt_size e
  have kp : ∀ s₃ : Shared, (∀ b o, b ∉ [s₁.heap.objs.size] → (s₁.heap.push { cls := .type "list_iterator", data := .fields #[.ref l, .int 0 0] }).get? b = some o → s₃.heap.get? b = some o) → ∀ b o, s₁.heap.get? b = some o → s₃.heap.get? b = some o :=
    fun s₃ q b o e => q b o (by simp; exact Nat.ne_of_lt (Heap.lt_size e)) (Heap.get?_push_of_some _ e)
  exact {
    W := Walks.list hh _ l (Nat.ne_of_lt hls) vs.toArray
    live := fun i h st b hb => by simp at hb; subst hb; obtain ⟨⟨o, e, _⟩, _⟩ := st; exact ⟨o, e⟩
    size := by simpa using hz
    st := ⟨⟨_, Heap.get?_push_size _ rfl, rfl, rfl⟩, isList_keeps hl fun b o e => Heap.get?_push_of_some _ e⟩
    fp := fun b hb => by
      simp at hb
      show b < (Heap.push _ _).objs.size
      rw [Heap.size_push]
      rcases hb with rfl | rfl
      · exact Nat.lt_succ_self _
      · exact Nat.lt_succ_of_lt hls
    tests := fun C i v s₃ m₃ hC hv hn hm hk hg => k.tests C i v s₃ m₃ (by rw [Heap.size_push] at hC; omega) (by simpa using hv) hn hm (kp s₃ hk) ⟨hg.gens, hg.bare, hg.os⟩
    elt := fun C i v s₃ m₃ hC hv hpv hn hm hk hg => k.elt C i v s₃ m₃ (by rw [Heap.size_push] at hC; omega) (by simpa using hv) hpv hn hm (kp s₃ hk) ⟨hg.gens, hg.bare, hg.os⟩ }

theorem comp_list {s : Shared} {elt iter : Expr} {x : Str} {px : Pos} {ifs : List Expr} {scope : Scope} {cl : List (Str × Addr)} {pos : Pos} {Q : Value → Shared → Prop} (p : Value → Bool) (G : Value → Value → Prop) (O : Value → Obj → Prop)
    (hh : A.handled = none) (hclos : closureFor scope env = pure cl) (hcell : ∀ y ∈ scope.names, y.2 ≠ .cell) (hkind : scope.kind = .function)
    (hnames : ∀ y ∈ scope.names, y.2 = .local → scope.names.lookup y.1 = some .local) (hx : scope.names.lookup x = some .local)
    (h : wpAny (model P0 w) A (eval iter env) (fun xv s₁ => Here (∃ (l : Addr) (vs : List Value), xv = .ref l ∧ s₁.heap.IsList l vs.toArray ∧ vs.length ≤ sizeLine ∧ ListOk w A env scope cl x ifs elt p G O s₁ vs ∧
      (∀ D s' ys, s₁.heap.get? D = none → s'.heap.PlainList D ys.toArray → Paired (fun v y => ElN G O D v y s'.heap) (vs.filter p) ys → Ext s₁ s' → Q (.ref D) s'))) E s)
    (hs : ∀ x, foldedSetIterable iter env x = pure x := by intro _; rfl) :
    wpAny (model P0 w) A (eval (.ListComp elt [⟨.Name x px, iter, ifs, 0⟩] scope pos) env) Q E s := by
  refine comp_eval p G O hclos hcell hkind hnames hx (wpAny_mono h (fun xv s₁ h₁ => ?_) fun _ _ e => e) hs
  obtain ⟨l, vs, rfl, hl, hz, k, hQ⟩ := h₁
  refine wpAny_pyIter_list hl (Here.mk ⟨_, _, _, _, _, _, rfl, k.comp hh hl hz, fun D s' ys us hD hpl hlen hP hF hk hg => ?_⟩)
  have hD' : s₁.heap.get? D = none := by
    cases e : s₁.heap.get? D with
    | none => rfl
    | some o => rw [Heap.get?_push_of_some _ e] at hD; cases hD
  have e : us = vs := list_ext_of (by simpa using hlen) fun j v hj => by simpa using hP j v hj
  subst e
  exact hQ D s' ys.toList hD' (by simpa using hpl) hF ⟨fun b o e => hk b o (by simp; exact Nat.ne_of_lt (Heap.lt_size e)) (Heap.get?_push_of_some _ e), hg.gens, hg.bare, hg.os⟩
end
end
section
open PySem PySem.W PyProof.Rows PySem.Calls PySem.Spec
set_option maxRecDepth 100000
set_option maxHeartbeats 4000000

/-- an element y for a datum b -/
def ElB {β : Type} (G : β → Value → Prop) (O : β → Addr → Obj → Prop) (X : List Addr) (b : β) (y : Value) (h : Heap) : Prop := G b y ∨ ∃ r o, y = .ref r ∧ r ∉ X ∧ h.get? r = some o ∧ O b r o
theorem ElB.mono {β : Type} {G : β → Value → Prop} {O : β → Addr → Obj → Prop} {X : List Addr} {b : β} {y : Value} {h h' : Heap} (e : ElB G O X b y h) (k : ∀ b o, b ∉ X → h.get? b = some o → h'.get? b = some o) : ElB G O X b y h' :=
  e.imp id fun ⟨r, o, e1, e2, e3, e4⟩ => ⟨r, o, e1, e2, k _ _ e2 e3, e4⟩
def MadeB {β : Type} (G : β → Value → Prop) (O : β → Addr → Obj → Prop) (b : β) (y : Value) (h h' : Heap) : Prop := G b y ∨ ∃ r o, y = .ref r ∧ h.get? r = none ∧ h'.get? r = some o ∧ O b r o

theorem compTurn2_0 (elt t1 i1 t2 i2 : Expr) (scope : Scope) (pos : Pos) (it acc : Value) (env : Env) :
    compTurn (.ListComp elt [⟨t1, i1, [], 0⟩, ⟨t2, i2, [], 0⟩] scope pos) 0 it acc env = (standAt i1.pos >>= fun _ => pyNext it >>= fun r => match r with
      | none => pure (.done .next)
      | some v => letOwnedTupleGo t1 it v >>= fun _ => assign t1 env v >>= fun _ =>
        (eval i2 env >>= fun x => standAt i2.pos >>= fun _ => foldedSetIterable i2 env x >>= fun x => holding [x] (pyIter x) >>= fun it' =>
          runOwn (.compStart (.ListComp elt [⟨t1, i1, [], 0⟩, ⟨t2, i2, [], 0⟩] scope pos) 1 it' acc env) env >>= fun _ =>
          again (.compLoop (.ListComp elt [⟨t1, i1, [], 0⟩, ⟨t2, i2, [], 0⟩] scope pos) 0 it acc env))) := by rfl
theorem compTurn2_1 (elt t1 i1 t2 i2 : Expr) (scope : Scope) (pos : Pos) (it acc : Value) (env : Env) :
    compTurn (.ListComp elt [⟨t1, i1, [], 0⟩, ⟨t2, i2, [], 0⟩] scope pos) 1 it acc env = (standAt i2.pos >>= fun _ => pyNext it >>= fun r => match r with
      | none => pure (.done .next)
      | some v => letOwnedTupleGo t2 it v >>= fun _ => assign t2 env v >>= fun _ =>
        (eval elt env >>= fun x => call (.builtin "list.append") [acc, x] >>= fun _ => pure ()) >>= fun _ =>
          again (.compLoop (.ListComp elt [⟨t1, i1, [], 0⟩, ⟨t2, i2, [], 0⟩] scope pos) 1 it acc env)) := by rfl

/-- ahead of a turn of the inner loop -/
inductive InnerTurn {β : Type} (G : β → Value → Prop) (O : β → Addr → Obj → Prop) (X : List Addr) (pre bs : List β) (us ys : List Value) (x : Str) (m : Str → Option Value) (C D I l : Addr) (s : Shared) (k : Nat) (s' : Shared) : Prop
  | mk (j : Nat) (m' : Str → Option Value) (ys' : List Value) (hj : j ≤ us.length) (hk : k = us.length + 1 - j) (hit : s'.heap.IsListIter I l j) (hl : s'.heap.IsList l us.toArray) (hacc : s'.heap.PlainList D ys'.toArray) (hn : s'.heap.Ns C m') (hm : ∀ y, y ≠ x → m' y = m y)
      (hys : Paired (fun b y => ElB G O X b y s'.heap) (pre ++ bs.take j) ys') (hyl : ys'.length = ys.length + j) (hlv : ∀ b ∈ X, ∃ o, s'.heap.get? b = some o) (kp : ∀ b o, b ≠ C → b ≠ I → b ≠ D → s.heap.get? b = some o → s'.heap.get? b = some o) (hg : GExt s s') : InnerTurn G O X pre bs us ys x m C D I l s k s'
/-- ahead of a turn of the outer loop -/
inductive OuterTurn {β : Type} (G : β → Value → Prop) (O : β → Addr → Obj → Prop) (X cells : List Addr) (inner : Value → List β) (vs : List Value) (C D I l : Addr) (s : Shared) (k : Nat) (s' : Shared) : Prop
  | mk (i : Nat) (m' : Str → Option Value) (ys' : List Value) (hi : i ≤ vs.length) (hk : k = vs.length + 1 - i) (hit : s'.heap.IsListIter I l i) (hl : s'.heap.IsList l vs.toArray) (hacc : s'.heap.PlainList D ys'.toArray) (hn : s'.heap.Ns C m') (hcl : ∀ c ∈ cells, ∃ u, s'.heap.IsCell c u)
      (hys : Paired (fun b y => ElB G O X b y s'.heap) ((vs.take i).flatMap inner) ys') (hyl : ys'.length ≤ 100 * i) (kp : ∀ b o, b ∉ X → s.heap.get? b = some o → s'.heap.get? b = some o) (hg : GExt s s') : OuterTurn G O X cells inner vs C D I l s k s'
section
variable {w : World} {A : Around} {E : Value → Shared → Prop} {s : Shared} {R : Result → Shared → Prop}

theorem comp2_inner {β : Type} {elt t1 i1 i2 : Expr} {x : Str} {px : Pos} {scope : Scope} {pos : Pos} {C D I l : Addr} {us : List Value} {cenv : Env} {m : Str → Option Value} (G : β → Value → Prop) (O : β → Addr → Obj → Prop) {pre bs : List β} {ys : List Value} {X : List Addr}
    (hh : A.handled = none) (hC : cenv.locals = C) (hx : cenv.kindOf x = some .local) (hp : (cenv.scope.kind == .class || (cenv.scope.kind == .module && cenv.locals != cenv.globals)) = false)
    (hbs : bs.length = us.length) (hsz : ys.length + us.length ≤ sizeLine)
    (hCX : C ∈ X) (hDX : D ∈ X) (hIX : I ∈ X) (hDC : D ≠ C) (hIC : I ≠ C) (hID : I ≠ D) (hlX : l ∉ X)
    (hlive : ∀ b ∈ X, ∃ o, s.heap.get? b = some o)
    (hit : s.heap.IsListIter I l 0) (hl : s.heap.IsList l us.toArray) (hacc : s.heap.PlainList D ys.toArray) (hn : s.heap.Ns C m)
    (hys : Paired (fun b y => ElB G O X b y s.heap) pre ys)
    (helt : ∀ (j : Nat) u b s₂ m₂, us[j]? = some u → bs[j]? = some b → s₂.heap.Ns C m₂ → m₂ x = some u → (∀ y, y ≠ x → m₂ y = m y) → (∀ b o, b ≠ C → b ≠ I → b ≠ D → s.heap.get? b = some o → s₂.heap.get? b = some o) → GExt s s₂ →
      wpAny (model P0 w) A (eval elt cenv) (fun y s₃ => Here (MadeB G O b y s₂.heap s₃.heap ∧ Ext s₂ s₃)) (fun _ _ => False) s₂)
    (hR : ∀ s' m' ys', s'.heap.Ns C m' → (∀ y, y ≠ x → m' y = m y) → s'.heap.PlainList D ys'.toArray → Paired (fun b y => ElB G O X b y s'.heap) (pre ++ bs) ys' →
      (∀ b o, b ≠ C → b ≠ I → b ≠ D → s.heap.get? b = some o → s'.heap.get? b = some o) → GExt s s' → R (.ok .next) s') :
    codeAny (model P0 w) A (.compLoop (.ListComp elt [⟨t1, i1, [], 0⟩, ⟨.Name x px, i2, [], 0⟩] scope pos) 1 (.ref I) (.ref D) cenv) R s := by
  subst hC
  have hlC : l ≠ cenv.locals := fun q => hlX (q ▸ hCX)
  have hlD : l ≠ D := fun q => hlX (q ▸ hDX)
  have hlI : l ≠ I := fun q => hlX (q ▸ hIX)
  refine codeAny_loop rfl (InnerTurn G O X pre bs us ys x m cenv.locals D I l s) ?_ (us.length + 1)
    ⟨0, m, ys, Nat.zero_le _, rfl, hit, hl, hacc, hn, fun _ _ => rfl, by simpa using hys, rfl, hlive, fun _ _ _ _ _ e => e, GExt.refl s⟩
  rintro k s' ⟨j, m', ys', hj, rfl, hit', hl', hacc', hn', hm', hys', hyl, hlv, hk, hg⟩
  show wpAny _ _ ((compTurn (.ListComp elt [⟨t1, i1, [], 0⟩, ⟨.Name x px, i2, [], 0⟩] scope pos) 1 (.ref I) (.ref D) cenv).onRaise (fun x => do noteFrame x cenv; theTreesLotGoes x)) _ _ s'
  refine wpAny_noted ?_
  rw [compTurn2_1]
  refine wpAny_bind (wpAny_standAt (wpAny_bind ?_))
  cases hu : us[j]? with
  | none =>
    refine wpAny_pyNext_list_end hh hit' hl' (by simpa using hu) fun h' he => wpAny_pure ?_
    have hj' : j = us.length := Nat.le_antisymm hj (List.getElem?_eq_none_iff.mp hu)
    subst hj'
    rw [← hbs, List.take_length] at hys'
    exact hR _ m' ys' (hn'.at' fun o e => he _ o (Ne.symm hIC) e) hm' (hacc'.at fun o e => he _ o (Ne.symm hID) e) (paired_mono (fun b y (e : ElB G O X b y s'.heap) => e.mono fun a o ha e => he a o (fun q => ha (q ▸ hIX)) e) hys')
      (fun b o h1 h2 h3 e => he b o h2 (hk b o h1 h2 h3 e)) ⟨hg.gens, hg.bare, hg.os⟩
  | some u =>
    have hlt : j < us.length := (List.getElem?_eq_some_iff.mp hu).1
    obtain ⟨b, hb⟩ : ∃ b, bs[j]? = some b := ⟨_, List.getElem?_eq_getElem (by omega)⟩
    refine wpAny_pyNext_list_item hit' hl' (by simpa using hu) fun h₁ hit₁ hs₁ => ?_
    refine wpAny_bind (wpAny_of_eq (show letOwnedTupleGo (.Name x px) (.ref I) u = pure () from rfl) ?_)
    refine wpAny_bind (wpAny_assign_Name (wpAny_storeName_local hx (hn'.sameBut hs₁ (Ne.symm hIC)) (fun h₂ hn₂ hs₂ => ?_) hp))
    have up₂ : ∀ a o, a ≠ cenv.locals → a ≠ I → s'.heap.get? a = some o → h₂.get? a = some o := fun a o h1 h2 e => hs₂.extBut a o h1 (hs₁.extBut a o h2 e)
    have lv₂ : ∀ b ∈ X, ∃ o, h₂.get? b = some o := fun b hb => by
      obtain ⟨o, e⟩ := hlv b hb
      by_cases h1 : b = cenv.locals
      · subst h1; obtain ⟨o, _, _, e, _⟩ := hn₂; exact ⟨o, e⟩
      · by_cases h2 : b = I
        · subst h2; obtain ⟨o, e, _⟩ := hit₁; exact ⟨o, hs₂.extBut _ o h1 e⟩
        · exact ⟨o, up₂ b o h1 h2 e⟩
    refine wpAny_bind (wpAny_bind (wpAny_mono (helt j u b _ _ hu hb hn₂ (by simp) (fun y hy => by simp [hy]; exact hm' y hy) (fun a o h1 h2 h3 e => up₂ a o h1 h2 (hk a o h1 h2 h3 e)) ⟨hg.gens, hg.bare, hg.os⟩) (fun y s₃ h₃ => ?_) fun _ _ e => e.elim))
    obtain ⟨hMy, x₃⟩ := h₃
    have hacc₃ : s₃.heap.PlainList D ys'.toArray := hacc'.at fun o e => x₃.keep _ o (up₂ D o hDC (Ne.symm hID) e)
    refine wpAny_bind (wpAny_list_append_plain (hsz := by simp; omega) hacc₃ fun h₅ hl₅ hs₅ => ?_)
    have upX : ∀ a o, a ∉ X → s'.heap.get? a = some o → h₅.get? a = some o := fun a o ha e => hs₅.extBut a o (fun q => ha (q ▸ hDX)) (x₃.keep a o (up₂ a o (fun q => ha (q ▸ hCX)) (fun q => ha (q ▸ hIX)) e))
    have hEl : ElB G O X b y h₅ := by
      rcases hMy with hG | ⟨r, o, rfl, hr, ho, hO⟩
      · exact .inl hG
      · have hrX : r ∉ X := by
          intro hm
          obtain ⟨o', e⟩ := lv₂ r hm
          have hr' : h₂.get? r = none := hr
          rw [hr'] at e; cases e
        exact .inr ⟨r, o, rfl, hrX, hs₅.extBut r o (fun q => hrX (q ▸ hDX)) ho, hO⟩
    refine wpAny_pure (wpAny_pure ⟨rfl, _, ?_, j + 1, _, ys' ++ [y], hlt, rfl, ?_, ?_, by simpa using hl₅, (hn₂.keeps x₃.keep).sameBut hs₅ (Ne.symm hDC), fun y hy => by simp [hy]; exact hm' y hy, ?_, by simp [hyl]; omega, ?_, ?_, ?_⟩)
    · omega
    · obtain ⟨o, e, r⟩ := hit₁
      exact ⟨o, hs₅.extBut I o hID (x₃.keep _ o (hs₂.extBut I o hIC e)), r⟩
    · exact isList_keeps' hl' fun o e => upX l o hlX e
    · rw [List.take_add_one, hb]
      have := Paired.snoc (paired_mono (fun b y (e : ElB G O X b y s'.heap) => e.mono upX) hys') hEl
      simpa using this
    · intro b hb
      obtain ⟨o, e⟩ := lv₂ b hb
      by_cases h1 : b = D
      · subst h1; obtain ⟨n, e⟩ := hl₅; exact ⟨_, e⟩
      · exact ⟨o, hs₅.extBut b o h1 (x₃.keep b o e)⟩
    · exact fun a o h1 h2 h3 e => hs₅.extBut a o h3 (x₃.keep a o (up₂ a o h1 h2 (hk a o h1 h2 h3 e)))
    · have := x₃.g
      exact ⟨fun i x e => this.gens i x (hg.gens i x e), fun h => this.bare (hg.bare h), this.os.trans hg.os⟩

theorem ElB.sub {β : Type} {G : β → Value → Prop} {O : β → Addr → Obj → Prop} {X X' : List Addr} {b : β} {y : Value} {h : Heap} (e : ElB G O X b y h) (k : ∀ a ∈ X', a ∈ X) : ElB G O X' b y h :=
  e.imp id fun ⟨r, o, e1, e2, e3, e4⟩ => ⟨r, o, e1, fun q => e2 (k _ q), e3, e4⟩
theorem ElB.more {β : Type} {G : β → Value → Prop} {O : β → Addr → Obj → Prop} {X : List Addr} {a : Addr} {b : β} {y : Value} {h : Heap} (e : ElB G O X b y h) (k : h.get? a = none) : ElB G O (a :: X) b y h :=
  e.imp id fun ⟨r, o, e1, e2, e3, e4⟩ => ⟨r, o, e1, fun q => by
    rcases List.mem_cons.mp q with rfl | q
    · rw [k] at e3; cases e3
    · exact e2 q, e3, e4⟩

/-- what the second clause's source and the element must tell, for an outer item v with the data bs -/
def InnerOk (β : Type) (w : World) (A : Around) (cenv : Env) (C D : Addr) (X : List Addr) (x : Str) (i2 elt : Expr) (G : β → Value → Prop) (O : β → Addr → Obj → Prop) (bs : List β) (m₂ : Str → Option Value) (s₂ : Shared) : Prop :=
  wpAny (model P0 w) A (eval i2 cenv) (fun xv s₃ => Here (∃ (l : Addr) (us : List Value), xv = .ref l ∧ s₃.heap.IsList l us.toArray ∧ l ∉ X ∧ us.length = bs.length ∧ us.length ≤ 100 ∧ Ext s₂ s₃ ∧
    ∀ (j : Nat) u b s₄ m₄, us[j]? = some u → bs[j]? = some b → s₄.heap.Ns C m₄ → m₄ x = some u → (∀ y, y ≠ x → m₄ y = m₂ y) → (∀ a o, a ≠ C → a ≠ D → s₃.heap.get? a = some o → s₄.heap.get? a = some o) → GExt s₃ s₄ →
      wpAny (model P0 w) A (eval elt cenv) (fun y s₅ => Here (MadeB G O b y s₄.heap s₅.heap ∧ Ext s₄ s₅)) (fun _ _ => False) s₄)) (fun _ _ => False) s₂

theorem comp2_outer {β : Type} {elt t1 i1 i2 : Expr} {x : Str} {px : Pos} {scope : Scope} {pos : Pos} {C D I l : Addr} {cells : List Addr} {vs : List Value} {cenv : Env} (G : β → Value → Prop) (O : β → Addr → Obj → Prop) (inner : Value → List β) (B : Value → Heap → (Str → Option Value) → Prop) {X : List Addr}
    (hh : A.handled = none) (hC : cenv.locals = C) (hx : cenv.kindOf x = some .local) (hp : (cenv.scope.kind == .class || (cenv.scope.kind == .module && cenv.locals != cenv.globals)) = false)
    (hX : X = C :: D :: I :: cells) (hDC : D ≠ C) (hIC : I ≠ C) (hID : I ≠ D) (hDc : D ∉ cells) (hIc : I ∉ cells) (hCc : C ∉ cells) (hlX : l ∉ X) (hz : vs.length ≤ 100)
    (hown : ∀ v, letOwnedTupleGo t1 (.ref I) v = pure ())
    (hasgn : ∀ v s (Q : Unit → Shared → Prop) E m, s.heap.Ns C m → (∀ c ∈ cells, ∃ u, s.heap.IsCell c u) →
      (∀ h' tk m', h'.Ns C m' → (∀ c ∈ cells, ∃ u, h'.IsCell c u) → B v h' m' → (∀ b o, b ≠ C → b ∉ cells → s.heap.get? b = some o → h'.get? b = some o) → Q () { s with heap := h', toks := tk }) →
      wpAny (model P0 w) A (assign t1 cenv v) Q E s)
    (hit : s.heap.IsListIter I l 0) (hl : s.heap.IsList l vs.toArray) (hacc : s.heap.PlainList D #[]) (hn : ∃ m, s.heap.Ns C m) (hcl : ∀ c ∈ cells, ∃ u, s.heap.IsCell c u)
    (hin : ∀ (i : Nat) v s₂ m₂, vs[i]? = some v → s₂.heap.Ns C m₂ → B v s₂.heap m₂ → (∀ b ∈ X, ∃ o, s₂.heap.get? b = some o) → (∀ b o, b ∉ X → s.heap.get? b = some o → s₂.heap.get? b = some o) → GExt s s₂ →
      (inner v).length ≤ 100 ∧ InnerOk β w A cenv C D X x i2 elt G O (inner v) m₂ s₂)
    (hR : ∀ s' m' ys', s'.heap.Ns C m' → s'.heap.PlainList D ys'.toArray → Paired (fun b y => ElB G O X b y s'.heap) (vs.flatMap inner) ys' →
      (∀ b o, b ∉ X → s.heap.get? b = some o → s'.heap.get? b = some o) → GExt s s' → R (.ok .next) s')
    (hs : ∀ x, foldedSetIterable i2 cenv x = pure x := by intro _; rfl) :
    codeAny (model P0 w) A (.compLoop (.ListComp elt [⟨t1, i1, [], 0⟩, ⟨.Name x px, i2, [], 0⟩] scope pos) 0 (.ref I) (.ref D) cenv) R s := by
  have hCX : C ∈ X := by rw [hX]; simp
  have hDX : D ∈ X := by rw [hX]; simp
  have hIX : I ∈ X := by rw [hX]; simp
  have hcX : ∀ c ∈ cells, c ∈ X := fun c hc => by rw [hX]; simp [hc]
  refine codeAny_loop rfl (OuterTurn G O X cells inner vs C D I l s) ?_ (vs.length + 1)
    ⟨0, hn.choose, [], Nat.zero_le _, rfl, hit, hl, hacc, hn.choose_spec, hcl, by simpa using Paired.nil, by simp, fun _ _ _ e => e, GExt.refl s⟩
  rintro k s' ⟨i, m', ys', hi, rfl, hit', hl', hacc', hn', hcl', hys', hyl, hk, hg⟩
  show wpAny _ _ ((compTurn (.ListComp elt [⟨t1, i1, [], 0⟩, ⟨.Name x px, i2, [], 0⟩] scope pos) 0 (.ref I) (.ref D) cenv).onRaise (fun x => do noteFrame x cenv; theTreesLotGoes x)) _ _ s'
  refine wpAny_noted ?_
  rw [compTurn2_0]
  refine wpAny_bind (wpAny_standAt (wpAny_bind ?_))
  cases hv : vs[i]? with
  | none =>
    refine wpAny_pyNext_list_end hh hit' hl' (by simpa using hv) fun h' he => wpAny_pure ?_
    have hi' : i = vs.length := Nat.le_antisymm hi (List.getElem?_eq_none_iff.mp hv)
    subst hi'
    rw [List.take_length] at hys'
    exact hR _ m' ys' (hn'.at' fun o e => he _ o (Ne.symm hIC) e) (hacc'.at fun o e => he _ o (Ne.symm hID) e) (paired_mono (fun b y (e : ElB G O X b y s'.heap) => e.mono fun a o ha e => he a o (fun q => ha (q ▸ hIX)) e) hys')
      (fun b o h1 e => he b o (fun q => h1 (q ▸ hIX)) (hk b o h1 e)) ⟨hg.gens, hg.bare, hg.os⟩
  | some v =>
    have hlt : i < vs.length := (List.getElem?_eq_some_iff.mp hv).1
    refine wpAny_pyNext_list_item hit' hl' (by simpa using hv) fun h₁ hit₁ hs₁ => ?_
    refine wpAny_bind (wpAny_of_eq (hown v) ?_)
    have cell₁ : ∀ c ∈ cells, ∃ u, h₁.IsCell c u := fun c hc => let ⟨u, e⟩ := hcl' c hc; ⟨u, e.sameBut hs₁ (fun q => hIc (q ▸ hc))⟩
    refine wpAny_bind (hasgn v _ _ _ m' (hn'.sameBut hs₁ (Ne.symm hIC)) cell₁ fun h₂ tk₂ m₂ hn₂ hcl₂ hB₂ hk₂ => ?_)
    have up₂ : ∀ a o, a ∉ X → s'.heap.get? a = some o → h₂.get? a = some o := fun a o ha e => hk₂ a o (fun q => ha (q ▸ hCX)) (fun q => ha (hcX a q)) (hs₁.extBut a o (fun q => ha (q ▸ hIX)) e)
    have hit₂ : h₂.IsListIter I l (i + 1) := let ⟨o, e, r⟩ := hit₁; ⟨o, hk₂ I o hIC hIc e, r⟩
    have hacc₂ : h₂.PlainList D ys'.toArray := hacc'.at fun o e => hk₂ D o hDC hDc (hs₁.extBut D o (Ne.symm hID) e)
    have lv₂ : ∀ b ∈ X, ∃ o, h₂.get? b = some o := fun b hb => by
      rw [hX] at hb
      simp only [List.mem_cons] at hb
      rcases hb with rfl | rfl | rfl | hb
      · obtain ⟨o, _, _, e, _⟩ := hn₂; exact ⟨o, e⟩
      · obtain ⟨n, e⟩ := hacc₂; exact ⟨_, e⟩
      · obtain ⟨o, e, _⟩ := hit₂; exact ⟨o, e⟩
      · obtain ⟨u, o, e, _⟩ := hcl₂ b hb; exact ⟨o, e⟩
    obtain ⟨hil, hin'⟩ := hin i v { s' with heap := h₂, toks := tk₂ } m₂ hv hn₂ hB₂ lv₂ (fun b o hb e => up₂ b o hb (hk b o hb e)) ⟨hg.gens, hg.bare, hg.os⟩
    refine wpAny_bind (wpAny_mono hin' (fun xv s₃ h₃ => ?_) fun _ _ e => e.elim)
    obtain ⟨l₂, us, rfl, hl₂, hlX₂, hul, hu100, x₃, helt⟩ := h₃
    refine wpAny_bind (wpAny_standAt (wpAny_bind (wpAny_of_eq (hs _) (wpAny_bind (wpAny_holding (wpAny_pyIter_list hl₂ ?_))))))
    have fresh : s₃.heap.get? s₃.heap.objs.size = none := get_none_of_ge (Nat.le_refl _)
    have lv₃ : ∀ b ∈ X, ∃ o, s₃.heap.get? b = some o := fun b hb => let ⟨o, e⟩ := lv₂ b hb; ⟨o, x₃.keep b o e⟩
    have I2X : s₃.heap.objs.size ∉ X := fun q => by obtain ⟨o, e⟩ := lv₃ _ q; rw [fresh] at e; cases e
    have ne2 : ∀ a ∈ X, s₃.heap.objs.size ≠ a := fun a ha q => I2X (q ▸ ha)
    generalize hH : s₃.heap.push { cls := .type "list_iterator", data := .fields #[.ref l₂, .int 0 0] } = H
    have kH : ∀ b o, s₃.heap.get? b = some o → H.get? b = some o := fun b o e => by rw [← hH]; exact Heap.get?_push_of_some _ e
    have itH : H.IsListIter s₃.heap.objs.size l₂ 0 := by rw [← hH]; exact ⟨_, Heap.get?_push_size _ rfl, rfl, rfl⟩
    have hys₃ : Paired (fun b y => ElB G O (s₃.heap.objs.size :: X) b y H) ((vs.take i).flatMap inner) ys' :=
      paired_mono (fun b y (e : ElB G O X b y s'.heap) => ((e.mono (h' := s₃.heap) fun a o ha e => x₃.keep a o (up₂ a o ha e)).more fresh).mono fun a o _ e => kH a o e) hys'
    refine wpAny_bind (wpAny_runOwn ?_)
    have loop : ∀ s₄ : Shared, s₄ = { s₃ with heap := H } → codeAny (model P0 w) A (.compLoop (.ListComp elt [⟨t1, i1, [], 0⟩, ⟨.Name x px, i2, [], 0⟩] scope pos) 1 (.ref s₃.heap.objs.size) (.ref D) cenv)
        (fun r s₅ => match r with
          | .ok f => wpAny (model P0 w) A (again (.compLoop (.ListComp elt [⟨t1, i1, [], 0⟩, ⟨.Name x px, i2, [], 0⟩] scope pos) 0 (.ref I) (.ref D) cenv)) (fun fin s' => match fin with
            | .done f => R (.ok f) s'
            | .again c' => c' = .compLoop (.ListComp elt [⟨t1, i1, [], 0⟩, ⟨.Name x px, i2, [], 0⟩] scope pos) 0 (.ref I) (.ref D) cenv ∧ ∃ m_1, m_1 < vs.length + 1 - i ∧ OuterTurn G O X cells inner vs C D I l s m_1 s')
            (notedBy (model P0 w) A cenv fun e s' => R (.error e) s') s₅
          | .error e => cameBackBy (model P0 w) A cenv (notedBy (model P0 w) A cenv fun e s' => R (.error e) s') e s₅) s₄ := by
      rintro s₄ rfl
      refine comp2_inner (X := s₃.heap.objs.size :: X) (bs := inner v) G O hh hC hx hp hul.symm (by
          have h1 : i ≤ 100 := by omega
          have h2 : ys'.length ≤ 10000 := Nat.le_trans hyl (by omega)
          have : (10100 : Nat) ≤ sizeLine := by decide
          omega)
        (by simp [hCX]) (by simp [hDX]) (by simp) hDC (ne2 C hCX) (ne2 D hDX) (fun q => by
          rcases List.mem_cons.mp q with q | q
          · obtain ⟨o, e, _⟩ := hl₂; exact absurd (Heap.lt_size e) (by rw [q]; exact Nat.lt_irrefl _)
          · exact hlX₂ q)
        (fun b hb => by
          rcases List.mem_cons.mp hb with rfl | hb
          · obtain ⟨o, e, _⟩ := itH; exact ⟨o, e⟩
          · obtain ⟨o, e⟩ := lv₃ b hb; exact ⟨o, kH b o e⟩)
        itH (isList_keeps hl₂ kH) (hacc₂.at fun o e => kH D o (x₃.keep D o e)) ((hn₂.keeps x₃.keep).keeps kH) hys₃
        (fun j u b s₄ m₄ hu hb hn₄ hm₄ hmm hk₄ hg₄ => helt j u b s₄ m₄ hu hb hn₄ hm₄ hmm (fun a o h1 h2 e => hk₄ a o h1 (fun q => by subst q; rw [fresh] at e; cases e) h2 (kH a o e)) ⟨hg₄.gens, hg₄.bare, hg₄.os⟩)
        fun s₅ m₅ ys₅ hn₅ hmm₅ hacc₅ hys₅ hk₅ hg₅ => ?_
      have k₅ : ∀ a o, a ≠ C → a ≠ D → s₃.heap.get? a = some o → s₅.heap.get? a = some o := fun a o h1 h2 e => hk₅ a o h1 (fun q => by subst q; rw [fresh] at e; cases e) h2 (kH a o e)
      have hlen := hys₅.length
      refine wpAny_pure ⟨rfl, _, ?_, i + 1, m₅, ys₅, hlt, rfl, ?_, ?_, hacc₅, hn₅, ?_, ?_, ?_, ?_, ?_⟩
      · omega
      · obtain ⟨o, e, r⟩ := hit₂; exact ⟨o, k₅ I o hIC hID (x₃.keep I o e), r⟩
      · exact isList_keeps' hl' fun o e => k₅ l o (fun q => hlX (q ▸ hCX)) (fun q => hlX (q ▸ hDX)) (x₃.keep l o (up₂ l o hlX e))
      · intro c hc
        obtain ⟨u, o, e, r⟩ := hcl₂ c hc
        exact ⟨u, o, k₅ c o (fun q => hCc (q ▸ hc)) (fun q => hDc (q ▸ hc)) (x₃.keep c o e), r⟩
      · rw [List.take_add_one, hv, List.flatMap_append]
        simpa using paired_mono (fun b y (e : ElB G O (s₃.heap.objs.size :: X) b y s₅.heap) => e.sub fun a ha => by simp [ha]) hys₅
      · rw [List.length_append] at hlen
        have h1 := hys'.length
        rw [h1] at hlen
        omega
      · exact fun b o hb e => k₅ b o (fun q => hb (q ▸ hCX)) (fun q => hb (q ▸ hDX)) (x₃.keep b o (up₂ b o hb (hk b o hb e)))
      · exact ⟨fun i x e => hg₅.gens i x (x₃.gens i x (hg.gens i x e)), fun h => hg₅.bare (x₃.bare (hg.bare h)), hg₅.os.trans (x₃.os.trans hg.os)⟩
    refine codeAny_of_tree ?_
    show wpAny _ _ ((compStart (.ListComp elt [⟨t1, i1, [], 0⟩, ⟨.Name x px, i2, [], 0⟩] scope pos) 1 (.ref s₃.heap.objs.size) (.ref D) cenv).onRaise (fun x => do noteFrame x cenv; standAt theWindowsPlace)) _ _ _
    refine wpAny_notedAt ?_
    unfold compStart
    show wpAny _ _ (ask >>= _) _ _ _
    refine wpAny_bind (wpAny_askSetting (wpAny_ite ?_))
    split
    · exact wpAny_pure (And.intro rfl (loop _ rfl))
    · refine wpAny_bind (wpAny_rule ?_)
      show wpAny _ _ (standAt i2.pos >>= _) _ _ _
      exact wpAny_bind (wpAny_standAt (wpAny_bind (wpAny_pyIter_listiter itH (wpAny_pure (And.intro rfl (loop _ rfl))))))
end
end
section
open PySem PySem.W PyProof.Rows PySem.Calls PySem.Spec
set_option maxRecDepth 100000
set_option maxHeartbeats 4000000
section
variable {prog : Program} {w : World} {A : Around} {E : Value → Shared → Prop} {s : Shared} {mg mb : Str → Option Value}

theorem item_at {value slice : PySem.Expr} {l : Addr} {vs : List Value} {k : Int} {u : Tok} {v : Value} {Q : Value → Shared → Prop}
    (hl : s.heap.IsList l vs.toArray) (h0 : 0 ≤ k) (hhi : k < 2 ^ 63) (hx : vs[k.toNat]? = some v) (h : Q v s)
    (hs : subscripted slice false (.ref l) (.int k u) = operate [.ref l, .int k u] (getItem (.ref l) (.int k u)) := by with_unfolding_all rfl) :
    wpAny (model prog w) A (subscriptTail value slice (.ref l) (.int k u)) Q E s :=
  tail_any hl.typeIs slot_list_getitem.lookup (wpAny_getItem_list hl h0 hhi (by simpa using hx) h) hs
end
local macro_rules | `(tactic| walk_at "subscriptTail") => `(tactic| first
  | refine item_at (by assumption) (by assumption) (by assumption) (by assumption) ?_
  | refine item_tupleT (l := [_, _]) (by assumption) (by decide) (by decide) rfl rfl ?_)

/-- a list of pairs of ints -/
def FormsAt (h : Heap) (vs : List Value) (fs : List (Int × Int)) : Prop := Paired (fun v p => ∃ r t1 t2, v = Value.ref r ∧ IsTup h r #[.int p.1 t1, .int p.2 t2]) vs fs
theorem FormsAt.keeps {h h' : Heap} {vs : List Value} {fs : List (Int × Int)} (x : FormsAt h vs fs) (k : ∀ b o, h.get? b = some o → h'.get? b = some o) : FormsAt h' vs fs :=
  paired_mono (fun _ _ ⟨r, t1, t2, e, g⟩ => ⟨r, t1, t2, e, g.keeps k⟩) x

/-- the depth after some pieces, none where one closes too many -/
def closedStep (fs : List (Int × Int)) (d : Option Int) (k : Int) : Option Int :=
  d.bind fun d => match fs[k.toNat]? with
    | some p => if p.1 > d then none else some (d - p.1 + p.2)
    | none => none
def closedOf (fs : List (Int × Int)) (ks : List Int) : Bool := ks.foldl (closedStep fs) (some 0) == some 0
theorem closedStep_none (fs : List (Int × Int)) : ∀ ks : List Int, ks.foldl (closedStep fs) none = none
  | [] => rfl
  | _ :: ks => closedStep_none fs ks

theorem closed_false {fs : List (Int × Int)} {ks : List Int} {i : Nat} (h : (ks.take i).foldl (closedStep fs) (some 0) = none) : closedOf fs ks = false := by
  unfold closedOf
  rw [← List.take_append_drop i ks, List.foldl_append, h, closedStep_none]
  rfl
/-- what the loop of _law_closed keeps -/
inductive ClosedK (f : Addr) (fs : List (Int × Int)) (ks : List Int) (i : Nat) (m : Str → Option Value) : Prop
  | mk (d : Int) (t1 : Tok) (h1 : m (Str.ofString "forms") = some (.ref f)) (h2 : m (Str.ofString "depth") = some (.int d t1)) (h3 : (ks.take i).foldl (closedStep fs) (some 0) = some d) : ClosedK f fs ks i m
section
variable {w : World} {E : Value → Shared → Prop} {s : Shared} {mg mb : Str → Option Value}
theorem closed_spec {f o : Addr} {vf vo : List Value} {fs : List (Int × Int)} {ks : List Int} {Q : Value → Shared → Prop} (T : TopF mg mb s.heap)
    (hf : s.heap.IsList f vf.toArray) (hF : FormsAt s.heap vf fs) (ho : s.heap.IsList o vo.toArray) (hO : Paired IsIntV vo ks) (hk : ∀ k ∈ ks, 0 ≤ k ∧ k < fs.length) (hfl : fs.length < 100)
    (hQ : ∀ s', Ext s s' → Q (.bool (closedOf fs ks)) s') :
    wpAny (model P0 w) (AL 500) (call (.ref 108) [.ref f, .ref o]) Q E s := by
  refine call_fn (T.fn "_law_closed" 108 18) T (binds := [("forms", .ref f), ("order", .ref o)]) (fun _ _ _ => rfl) (by simp; decide) fun cd h₁ F => ?_
  have N : News s.heap s.heap.objs.size h₁ [] := News.nil
  refine wpAny_execs_cons ?_
  repeat' walk1
  rename_i h' F' N'
  refine for_list (ClosedK f fs ks)
    rfl rfl rfl F' ho ⟨_, _, rfl, rfl, rfl⟩ (fun Q' h => ?_) (fun i v s' m' it o hv F N hK hg => ?_) (fun s' m' F hK hg => ?_)
  · walk1
    exact h
  · obtain ⟨d, t1, h1, h2, h3⟩ := hK
    obtain ⟨k, hk', tk, rfl⟩ := paired_get hO hv
    obtain ⟨k0, kl⟩ := hk k (List.mem_of_getElem? hk')
    have kl' : k < 2 ^ 63 := by omega
    obtain ⟨p, hp⟩ : ∃ p, fs[k.toNat]? = some p := ⟨_, List.getElem?_eq_getElem (by omega)⟩
    obtain ⟨v, hv', r, u1, u2, rfl, hr⟩ := paired_get' (hF.keeps F.keep) hp
    have hl := isList_keeps hf F.keep
    have e : (ks.take (i + 1)).foldl (closedStep fs) (some 0) = closedStep fs (some d) k := by rw [← h3]; exact foldl_take_succ _ _ _ _ _ hk'
    repeat' walk1
    · rename_i hc
      refine Here.mk ?_
      have : closedStep fs (some d) k = none := by simp only [closedStep, Option.bind_some, hp]; rw [if_pos hc]
      rw [closed_false (e.trans this)] at hQ
      exact hQ _ (GExt.ext ⟨hg.gens, hg.bare, hg.os⟩ F.keep)
    · rename_i hc _ _ _
      refine Here.mk ⟨_, by assumption, news_some (by assumption) (by simp), ⟨_, _, by walk_at "m_look", by walk_at "m_look", ?_⟩, ⟨hg.gens, hg.bare, hg.os⟩⟩
      rw [e]
      simp only [closedStep, Option.bind_some, hp]
      rw [if_neg hc]
  · obtain ⟨d, t1, h1, h2, h3⟩ := hK
    rw [hO.length, List.take_length] at h3
    have N : News s.heap s.heap.objs.size s'.heap [] := News.nil
    walk_at "go"
    have e : closedOf fs ks = (d == 0) := by unfold closedOf; rw [h3]; rfl
    rw [e] at hQ
    exact hQ _ (GExt.ext ⟨hg.gens, hg.bare, hg.os⟩ F.keep)
end
end
section
open PySem PySem.W PyProof.Rows PySem.Calls PySem.Spec
set_option maxRecDepth 100000
set_option maxHeartbeats 4000000

theorem filterMap_congr' {α β : Type} {f g : α → Option β} : ∀ {l : List α}, (∀ x ∈ l, f x = g x) → l.filterMap f = l.filterMap g
  | [], _ => rfl
  | a :: l, h => by rw [List.filterMap_cons, List.filterMap_cons, h a (.head _), filterMap_congr' fun x hx => h x (.tail _ hx)]
theorem filterMap_range_get {α : Type} (l : List α) : (List.range l.length).filterMap (fun k => l[k]?) = l := by
  have key : ∀ n, n ≤ l.length → (List.range n).filterMap (fun k => l[k]?) = l.take n := by
    intro n
    induction n with
    | zero => intro _; rfl
    | succ n ih =>
      intro h
      rw [List.range_succ, List.filterMap_append, ih (by omega), List.take_add_one]
      simp [List.getElem?_eq_getElem (show n < l.length by omega)]
  have := key l.length (Nat.le_refl _)
  rwa [List.take_length] at this
theorem slice_rev (items : List Value) : slicePick items.toArray none none (some (-1)) = items.reverse.toArray := by
  unfold slicePick
  congr 1
  have e : sliceRange (sliceBounds none none (some (-1)) items.toArray.size).1 (sliceBounds none none (some (-1)) items.toArray.size).2.1 (sliceBounds none none (some (-1)) items.toArray.size).2.2 = (List.range items.length).map fun k => items.length - 1 - k := by
    have e0 : sliceBounds none none (some (-1)) items.toArray.size = ((items.length : Int) - 1, -1, -1) := by simp [sliceBounds]
    rw [e0]
    unfold sliceRange
    dsimp only
    have ec : (if (-1 : Int) > 0 then (if (items.length : Int) - 1 < -1 then ((-1 : Int) - ((items.length : Int) - 1) + -1 - 1) / -1 else 0) else (if (items.length : Int) - 1 > -1 then ((items.length : Int) - 1 - -1 - -1 - 1) / (- -1) else 0)).toNat = items.length := by
      rw [if_neg (by omega)]
      split
      · have : ((items.length : Int) - 1 - -1 - -1 - 1) / (- -1) = items.length := by
          show ((items.length : Int) - 1 - -1 - -1 - 1) / 1 = items.length
          rw [Int.ediv_one]; omega
        rw [this]; omega
      · omega
    rw [ec]
    refine List.map_congr_left fun k hk => ?_
    have := List.mem_range.mp hk
    omega
  rw [e, List.filterMap_map]
  have : (List.range items.length).filterMap ((fun x => items.toArray[x]?) ∘ fun k => items.length - 1 - k) = (List.range items.reverse.length).filterMap (fun k => items.reverse[k]?) := by
    rw [List.length_reverse]
    refine filterMap_congr' fun k hk => ?_
    have hk := List.mem_range.mp hk
    show items.toArray[items.length - 1 - k]? = _
    rw [List.getElem?_reverse hk]
    simp
  rw [this, filterMap_range_get]

section
variable {w : World} {A : Around} {E : Value → Shared → Prop} {s : Shared} {env : Env}
/-- a cut with a step out of a list -/
theorem sub_step {value st : Expr} {lower upper : Option Expr} {p pos : Pos} {Q : Value → Shared → Prop}
    (h : wpAny (model P0 w) A (eval value env) (fun o s₁ => wpAny (model P0 w) A (evalPart lower env) (fun vl s₂ => wpAny (model P0 w) A (evalPart upper env) (fun vu s₃ => wpAny (model P0 w) A (evalPart (some st) env) (fun vs s₄ =>
      Here (∃ l items lo hi sp, o = .ref l ∧ s₄.heap.IsList l items ∧ items.size ≤ sizeLine ∧ IsPart vl lo ∧ IsPart vu hi ∧ IsPart vs (some sp) ∧ sp ≠ 0 ∧
        ∀ h' r, (∀ b o, s₄.heap.get? b = some o → h'.get? b = some o) → s₄.heap.get? r = none → h'.PlainList r (slicePick items lo hi (some sp)) → Q (.ref r) { s₄ with heap := h' })) E s₃) E s₂) E s₁) E s)
    (ht : ∀ o r, letTemporaryGo value o r = pure () := by intro _ _; rfl) :
    wpAny (model P0 w) A (eval (.Subscript value (.Slice lower upper (some st) p) pos) env) Q E s := by
  refine wpAny_Subscript_Slice_step (T := "list") slot_list_getitem.lookup (wpAny_mono h (fun o s₁ h₁ => wpAny_Slice (wpAny_mono h₁ (fun vl s₂ h₂ => wpAny_mono h₂ (fun vu s₃ h₃ => wpAny_mono h₃ (fun vs s₄ h₄ => ?_)
    fun _ _ e => e) fun _ _ e => e) fun _ _ e => e)) fun _ _ e => e) ht
  obtain ⟨l, items, lo, hi, sp, rfl, hl, hsz, pl, pu, ps, h0, hQ⟩ := h₄
  have k1 : ∀ b o, s₄.heap.get? b = some o → (s₄.heap.push { cls := .type "slice", data := .fields #[vl, vu, vs] }).get? b = some o := fun b o e => Heap.get?_push_of_some _ e
  have hl' := isList_keeps hl k1
  refine ⟨hl'.typeIs, wpAny_getItem_list_slice hl' (Heap.IsSliceOf.new _ _ _ _) pl pu ps (by simpa using h0) ?_ hsz⟩
  exact hQ _ _ (fun b o e => Heap.get?_push_of_some _ (k1 b o e)) (get_none_of_ge (by simp [Heap.size_push])) ⟨0, Heap.get?_push_size _ rfl⟩
end
end
section
open PySem PySem.W PyProof.Rows PySem.Calls PySem.Spec
set_option maxRecDepth 100000
set_option maxHeartbeats 4000000
section
variable {w : World} {E : Value → Shared → Prop} {s : Shared} {mg mb : Str → Option Value}
def turnU (u : Str) : Str := if u == Str.ofString "(" then Str.ofString ")" else if u == Str.ofString ")" then Str.ofString "(" else u

theorem paired_append {α β : Type} {R : α → β → Prop} {l₁ l₃ : List α} {l₂ l₄ : List β} (x : Paired R l₁ l₂) (h : Paired R l₃ l₄) : Paired R (l₁ ++ l₃) (l₂ ++ l₄) := by
  induction x with
  | nil => exact h
  | cons h₁ _ ih => exact .cons h₁ ih
theorem paired_reverse {α β : Type} {R : α → β → Prop} {l₁ : List α} {l₂ : List β} (x : Paired R l₁ l₂) : Paired R l₁.reverse l₂.reverse := by
  induction x with
  | nil => exact .nil
  | cons h₁ _ ih => rw [List.reverse_cons, List.reverse_cons]; exact paired_append ih (.cons h₁ .nil)
theorem paired_through {α β gam : Type} {R : α → β → Prop} {S : α → gam → Prop} {T : gam → δ → Prop} {f : β → δ} {l₁ : List α} {l₂ : List β} {l₃ : List gam} (x : Paired R l₁ l₂) (y : Paired S l₁ l₃)
    (h : ∀ a b c, R a b → S a c → T c (f b)) : Paired T l₃ (l₂.map f) := by
  induction x generalizing l₃ with
  | nil => cases y; exact .nil
  | cons h₁ _ ih =>
    cases y with
    | cons h₂ t' => exact .cons (h _ _ _ h₁ h₂) (ih t')
theorem turned_spec {t : Addr} {vs : List Value} {us : List Str} {Q : Value → Shared → Prop} (T : TopF mg mb s.heap) (ht : s.heap.IsList t vs.toArray) (hu : Paired IsStrV vs us) (hz : vs.length ≤ sizeLine)
    (hQ : ∀ k s' ys, Ext s s' → s.heap.get? k = none → s'.heap.PlainList k ys.toArray → Paired IsStrV ys (us.reverse.map turnU) → Q (.ref k) s') :
    wpAny (model P0 w) (AL 500) (call (.ref 96) [.ref t]) Q E s := by
  refine call_fn (T.fn "_law_turned" 96 16) T (binds := [("units", .ref t)]) (fun _ _ _ => rfl) (by simp; decide) fun cd h₁ F => ?_
  have N : News s.heap s.heap.objs.size h₁ [] := News.nil
  have ht₁ : h₁.IsList t vs.toArray := isList_keeps ht F.keep
  refine wpAny_execs_cons (wpAny_Return_some ?_)
  refine comp_list (fun _ => true) (fun v y => ∃ u, IsStrV v u ∧ IsStrV y (turnU u)) (fun _ _ => False) (cl := []) rfl rfl (by decide) rfl (by decide) rfl ?_
  refine sub_step ?_
  walk_at "go"
  refine Here.mk ⟨t, vs.toArray, none, none, -1, rfl, ht₁, by simpa using hz, .none, .none, .int _ _, by decide, fun h₂ r k₂ hr hl₂ => ?_⟩
  rw [slice_rev] at hl₂
  have hrev : Paired IsStrV vs.reverse us.reverse := paired_reverse hu
  refine Here.mk ⟨r, vs.reverse, rfl, hl₂.isList, by simpa using hz, ⟨?_, ?_⟩, ?_⟩
  · intro C i v s₃ m₃ hC hv hn hm hk hg
    exact wpAny_tests_nil (Here.mk ⟨rfl, Ext.refl _⟩)
  · intro C i v s₃ m₃ hC hv _ hn hm hk hg
    obtain ⟨u, hu', tu, rfl⟩ := paired_get hrev hv
    walk_at "go"
    · rename_i c1
      exact Here.mk ⟨.inl ⟨u, ⟨_, rfl⟩, ⟨_, by rw [show turnU u = Str.ofString ")" from if_pos c1]⟩⟩, Ext.heap fun _ _ e => e⟩
    · rename_i c1 c2
      exact Here.mk ⟨.inl ⟨u, ⟨_, rfl⟩, ⟨_, by rw [show turnU u = Str.ofString "(" from (if_neg (by rw [c1]; decide)).trans (if_pos c2)]⟩⟩, Ext.heap fun _ _ e => e⟩
    · rename_i c1 c2
      exact Here.mk ⟨.inl ⟨u, ⟨_, rfl⟩, ⟨_, by rw [show turnU u = u from (if_neg (by rw [c1]; decide)).trans (if_neg (by rw [c2]; decide))]⟩⟩, Ext.heap fun _ _ e => e⟩
  · intro D s' ys hD hpl hF x
    refine hQ D s' ys ⟨fun b o e => x.keep b o (k₂ b o (F.keep b o e)), x.gens, x.bare, x.os⟩ ?_ hpl ?_
    · cases e : s.heap.get? D with
      | none => rfl
      | some o => have := k₂ D o (F.keep D o e); rw [hD] at this; cases this
    · rw [List.filter_eq_self.mpr (by simp)] at hF
      exact paired_through hrev hF fun v u y hv hy => by
        rcases hy with ⟨u', ⟨_, rfl⟩, hy⟩ | ⟨_, _, _, _, _, hf⟩
        · obtain ⟨_, e⟩ := hv
          injection e with e1 e2
          subst e1
          exact hy
        · exact hf.elim
end
end
section
open PySem PySem.W PyProof.Rows PySem.Calls PySem.Spec
set_option maxRecDepth 100000
set_option maxHeartbeats 4000000
section
variable {w : World} {A : Around} {E : Value → Shared → Prop} {env : Env}
theorem comp2_list {β : Type} {s : Shared} {elt i1 i2 : Expr} {x1 x2 : Str} {p1 p2 : Pos} {scope : Scope} {cl : List (Str × Addr)} {pos : Pos} {Q : Value → Shared → Prop} (G : β → Value → Prop) (O : β → Addr → Obj → Prop) (inner : Value → List β)
    (hh : A.handled = none) (hclos : closureFor scope env = pure cl) (hcell : ∀ y ∈ scope.names, y.2 ≠ .cell) (hkind : scope.kind = .function)
    (hnames : ∀ y ∈ scope.names, y.2 = .local → scope.names.lookup y.1 = some .local) (hx1 : scope.names.lookup x1 = some .local) (hx2 : scope.names.lookup x2 = some .local)
    (h : wpAny (model P0 w) A (eval i1 env) (fun xv s₁ => Here (∃ (l : Addr) (vs : List Value), xv = .ref l ∧ s₁.heap.IsList l vs.toArray ∧ vs.length ≤ 100 ∧
      (∀ (C D : Addr) (X : List Addr) (i : Nat) v s₂ m₂, (∀ b ∈ X, s₁.heap.get? b = none) → vs[i]? = some v → s₂.heap.Ns C m₂ → m₂ x1 = some v → (∀ b ∈ X, ∃ o, s₂.heap.get? b = some o) → (∀ b o, s₁.heap.get? b = some o → s₂.heap.get? b = some o) → GExt s₁ s₂ →
        (inner v).length ≤ 100 ∧ InnerOk β w A (compEnvC scope cl C env) C D X x2 i2 elt G O (inner v) m₂ s₂) ∧
      (∀ D s' ys, s₁.heap.get? D = none → s'.heap.PlainList D ys.toArray → Paired (fun b y => ElB G O [D] b y s'.heap) (vs.flatMap inner) ys → Ext s₁ s' → Q (.ref D) s'))) E s)
    (hs : ∀ x, foldedSetIterable i1 env x = pure x := by intro _; rfl) (hs2 : ∀ C x, foldedSetIterable i2 (compEnvC scope cl C env) x = pure x := by intro _ _; rfl) :
    wpAny (model P0 w) A (eval (.ListComp elt [⟨.Name x1 p1, i1, [], 0⟩, ⟨.Name x2 p2, i2, [], 0⟩] scope pos) env) Q E s := by
  rw [eval_ListComp]
  refine wpAny_comprehension_free (use := none) rfl hs hclos hkind hnames (wpAny_mono h (fun xv s₁ h₁ => ?_) fun _ _ e => e)
  obtain ⟨l, vs, rfl, hl, hz, hin, hQ⟩ := h₁
  refine wpAny_pyIter_list hl ?_
  refine wpAny_newObj_type (wpAny_newFunctionEnv hcell (by intro y hy; simp at hy) (fun h₁ hns₁ hsb₁ => ?_) hkind)
  dsimp only at hns₁ hsb₁ ⊢
  generalize hH1 : s₁.heap.push { cls := .type "list_iterator", data := .fields #[.ref l, .int 0 0] } = H1 at hns₁ hsb₁ ⊢
  generalize hH2 : H1.push { cls := .type "list", dict := none, data := .seq ([] : List Value).toArray } = H2 at hns₁ hsb₁ ⊢
  have z1 : H1.objs.size = s₁.heap.objs.size + 1 := by rw [← hH1, Heap.size_push]
  have z2 : H2.objs.size = s₁.heap.objs.size + 2 := by rw [← hH2, Heap.size_push, z1]
  have hlz : l < s₁.heap.objs.size := let ⟨_, e, _⟩ := hl; Heap.lt_size e
  have old : ∀ b o, s₁.heap.get? b = some o → h₁.get? b = some o := fun b o e => hsb₁.extBut b o (Nat.ne_of_lt (Nat.lt_of_lt_of_le (Heap.lt_size e) (by omega))) (Heap.get?_push_of_some _ (hH2 ▸ Heap.get?_push_of_some _ (hH1 ▸ Heap.get?_push_of_some _ e)))
  have hacc : h₁.PlainList H1.objs.size #[] := ⟨_, hsb₁.extBut _ _ (Nat.ne_of_lt (by omega)) (Heap.get?_push_of_some _ (hH2 ▸ Heap.get?_push_size _ rfl))⟩
  have hit : h₁.IsListIter s₁.heap.objs.size l 0 := ⟨_, hsb₁.extBut _ _ (Nat.ne_of_lt (by omega)) (Heap.get?_push_of_some _ (hH2 ▸ Heap.get?_push_of_some _ (hH1 ▸ Heap.get?_push_size _ rfl))), rfl, rfl⟩
  have fresh : ∀ a, s₁.heap.objs.size ≤ a → s₁.heap.get? a = none := fun a ha => get_none_of_ge ha
  have newX : ∀ b ∈ [H2.objs.size, H1.objs.size, s₁.heap.objs.size], s₁.heap.get? b = none := fun b hb => by
    apply fresh
    simp only [List.mem_cons, List.not_mem_nil, or_false] at hb
    rcases hb with rfl | rfl | rfl <;> omega
  have oldX : ∀ b o, s₁.heap.get? b = some o → b ∉ [H2.objs.size, H1.objs.size, s₁.heap.objs.size] := fun b o e q => by rw [newX b q] at e; cases e
  have loop : ∀ s₃ : Shared, s₃ = { s₁ with heap := h₁, toks := s₁.toks + ([] : List (Str × Value)).length } →
      codeAny (model P0 w) A (.compLoop (.ListComp elt [⟨.Name x1 p1, i1, [], 0⟩, ⟨.Name x2 p2, i2, [], 0⟩] scope pos) 0 (.ref s₁.heap.objs.size) (.ref H1.objs.size) (compEnvC scope cl H2.objs.size env))
        (compPost (model P0 w) A E none Q (.ref H1.objs.size) H2.objs.size) s₃ := by
    rintro s₃ rfl
    refine comp2_outer (cells := []) (C := H2.objs.size) (cenv := compEnvC scope cl H2.objs.size env) G O inner (fun v _ m => m x1 = some v) hh rfl (lookup_relabel_local hx2) (by simp [compEnvC, relabel, hkind]) rfl (Nat.ne_of_lt (by omega)) (Nat.ne_of_lt (by omega)) (Nat.ne_of_lt (by omega)) (by simp) (by simp) (by simp)
      (fun q => by obtain ⟨o, e, _⟩ := hl; exact oldX l o e q) hz (fun _ => rfl) ?_ hit (isList_keeps hl old) hacc ⟨_, hns₁⟩ (by simp) ?_ ?_ (hs2 _)
    · intro v s Q E m hn _ hQ
      refine wpAny_assign_Name (wpAny_storeName_local (lookup_relabel_local hx1) hn (fun h' hn' hs' => ?_) (by simp [compEnvC, relabel, hkind]))
      exact hQ h' _ _ hn' (by simp) (by simp) fun b o h1 _ e => hs'.extBut b o h1 e
    · intro i v s₂ m₂ hv hn hm lv hk hg
      exact hin _ _ _ i v s₂ m₂ newX hv hn hm lv (fun b o e => hk b o (oldX b o e) (old b o e)) ⟨hg.gens, hg.bare, hg.os⟩
    · intro s' m' ys hn' hpl hF hk hg
      refine ⟨m', hn', fun h'' hs'' => hQ _ _ ys (fresh _ (by omega)) (hpl.at fun o e => hs''.extBut _ o (Nat.ne_of_lt (by omega)) e) (paired_mono (fun b y e => ?_) hF) ⟨fun b o e => hs''.extBut b o (Nat.ne_of_lt (Nat.lt_of_lt_of_le (Heap.lt_size e) (by omega))) (hk b o (oldX b o e) (old b o e)), hg.gens, hg.bare, hg.os⟩⟩
      rcases e with e | ⟨r, o, rfl, hr, ho, hO⟩
      · exact .inl e
      · simp only [List.mem_cons, not_or] at hr
        exact .inr ⟨r, o, rfl, by simp [hr.2.1], hs''.extBut r o hr.1 ho, hO⟩
  exact codeAny_compStart_list (loop _ rfl) (wpAny_pyIter_listiter hit (loop _ rfl))
end
end
section
open PySem PySem.W PyProof.Rows PySem.Calls PySem.Spec
set_option maxRecDepth 100000
set_option maxHeartbeats 4000000
local macro_rules | `(tactic| walk_at "eval Name") => `(tactic| first | refine nm_cell (by assumption) rfl ?_ | walk_at "nm_l" | walk_at "nm_t")
local macro_rules | `(tactic| walk_at "subscriptTail") => `(tactic| refine item_at (by assumption) (by assumption) (by assumption) (by assumption) ?_)
def PiecesAt (h : Heap) (vs : List Value) (ps : List (List Str)) : Prop := Paired (fun v us => ∃ r ws, v = Value.ref r ∧ h.IsList r (List.toArray ws) ∧ Paired IsStrV ws us) vs ps
theorem PiecesAt.keeps {h h' : Heap} {vs : List Value} {ps : List (List Str)} (x : PiecesAt h vs ps) (k : ∀ b o, h.get? b = some o → h'.get? b = some o) : PiecesAt h' vs ps :=
  paired_mono (fun _ _ ⟨r, ws, e, g, q⟩ => ⟨r, ws, e, isList_keeps g k, q⟩) x
def unitsOf (ps : List (List Str)) (ks : List Int) : List Str := ks.flatMap fun k => (ps[k.toNat]?).getD []

theorem strsAre_of {vs : List Value} {us : List Str} (h : Paired IsStrV vs us) : StrsAre vs us := by
  induction h with
  | nil => exact .nil
  | cons h _ ih => obtain ⟨t, rfl⟩ := h; exact .cons _ _ ih
theorem flat_units (ps : List (List Str)) {vo : List Value} {ks : List Int} (hO : Paired IsIntV vo ks) : (vo.flatMap fun v => match v with | .int k _ => (ps[k.toNat]?).getD [] | _ => []) = unitsOf ps ks := by
  unfold unitsOf
  induction hO with
  | nil => rfl
  | cons h _ ih => obtain ⟨t, rfl⟩ := h; rw [List.flatMap_cons, List.flatMap_cons, ih]
section
variable {w : World} {E : Value → Shared → Prop} {s : Shared} {mg mb : Str → Option Value}
theorem text_spec {p o : Addr} {vp vo : List Value} {ps : List (List Str)} {ks : List Int} {Q : Value → Shared → Prop} (T : TopF mg mb s.heap)
    (hp : s.heap.IsList p vp.toArray) (hP : PiecesAt s.heap vp ps) (ho : s.heap.IsList o vo.toArray) (hO : Paired IsIntV vo ks) (hk : ∀ k ∈ ks, 0 ≤ k ∧ k < ps.length) (hpl : ps.length ≤ 100) (hkl : ks.length ≤ 100)
    (hsm : ∀ us ∈ ps, us.length ≤ 100) (hsz : ((unitsOf ps ks).map (·.length)).sum + (unitsOf ps ks).length * 64 ≤ 16777216)
    (hQ : ∀ s' t, Ext s s' → Q (.str (Txt.join (Str.ofString "") (unitsOf ps ks)) t) s') :
    wpAny (model P0 w) (AL 500) (call (.ref 113) [.ref p, .ref o]) Q E s := by
  refine call_fnC (T.fn "_law_text" 113 19) T (binds := [("pieces", .ref p), ("order", .ref o)]) (fun _ _ _ => rfl) (fun x hx => by simp only [List.mem_cons, List.not_mem_nil, or_false] at hx; rcases hx with rfl | rfl <;> first | exact .inl rfl | exact .inr ⟨rfl, rfl⟩) fun cd h₁ tk F X => ?_
  have N : News s.heap s.heap.objs.size h₁ [] := News.nil
  have hc : h₁.IsCell (s.heap.objs.size + 1) (some (.ref p)) := X.cell (Str.ofString "pieces") _ rfl
  refine wpAny_execs_cons (wpAny_Return_some ?_)
  walk_at "go"
  refine comp2_list (β := Str) (fun u y => IsStrV y u) (fun _ _ _ => False) (fun v => match v with | .int k _ => (ps[k.toNat]?).getD [] | _ => []) (cl := [(Str.ofString "pieces", s.heap.objs.size + 1)]) rfl rfl (by decide) rfl (by decide) rfl rfl ?_
  walk_at "go"
  refine Here.mk ⟨o, vo, rfl, isList_keeps ho F.keep, by rw [hO.length]; exact hkl, ?_, ?_⟩
  · intro C D X i v s₂ m₂ hX hv hn hm lv hk₂ hg
    obtain ⟨k, hk', tk, rfl⟩ := paired_get hO hv
    obtain ⟨k0, kl⟩ := hk k (List.mem_of_getElem? hk')
    have kl' : k < 2 ^ 63 := by omega
    obtain ⟨us, hus⟩ : ∃ us, ps[k.toNat]? = some us := ⟨_, List.getElem?_eq_getElem (by omega)⟩
    dsimp only
    rw [hus, Option.getD_some]
    refine ⟨hsm us (List.mem_of_getElem? hus), ?_⟩
    have hP₁ := hP.keeps F.keep
    obtain ⟨v, hv', r, ws, rfl, hr, hw⟩ := paired_get' hP₁ hus
    have hc₂ := hc.keeps hk₂
    have hp₂ := isList_keeps (isList_keeps hp F.keep) hk₂
    unfold InnerOk
    walk_at "go"
    refine Here.mk ⟨r, ws, rfl, isList_keeps hr hk₂, ?_, hw.length, by rw [hw.length]; exact hsm us (List.mem_of_getElem? hus), Ext.heap fun _ _ e => e, ?_⟩
    · intro q
      obtain ⟨o, e, _⟩ := hr
      have := hX r q
      rw [this] at e; cases e
    · intro j u b s₄ m₄ hu hb hn₄ hm₄ hmm hk₄ hg₄
      walk_at "go"
      obtain ⟨b', hb', hS⟩ := paired_get hw hu
      rw [hb] at hb'
      cases hb'
      exact Here.mk ⟨.inl hS, Ext.refl _⟩
  · intro D s' ys hD hpl hF x
    have e := flat_units ps hO
    rw [e] at hF
    have hS : StrsAre ys (unitsOf ps ks) := strsAre_of (paired_flip (paired_mono (fun b y e => e.elim id fun ⟨_, _, _, _, _, f⟩ => f.elim) hF))
    walk1
    refine join_listC hpl.isList hS (by decide) hsz fun t k => ?_
    exact hQ _ _ ⟨fun b o e => x.keep b o (F.keep b o e), x.gens, x.bare, x.os⟩
end
end
section
open PySem PySem.W PyProof.Rows PySem.Calls PySem.Spec
set_option maxRecDepth 100000
set_option maxHeartbeats 4000000
local macro_rules | `(tactic| walk_at "own pad") => `(tactic| skip)
def chkGo : Int → List (List Nat) → Bool
  | o, [] => o == 0
  | o, u :: us => if u = [40] then chkGo (o + 1) us else if u = [41] then (if o - 1 < 0 then false else chkGo (o - 1) us) else chkGo o us

structure StripSt where
  start : Nat
  opn : Option Nat
  res : List Str
def stripStep (z : Str) (a : StripSt) (q : Nat × List Nat) : StripSt :=
  if q.2 = [34] then match a.opn with
    | none => { a with opn := some q.1 }
    | some o => ⟨q.1 + 1, none, if a.start ≠ o then a.res ++ [Txt.slice z (some (a.start : Int)) (some (o : Int))] else a.res⟩
  else a
def stripEnd (z : Str) (a : StripSt) : Str := Txt.join "" (if a.start < z.length then a.res ++ [Txt.slice z (some (a.start : Int)) none] else a.res)
def stripOf (z : Str) : Str := if 34 ∈ z.cps.toList then stripEnd z ((itsOf 0 false z.cps.toList).foldl (stripStep z) ⟨0, none, []⟩) else z

section
variable {w : World} {A : Around} {E : Value → Shared → Prop} {s : Shared}
theorem tail_str_ss {value lo hi : Expr} {p : Pos} {x : Str} {t ui uj : Tok} {i j : Int} {Q : Value → Shared → Prop} (hsz : x.length ≤ sizeLine)
    {h₀ : Heap} {L : Addr} {m : Str → Option Value} {news : List (Addr × Obj)} (F : Fr h₀ L s.heap m) (N : News h₀ L s.heap news)
    (h : ∀ t' k h', Fr h₀ L h' m → News h₀ L h' news → Q (.str (Txt.slice x (some i) (some j)) t') { s with heap := h', toks := k })
    (ht : ∀ o r, letTemporaryGo value o r = pure () := by intro _ _; rfl) :
    wpAny (model P0 w) A (subscriptTail value (.Slice (some lo) (some hi) none p) (.str x t) (.ref s.heap.objs.size)) Q E { s with heap := s.heap.push { cls := .type "slice", data := .fields #[.int i ui, .int j uj, .none] } } := by
  refine subscriptTail_ops (ops := [.ref s.heap.objs.size, .str x t]) (typeIs_str _ _ _) PySem.F.slot_str_getitem.lookup ?_ rfl (ht _)
  exact wpAny_getItem_str_slice (l := some (i, ui)) (u := some (j, uj)) (st := none) ⟨_, Heap.get?_push_size _ rfl, rfl, rfl⟩ rfl
    (post_val_or_str ⟨Nat.le_trans (Txt.slice_le x _ _) hsz, fun t' k => h t' k _ (F.push _) (news_some (News.push F N _) fun p hp => List.mem_cons_of_mem _ hp)⟩)
theorem tail_str_sn {value lo : Expr} {p : Pos} {x : Str} {t ui : Tok} {i : Int} {Q : Value → Shared → Prop} (hsz : x.length ≤ sizeLine)
    {h₀ : Heap} {L : Addr} {m : Str → Option Value} {news : List (Addr × Obj)} (F : Fr h₀ L s.heap m) (N : News h₀ L s.heap news)
    (h : ∀ t' k h', Fr h₀ L h' m → News h₀ L h' news → Q (.str (Txt.slice x (some i) none) t') { s with heap := h', toks := k })
    (ht : ∀ o r, letTemporaryGo value o r = pure () := by intro _ _; rfl) :
    wpAny (model P0 w) A (subscriptTail value (.Slice (some lo) none none p) (.str x t) (.ref s.heap.objs.size)) Q E { s with heap := s.heap.push { cls := .type "slice", data := .fields #[.int i ui, .none, .none] } } := by
  refine subscriptTail_ops (ops := [.ref s.heap.objs.size, .str x t]) (typeIs_str _ _ _) PySem.F.slot_str_getitem.lookup ?_ rfl (ht _)
  exact wpAny_getItem_str_slice (l := some (i, ui)) (u := none) (st := none) ⟨_, Heap.get?_push_size _ rfl, rfl, rfl⟩ rfl
    (post_val_or_str ⟨Nat.le_trans (Txt.slice_le x _ _) hsz, fun t' k => h t' k _ (F.push _) (news_some (News.push F N _) fun p hp => List.mem_cons_of_mem _ hp)⟩)
/-- a call of a top function by its place -/
theorem call_top {env : Env} {pos : Pos} {f : Addr} {st : Stmt} {e : Expr} {rest : List Expr} {Q : Value → Shared → Prop} (X : FnAt s.heap f st)
    (h : wpAny (model P0 w) A (spliced (backTo pos (starEach (e :: rest) env))) (fun vs s₁ => (∀ b o, s.heap.get? b = some o → s₁.heap.get? b = some o) ∧ wpAny (model P0 w) A (call (.ref f) vs) Q E s₁) E s)
    (he : starEach (e :: rest) env = (false, eval e env) :: starEach rest env := by rfl) :
    wpAny (model P0 w) A (callWith pos (.ref f) [] (backTo pos (starEach (e :: rest) env)) []) Q E s := by
  obtain ⟨o, pm, c, doc, ho, hd, hc⟩ := X
  exact callWith_meth (h₀ := s.heap) hd ho h he
end
theorem str_one (u : List Nat) (c : Nat) : ((⟨List.toArray u⟩ : Str) == ⟨#[c]⟩) = decide (u = [c]) := by
  by_cases h : u = [c]
  · subst h; simp
  · rw [decide_eq_false h]
    rw [beq_eq_false_iff_ne]
    intro e
    injection e with e
    injection e with e
    exact h e
theorem str_one_t {u : List Nat} {c : Nat} (h : ((⟨List.toArray u⟩ : Str) == ⟨#[c]⟩) = true) : u = [c] := of_decide_eq_true ((str_one u c).symm.trans h)
theorem str_one_f {u : List Nat} {c : Nat} (h : ((⟨List.toArray u⟩ : Str) == ⟨#[c]⟩) = false) : u ≠ [c] := of_decide_eq_false ((str_one u c).symm.trans h)
theorem paired_snoc {α β : Type} {R : α → β → Prop} {a : α} {b : β} (h : R a b) {l₁ : List α} {l₂ : List β} (x : Paired R l₁ l₂) : Paired R (l₁ ++ [a]) (l₂ ++ [b]) := paired_append x (.cons h .nil)
theorem sum_le : ∀ (l : List Str) (k : Nat), (∀ y ∈ l, y.length ≤ k) → (l.map (·.length)).sum ≤ l.length * k
  | [], _, _ => by simp
  | y :: l, k, h => by
    have := sum_le l k fun z hz => h z (List.mem_cons_of_mem _ hz)
    have h1 := h y List.mem_cons_self
    simp only [List.map_cons, List.sum_cons, List.length_cons, Nat.succ_mul]
    omega
def opnV (o : Option Nat) (ta : Tok) : Value := match o with | none => .none | some p => .int (p : Nat) ta
/-- the state of the loop in strip -/
structure StripK (z : Str) (t : Tok) (D : Addr) (i : Nat) (m : Str → Option Value) (nw : List (Addr × Obj)) : Prop where
  a : m (Str.ofString "addr") = some (.str z t)
  b : ∃ tb, m (Str.ofString "start") = some (.int (((itsOf 0 false z.cps.toList).take i).foldl (stripStep z) ⟨0, none, []⟩).start tb)
  c : ∃ tc, m (Str.ofString "open_pos") = some (opnV (((itsOf 0 false z.cps.toList).take i).foldl (stripStep z) ⟨0, none, []⟩).opn tc)
  d : m (Str.ofString "result") = some (.ref D)
  e : ∃ vs : List Value, nw = [(D, { cls := .type "list", data := .seq vs.toArray vs.length })] ∧ Paired IsStrV vs (((itsOf 0 false z.cps.toList).take i).foldl (stripStep z) ⟨0, none, []⟩).res ∧ vs.length ≤ i ∧ ∀ y ∈ (((itsOf 0 false z.cps.toList).take i).foldl (stripStep z) ⟨0, none, []⟩).res, y.length ≤ z.length

local macro_rules | `(tactic| walk_at "subscriptTail") => `(tactic| first
  | (refine tail_str_ss (Nat.le_trans (by assumption) (by decide)) (by assumption) (by assumption) ?_; intro t' k h' F' N')
  | (refine tail_str_sn (Nat.le_trans (by assumption) (by decide)) (by assumption) (by assumption) ?_; intro t' k h' F' N'))
local macro_rules | `(tactic| walk_at "call builtin:list.append") => `(tactic| (refine append_head (by assumption) (by assumption) (by assumption) ?_ (by assumption); intro h' F' N'))
section
variable {w : World} {E : Value → Shared → Prop} {s : Shared} {mg mb : Str → Option Value}
theorem strip_spec {z : Str} {t : Tok} (T : TopF mg mb s.heap) (hz : z.cps.all (· < 128) = true) (he : endEsc false z.cps.toList = false) (hsz : (itsOf 0 false z.cps.toList).length ≤ 1000) (hzl : z.length ≤ 1000) :
    wpAny (model P0 w) (AL 500) (call (.ref 28) [.str z t]) (fun v s' => Here (∃ t', v = .str (stripOf z) t' ∧ Ext s s')) E s := by
  refine call_fn (T.fn "_strip_quoted_realnames" 28 2) T (binds := [(Str.ofString "addr", .str z t)]) (fun _ _ _ => rfl) (by simp only [List.mem_singleton, forall_eq]; rfl) fun c h₁ F => ?_
  have N : News s.heap s.heap.objs.size h₁ [] := News.nil
  refine wpAny_execs_cons ?_
  walk_at "go"
  · rename_i hin
    have hf : decide (34 ∈ z.cps.toList) = false := by rw [← StrLaws.found_one]; simp only [Bool.not_eq_false']; exact hin
    have hso : stripOf z = z := if_neg (of_decide_eq_false hf)
    rw [hso]
    exact Here.mk ⟨t, rfl, Ext.heap F.keep⟩
  · rename_i hin _ _ _ _ _ _ h₅ F₄ N₄ h₆ F₅ N₅
    have hf : decide (34 ∈ z.cps.toList) = true := by rw [← StrLaws.found_one]; simp only [Bool.not_eq_true']; exact hin
    refine for_gen (tz := t) (StripK z t _) rfl rfl rfl rfl (show 501 < recursionLimit by decide) T F₅ N₅ ⟨rfl, ⟨_, rfl⟩, ⟨0, rfl⟩, rfl, ⟨[], rfl, .nil, Nat.le_refl _, fun y hy => nomatch hy⟩⟩ hz he ?_ ?_ ?_
    · intro Q' h
      refine wpAny_Call_NameR ?_
      walk1
      refine call_top ((T.keeps F₅.keep).fn "_iter_escaped_chars" 21 1) ?_
      walk_at "go"
      exact h
    · rintro i p u s' m' nw' nn ta tb hit F' N' hnm hnn ⟨ka, ⟨tb', kb⟩, ⟨tc', kc⟩, kd, vs, rfl, ke, kl, kz⟩ hG
      have hfo : ((itsOf 0 false z.cps.toList).take (i + 1)).foldl (stripStep z) ⟨0, none, []⟩ = stripStep z (((itsOf 0 false z.cps.toList).take i).foldl (stripStep z) ⟨0, none, []⟩) (p, u) := foldl_take_succ _ _ _ _ _ hit
      generalize hst : ((itsOf 0 false z.cps.toList).take i).foldl (stripStep z) ⟨0, none, []⟩ = st at *
      have hap : ∀ q ∈ nn, q.1 ≠ _ := fun q hq e => hnn q hq (by rw [e]; exact List.mem_cons_self)
      have hvl : vs.toArray.size ≤ sizeLine := Nat.le_trans (Nat.le_trans kl (Nat.le_of_lt (Nat.lt_of_lt_of_le (List.getElem?_eq_some_iff.mp hit).1 hsz))) (by decide)
      rw [List.singleton_append] at N'
      cases ho : st.opn with
      | none =>
        rw [ho] at kc
        change _ = some Value.none at kc
        walk_at "go"
        · rename_i hu h₇ F₇ N₇
          have e : stripStep z st (p, u) = { st with opn := some p } := by have hu' : u = [34] := str_one_t hu; simp [stripStep, hu', ho]
          rw [e] at hfo
          refine Here.mk ⟨_, [(_, { cls := .type "list", data := .seq vs.toArray vs.length })], F₇, N₇, rfl, ⟨ka, ⟨tb', by rw [hfo]; exact kb⟩, ⟨ta, by rw [hfo]; rfl⟩, kd, vs, rfl, by rw [hfo]; exact ke, Nat.le_succ_of_le kl, by rw [hfo]; exact kz⟩, rfl, rfl⟩
        · rename_i hu
          have e : stripStep z st (p, u) = st := by have hu' : u ≠ [34] := str_one_f hu; simp [stripStep, hu']
          rw [e] at hfo
          refine Here.mk ⟨_, [(_, { cls := .type "list", data := .seq vs.toArray vs.length })], F', N', rfl, ⟨ka, ⟨tb', by rw [hfo]; exact kb⟩, ⟨tc', by rw [hfo, ho]; exact kc⟩, kd, vs, rfl, by rw [hfo]; exact ke, Nat.le_succ_of_le kl, by rw [hfo]; exact kz⟩, rfl, rfl⟩
      | some o =>
        rw [ho] at kc
        change _ = some (Value.int (o : Nat) tc') at kc
        walk_at "go"
        · rename_i hu hne _ t₇ _ _ _ _ _ _ _ _ _ _ h₇ F₇ N₇
          have hne' : st.start ≠ o := fun e => hne (by rw [e])
          have e : stripStep z st (p, u) = ⟨p + 1, none, st.res ++ [Txt.slice z (some (st.start : Int)) (some (o : Int))]⟩ := by have hu' : u = [34] := str_one_t hu; simp [stripStep, hu', ho, hne']
          rw [e] at hfo
          refine Here.mk ⟨_, [(_, { cls := .type "list", data := .seq (vs.toArray.push (.str (Txt.slice z (some (st.start : Int)) (some (o : Int))) t₇)) (vs.length + 1) })], F₇, N₇, rfl, ⟨ka, ⟨_, by rw [hfo]; rfl⟩, ⟨0, by rw [hfo]; rfl⟩, kd, vs ++ [.str (Txt.slice z (some (st.start : Int)) (some (o : Int))) t₇], ?_, ?_, ?_, ?_⟩, rfl, rfl⟩
          · simp
          · rw [hfo]; exact paired_snoc ⟨_, rfl⟩ ke
          · simpa using kl
          · rw [hfo]
            intro y hy
            rcases List.mem_append.mp hy with hy | hy
            · exact kz y hy
            · rw [List.mem_singleton.mp hy]; exact Txt.slice_le ..
        · rename_i hu hne _ _ _ h₇ F₇ N₇
          have hne' : st.start = o := by omega
          have e : stripStep z st (p, u) = ⟨p + 1, none, st.res⟩ := by have hu' : u = [34] := str_one_t hu; simp [stripStep, hu', ho, hne']
          rw [e] at hfo
          refine Here.mk ⟨_, [(_, { cls := .type "list", data := .seq vs.toArray vs.length })], F₇, N₇, rfl, ⟨ka, ⟨_, by rw [hfo]; rfl⟩, ⟨0, by rw [hfo]; rfl⟩, kd, vs, rfl, by rw [hfo]; exact ke, Nat.le_succ_of_le kl, by rw [hfo]; exact kz⟩, rfl, rfl⟩
        · rename_i hu
          have e : stripStep z st (p, u) = st := by have hu' : u ≠ [34] := str_one_f hu; simp [stripStep, hu']
          rw [e] at hfo
          refine Here.mk ⟨_, [(_, { cls := .type "list", data := .seq vs.toArray vs.length })], F', N', rfl, ⟨ka, ⟨tb', by rw [hfo]; exact kb⟩, ⟨tc', by rw [hfo, ho]; exact kc⟩, kd, vs, rfl, by rw [hfo]; exact ke, Nat.le_succ_of_le kl, by rw [hfo]; exact kz⟩, rfl, rfl⟩
    · rintro s' m' nw' F' N' hnm ⟨ka, ⟨tb', kb⟩, ⟨tc', kc⟩, kd, vs, rfl, ke, kl, kz⟩ hG
      rw [List.take_length] at kb kc ke kz
      have hof : stripOf z = stripEnd z ((itsOf 0 false z.cps.toList).foldl (stripStep z) ⟨0, none, []⟩) := if_pos (of_decide_eq_true hf)
      generalize hst : (itsOf 0 false z.cps.toList).foldl (stripStep z) ⟨0, none, []⟩ = st at *
      have hap : ∀ q ∈ ([] : List (Addr × Obj)), q.1 ≠ h₅.objs.size := fun q hq => nomatch hq
      have hvl : vs.toArray.size ≤ sizeLine := Nat.le_trans (Nat.le_trans kl hsz) (by decide)
      dsimp only
      walk_at "go"
      · skip
        rename_i hlt _ t₇ _ _ _ h₇ F₇ N₇
        have hlt' : st.start < z.length := by omega
        have e : stripEnd z st = Txt.join "" (st.res ++ [Txt.slice z (some (st.start : Int)) none]) := by simp [stripEnd, hlt']
        refine join_listC (ys := st.res ++ [Txt.slice z (some (st.start : Int)) none]) ⟨_, N₇.get (.head _), rfl, _, rfl⟩ ?_ (by decide) ?_ fun t' k => ?_
        · simpa using strsAre_of (paired_snoc ⟨t₇, rfl⟩ ke)
        · have := sum_le (st.res ++ [Txt.slice z (some (st.start : Int)) none]) z.length (by
            intro y hy
            rcases List.mem_append.mp hy with hy | hy
            · exact kz y hy
            · rw [List.mem_singleton.mp hy]; exact Txt.slice_le ..)
          have hl := ke.length
          simp only [List.length_append, List.length_singleton] at this ⊢
          have h2 : (st.res.length + 1) * z.length ≤ 1001 * 1000 := Nat.mul_le_mul (by omega) hzl
          omega
        · rw [hof, e]
          exact Here.mk ⟨t', rfl, ⟨F₇.keep, hG.gens, hG.bare, hG.os⟩⟩
      · rename_i hlt
        have hlt' : ¬ st.start < z.length := by omega
        have e : stripEnd z st = Txt.join "" st.res := by simp [stripEnd, hlt']
        refine join_listC (ys := st.res) ⟨_, N'.get (.head _), rfl, _, rfl⟩ ?_ (by decide) ?_ fun t' k => ?_
        · simpa using strsAre_of ke
        · have := sum_le st.res z.length kz
          have hl := ke.length
          have h2 : (st.res.length) * z.length ≤ 1000 * 1000 := Nat.mul_le_mul (by omega) hzl
          omega
        · rw [hof, e]
          exact Here.mk ⟨t', rfl, ⟨F'.keep, hG.gens, hG.bare, hG.os⟩⟩
end
end
section
open PySem PySem.W PyProof.Rows PySem.Calls PySem.Spec
set_option maxRecDepth 100000
set_option maxHeartbeats 4000000
section
variable {w : World} {E : Value → Shared → Prop} {s : Shared} {mg mb : Str → Option Value}
theorem check_spec {z : Str} {t : Tok} (T : TopF mg mb s.heap) (hz : z.cps.all (· < 128) = true) (he : endEsc false z.cps.toList = false) (hsz : (itsOf 0 false z.cps.toList).length ≤ 1000) (hzl : z.length ≤ 1000)
    (hz' : (stripOf z).cps.all (· < 128) = true) (he' : endEsc false (stripOf z).cps.toList = false) :
    wpAny (model P0 w) (AL 450) (call (.ref 35) [.str z t]) (fun v s' => Here (v = .bool (chkGo 0 ((itsOf 0 false (stripOf z).cps.toList).map (·.2))) ∧ Ext s s')) E s := by
  refine call_fn (T.fn "_check_parenthesis" 35 3) T (binds := [(Str.ofString "addr", .str z t)]) (fun _ _ _ => rfl) (by simp only [List.mem_singleton, forall_eq]; rfl) fun c h₁ F => ?_
  have N : News s.heap s.heap.objs.size h₁ [] := News.nil
  refine wpAny_execs_cons ?_
  walk1
  walk1
  walk1
  refine call_top ((T.keeps F.keep).fn "_strip_quoted_realnames" 28 2) ?_
  walk_at "go"
  refine AL.of 500 rfl (show 451 ≤ 500 by decide) (show 3603 ≤ 4000 by decide) ?_
  refine wpAny_mono (strip_spec (T.keeps F.keep) hz he hsz hzl) ?_ (fun _ _ e => e)
  rintro v s₂ ⟨t', rfl, X⟩
  have F₂ : Fr s.heap s.heap.objs.size s₂.heap _ := ⟨F.ns.keeps X.keep, fun b o e => X.keep b o (F.keep b o e), F.above⟩
  have N₂ : News s.heap s.heap.objs.size s₂.heap [] := News.nil
  walk_at "go"
  rename_i h₅ F₅ N₅ h₆ F₆ N₆
  refine for_gen (z := stripOf z) (tz := t') (fun i m nw => nw = [] ∧ ∃ o to, m (Str.ofString "opens") = some (.int o to) ∧ chkGo 0 ((itsOf 0 false (stripOf z).cps.toList).map (·.2)) = chkGo o (((itsOf 0 false (stripOf z).cps.toList).map (·.2)).drop i))
    rfl rfl rfl rfl (show 451 < recursionLimit by decide) T F₆ N₆ ⟨rfl, 0, _, rfl, rfl⟩ hz' he' ?_ ?_ ?_
  · intro Q' h
    refine wpAny_Call_NameR ?_
    walk1
    refine call_top ((T.keeps F₆.keep).fn "_iter_escaped_chars" 21 1) ?_
    walk_at "go"
    exact h
  · rintro i p u s' m' nw' nn ta tb hit F' N' hnm hnn ⟨rfl, o, to, ho, hc⟩ hG
    have hu : ((itsOf 0 false (stripOf z).cps.toList).map (·.2))[i]? = some u := by simp [hit]
    have hd : ((itsOf 0 false (stripOf z).cps.toList).map (·.2)).drop i = u :: ((itsOf 0 false (stripOf z).cps.toList).map (·.2)).drop (i + 1) := by
      obtain ⟨hlt, e⟩ := List.getElem?_eq_some_iff.mp hu
      rw [List.drop_eq_getElem_cons hlt, e]
    rw [hd] at hc
    walk_at "go"
    · rename_i hu1
      have hu1 : u = [40] := str_one_t hu1
      subst hu1
      refine wpAny_loadName_local rfl rfl F'.ns (by walk_at "m_look") ?_
      walk_at "go"
      rename_i h₇ F₇ N₇
      exact Here.mk ⟨_, [], F₇, N₇, rfl, ⟨rfl, _, _, rfl, by rw [hc, chkGo, if_pos rfl]⟩, rfl, rfl⟩
    · rename_i hu1 hu2
      have hu1 : u ≠ [40] := str_one_f hu1
      have hu2 : u = [41] := str_one_t hu2
      subst hu2
      refine wpAny_loadName_local rfl rfl F'.ns (by walk_at "m_look") ?_
      walk_at "go"
      · rename_i h₇ F₇ N₇ hneg
        have : chkGo o ([41] :: ((itsOf 0 false (stripOf z).cps.toList).map (·.2)).drop (i + 1)) = false := by rw [chkGo, if_neg hu1, if_pos rfl, if_pos hneg]
        refine Here.mk ⟨?_, ⟨F₇.keep, fun j x e => hG.gens j x (X.gens j x e), fun e => hG.bare (X.bare e), hG.os.trans X.os⟩⟩
        rw [hc, this]
      · rename_i h₇ F₇ N₇ hneg
        exact Here.mk ⟨_, [], F₇, N₇, rfl, ⟨rfl, _, _, rfl, by rw [hc, chkGo, if_neg hu1, if_pos rfl, if_neg (by omega)]⟩, rfl, rfl⟩
    · rename_i hu1 hu2
      have hu1 : u ≠ [40] := str_one_f hu1
      have hu2 : u ≠ [41] := str_one_f hu2
      exact Here.mk ⟨_, [], F', N', rfl, ⟨rfl, _, _, ho, by rw [hc, chkGo, if_neg hu1, if_neg hu2]⟩, rfl, rfl⟩
  · rintro s' m' nw' F' N' hnm ⟨rfl, o, to, ho, hc⟩ hG
    dsimp only
    walk_at "go"
    refine Here.mk ⟨?_, ⟨F'.keep, fun j x e => hG.gens j x (X.gens j x e), fun e => hG.bare (X.bare e), hG.os.trans X.os⟩⟩
    rw [hc, ← List.length_map (f := (·.2)), List.drop_length]
    rfl
end
end
section
open PySem PySem.W PyProof.Rows PySem.Calls PySem.Spec
set_option maxRecDepth 100000
set_option maxHeartbeats 4000000
local macro_rules | `(tactic| walk_at "eval Name") => `(tactic| first | refine nm_cell (by assumption) rfl ?_ | walk_at "nm_l" | walk_at "nm_t")
section
variable {w : World} {A : Around} {E : Value → Shared → Prop} {env : Env}
structure RangeOk (w : World) (A : Around) (env : Env) (scope : Scope) (cl : List (Str × Addr)) (x : Str) (ifs : List Expr) (elt : Expr) (G : Value → Value → Prop) (O : Value → Obj → Prop) (s₁ : Shared) (n : Nat) : Prop where
  tests : ∀ (C : Addr) (i : Nat) (t : Tok) s₃ m₃, s₁.heap.objs.size ≤ C → i < n → s₃.heap.Ns C m₃ → m₃ x = some (.int i t) → (∀ b o, s₁.heap.get? b = some o → s₃.heap.get? b = some o) → GExt s₁ s₃ →
    wpAny (model P0 w) A (testsOf ifs (compEnvC scope cl C env)) (fun ok s₄ => Here (ok = true ∧ Ext s₃ s₄)) (fun _ _ => False) s₃
  elt : ∀ (C : Addr) (i : Nat) (t : Tok) s₃ m₃, s₁.heap.objs.size ≤ C → i < n → s₃.heap.Ns C m₃ → m₃ x = some (.int i t) → (∀ b o, s₁.heap.get? b = some o → s₃.heap.get? b = some o) → GExt s₁ s₃ →
    wpAny (model P0 w) A (eval elt (compEnvC scope cl C env)) (fun y s₄ => Here (Made1 G O (.int i t) y s₃.heap s₄.heap ∧ Ext s₃ s₄)) (fun _ _ => False) s₃

theorem comp_range {s : Shared} {elt iter : Expr} {x : Str} {px : Pos} {ifs : List Expr} {scope : Scope} {cl : List (Str × Addr)} {pos : Pos} {Q : Value → Shared → Prop} (G : Value → Value → Prop) (O : Value → Obj → Prop)
    (hh : A.handled = none) (hclos : closureFor scope env = pure cl) (hcell : ∀ y ∈ scope.names, y.2 ≠ .cell) (hkind : scope.kind = .function)
    (hnames : ∀ y ∈ scope.names, y.2 = .local → scope.names.lookup y.1 = some .local) (hx : scope.names.lookup x = some .local)
    (h : wpAny (model P0 w) A (eval iter env) (fun xv s₁ => Here (∃ (r : Addr) (n : Nat) (t u v : Tok), xv = .ref r ∧ IsRange s₁.heap r 0 (n : Nat) 1 t u v ∧ n ≤ 1000 ∧ RangeOk w A env scope cl x ifs elt G O s₁ n ∧
      (∀ D s' (ys vs : List Value), s₁.heap.get? D = none → s'.heap.PlainList D ys.toArray → vs.length = n → (∀ (j : Nat) v, vs[j]? = some v → IsIntV v j) → Paired (fun v y => ElN G O D v y s'.heap) vs ys → Ext s₁ s' → Q (.ref D) s'))) E s)
    (hs : ∀ x, foldedSetIterable iter env x = pure x := by intro _; rfl) :
    wpAny (model P0 w) A (eval (.ListComp elt [⟨.Name x px, iter, ifs, 0⟩] scope pos) env) Q E s := by
  refine comp_eval (fun _ => true) G O hclos hcell hkind hnames hx (wpAny_mono h (fun xv s₁ h₁ => ?_) fun _ _ e => e) hs
  obtain ⟨r, n, t, u, v, rfl, hr, hn, k, hQ⟩ := h₁
  have hsz : Builtin.Range.rangeSize 0 (n : Int) 1 = (n : Int) := by rw [rangeSize_one]; split <;> omega
  refine wpAny_pyIter_range hr (small_one (by omega) (by omega) (by omega) (by omega)) (Here.mk ?_)
  have kp : ∀ (s₃ : Shared) (ob : Obj), (∀ b o, b ∉ [s₁.heap.objs.size] → (s₁.heap.push ob).get? b = some o → s₃.heap.get? b = some o) → ∀ b o, s₁.heap.get? b = some o → s₃.heap.get? b = some o :=
    fun s₃ ob q b o e => q b o (by simp; exact Nat.ne_of_lt (Heap.lt_size e)) (Heap.get?_push_of_some _ e)
  refine ⟨s₁.heap.objs.size, [s₁.heap.objs.size], [s₁.heap.objs.size], n, _, _, rfl, ⟨(Walks.range hh _ 0 1 n).bound, ?_, Nat.le_trans hn (by decide), ?_, ?_, ?_, ?_⟩, ?_⟩
  · intro i h st b hb
    obtain rfl := List.mem_singleton.mp hb
    exact ⟨_, st⟩
  · show IsRangeIter _ _ _ _ _
    rw [hsz]; simpa using Heap.get?_push_size _ rfl
  · intro b hb
    rw [List.mem_singleton.mp hb]
    show _ < (Heap.push _ _).objs.size
    rw [Heap.size_push]; exact Nat.lt_succ_self _
  · rintro C i v s₃ m₃ hC ⟨hi, t, rfl⟩ hn₃ hm hk hg
    exact k.tests C i t s₃ m₃ (by rw [Heap.size_push] at hC; omega) hi hn₃ (by simpa using hm) (kp s₃ _ hk) ⟨hg.gens, hg.bare, hg.os⟩
  · rintro C i v s₃ m₃ hC ⟨hi, t, rfl⟩ _ hn₃ hm hk hg
    have := k.elt C i t s₃ m₃ (by rw [Heap.size_push] at hC; omega) hi hn₃ (by simpa using hm) (kp s₃ _ hk) ⟨hg.gens, hg.bare, hg.os⟩
    simpa using this
  · intro D s' ys vs hD hpl hlen hP hF hk hg
    have hD' : s₁.heap.get? D = none := by
      cases e : s₁.heap.get? D with
      | none => rfl
      | some o => rw [Heap.get?_push_of_some _ e] at hD; cases hD
    rw [List.filter_eq_self.mpr (by simp)] at hF
    exact hQ D s' ys.toList vs hD' (by simpa using hpl) hlen (fun j v hj => by obtain ⟨_, t, e⟩ := hP j v hj; exact ⟨t, by simpa using e⟩) hF ⟨kp s' _ hk, hg.gens, hg.bare, hg.os⟩
end
def menuS : List Str := ["(", ")", "\\(", "\")\"", "a", "\\\\"]
def pieceOf (x : Int) : List Str := (List.range (1 + x % 4).toNat).map fun k => menuS.getD ((x / 4 / 6 ^ k % 6).toNat) ""
theorem menu_at {n : Nat} (k : Nat) (h : n < 6) : ∃ v tv, ([Value.str (Str.ofString "(") k, Value.str (Str.ofString ")") (k + 1),
        Value.str (Str.ofString "\\(") (k + 1 + 1), Value.str (Str.ofString "\")\"") (k + 1 + 1 + 1),
        Value.str (Str.ofString "a") (k + 1 + 1 + 1 + 1),
        Value.str (Str.ofString "\\\\") (k + 1 + 1 + 1 + 1 + 1)] : List Value)[n]? = some v ∧ v = .str (menuS.getD n "") tv :=
  match n, h with
  | 0, _ => ⟨_, _, rfl, rfl⟩
  | 1, _ => ⟨_, _, rfl, rfl⟩
  | 2, _ => ⟨_, _, rfl, rfl⟩
  | 3, _ => ⟨_, _, rfl, rfl⟩
  | 4, _ => ⟨_, _, rfl, rfl⟩
  | 5, _ => ⟨_, _, rfl, rfl⟩
theorem paired_range {β γ : Type} {R : Value → β → Prop} {S : β → γ → Prop} {f : Nat → γ} (n b : Nat) {vs : List Value} {ys : List β} (hl : vs.length = n) (hv : ∀ (j : Nat) v, vs[j]? = some v → IsIntV v ((b + j : Nat) : Int)) (x : Paired R vs ys)
    (hS : ∀ v y j, IsIntV v ((j : Nat) : Int) → R v y → S y (f j)) : Paired S ys ((List.range' b n).map f) := by
  induction x generalizing n b with
  | nil => subst hl; exact .nil
  | cons h _ ih =>
    subst hl
    rw [List.length_cons, List.range'_succ, List.map_cons]
    exact .cons (hS _ _ b (hv 0 _ rfl) h) (ih _ (b + 1) rfl fun j v' hj => by
      have := hv (j + 1) v' hj
      rwa [show b + (j + 1) = b + 1 + j from (Nat.add_right_comm b 1 j).symm] at this)
section
variable {w : World} {E : Value → Shared → Prop} {s : Shared} {mg mb : Str → Option Value}
theorem piece_spec {x : Int} {t : Tok} {Q : Value → Shared → Prop} (T : TopF mg mb s.heap)
    (hQ : ∀ k s' ys, Ext s s' → s.heap.get? k = none → s'.heap.PlainList k ys.toArray → Paired IsStrV ys (pieceOf x) → Q (.ref k) s') :
    wpAny (model P0 w) (AL 500) (call (.ref 70) [.int x t]) Q E s := by
  refine call_fnC (T.fn "_law_piece" 70 12) T (binds := [("x", .int x t)]) (fun _ _ _ => rfl) (by simp only [List.mem_singleton, forall_eq]; exact .inr ⟨rfl, rfl⟩) fun cd h₁ tk F X => ?_
  have N : News s.heap s.heap.objs.size h₁ [] := News.nil
  have hc : h₁.IsCell (s.heap.objs.size + 1) (some (.int x t)) := X.cell (Str.ofString "x") _ rfl
  refine wpAny_execs_cons (wpAny_Return_some ?_)
  refine comp_range (fun v y => ∃ k : Nat, IsIntV v k ∧ IsStrV y (menuS.getD ((x / 4 / 6 ^ k % 6).toNat) "")) (fun _ _ => False) (cl := [("x", s.heap.objs.size + 1)]) rfl rfl (by decide) rfl (by decide) rfl ?_
  walk_at "go"
  rename_i h₂ tk₂ t₁ u₁ v₁ hR F₂ N₂ k₂
  have hn : (1 + x.fmod 4) = (((1 + x % 4).toNat : Nat) : Int) := by rw [Int.fmod_eq_emod_of_nonneg _ (by decide)]; omega
  rw [hn] at hR
  refine Here.mk ⟨_, (1 + x % 4).toNat, _, _, _, rfl, hR, by omega, ⟨?_, ?_⟩, ?_⟩
  · intro C i t s₃ m₃ hC hi hn₃ hm hk hg
    exact wpAny_tests_nil (Here.mk ⟨rfl, Ext.refl _⟩)
  · intro C i t' s₃ m₃ hC hi hn₃ hm hk hg
    have hc₃ : s₃.heap.IsCell (s.heap.objs.size + 1) (some (.int x t)) := (hc.keeps k₂).keeps hk
    have T₃ := (T.keeps F₂.keep).keeps hk
    have hi4 : i < 4 := by omega
    clear N₂ hR k₂ hc hQ T F₂ X
    generalize s.heap.objs.size + 1 = cx at *
    walk_at "go"
    refine wpAny_newObj_type ?_
    have kp : ∀ b o, s₃.heap.get? b = some o → (s₃.heap.push { cls := .type "list", dict := none, data := .seq ([Value.str (Str.ofString "(") s₃.toks, Value.str (Str.ofString ")") (s₃.toks + 1),
        Value.str (Str.ofString "\\(") (s₃.toks + 1 + 1), Value.str (Str.ofString "\")\"") (s₃.toks + 1 + 1 + 1),
        Value.str (Str.ofString "a") (s₃.toks + 1 + 1 + 1 + 1),
        Value.str (Str.ofString "\\\\") (s₃.toks + 1 + 1 + 1 + 1 + 1)] : List Value).toArray }).get? b = some o := fun b o e => Heap.get?_push_of_some _ e
    have hl := Heap.get?_push_size s₃.heap (o := { cls := .type "list", dict := none, data := .seq ([Value.str (Str.ofString "(") s₃.toks, Value.str (Str.ofString ")") (s₃.toks + 1),
        Value.str (Str.ofString "\\(") (s₃.toks + 1 + 1), Value.str (Str.ofString "\")\"") (s₃.toks + 1 + 1 + 1),
        Value.str (Str.ofString "a") (s₃.toks + 1 + 1 + 1 + 1),
        Value.str (Str.ofString "\\\\") (s₃.toks + 1 + 1 + 1 + 1 + 1)] : List Value).toArray }) rfl
    have hc₄ := hc₃.keeps kp
    have hn₄ := hn₃.keeps kp
    have T₄ := T₃.keeps kp
    dsimp only
    generalize s₃.heap.push _ = h₄ at *
    have hmod : 0 ≤ ((x.fdiv 4).fdiv (6 ^ (i : Int).toNat)).fmod 6 ∧ ((x.fdiv 4).fdiv (6 ^ (i : Int).toNat)).fmod 6 < 6 := by
      rw [Int.fmod_eq_emod_of_nonneg _ (by decide)]; omega
    have h6 : (6 : Int) ^ (i : Int).toNat ≠ 0 ∧ ((6 : Int) ^ (i : Int).toNat).natAbs < 1073741824 := by
      match i, hi4 with
      | 0, _ => decide
      | 1, _ => decide
      | 2, _ => decide
      | 3, _ => decide
    walk_at "go"
    have hix : ((x.fdiv 4).fdiv (6 ^ (i : Int).toNat)).fmod 6 = x / 4 / 6 ^ i % 6 := by
      rw [Int.fmod_eq_emod_of_nonneg _ (by decide), Int.fdiv_eq_ediv_of_nonneg (x.fdiv 4) (Int.pow_nonneg (by decide)), Int.fdiv_eq_ediv_of_nonneg x (by decide), Int.toNat_natCast]
    rw [hix] at hmod
    rw [hix]
    obtain ⟨v, tv, hv, rfl⟩ := menu_at (n := (x / 4 / 6 ^ i % 6).toNat) s₃.toks (by omega)
    refine item_at ⟨_, hl, rfl, _, rfl⟩ hmod.1 (by omega) hv ?_
    exact Here.mk ⟨.inl ⟨i, ⟨_, rfl⟩, ⟨_, rfl⟩⟩, ⟨kp, fun _ _ e => e, fun e => e, rfl⟩⟩
  · intro D s' ys vs hD hpl hlen hP hF X'
    refine hQ D s' ys ⟨fun b o e => X'.keep b o (k₂ b o (by rename Fr _ _ h₁ _ => F₁; exact F₁.keep b o e)), X'.gens, X'.bare, X'.os⟩ ?_ hpl ?_
    · cases e : s.heap.get? D with
      | none => rfl
      | some o => have := F₂.keep D o e; rw [hD] at this; cases this
    · unfold pieceOf
      rw [List.range_eq_range']
      refine paired_range _ 0 hlen (fun j v hj => by rw [Nat.zero_add]; exact hP j v hj) hF fun v y j hv hy => ?_
      rcases hy with ⟨k, ⟨_, e1⟩, hy⟩ | ⟨_, _, _, _, _, hf⟩
      · obtain ⟨_, e2⟩ := hv
        rw [e1] at e2
        injection e2 with e2
        have : k = j := by omega
        subst this
        exact hy
      · exact hf.elim
end
end
section
open PySem PySem.W PyProof.Rows PySem.Calls PySem.Spec
set_option maxRecDepth 100000
set_option maxHeartbeats 4000000
section
variable {w : World} {A : Around} {E : Value → Shared → Prop} {env : Env}
theorem newEnv_cell {s : Shared} {scope : Scope} {cl : List (Str × Addr)} {g : Addr} {q : Str} {x1 : Str} {Q : Env → Shared → Prop}
    (hpush : ∀ h, pushCells h scope.names = h.push { cls := .type "cell", data := .cell none }) (hfrom : ∀ n, cellsFrom n scope.names cl = (x1, n) :: cl)
    (h : Q { scope, locals := s.heap.objs.size, globals := g, cells := (x1, s.heap.objs.size + 1) :: cl, qual := q, func := none, code := env.code, frame := env.frame, builtins := env.builtins }
      { s with heap := (s.heap.push { cls := .type "dict", data := .dict #[] }).push { cls := .type "cell", data := .cell none } }) :
    wpAny (model P0 w) A (newFunctionEnv scope g cl [] q none .none (some env)) Q E s := by
  simp only [newFunctionEnv, Option.isSome_some, if_true]
  refine wpAny_bind (wpAny_alloc ?_)
  refine wpAny_bind (wpAny_layCells _ (fun name kind cells => by cases hkc : kind == NameKind.cell <;> simp [hkc]) _ _ _ _ ?_)
  rw [hpush, show ({ s with heap := s.heap.push { cls := .type "dict", data := .dict #[] } } : Shared).heap.objs.size = s.heap.objs.size + 1 from Heap.size_push .., hfrom]
  refine wpAny_bind (wpAny_pure (wpAny_pure h))

theorem comp2_cell {β : Type} {s : Shared} {elt i1 i2 : Expr} {x1 x2 : Str} {p1 p2 : Pos} {scope : Scope} {cl : List (Str × Addr)} {pos : Pos} {Q : Value → Shared → Prop} (G : β → Value → Prop) (O : β → Addr → Obj → Prop) (inner : Value → List β)
    (hh : A.handled = none) (hclos : closureFor scope env = pure cl) (hkind : scope.kind = .function)
    (hpush : ∀ h, pushCells h scope.names = h.push { cls := .type "cell", data := .cell none }) (hfrom : ∀ n, cellsFrom n scope.names cl = (x1, n) :: cl)
    (hnames : ∀ y ∈ scope.names, y.2 = .local → scope.names.lookup y.1 = some .local) (hx1 : (relabel scope env).names.lookup x1 = some .cell) (hx2 : scope.names.lookup x2 = some .local)
    (h : wpAny (model P0 w) A (eval i1 env) (fun xv s₁ => Here (∃ (l : Addr) (vs : List Value), xv = .ref l ∧ s₁.heap.IsList l vs.toArray ∧ vs.length ≤ 100 ∧
      (∀ (C D c : Addr) (X : List Addr) (i : Nat) v s₂ m₂, (∀ b ∈ X, s₁.heap.get? b = none) → vs[i]? = some v → s₂.heap.Ns C m₂ → C ∈ X → D ∈ X → c ∈ X → c ≠ C → c ≠ D → s₂.heap.IsCell c (some v) → (∀ b ∈ X, ∃ o, s₂.heap.get? b = some o) → (∀ b o, s₁.heap.get? b = some o → s₂.heap.get? b = some o) → GExt s₁ s₂ →
        (inner v).length ≤ 100 ∧ InnerOk β w A (compEnvC scope ((x1, c) :: cl) C env) C D X x2 i2 elt G O (inner v) m₂ s₂) ∧
      (∀ D s' ys, s₁.heap.get? D = none → s'.heap.PlainList D ys.toArray → Paired (fun b y => ElB G O [D] b y s'.heap) (vs.flatMap inner) ys → Ext s₁ s' → Q (.ref D) s'))) E s)
    (hs : ∀ x, foldedSetIterable i1 env x = pure x := by intro _; rfl) (hs2 : ∀ C x, foldedSetIterable i2 (compEnvC scope ((x1, C + 1) :: cl) C env) x = pure x := by intro _ _; rfl) :
    wpAny (model P0 w) A (eval (.ListComp elt [⟨.Name x1 p1, i1, [], 0⟩, ⟨.Name x2 p2, i2, [], 0⟩] scope pos) env) Q E s := by
  rw [eval_ListComp]
  refine wpAny_comprehension_free (use := none) rfl hs hclos hkind hnames (wpAny_mono h (fun xv s₁ h₁ => ?_) fun _ _ e => e)
  obtain ⟨l, vs, rfl, hl, hz, hin, hQ⟩ := h₁
  refine wpAny_pyIter_list hl ?_
  refine wpAny_newObj_type (newEnv_cell hpush hfrom ?_)
  dsimp only
  generalize hH1 : s₁.heap.push { cls := .type "list_iterator", data := .fields #[.ref l, .int 0 0] } = H1
  generalize hH2 : H1.push { cls := .type "list", dict := none, data := .seq ([] : List Value).toArray } = H2
  generalize hH3 : H2.push { cls := .type "dict", data := .dict #[] } = H3
  generalize hh₁ : H3.push { cls := .type "cell", data := .cell none } = h₁
  have z1 : H1.objs.size = s₁.heap.objs.size + 1 := by rw [← hH1, Heap.size_push]
  have z2 : H2.objs.size = s₁.heap.objs.size + 2 := by rw [← hH2, Heap.size_push, z1]
  have z3 : H3.objs.size = s₁.heap.objs.size + 3 := by rw [← hH3, Heap.size_push, z2]
  have hns₁ : h₁.Ns H2.objs.size (fun _ => none) := by rw [← hh₁, ← hH3]; exact (Heap.Ns.new H2 (.type "dict")).push _
  have hc₁ : h₁.IsCell (H2.objs.size + 1) none := ⟨_, by rw [← hh₁, show H2.objs.size + 1 = H3.objs.size by omega]; exact Heap.get?_push_size _ rfl, rfl⟩
  have hlz : l < s₁.heap.objs.size := let ⟨_, e, _⟩ := hl; Heap.lt_size e
  have old : ∀ b o, s₁.heap.get? b = some o → h₁.get? b = some o := fun b o e => hh₁ ▸ Heap.get?_push_of_some _ (hH3 ▸ Heap.get?_push_of_some _ (hH2 ▸ Heap.get?_push_of_some _ (hH1 ▸ Heap.get?_push_of_some _ e)))
  have hacc : h₁.PlainList H1.objs.size #[] := ⟨_, hh₁ ▸ Heap.get?_push_of_some _ (hH3 ▸ Heap.get?_push_of_some _ (hH2 ▸ Heap.get?_push_size _ rfl))⟩
  have hit : h₁.IsListIter s₁.heap.objs.size l 0 := ⟨_, hh₁ ▸ Heap.get?_push_of_some _ (hH3 ▸ Heap.get?_push_of_some _ (hH2 ▸ Heap.get?_push_of_some _ (hH1 ▸ Heap.get?_push_size _ rfl))), rfl, rfl⟩
  have fresh : ∀ a, s₁.heap.objs.size ≤ a → s₁.heap.get? a = none := fun a ha => get_none_of_ge ha
  have newX : ∀ b ∈ [H2.objs.size, H1.objs.size, s₁.heap.objs.size, H2.objs.size + 1], s₁.heap.get? b = none := fun b hb => by
    apply fresh
    simp only [List.mem_cons, List.not_mem_nil, or_false] at hb
    rcases hb with rfl | rfl | rfl | rfl <;> omega
  have oldX : ∀ b o, s₁.heap.get? b = some o → b ∉ [H2.objs.size, H1.objs.size, s₁.heap.objs.size, H2.objs.size + 1] := fun b o e q => by rw [newX b q] at e; cases e
  have loop : ∀ s₃ : Shared, s₃ = { s₁ with heap := h₁ } →
      codeAny (model P0 w) A (.compLoop (.ListComp elt [⟨.Name x1 p1, i1, [], 0⟩, ⟨.Name x2 p2, i2, [], 0⟩] scope pos) 0 (.ref s₁.heap.objs.size) (.ref H1.objs.size) (compEnvC scope ((x1, H2.objs.size + 1) :: cl) H2.objs.size env))
        (compPost (model P0 w) A E none Q (.ref H1.objs.size) H2.objs.size) s₃ := by
    rintro s₃ rfl
    refine comp2_outer (cells := [H2.objs.size + 1]) (C := H2.objs.size) (cenv := compEnvC scope ((x1, H2.objs.size + 1) :: cl) H2.objs.size env) G O inner (fun v h _ => h.IsCell (H2.objs.size + 1) (some v)) hh rfl (lookup_relabel_local hx2) (by simp [compEnvC, relabel, hkind]) rfl (Nat.ne_of_lt (by omega)) (Nat.ne_of_lt (by omega)) (Nat.ne_of_lt (by omega))
      (by rw [List.mem_singleton]; exact Nat.ne_of_lt (by omega)) (by rw [List.mem_singleton]; exact Nat.ne_of_lt (by omega)) (by simp)
      (fun q => by obtain ⟨o, e, _⟩ := hl; exact oldX l o e q) hz (fun _ => rfl) ?_ hit (isList_keeps hl old) hacc ⟨_, hns₁⟩ (by simp only [List.mem_singleton, forall_eq]; exact ⟨_, hc₁⟩) ?_ ?_ (hs2 _)
    · intro v s Q E m hn hc hQ
      obtain ⟨u, hc⟩ := hc (H2.objs.size + 1) (by simp)
      refine wpAny_assign_Name (wpAny_storeName_cell hkind hx1 (by simp [compEnvC]) hc (fun h' hc' hs' => ?_))
      exact hQ h' _ m (hn.sameBut hs' (Nat.ne_of_lt (Nat.lt_succ_self _))) (by simp only [List.mem_singleton, forall_eq]; exact ⟨_, hc'⟩) hc' fun b o _ h2 e => hs'.extBut b o (fun q => h2 (by simp [q])) e
    · intro i v s₂ m₂ hv hn hm lv hk hg
      exact hin _ H1.objs.size (H2.objs.size + 1) _ i v s₂ m₂ newX hv hn (by simp) (by simp) (by simp) (Nat.ne_of_gt (Nat.lt_succ_self _)) (Nat.ne_of_gt (by omega)) hm lv (fun b o e => hk b o (oldX b o e) (old b o e)) ⟨hg.gens, hg.bare, hg.os⟩
    · intro s' m' ys hn' hpl hF hk hg
      refine ⟨m', hn', fun h'' hs'' => hQ _ _ ys (fresh _ (by omega)) (hpl.at fun o e => hs''.extBut _ o (Nat.ne_of_lt (by omega)) e) (paired_mono (fun b y e => ?_) hF) ⟨fun b o e => hs''.extBut b o (Nat.ne_of_lt (Nat.lt_of_lt_of_le (Heap.lt_size e) (by omega))) (hk b o (oldX b o e) (old b o e)), hg.gens, hg.bare, hg.os⟩⟩
      rcases e with e | ⟨r, o, rfl, hr, ho, hO⟩
      · exact .inl e
      · simp only [List.mem_cons, not_or] at hr
        exact .inr ⟨r, o, rfl, by simp [hr.2.1], hs''.extBut r o hr.1 ho, hO⟩
  exact codeAny_compStart_list (loop _ rfl) (wpAny_pyIter_listiter hit (loop _ rfl))
end
end
section
open PySem PySem.W PyProof.Rows PySem.Calls PySem.Spec
set_option maxRecDepth 100000
set_option maxHeartbeats 4000000
local macro_rules | `(tactic| walk_at "eval Name") => `(tactic| first | refine nm_cell (by assumption) rfl ?_ | walk_at "nm_l" | walk_at "nm_t")
def ordersOf : Nat → List Int → List (List Int)
  | _, [] => [[]]
  | 0, _ => []
  | n + 1, ps => ps.flatMap fun k => (ordersOf n (ps.filter (· ≠ k))).map (k :: ·)
def IntsO (b : List Int) (o : Obj) : Prop := ∃ (zs : List Value) (n : Nat), o = { cls := .type "list", data := .seq zs.toArray n } ∧ Paired IsIntV zs b
theorem paired_eq {α : Type} {l₁ l₂ : List α} (x : Paired (fun a b => a = b) l₁ l₂) : l₁ = l₂ := by
  induction x with
  | nil => rfl
  | cons h _ ih => rw [h, ih]
theorem paired_filter {z : Int} {vs : List Value} {ps : List Int} (x : Paired IsIntV vs ps) : Paired IsIntV (vs.filter (fun v => match v with | .int j _ => j != z | _ => false)) (ps.filter (· ≠ z)) := by
  induction x with
  | nil => exact .nil
  | @cons v p _ _ h _ ih =>
    obtain ⟨t, rfl⟩ := h
    rw [List.filter_cons, List.filter_cons]
    by_cases h : p = z
    · simp only [h, bne_self_eq_false, ne_eq, not_true_eq_false, decide_false, Bool.false_eq_true, if_false]
      rw [← h] at ih ⊢
      exact ih
    · simp only [bne_iff_ne, ne_eq, h, not_false_eq_true, decide_true, if_true]
      exact .cons ⟨t, rfl⟩ ih
def fac : Nat → Nat
  | 0 => 1
  | n + 1 => (n + 1) * fac n
theorem fac_pos : ∀ n, 1 ≤ fac n
  | 0 => Nat.le_refl _
  | n + 1 => Nat.mul_le_mul (Nat.le_add_left 1 n) (fac_pos n)
theorem fac_le : ∀ n, n ≤ 4 → fac n ≤ 100
  | 0, _ => by decide
  | 1, _ => by decide
  | 2, _ => by decide
  | 3, _ => by decide
  | 4, _ => by decide
  | n + 5, h => absurd h (by omega)
theorem filter_shorter {ps : List Int} {k : Int} (h : k ∈ ps) {n : Nat} (hl : ps.length ≤ n + 1) : (ps.filter (· ≠ k)).length ≤ n := by
  have : (ps.filter (· ≠ k)).length < ps.length := by
    rw [List.length_filter_lt_length_iff_exists]
    exact ⟨k, h, by simp⟩
  omega
theorem flat_len {α β : Type} (f : α → List β) (k : Nat) : ∀ (l : List α), (∀ a ∈ l, (f a).length ≤ k) → (l.flatMap f).length ≤ l.length * k
  | [], _ => by simp
  | a :: l, h => by
    have := flat_len f k l fun b hb => h b (List.mem_cons_of_mem _ hb)
    have h1 := h a List.mem_cons_self
    simp only [List.flatMap_cons, List.length_append, List.length_cons, Nat.succ_mul]
    omega
theorem orders_len : ∀ (n : Nat) (ps : List Int), ps.length ≤ n → (ordersOf n ps).length ≤ fac n
  | 0, [], _ => by simp [ordersOf, fac]
  | n + 1, [], _ => by simp only [ordersOf, List.length_singleton]; exact fac_pos _
  | n + 1, p :: ps, h => by
    unfold ordersOf
    refine Nat.le_trans (flat_len _ (fac n) _ fun k hk => ?_) (Nat.mul_le_mul_right _ h)
    rw [List.length_map]
    exact orders_len n _ (filter_shorter hk h)
theorem orders_short : ∀ (n : Nat) (ps : List Int) (b : List Int), b ∈ ordersOf n ps → b.length ≤ n
  | 0, [], b, h => by simp [ordersOf] at h; simp [h]
  | n + 1, [], b, h => by simp [ordersOf] at h; simp [h]
  | 0, _ :: _, b, h => by simp [ordersOf] at h
  | n + 1, p :: ps, b, h => by
    rw [ordersOf, List.mem_flatMap] at h
    · obtain ⟨k, _, h⟩ := h
      obtain ⟨x, hx, rfl⟩ := List.mem_map.mp h
      have := orders_short n _ x hx
      simp; omega
    · intro e; cases e
theorem add_lists0 {A : Around} {s : Shared} {w : World} {E : Value → Shared → Prop} {l b : Addr} {vs ws : List Value} {Q : Value → Shared → Prop} (hl : s.heap.IsList l vs.toArray) (hb : s.heap.IsList b ws.toArray)
    (h : Q (.ref s.heap.objs.size) { s with heap := s.heap.push { cls := .type "list", data := .seq (vs ++ ws).toArray } })
    (hsz : vs.length + ws.length ≤ sizeLine) :
    wpAny (model P0 w) A (binaryOp .Add (.ref l) (.ref b)) Q E s := by
  obtain ⟨⟨cls, dd, data, sl⟩, ho, hc, n, hd⟩ := id hl
  obtain ⟨⟨cls2, dd2, data2, sl2⟩, ho2, hc2, n2, hd2⟩ := id hb
  simp only at hc hd hc2 hd2
  subst hc hd hc2 hd2
  have e : vs.toArray ++ ws.toArray = (vs ++ ws).toArray := by simp
  refine concat_meets ⟨_, ho, rfl⟩ ⟨_, ho2, rfl⟩ noFill_list_add seq_list_add PySem.F.slot_list_add PySem.F.entry_list_add (PySem.F.args_list_add_2 _ _) (list_addW l b vs.toArray ws.toArray n n2 dd dd2 sl sl2 (by simpa using hsz)) ⟨ho, ho2, ?_⟩
  rw [e]
  exact h
theorem flat_ints {β : Type} {f : Int → List β} {vs : List Value} {ps : List Int} (x : Paired IsIntV vs ps) : vs.flatMap (fun v => match v with | .int k _ => f k | _ => []) = ps.flatMap f := by
  induction x with
  | nil => rfl
  | cons h _ ih =>
    obtain ⟨t, rfl⟩ := h
    rw [List.flatMap_cons, List.flatMap_cons, ih]
section
variable {w : World} {mg mb : Str → Option Value}
theorem orders_nil (n k : Nat) {E : Value → Shared → Prop} {s : Shared} {p : Addr} {Q : Value → Shared → Prop} (hk : k ≤ 600) (T : TopF mg mb s.heap) (hp : s.heap.IsList p ([] : List Value).toArray)
    (hQ : ∀ D s' ys, s.heap.get? D = none → s'.heap.PlainList D ys.toArray → Paired (fun b y => ElB (fun _ _ => False) (fun b r o => s.heap.get? r = none ∧ IntsO b o) [D] b y s'.heap) (ordersOf n []) ys → Ext s s' → Q (.ref D) s') :
    wpAny (model P0 w) (AL k) (call (.ref 101) [.ref p]) Q E s := by
  refine call_fnC (T.fn "_law_orders" 101 17) T (binds := [("places", .ref p)]) (fun _ _ _ => rfl) (by simp only [List.mem_singleton, forall_eq]; exact .inr ⟨rfl, rfl⟩) (fun cd h₁ tk F X => ?_) (Nat.lt_of_le_of_lt (show k ≤ 600 by omega) (by decide))
  have hc : h₁.IsCell (s.heap.objs.size + 1) (some (.ref p)) := X.cell (Str.ofString "places") _ rfl
  obtain ⟨m, F⟩ : ∃ m, Fr s.heap s.heap.objs.size h₁ m := ⟨_, F⟩
  clear X
  obtain ⟨oc, hoc, hdc⟩ := id hc
  have N : News s.heap s.heap.objs.size h₁ [(s.heap.objs.size + 1, oc)] := fun p hp => by
    rw [List.mem_singleton.mp hp]; exact ⟨hoc, Nat.ne_of_gt (Nat.lt_succ_self _), get_none_of_ge (Nat.le_succ _)⟩
  have hp₁ := isList_keeps hp F.keep
  refine wpAny_execs_cons ?_
  walk1
  walk1
  walk1
  walk1
  walk1
  walk1
  rename_i h₂ F₂ N₂
  have hl₂ : h₂.IsList h₁.objs.size #[] := ⟨_, N₂.get (.head _), rfl, _, rfl⟩
  have hp₂ := isList_keeps hp F₂.keep
  have hc₂ : h₂.IsCell (s.heap.objs.size + 1) (some (.ref p)) := ⟨oc, N₂.get (.tail _ (.head _)), hdc⟩
  have hu : ((AL k).deeper (envOfC (dName (stAt 17)) (dScope (stAt 17)) s.heap.objs.size 101 (Value.ref cd))).units < cLine := Nat.lt_of_le_of_lt (show 8 * k + 3 ≤ 4803 by omega) (by decide)
  refine SeqAt.eq_listAt (e := fun _ => true) hp₂ hl₂ rfl hu (fun j h1 _ => absurd h1 (Nat.not_lt_zero _)) ?_
  walk_at "go"
  rename_i h₃ F₃ N₃ h₄ F₄ N₄
  have e : ordersOf n [] = [[]] := by cases n <;> rfl
  refine hQ _ _ [_] (get_none_of_ge (Nat.le_of_lt (Nat.lt_of_le_of_lt F₃.above F₃.ns.lt))) ⟨_, N₄.get (.head _)⟩ ?_ ⟨F₄.keep, fun _ _ e => e, fun e => e, rfl⟩
  rw [e]
  refine .cons (.inr ⟨_, _, rfl, ?_, N₄.get (.tail _ (.head _)), get_none_of_ge (Nat.le_of_lt (Nat.lt_of_le_of_lt F₂.above F₂.ns.lt)), ⟨[], _, rfl, .nil⟩⟩) .nil
  rw [List.mem_singleton]
  exact Nat.ne_of_lt (Heap.lt_size (N₃.get (.head _)))
theorem orders_spec : ∀ (n k : Nat) {E : Value → Shared → Prop} {s : Shared} {p : Addr} {vs : List Value} {ps : List Int} {Q : Value → Shared → Prop}, k + 10 * n ≤ 600 → ps.length ≤ n → n ≤ 4 → TopF mg mb s.heap → s.heap.IsList p vs.toArray → Paired IsIntV vs ps →
    (∀ D s' ys, s.heap.get? D = none → s'.heap.PlainList D ys.toArray → Paired (fun b y => ElB (fun _ _ => False) (fun b r o => s.heap.get? r = none ∧ IntsO b o) [D] b y s'.heap) (ordersOf n ps) ys → Ext s s' → Q (.ref D) s') →
    wpAny (model P0 w) (AL k) (call (.ref 101) [.ref p]) Q E s := by
  intro n
  induction n with
  | zero =>
    intro k E s p vs ps Q hk hl hn4 T hp hvs hQ
    cases hvs with
    | nil => exact orders_nil 0 k (by omega) T hp hQ
    | cons h₁' t' => simp at hl
  | succ n ih =>
    intro k E s p vs ps Q hk hl hn4 T hp hvs hQ
    cases hvs with
    | nil => exact orders_nil (n + 1) k (by omega) T hp hQ
    | @cons v z vs ps h₁' t' =>
      refine call_fnC (T.fn "_law_orders" 101 17) T (binds := [("places", .ref p)]) (fun _ _ _ => rfl) (by simp only [List.mem_singleton, forall_eq]; exact .inr ⟨rfl, rfl⟩) (fun cd h₁ tk F X => ?_) (Nat.lt_of_le_of_lt (show k ≤ 600 by omega) (by decide))
      have hc : h₁.IsCell (s.heap.objs.size + 1) (some (.ref p)) := X.cell (Str.ofString "places") _ rfl
      obtain ⟨m, F⟩ : ∃ m, Fr s.heap s.heap.objs.size h₁ m := ⟨_, F⟩
      clear X
      obtain ⟨oc, hoc, hdc⟩ := id hc
      have N : News s.heap s.heap.objs.size h₁ [(s.heap.objs.size + 1, oc)] := fun p hp => by
        rw [List.mem_singleton.mp hp]; exact ⟨hoc, Nat.ne_of_gt (Nat.lt_succ_self _), get_none_of_ge (Nat.le_succ _)⟩
      have hp₁ := isList_keeps hp F.keep
      refine wpAny_execs_cons ?_
      walk1
      walk1
      walk1
      walk1
      walk1
      walk1
      rename_i h₂ F₂ N₂
      have hl₂ : h₂.IsList h₁.objs.size #[] := ⟨_, N₂.get (.head _), rfl, _, rfl⟩
      have hp₂ := isList_keeps hp F₂.keep
      have hc₂ : h₂.IsCell (s.heap.objs.size + 1) (some (.ref p)) := ⟨oc, N₂.get (.tail _ (.head _)), hdc⟩
      have hu : ((AL k).deeper (envOfC (dName (stAt 17)) (dScope (stAt 17)) s.heap.objs.size 101 (Value.ref cd))).units < cLine := Nat.lt_of_le_of_lt (show 8 * k + 3 ≤ 4803 by omega) (by decide)
      refine SeqAt.eq_list_lengthsAt hp₂ hl₂ (by simp) hu ?_
      refine wpAny_truthy_bool ?_
      rw [if_neg (by decide)]
      refine wpAny_execs_nil ?_
      refine wpAny_execs_cons ?_
      refine wpAny_Return_some ?_
      have hvs : Paired IsIntV (v :: vs) (z :: ps) := .cons h₁' t'
      refine comp2_cell (β := List Int) (fun _ _ => False) (fun b r o => s.heap.get? r = none ∧ IntsO b o) (fun v => match v with | .int k _ => (ordersOf n ((z :: ps).filter (· ≠ k))).map (k :: ·) | _ => []) (cl := [(Str.ofString "places", s.heap.objs.size + 1)]) rfl rfl rfl (fun _ => rfl) (fun _ => rfl) (by decide) rfl rfl ?_
      walk1
      refine Here.mk ⟨p, v :: vs, rfl, hp₂, by have := hvs.length; omega, ?_, ?_⟩
      · intro C D c X i v' s₂ m₂ hX hv hn hCX hDX hcX hcC hcD hcell lv hk₂ hg
        obtain ⟨z', hz', tz, rfl⟩ := paired_get hvs hv
        refine ⟨?_, ?_⟩
        · dsimp only
          rw [List.length_map]
          exact Nat.le_trans (orders_len n _ (filter_shorter (List.mem_of_getElem? hz') hl)) (fac_le n (by omega))
        · unfold InnerOk
          have hp₃ := isList_keeps hp₂ hk₂
          have hc₃ := hc₂.keeps hk₂
          have T₃ := (T.keeps F₂.keep).keeps hk₂
          refine wpAny_Call_NameR ?_
          walk1
          refine call_top (T₃.fn "_law_orders" 101 17) ?_
          walk1
          refine comp_list (fun v => match v with | .int j _ => j != z' | _ => false) (fun v y => v = y) (fun _ _ => False) (cl := [(Str.ofString "k", c)]) rfl rfl (by decide) rfl (by decide) rfl ?_
          walk1
          refine Here.mk ⟨p, v :: vs, rfl, hp₃, Nat.le_trans (show (v :: vs).length ≤ 100 by have := hvs.length; omega) (by decide), ⟨?_, ?_⟩, ?_⟩
          · intro C' i' v₂ s₄ m₄ hC' hv₂ hn₄ hm₄ hk₄ hg₄
            obtain ⟨z₂, hz₂, t₂, rfl⟩ := paired_get hvs hv₂
            have hc₄ := hcell.keeps hk₄
            refine wpAny_tests_one ?_
            walk_at "go"
            exact Here.mk ⟨rfl, Ext.refl _⟩
          · intro C' i' v₂ s₄ m₄ hC' hv₂ hp₂ hn₄ hm₄ hk₄ hg₄
            walk_at "go"
            exact Here.mk ⟨.inl rfl, Ext.refl _⟩
          · intro D' s₄ ys hD' hpl' hF' x₄
            have hys : ys = (v :: vs).filter (fun v => match v with | .int j _ => j != z' | _ => false) := (paired_eq (paired_mono (fun a b e => e.elim id fun ⟨_, _, _, _, _, f⟩ => f.elim) hF')).symm
            have hP' : Paired IsIntV ys ((z :: ps).filter (· ≠ z')) := hys ▸ paired_filter hvs
            have hlen : ((z :: ps).filter (· ≠ z')).length ≤ n := filter_shorter (List.mem_of_getElem? hz') hl
            walk_at "go"
            · exact x₄.keep _ _ (by assumption)
            refine AL.of (k + 10) rfl (show k + 1 ≤ k + 10 by omega) (show 8 * k + 3 ≤ 8 * (k + 10) by omega) ?_
            refine ih (k + 10) (by omega) hlen (by omega) (T₃.keeps x₄.keep) hpl'.isList hP' ?_
            intro D₂ s₅ ys₂ hD₂ hpl₂ hF₂ x₅
            have x₂₅ : Ext s₂ s₅ := x₄.trans x₅
            refine Here.mk ⟨D₂, ys₂, rfl, hpl₂.isList, ?_, ?_, ?_, x₂₅, ?_⟩
            · intro q
              obtain ⟨o, e⟩ := lv D₂ q
              rw [x₄.keep _ _ e] at hD₂; cases hD₂
            · rw [List.length_map]; exact hF₂.length.symm
            · rw [← hF₂.length]; exact Nat.le_trans (orders_len n _ hlen) (fac_le n (by omega))
            · intro j u b s₆ m₆ hu hb hn₆ hm₆ hmm hk₆ hg₆
              obtain ⟨b', hb', rfl⟩ : ∃ b', (ordersOf n ((z :: ps).filter (· ≠ z')))[j]? = some b' ∧ z' :: b' = b := by
                rw [List.getElem?_map] at hb
                obtain ⟨b', h1, h2⟩ := Option.map_eq_some_iff.mp hb
                exact ⟨b', h1, h2⟩
              obtain ⟨u', hu', hel⟩ := paired_get hF₂ hb'
              rw [hu] at hu'
              cases hu'
              rcases hel with hf | ⟨r, o, rfl, hr, ho, hr0, zs, nn, rfl, hzs⟩
              · exact hf.elim
              have hrX : ∀ a ∈ X, r ≠ a := fun a ha q => by
                obtain ⟨o, e⟩ := lv a ha
                rw [← q] at e
                rw [x₄.keep _ _ e] at hr0; cases hr0
              have hr₆ : s₆.heap.IsList r zs.toArray := ⟨_, hk₆ _ _ (hrX C hCX) (hrX D hDX) ho, rfl, _, rfl⟩
              have hc₆ : s₆.heap.IsCell c (some (.int z' tz)) := let ⟨o, e, q⟩ := hcell; ⟨o, hk₆ _ _ hcC hcD (x₂₅.keep _ _ e), q⟩
              walk_at "go"
              refine wpAny_newObj_type ?_
              have kp : ∀ b o, s₆.heap.get? b = some o → (s₆.heap.push { cls := .type "list", dict := none, data := .seq ([Value.int z' tz] : List Value).toArray }).get? b = some o := fun b o e => Heap.get?_push_of_some _ e
              have hl₇ : (s₆.heap.push { cls := .type "list", dict := none, data := .seq ([Value.int z' tz] : List Value).toArray }).IsList s₆.heap.objs.size #[Value.int z' tz] := ⟨_, Heap.get?_push_size _ rfl, rfl, _, rfl⟩
              have hn₇ := hn₆.keeps kp
              have hr₇ := isList_keeps hr₆ kp
              have z₇ := Heap.size_push s₆.heap { cls := .type "list", dict := none, data := .seq ([Value.int z' tz] : List Value).toArray }
              generalize s₆.heap.push _ = h₇ at *
              walk_at "go"
              have hzl : zs.length ≤ n := by rw [hzs.length]; exact orders_short n _ b' (List.mem_of_getElem? hb')
              refine add_lists0 (vs := [.int z' tz]) (ws := zs) hl₇ hr₇ ?_ (Nat.le_trans (show _ ≤ 10 by simp; omega) (by decide))
              have hfresh : ∀ a o, s.heap.get? a = some o → s₆.heap.get? a = some o := fun a o e => by
                have e2 := hk₂ a o (F₂.keep a o e)
                refine hk₆ a o (fun q => ?_) (fun q => ?_) (x₂₅.keep a o e2)
                · have := hX a (q ▸ hCX); rw [F₂.keep a o e] at this; cases this
                · have := hX a (q ▸ hDX); rw [F₂.keep a o e] at this; cases this
              refine Here.mk ⟨.inr ⟨_, _, rfl, get_none_of_ge (by dsimp only; omega), Heap.get?_push_size _ rfl, ?_, [.int z' tz] ++ zs, _, rfl, .cons ⟨_, rfl⟩ hzs⟩, ⟨fun b o e => Heap.get?_push_of_some _ (kp b o e), fun _ _ e => e, fun e => e, rfl⟩⟩
              cases e : s.heap.get? h₇.objs.size with
              | none => rfl
              | some o => exact absurd (Heap.lt_size (hfresh _ o e)) (by rw [z₇]; exact Nat.not_lt.mpr (Nat.le_succ _))
      · intro D s' ys hD hpl hF x
        have e : ordersOf (n + 1) (z :: ps) = (z :: ps).flatMap fun k => (ordersOf n ((z :: ps).filter (· ≠ k))).map (k :: ·) := rfl
        refine hQ D s' ys ?_ hpl ?_ ⟨fun b o e => x.keep b o (F₂.keep b o e), x.gens, x.bare, x.os⟩
        · cases e : s.heap.get? D with
          | none => rfl
          | some o => have := F₂.keep D o e; rw [hD] at this; cases this
        · rw [e, ← flat_ints hvs]
          exact hF
end
end
section
open PySem PySem.W PyProof.Rows PySem.Calls PySem.Spec
set_option maxRecDepth 100000
set_option maxHeartbeats 4000000
local macro_rules | `(tactic| walk_at "own pad") => `(tactic| skip)
/-- reduce and what stands by it -/
structure RedF (mg : Str → Option Value) (h : Heap) : Prop where
  fn : ∃ o pm c doc, h.get? 51 = some o ∧ o.data = .func { docDef (dName (stAt 7)) (dParams (stAt 7)) (dBody (stAt 7)) (dScope (stAt 7)) pm (.ref c) doc with defaults := .ref 44 } ∧ h.CodeRec (.ref c) (dName (stAt 7))
  tup : ∃ o n, h.get? 44 = some o ∧ o.data = .seq #[.ref 43] n
  nm : mg (Str.ofString "_initial_missing") = some (.ref 43)
  red : mg (Str.ofString "reduce") = some (.ref 51)
theorem RedF.keeps {mg : Str → Option Value} {h h' : Heap} (x : RedF mg h) (k : ∀ b o, h.get? b = some o → h'.get? b = some o) : RedF mg h' :=
  ⟨let ⟨o, pm, c, doc, e, d, r⟩ := x.fn; ⟨o, pm, c, doc, k _ _ e, d, r.keeps k⟩, let ⟨o, n, e, d⟩ := x.tup; ⟨o, n, k _ _ e, d⟩, x.nm, x.red⟩

section
variable {w : World} {A : Around} {E : Value → Shared → Prop} {s : Shared} {mg mb : Str → Option Value}
theorem call_iter_list {l : Addr} {items : Array Value} {Q : Value → Shared → Prop} (hl : s.heap.IsList l items)
    (h : Q (.ref s.heap.objs.size) { s with heap := s.heap.push { cls := .type "list_iterator", data := .fields #[.ref l, .int 0 0] } }) :
    wpAny (model P0 w) A (call (.builtin "iter") [.ref l]) Q E s := by
  refine call_function_entry (by decide +kernel) (by decide +kernel) kdk_entry_iter (kdk_args_iter _) ?_
  unfold Builtin.«iter»
  refine wpAny_bind (m := someArgs "iter" 1 2 _) (wpAny_of_eq (a := [Value.ref l]) (by first | rfl | kernel_rfl!) ?_)
  show wpAny _ _ (pyIter (.ref l) >>= _) _ _ _
  refine wpAny_bind (wpAny_pyIter_list hl ?_)
  exact wpAny_pure ⟨_, rfl, h⟩
theorem call_next_list {it l : Addr} {i : Nat} {items : Array Value} {x : Value} {Q : Value → Shared → Prop} (hit : s.heap.IsListIter it l i) (hl : s.heap.IsList l items) (hx : items[i]? = some x)
    (hQ : ∀ h', h'.IsListIter it l (i + 1) → Heap.SameBut it s.heap h' → Q x { s with heap := h' }) :
    wpAny (model P0 w) A (call (.builtin "next") [.ref it]) Q E s := by
  refine call_function_entry (by decide +kernel) (by decide +kernel) kdk_entry_next (kdk_args_next _) ?_
  unfold Builtin.«next»
  refine wpAny_bind (m := someArgs "next" 1 2 _) (wpAny_of_eq (a := [Value.ref it]) (by first | rfl | kernel_rfl!) ?_)
  dsimp only
  obtain ⟨o, ho, hc, hd⟩ := id hit
  obtain ⟨ol, hol, _, nl, hdl⟩ := hl
  refine wpAny_bind (wpAny_specialOf (name := Str.ofString "__next__") hit.typeIs slot_listiter_next.lookup ?_)
  refine wpAny_ite_split (fun hab => absurd hab (by decide)) (fun _ => ?_)
  refine wpAny_bind (wpAny_callSpecial?_slot (name := Str.ofString "__next__") hit.typeIs slot_listiter_next
    (wpAny_call_entry slot_listiter_next hit.typeIs entry_listiter_next ?_ (args_listiter_next _)))
  show wpAny _ _ (field (.ref it) 0 >>= _) _ _ s
  refine wpAny_bind (wpAny_field ho hd (x := .ref l) rfl ?_)
  show wpAny _ _ (if (Value.ref l == Value.none) = true then _ else _) _ _ s
  rw [if_neg (show ¬ ((Value.ref l == Value.none) = true) from Bool.false_ne_true)]
  show wpAny _ _ (field (.ref it) 1 >>= _) _ _ s
  refine wpAny_bind (wpAny_field ho hd (x := .int i 0) rfl ?_)
  show wpAny _ _ (seqItems? (.ref l) >>= _) _ _ s
  refine wpAny_bind (wpAny_seqItems hol hdl ?_)
  simp only [Int.toNat_natCast, hx]
  refine wpAny_bind (wpAny_setField ho hd (by simp) (wpAny_pure ⟨x, rfl, wpAny_pure ⟨x, rfl, hQ _ ?_ (Heap.SameBut.update ..)⟩⟩))
  exact ⟨_, Heap.get?_update_self _ ho (Obj.isFreed_of_fields (Obj.data_mapFields hd _)), (Obj.cls_mapFields ..).trans hc, by
    rw [Obj.data_mapFields hd]; simp [rawInt]⟩
/-- after a turn of a loop over an iterator -/
inductive TurnedI (h₀ : Heap) (L it : Addr) (o : Obj) (K : (Str → Option Value) → Heap → Prop) (s s₃ : Shared) : Prop
  | mk (m : Str → Option Value) (F : Fr h₀ L s₃.heap m) (N : News h₀ L s₃.heap [(it, o)]) (hK : K m s₃.heap) (g : GExt s s₃) : TurnedI h₀ L it o K s s₃
inductive AtTurnI (h₀ : Heap) (L it l : Addr) (len : Nat) (K : Nat → (Str → Option Value) → Heap → Prop) (s : Shared) (n : Nat) (s' : Shared) : Prop
  | mk (i : Nat) (m : Str → Option Value) (hi : i ≤ len) (hn : n = len + 1 - i) (F : Fr h₀ L s'.heap m) (hI : s'.heap.IsListIter it l i) (hK : K i m s'.heap) (g : GExt s s') : AtTurnI h₀ L it l len K s n s'
/-- what reduce keeps from turn to turn -/
inductive RedK (s : Shared) (it : Addr) (f : Int × Int) (fs : List (Int × Int)) (i : Nat) (m : Str → Option Value) (h : Heap) : Prop
  | mk (h0 : 1 ≤ i) (ha : m (Str.ofString "function") = some (.ref 84)) (r : Addr) (t1 t2 : Tok) (hb : m (Str.ofString "value") = some (.ref r)) (h1 : r ≠ s.heap.objs.size) (h2 : r ≠ it)
      (hr : IsTup h r #[.int ((fs.take (i - 1)).foldl meltOf f).1 t1, .int ((fs.take (i - 1)).foldl meltOf f).2 t2]) : RedK s it f fs i m h
theorem for_iter {h₀ : Heap} {m : Str → Option Value} {x : Str} {px pos : Pos} {iter : Expr} {body : List Stmt} {name : Str} {scope : Scope} {L a : Addr} {cd : Value} {it l : Addr} {i₀ : Nat} {vs : List Value} (K : Nat → (Str → Option Value) → Heap → Prop) {Q : Flow → Shared → Prop}
    (hh : A.handled = none) (hk : scope.kind = .function) (hx : (envOf name scope L a cd).kindOf x = some .local)
    (F : Fr h₀ L s.heap m) (hit : s.heap.IsListIter it l i₀) (hL : L ≠ it) (hz : h₀.get? it = none) (hl : h₀.IsList l vs.toArray) (hi₀ : i₀ ≤ vs.length) (h0 : K i₀ m s.heap)
    (hKk : ∀ i m h h', K i m h → (∀ b o, b ≠ L → b ≠ it → h.get? b = some o → h'.get? b = some o) → K i m h')
    (hiter : ∀ Q' : Value → Shared → Prop, Q' (.ref it) s → wpAny (model P0 w) A (eval iter (envOf name scope L a cd)) Q' E s)
    (turn : ∀ i v s' m' o, vs[i]? = some v → Fr h₀ L s'.heap (fun y => if y = x then some v else m' y) → News h₀ L s'.heap [(it, o)] → o.cls = .type "list_iterator" → K i m' s'.heap → GExt s s' →
      wpAny (model P0 w) A (execs body (envOf name scope L a cd)) (fun f s₃ => match f with
        | .next | .cont => Here (TurnedI h₀ L it o (K (i + 1)) s s₃)
        | .brk => False
        | .ret v => Here (Q (.ret v) s₃)) (fun _ _ => False) s')
    (done : ∀ s' m', Fr h₀ L s'.heap m' → K vs.length m' s'.heap → GExt s s' → Q .next s')
    (hs : ∀ x, foldedSetIterable iter (envOf name scope L a cd) x = pure x := by intro _; rfl) :
    wpAny (model P0 w) A (exec (.For (.Name x px) iter body [] pos) (envOf name scope L a cd)) Q E s := by
  refine wpAny_For (hiter _ ?_) hs
  refine wpAny_pyIter_listiter hit ?_
  refine codeAny_forLoop (AtTurnI h₀ L it l vs.length K s) ?_ (vs.length + 1 - i₀)
    ⟨i₀, m, hi₀, rfl, F, hit, h0, GExt.refl s⟩
  rintro n s' ⟨i, m', hi, rfl, F', hI, hK, hg⟩
  have hl' := isList_keeps hl F'.keep
  cases hv : vs[i]? with
  | none =>
    refine wpAny_pyNext_list_end hh hI hl' (by simpa using hv) fun h' he => ?_
    have : i = vs.length := Nat.le_antisymm hi (List.getElem?_eq_none_iff.mp hv)
    subst this
    exact wpAny_execs_nil (done _ m' (fr_extBut F' hL hz he) (hKk _ _ _ _ hK fun b o _ h2 e => he b o h2 e) ⟨hg.gens, hg.bare, hg.os⟩)
  | some v =>
    have hlt : i < vs.length := (List.getElem?_eq_some_iff.mp hv).1
    refine wpAny_pyNext_list_item hI hl' (by simpa using hv) fun h' hI' hs' => ?_
    have F'' := fr_sameBut F' hL hz hs'
    refine wpAny_assign_Name ?_
    obtain ⟨o, ho, hc, hd⟩ := hI'
    have N : News h₀ L h' [(it, o)] := fun p hp => by
      rcases List.mem_cons.mp hp with rfl | hp
      · exact ⟨ho, Ne.symm hL, hz⟩
      · cases hp
    refine wpAny_storeName_local hx F''.ns (fun h₂ hn₂ hs₂ => ?_) (by show (scope.kind == .class || (scope.kind == .module && L != mainGlobals)) = false; rw [hk]; rfl)
    refine wpAny_mono (turn i v _ m' o hv (F''.set hn₂ hs₂) (N.set hs₂) hc (hKk _ _ _ _ hK fun b o h1 h2 e => hs₂.extBut b o h1 (hs'.extBut b o h2 e)) ⟨hg.gens, hg.bare, hg.os⟩) (fun f s₃ h₃ => ?_) fun _ _ h => h.elim
    cases f with
    | next => obtain ⟨m'', F₃, N₃, hK₃, hg₃⟩ := h₃; exact ⟨_, by omega, i + 1, m'', hlt, rfl, F₃, ⟨o, (N₃ _ (.head _)).1, hc, hd⟩, hK₃, hg₃⟩
    | cont => obtain ⟨m'', F₃, N₃, hK₃, hg₃⟩ := h₃; exact ⟨_, by omega, i + 1, m'', hlt, rfl, F₃, ⟨o, (N₃ _ (.head _)).1, hc, hd⟩, hK₃, hg₃⟩
    | brk => exact h₃.elim
    | ret v => exact h₃
theorem nm_glob {env : Env} {x : Str} {pos : Pos} {v : Value} {Q : Value → Shared → Prop} (T : TopF mg mb s.heap) (hp : mg x = some v) (h : Q v s)
    (hk : env.scope.kind = .function := by rfl) (hx : env.kindOf x = some .globalImplicit := by rfl) (hg : env.globals = mainGlobals := by rfl)
    (hd : (x == ("__debug__" : Str)) = false := by decide) : wpAny (model P0 w) A (eval (.Name x pos) env) Q E s :=
  Name_function_global hk hx (loadGlobal_global (hg ▸ T.g) hp h) hd

local macro_rules | `(tactic| walk_at "eval Name") => `(tactic| refine nm_glob (TopF.keeps (by assumption) (Fr.keep (by assumption))) (RedF.nm (by assumption)) ?_)
theorem reduce_spec {l : Addr} {vs : List Value} {f : Int × Int} {fs : List (Int × Int)} {Q : Value → Shared → Prop} (T : TopF mg mb s.heap) (Rd : RedF mg s.heap) (hl : s.heap.IsList l vs.toArray) (hf : FormsAt s.heap vs (f :: fs))
    (hQ : ∀ k s' t1 t2, Ext s s' → IsTup s'.heap k #[.int (fs.foldl meltOf f).1 t1, .int (fs.foldl meltOf f).2 t2] → Q (.ref k) s') :
    wpAny (model P0 w) (AL 450) (call (.ref 51) [.ref 84, .ref l]) Q E s := by
  obtain ⟨o, pm, c, doc, ho, hd, hc⟩ := Rd.fn
  obtain ⟨o2, n2, ho2, hd2⟩ := Rd.tup
  refine wpAny_call (codeAny_call_def (binds := [(Str.ofString "function", .ref 84), (Str.ofString "sequence", .ref l), (Str.ofString "initial", .ref 43)]) (body := dBody (stAt 7)) (show 450 < recursionLimit by decide) ho hd T.nolimit hc rfl (BindsTo.of_defaults rfl ho2 hd2 rfl rfl) (show ∀ x ∈ (dScope (stAt 7)).names, x.2 ≠ .cell by decide) ?_ ?_)
  · intro x hx
    simp only [List.mem_cons, List.not_mem_nil, or_false] at hx
    rcases hx with rfl | rfl | rfl <;> rfl
  intro h₁ hn₁ hk₁
  have F : Fr s.heap s.heap.objs.size h₁ (fun x => [(Str.ofString "function", Value.ref 84), (Str.ofString "sequence", .ref l), (Str.ofString "initial", .ref 43)].reverse.lookup x) := ⟨hn₁, hk₁, Nat.le_refl _⟩
  change wpAny _ ((AL 450).deeper (envOf (dName (stAt 7)) (dScope (stAt 7)) s.heap.objs.size 51 (.ref c))) (execs (dBody (stAt 7)) (envOf (dName (stAt 7)) (dScope (stAt 7)) s.heap.objs.size 51 (.ref c))) _ _ _
  refine wpAny_mono (E := fun _ _ => False) ?_ (fun _ _ x => x) (fun _ _ x => x.elim)
  clear hn₁ hk₁
  have N : News s.heap s.heap.objs.size h₁ [] := News.nil
  have hl₁ := isList_keeps hl F.keep
  refine wpAny_execs_cons ?_
  walk1
  walk1
  walk1
  walk1
  walk_at "go"
  refine call_iter_list (by exact hl₁) ?_
  have F₂ := F.push { cls := .type "list_iterator", data := .fields #[.ref l, .int 0 0] }
  have N₂ := News.push F N { cls := .type "list_iterator", data := .fields #[.ref l, .int 0 0] }
  dsimp only at F₂ N₂ ⊢
  generalize h₁.push _ = h₂ at F₂ N₂ ⊢
  walk_at "go"
  rename_i h₃ F₃ N₃
  obtain ⟨v₀, vs', rfl⟩ : ∃ v₀ vs', vs = v₀ :: vs' := by cases hf; exact ⟨_, _, rfl⟩
  have hit₃ : h₃.IsListIter h₁.objs.size l 0 := ⟨_, N₃.get (.head _), rfl, rfl⟩
  have hl₃ := isList_keeps hl F₃.keep
  refine call_next_list (i := 0) (x := v₀) hit₃ hl₃ (by simp) fun h₄ hit₄ hs₄ => ?_
  have hiL : s.heap.objs.size ≠ h₁.objs.size := Nat.ne_of_lt F.ns.lt
  have hiz : s.heap.get? h₁.objs.size = none := get_none_of_ge (Nat.le_of_lt F.ns.lt)
  have F₄ := fr_sameBut F₃ hiL hiz hs₄
  obtain ⟨oi, hoi, hoc, hod⟩ := hit₄
  have N₄ : News s.heap s.heap.objs.size h₄ [(h₁.objs.size, oi)] := fun p hp => by
    rw [List.mem_singleton.mp hp]; exact ⟨hoi, Ne.symm hiL, hiz⟩
  walk_at "go"
  rename_i h₅ F₅ N₅
  obtain ⟨hf0, hfs⟩ : (∃ r t1 t2, v₀ = Value.ref r ∧ IsTup s.heap r #[.int f.1 t1, .int f.2 t2]) ∧ FormsAt s.heap vs' fs := by cases hf with | cons a b => exact ⟨a, b⟩
  obtain ⟨r₀, t1, t2, rfl, ht₀⟩ := hf0
  have old : ∀ r o, s.heap.get? r = some o → r ≠ s.heap.objs.size ∧ r ≠ h₁.objs.size := fun r o e => ⟨fun q => (by rw [q, get_size_none] at e; cases e), fun q => (by rw [q, hiz] at e; cases e)⟩
  have hr₀ := let ⟨o, e, _⟩ := ht₀; old r₀ o e
  refine for_iter (it := h₁.objs.size) (l := l) (i₀ := 1) (vs := .ref r₀ :: vs') (RedK s h₁.objs.size f fs)
    rfl rfl rfl F₅ ⟨oi, N₅.get (.head _), hoc, hod⟩ hiL hiz hl (by simp) ⟨Nat.le_refl _, rfl, r₀, t1, t2, rfl, hr₀.1, hr₀.2, ht₀.keeps F₅.keep⟩ ?_ ?_ ?_ ?_
  · rintro i m h h' ⟨h0, ha, r, t1, t2, hb, h1, h2, o, e, q⟩ hk
    exact ⟨h0, ha, r, t1, t2, hb, h1, h2, o, hk r o h1 h2 e, q⟩
  · intro Q' h
    walk1
    exact h
  · rintro i v s' m' o hv F' N' hoc' ⟨h0, ha, r, t1, t2, hb, h1, h2, hr⟩ hg
    obtain ⟨j, rfl⟩ : ∃ j, i = j + 1 := ⟨i - 1, by omega⟩
    have hv' : vs'[j]? = some v := by simpa using hv
    obtain ⟨p, hp, r', u1, u2, rfl, hr'⟩ := paired_get hfs hv'
    have hfo := foldl_take_succ meltOf f fs j p hp
    have hr₁ := hr'.keeps F'.keep
    rw [Nat.add_sub_cancel] at hr
    generalize (fs.take j).foldl meltOf f = acc at hr hfo
    walk1
    walk1
    walk1
    walk1
    refine call_top ((T.keeps F'.keep).fn "_law_melted" 84 14) ?_
    walk_at "go"
    refine AL.of 500 rfl (show 451 ≤ 500 by decide) (show 3603 ≤ 4000 by decide) ?_
    refine melted_spec (T.keeps F'.keep) hr hr₁ ?_
    intro k s₄ v1 v2 X hk
    have F₄ : Fr s.heap s.heap.objs.size s₄.heap _ := ⟨F'.ns.keeps X.keep, fun b o e => X.keep b o (F'.keep b o e), F'.above⟩
    have N₄ : News s.heap s.heap.objs.size s₄.heap [(h₁.objs.size, o)] := fun q hq => ⟨X.keep _ _ (N' q hq).1, (N' q hq).2⟩
    have hk1 : k ≠ s.heap.objs.size := by
      rintro rfl
      obtain ⟨o1, e1, _, n1, d1⟩ := hk
      obtain ⟨o2, es, ep, e2, d2, _⟩ := F₄.ns
      rw [e1] at e2; cases e2; rw [d1] at d2; cases d2
    have hk2 : k ≠ h₁.objs.size := by
      rintro rfl
      obtain ⟨o1, e1, c1, _⟩ := hk
      have e2 := (N₄ _ (.head _)).1
      rw [e1] at e2; cases e2; rw [c1] at hoc'; exact absurd hoc' (by decide)
    refine wpAny_storeName_local (by rfl) F₄.ns (fun h₆ hn₆ hs₆ => ?_) (by rfl)
    have F₆ := F₄.set hn₆ hs₆
    have N₆ := N₄.set hs₆
    have hk₆ : IsTup h₆ k #[.int (meltOf acc p).1 v1, .int (meltOf acc p).2 v2] := let ⟨o, e, q⟩ := hk; ⟨o, hs₆.extBut k o hk1 e, q⟩
    walk_at "go"
    exact Here.mk ⟨_, F₆, N₆, ⟨by omega, ha, k, v1, v2, rfl, hk1, hk2, by rw [Nat.add_sub_cancel, hfo]; exact hk₆⟩, ⟨fun i x e => X.gens i x (hg.gens i x e), fun e => X.bare (hg.bare e), X.os.trans hg.os⟩⟩
  · rintro s' m' F' ⟨h0, ha, r, t1, t2, hb, h1, h2, hr⟩ hg
    have e : fs.take ((Value.ref r₀ :: vs').length - 1) = fs := by simp [hfs.length]
    rw [e] at hr
    dsimp only
    walk_at "go"
    exact hQ r _ t1 t2 ⟨F'.keep, hg.gens, hg.bare, hg.os⟩ hr
end
end
section
open PySem PySem.W PyProof.Rows PySem.Calls PySem.Spec PySem.W.X PySem.W.ZRun
set_option maxRecDepth 100000
set_option maxHeartbeats 4000000
abbrev envC (L : Addr) : Env := envOfC (dName (stAt 5)) (dScope (stAt 5)) L 42 (.ref 41)
def fldA (o : Obj) : Array Value := match o.data with | .fields vs => vs | _ => #[]
def nmO (name : Str) (o : Obj) : Option Value := match lookIn name o with | some r => r | none => none
def strF : Value → Str | .str s _ => s | _ => default
def tokF : Value → Tok | .str _ t => t | .int _ t => t | _ => default
def intF : Value → Int | .int i _ => i | _ => 0
def boolF : Value → Bool | .bool b => b | _ => false
section
variable {M : Model} {A : Around} {E : Value → Shared → Prop} {h0 hh : Heap} {chg news : List (Addr × Obj)} {g : Array GenState} {d : Drawn} {t : Nat} {os : OsState}
theorem m_textTuple {vs : List Value} {Q : Value → Shared → Prop} (D : Mem h0 hh chg news) (h : ∀ a h', Mem h0 h' chg ((a, { cls := .type "tuple", data := .seq vs.toArray }) :: news) → Q (.ref a) ⟨h', g, d, t, os⟩) : wpAny M A (newTextTuple vs) Q E ⟨hh, g, d, t, os⟩ :=
  wpAny_newObjAsIs_type (h _ _ (D.alloc rfl))
theorem m_grow {a c : Addr} {f : Array Value → Array Value} {ps more : Array Value} {Q : Unit → Shared → Prop} (D : Mem h0 hh [] news) (ht : h0.TableAt c a ps) (hn : f ps = ps ++ more)
    (h : ∀ h', Mem h0 h' [(a, tableObj (ps ++ more))] news → Q () ⟨h', g, d, t, os⟩) : wpAny M A (updateFieldsOfTheText a f) Q E ⟨hh, g, d, t, os⟩ := by
  have ho : hh.get? a = some (tableObj ps) := D.keep a _ ht.2 (by simp [away])
  unfold updateFieldsOfTheText
  refine wpAny_bind (wpAny_load ho ?_)
  refine wpAny_update ho (h _ (D.grow (f := Obj.mapFields f) ht rfl ?_))
  show tableObj (f ps) = _
  rw [hn]
end
theorem mem_one {h h' : Heap} {a : Addr} {o : Obj} (k : ∀ b o, h.get? b = some o → h'.get? b = some o) (e : h'.get? a = some o) (n : h.get? a = none) : Mem h h' [] [(a, o)] :=
  ⟨fun b o e _ => k b o e, fun _ hp => (nomatch hp), List.nodup_nil, fun p hp => (List.mem_singleton.mp hp) ▸ ⟨e, n⟩, List.pairwise_singleton _ _⟩
theorem m_localSet {M : Model} {A : Around} {E : Value → Shared → Prop} {h0 hh : Heap} {chg news : List (Addr × Obj)} {g : Array GenState} {d : Drawn} {t : Nat} {os : OsState} {env : Env} {o : Obj} {dd : Option Addr} {es : Array DictEntry} {n : Nat} {sl : Array (Option Value)} {name : Str} {v : Value} {Q : Unit → Shared → Prop}
    (D : Mem h0 hh chg news) (i : Nat) (hi : news[i]? = some (env.locals, o)) (ho : o = ⟨.type "dict", dd, .dict es n, sl⟩)
    (hk : aRefKeyMayBeTheName name es = false) (hf : ∀ hs, (Obj.putName name hs (.str name t) v o).isFreed = false)
    (h : ∀ h' hs, Mem h0 h' chg (news.set i (env.locals, Obj.putName name hs (.str name t) v o)) → Q () ⟨h', g, d, t + 1, os⟩) : wpAny M A (localSet env name v) Q E ⟨hh, g, d, t, os⟩ := by
  unfold localSet
  refine wpAny_bind (wpAny_load (D.at _ _ _ hi) ?_)
  refine ite_yb (by rw [ho]; rfl) ?_
  exact m_nsSet D i hi ho hk hf h
theorem m_newTuple {M : Model} {A : Around} {E : Value → Shared → Prop} {h0 hh : Heap} {chg news : List (Addr × Obj)} {g : Array GenState} {d : Drawn} {t : Nat} {os : OsState} {vs : List Value} {Q : Value → Shared → Prop} (D : Mem h0 hh chg news) (hz : vs.length ≤ sizeLine)
    (h : ∀ a h', Mem h0 h' chg ((a, { cls := .type "tuple", data := .seq vs.toArray 0 }) :: news) → Q (.ref a) ⟨h', g, d, t, os⟩) : wpAny M A (newTuple vs) Q E ⟨hh, g, d, t, os⟩ := wpAny_newTuple (h _ _ (D.alloc rfl)) hz
theorem evalArgs_plain0 {M : Model} {A : Around} {E : Value → Shared → Prop} {s : Shared} {f : Value} {x : Sem Value} {rest : List (Bool × Sem Value)} {Q : Args → Shared → Prop}
    (h : wpAny M A (spliced ((false, x) :: rest)) (fun vs s' => Q ⟨vs, []⟩ s') E s) : wpAny M A (evalArgs f false ((false, x) :: rest) []) Q E s := by
  unfold evalArgs
  show wpAny M A (spliced ((false, x) :: rest) >>= _) Q E s
  refine wpAny_bind (wpAny_mono h (fun vs s' h' => ?_) fun _ _ x => x)
  refine wpAny_holding ?_
  exact wpAny_bind (wpAny_pure (wpAny_bind (wpAny_pure (wpAny_pure h'))))
theorem mem_sel {h h' : Heap} {chg news : List (Addr × Obj)} {a : Addr} {o : Obj} (D : Mem h h' chg news) (i : Nat) (hi : news[i]? = some (a, o)) : Mem h h' chg [(a, o)] :=
  ⟨D.keep, D.ch, D.cd, fun p hp => (List.mem_singleton.mp hp) ▸ D.nw _ (List.mem_of_getElem? hi), List.pairwise_singleton _ _⟩
theorem L_bf {M : Model} {p : Params} {h : Heap} (e3 : h.get? 3 = some (ob p 3)) (e4 : h.get? 4 = some (ob p 4)) : Looks M h (builtinsFor 3 0) 0 :=
  Looks.andThen (L_ns (name := "__builtins__") (r := some (.ref 4)) e3 (by kernel_rfl)) (Looks.andThen (Looks.ld e4) (Looks.of_pure (by kernel_rfl)))
theorem L_nm {M : Model} {p : Params} {h : Heap} (e3 : h.get? 3 = some (ob p 3)) : Looks M h (nsGet 3 "__name__") (some ((nmO "__name__" (ob p 3)).getD .none)) := L_ns e3 (by kernel_rfl)
section
variable {M : Model} {A : Around} {E : Value → Shared → Prop} {h0 hh : Heap} {chg news : List (Addr × Obj)} {g : Array GenState} {d : Drawn} {t : Nat} {os : OsState}
abbrev codeO (name qual file : Str) (fl : Nat) (p : Arguments) (scope : Scope) (flags text : Int) (inF fn : Bool) (t t2 : Nat) (a1 a2 a3 a4 a5 : Addr) : Obj :=
  { cls := .type "code", data := .fields [.str name t, .str qual (t + 1), .str file (t + 1 + 1), rawInt fl, rawInt ((p.posonlyargs.length + p.args.length : Nat) : Int), rawInt (p.posonlyargs.length : Nat), rawInt (p.kwonlyargs.length : Nat),
    rawInt (functionFlags p.vararg.isSome p.kwarg.isSome scope { file := file, future := flags.toNat &&& (coFutureAnnotations ||| coFutureBarry), inFunction := inF || fn, text := text.toNat } : Nat), .ref a1, .bool (true || (inF || fn)), rawInt (text.toNat : Nat), .ref a2, .none, .ref a3, .ref a4, .ref a5, rawInt (t2 : Nat), rawInt fl, .str file (t2 + 1)].toArray }
theorem m_fcode {env : Env} {pos : Pos} {fl : Nat} {name qual file : Str} {p : Arguments} {scope : Scope} {body : FuncBody} {c P : Addr} {oc : Obj} {cc : Value} {dc : Option Addr} {vs ps : Array Value} {slc : Array (Option Value)} {tf tg tt : Tok} {flags text : Int} {inF : Bool} {l1 l2 : List Str} {Q : Value → Shared → Prop}
    (D : Mem h0 hh chg news) (hc : env.code = .ref c) (iC iP : Nat) (hiC : news[iC]? = some (c, oc)) (hoc : oc = ⟨cc, dc, .fields vs, slc⟩) (h11 : vs.getD 11 .none = .ref P)
    (hv : (vs.getD 18 .none, vs.getD 7 .none, vs.getD 9 .none, vs.getD 10 .none) = (Value.str file tf, Value.int flags tg, Value.bool inF, Value.int text tt))
    (hiP : news[iP]? = some (P, tableObj ps)) (hnf : codeAmong pos ps.toList = none) (hloc : localNames p scope body = some (l1, l2))
    (hca : ∀ c', codeAmong pos (ps ++ #[rawInt pos.line, rawInt pos.col, .ref c']).toList = some (.ref c'))
    (h : ∀ a1 a2 a3 a4 a5 a6 fs v1 v2 tmpl t2 h', Mem h0 h' chg ((a6, codeO name qual file fl p scope flags text inF (env.scope.kind == .function) t t2 a1 a2 a3 a4 a5) :: (a5, { cls := .none, data := .func tmpl }) :: (a4, { cls := .type "tuple", data := .seq (v2 : List Value).toArray }) ::
      (a3, { cls := .type "tuple", data := .seq (v1 : List Value).toArray }) :: (a2, tableObj #[]) :: (a1, { cls := .type "tuple", data := .seq (fs : List Value).toArray }) :: news.set iP (P, tableObj (ps ++ #[rawInt pos.line, rawInt pos.col, .ref a6]))) → Q (.ref a6) ⟨h', g, d, t2 + 1 + 1, os⟩) :
    wpAny M A (functionCode env pos fl name qual p scope body) Q E ⟨hh, g, d, t, os⟩ := by
  subst hoc
  unfold functionCode codeAt
  rw [hc]
  refine ite_nb rfl ?_
  have L1 : Looks M hh (fieldsOf (.ref c)) vs := Looks.andThen (Looks.ld (D.at _ _ _ hiC)) .now
  have L2 : Looks M hh (fieldsOf (.ref P)) ps := Looks.andThen (Looks.ld (D.at _ _ _ hiP)) .now
  refine wpAny_bind (L1.at ?_)
  rw [h11]
  refine wpAny_bind (L2.at ?_)
  rw [hnf, hv, hloc]
  refine wpAny_bind ?_
  unfold newCode
  refine wpAny_bind (wpAny_mkText (wpAny_bind (wpAny_mkText (wpAny_bind (wpAny_mkText (wpAny_bind (wpAny_mkStrs fun fs => ?_)))))))
  refine wpAny_bind (m_textTuple D fun a1 h1 D1 => ?_)
  refine wpAny_bind (m_alloc D1 rfl fun a2 h2 D2 => wpAny_pure ?_)
  refine wpAny_bind (wpAny_mkStrs fun v1 => ?_)
  refine wpAny_bind (m_textTuple D2 fun a3 h3 D3 => ?_)
  refine wpAny_bind (wpAny_mkStrs fun v2 => ?_)
  refine wpAny_bind (m_textTuple D3 fun a4 h4 D4 => ?_)
  refine wpAny_bind (m_alloc D4 rfl fun a5 h5 D5 => wpAny_pure ?_)
  refine wpAny_bind (wpAny_pure ?_)
  refine wpAny_bind (wpAny_fresh ?_)
  refine wpAny_bind (wpAny_mkText ?_)
  refine m_newObj (T := "code") D5 (by size_fits) rfl fun a6 h6 D6 => ?_
  have hi6 : ∀ x1 x2 x3 x4 x5 x6 : Addr × Obj, (x1 :: x2 :: x3 :: x4 :: x5 :: x6 :: news)[iP + 6]? = some (P, tableObj ps) := fun _ _ _ _ _ _ => by simpa using hiP
  have hf : Obj.mapFields (fun vs => if (codeAmong pos vs.toList).isSome = true then vs else vs ++ #[rawInt ↑pos.line, rawInt ↑pos.col, Value.ref a6]) (tableObj ps) = tableObj (ps ++ #[rawInt ↑pos.line, rawInt ↑pos.col, Value.ref a6]) := by
    show tableObj (if (codeAmong pos ps.toList).isSome = true then ps else ps ++ #[rawInt ↑pos.line, rawInt ↑pos.col, Value.ref a6]) = _
    rw [hnf]; rfl
  have D7 := D6.update (f := Obj.mapFields (fun vs => if (codeAmong pos vs.toList).isSome = true then vs else vs ++ #[rawInt ↑pos.line, rawInt ↑pos.col, Value.ref a6])) (hi6 _ _ _ _ _ _) (by rw [hf]; rfl)
  rw [hf] at D7
  have hP7 : (h6.update P (Obj.mapFields (fun vs => if (codeAmong pos vs.toList).isSome = true then vs else vs ++ #[rawInt ↑pos.line, rawInt ↑pos.col, Value.ref a6]))).get? P = some (tableObj (ps ++ #[rawInt ↑pos.line, rawInt ↑pos.col, Value.ref a6])) :=
    D7.at (iP + 6) _ _ (by rw [List.getElem?_set]; simp [(List.getElem?_eq_some_iff.mp hiP).1])
  unfold updateFieldsOfTheText
  refine wpAny_bind (wpAny_bind (wpAny_load (D6.at _ _ _ (hi6 _ _ _ _ _ _)) ?_))
  refine wpAny_update (D6.at _ _ _ (hi6 _ _ _ _ _ _)) ?_
  have L3 : Looks M (h6.update P (Obj.mapFields (fun vs => if (codeAmong pos vs.toList).isSome = true then vs else vs ++ #[rawInt ↑pos.line, rawInt ↑pos.col, Value.ref a6]))) (fieldsOf (.ref P)) (ps ++ #[rawInt ↑pos.line, rawInt ↑pos.col, Value.ref a6]) := Looks.andThen (Looks.ld hP7) .now
  refine wpAny_bind (L3.at ?_)
  rw [hca]
  refine wpAny_pure ?_
  exact h a1 a2 a3 a4 a5 a6 fs v1 v2 _ _ _ D7
end
end
section
open PySem PySem.W PyProof.Rows PySem.Calls PySem.Spec PySem.W.X PySem.W.ZRun
set_option maxRecDepth 100000
set_option maxHeartbeats 4000000
def initSt : Stmt := (cBody ((dBody (stAt 5)).getD 0 default)).getD 2 default
def initQual : Str := "cmp_to_key.<locals>.K.__init__"
/-- the class makes its instances the usual way -/
def mkV (o : Obj) : Bool := match o.data with | .cls cd => !cd.abstract && !cd.hasDel && (o.slots.toList[4]?).join == some (.builtin "object.__new__") && o.cls == .type "type" | _ => false
section
variable {w : World} {h : Heap} {C Nm D f b : Addr} {oC oN oD of : Obj}
theorem KCore.makes (R : KCore h C Nm D f oC oN oD of) (m : mkV oC = true) : makesIn (kFrag C Nm D f oC oN oD of) C = true := by
  obtain ⟨a, d, cd, sl, rfl, h1, h2, h3, h4⟩ := clsV_some R.cls
  unfold mkV at m
  simp only [Bool.and_eq_true, beq_iff_eq, Bool.not_eq_true'] at m
  obtain ⟨⟨⟨m1, m2⟩, m3⟩, rfl⟩ := m
  have hC := R.lC
  have ht : typeIn (kFrag C Nm D f ⟨.type "type", d, .cls cd, sl⟩ oN oD of) (.ref C) = some (.type "type") := by unfold typeIn; dsimp only; rw [hC]; rfl
  unfold makesIn
  rw [hC]
  dsimp only
  unfold specialIn instIn
  rw [ht, m1, m2, m3, h1]
  simp only [Option.bind_some, findIn, subIn]
  simp
  decide +kernel
theorem KCore.keeps {h' : Heap} (R : KCore h C Nm D f oC oN oD of) (k : ∀ b o, h.get? b = some o → h'.get? b = some o) : KCore h' C Nm D f oC oN oD of := { R with hC := k _ _ R.hC, hN := k _ _ R.hN, hD := k _ _ R.hD, hf := k _ _ R.hf }
theorem init_body {A : Around} {E : Value → Shared → Prop} {Q : Flow → Shared → Prop} {h₀ h₁ : Heap} {g : Array GenState} {d : Drawn} {t : Nat} {os : OsState} {L x dx : Addr} {i : Int} {ti : Tok} {m : Str → Option Value} (R : KCore h₁ C Nm D f oC oN oD of)
    (obj : lookIn "obj" oN = some (some (.ref D))) (sa : lookIn "__setattr__" oN = some none) (desc : DescAt oD (.ref C) 0) (F : Fr h₀ L h₁ m) (N : News h₀ L h₁ [(x, instObj C dx), (dx, emptyDict)]) (hdx : dx ≠ x)
    (h1 : m (Str.ofString "self") = some (.ref x)) (h2 : m (Str.ofString "obj") = some (.int i ti))
    (h : ∀ h' t', Fr h₀ L h' m → News h₀ L h' [(x, { cls := .ref C, dict := some dx, data := .plain, slots := #[some (.int i ti)] }), (dx, emptyDict)] → Q .next ⟨h', g, d, t', os⟩) :
    wpAny (model P0 w) A (execs (dBody initSt) (envX initQual (dScope initSt) L f (.ref b) [])) Q E ⟨h₁, g, d, t, os⟩ := by
  refine wpAny_execs_cons (plainObj_wpAny_Assign_Attribute ?_)
  refine nm_loc F.ns h2 (nm_loc F.ns h1 ?_)
  have I : InstAt h₁ x (instObj C dx) C (some emptyDict) := ⟨(N _ (.head _)).1, rfl, rfl, (N _ (.tail _ (.head _))).1⟩
  obtain ⟨d', n, tn, tb, sl, hoD⟩ := desc
  obtain ⟨a, b', cd, d'', hoC, e1, e2, e3, e4⟩ := clsV_some R.cls
  have hT : typeIn (kFrag C Nm D f oC oN oD of) (.ref D) = some (.type "member_descriptor") := by unfold typeIn; dsimp only; rw [R.lD, Option.map_some, hoD]
  have hset : specialIn (kFrag C Nm D f oC oN oD of) (.ref D) "__set__" = some (some (.builtin "member_descriptor.__set__")) := by simp only [specialIn, hT, Option.bind_some, findIn]; decide +kernel
  have hcl : clsIn (kFrag C Nm D f oC oN oD of) C = some cd := by unfold clsIn; rw [R.lC, hoC]
  have hslot : slotIn (kFrag C Nm D f oC oN oD of) D C = some 0 := by
    unfold slotIn recIn
    rw [R.lD, hcl, hoD]
    simp [e1, e3]
  have hpl : plainOver (kFrag C Nm D f oC oN oD of) C = true := by unfold plainOver; rw [hcl, Option.any_some, e1]; rfl
  have htk : takerIn (kFrag C Nm D f oC oN oD of) C "obj" = some (some (.ref D)) := by
    unfold takerIn
    rw [R.find_own obj, Option.bind_some]
    dsimp only
    unfold takesIn
    rw [hset]
    rfl
  refine set_plain (s := ⟨h₁, g, d, t, os⟩) R.in_ I ((R.find_base sa).trans (by decide +kernel)) (osa_descr (s := ⟨h₁, g, d, t + 1, os⟩) KF.slot_mset R.in_ I hpl htk hT
    (slot_set (s := ⟨h₁, g, d, t + 1, os⟩) (pre := []) F N R.in_ I hslot (by decide) (fun _ q => nomatch q) (fun p q => by rw [List.mem_singleton.mp q]; exact hdx) rfl rfl fun h' F' N' => ?_))
  exact wpAny_execs_nil (h h' _ F' N')
theorem kmake0 {s : Shared} {i : Int} {ti : Tok} {pm ct : Value} (R : KCore s.heap C Nm D f oC oN oD of) (m : mkV oC = true) (hlim : s.heap.NoLimit) (hcd : s.heap.CodeRec (.ref b) initQual)
    (obj : lookIn "obj" oN = some (some (.ref D))) (ini : lookIn "__init__" oN = some (some (.ref f))) (sa : lookIn "__setattr__" oN = some none) (desc : DescAt oD (.ref C) 0)
    (fn : FunAt of (fnX "__init__" initQual (dParams initSt) (dBody initSt) (dScope initSt) [] .none .none .none pm none (.ref b) ct)) :
    wpAny (model P0 w) (AL 400) (call (.ref C) [.int i ti]) (MakePost C i ti s) (fun _ _ => False) s := by
  obtain ⟨hcls, hdat⟩ := fn
  have X := R.in_
  have hT : typeIn (kFrag C Nm D f oC oN oD of) (.ref f) = some (.type "function") := by unfold typeIn; dsimp only; rw [R.lf, Option.map_some, hcls]
  obtain ⟨hh, g, d, t, os⟩ := s
  dsimp only at *
  refine wpAny_call (make_core (makes_of X (R.makes m)) (looks_findIn X (R.find_own ini)) (fun self => bind_fn X self hT) (.inl rfl) ?_)
  have kp : ∀ b o, hh.get? b = some o → ((hh.push emptyDict).push (instObj C hh.objs.size)).get? b = some o := fun b o e => Heap.get?_push_of_some _ (Heap.get?_push_of_some _ e)
  have hx : ((hh.push emptyDict).push (instObj C hh.objs.size)).get? (hh.objs.size + 1) = some (instObj C hh.objs.size) := by heap_get
  have hdx : ((hh.push emptyDict).push (instObj C hh.objs.size)).get? hh.objs.size = some emptyDict := by heap_get
  generalize (hh.push emptyDict).push (instObj C hh.objs.size) = hp at kp hx hdx ⊢
  refine codeAny_call_def (fd := fnX "__init__" initQual (dParams initSt) (dBody initSt) (dScope initSt) [] .none .none .none pm none (.ref b) ct) (body := dBody initSt) (binds := [("self", .ref (hh.objs.size + 1)), ("obj", .int i ti)])
    (Nat.le_of_ble_eq_true rfl) (kp _ _ R.hf) hdat (hlim.keeps kp) (hcd.keeps kp) rfl (BindsTo.of_eq rfl) (show ∀ x ∈ (dScope initSt).names, x.2 ≠ .cell by decide) (by simp; decide) (fun h₁ hns hk₁ => ?_)
  have hxs : hh.objs.size + 1 < hp.objs.size := Heap.lt_size hx
  have F : Fr hh hp.objs.size h₁ _ := ⟨hns, fun b o e => hk₁ b o (kp b o e), by omega⟩
  have N : News hh hp.objs.size h₁ [(hh.objs.size + 1, instObj C hh.objs.size), (hh.objs.size, emptyDict)] := fun p hp' => by
    rcases List.mem_cons.mp hp' with rfl | hp'
    · exact ⟨hk₁ _ _ hx, Nat.ne_of_lt hxs, get_none_of_ge (Nat.le_succ _)⟩
    · rw [List.mem_singleton.mp hp']
      exact ⟨hk₁ _ _ hdx, Nat.ne_of_lt (Nat.lt_of_succ_lt hxs), get_none_of_ge (Nat.le_refl _)⟩
  refine init_body (w := w) (R.keeps (fun b o e => hk₁ b o (kp b o e))) obj sa desc F N (Nat.ne_of_lt (Nat.lt_succ_self _)) rfl rfl fun h' t' F' N' => ⟨rfl, hh.objs.size + 1, _, _, rfl, get_none_of_ge (Nat.le_succ _), ⟨(N' _ (.head _)).1, rfl, rfl, ⟨_, rfl, (N' _ (.tail _ (.head _))).1⟩, rfl⟩, F'.keep, rfl, rfl⟩
end
end
section
open PySem PySem.W PyProof.Rows PySem.Calls PySem.Spec PySem.W.X PySem.W.ZRun
set_option maxRecDepth 100000
set_option maxHeartbeats 4000000
theorem mem_sub {h h' : Heap} {chg news l : List (Addr × Obj)} (D : Mem h h' chg news) (hs : l.Sublist news) : Mem h h' chg l :=
  ⟨D.keep, D.ch, D.cd, fun p hp => D.nw _ (hs.subset hp), D.ord.sublist (hs.map _)⟩
theorem mem_keep {h h' : Heap} {chg news : List (Addr × Obj)} (D : Mem h h' chg news) {a : Addr} {o : Obj} (e : h.get? a = some o) (hw : away chg a = true) : h'.get? a = some o := D.keep a o e (by rw [hw, Bool.or_true])
abbrev args2 (n1 n2 : Str) (p1 p2 : Pos) : Arguments := { posonlyargs := [], args := [⟨n1, none, p1⟩, ⟨n2, none, p2⟩], vararg := none, kwonlyargs := [], kw_defaults := [], kwarg := none, defaults := [] }
theorem store_cls {env : Env} {x : Str} {v : Value} (hs : env.scope.kind = .class) (hk : env.kindOf x = some .local) : storeName env x v = localSet env x v := by
  unfold storeName
  rw [hk, hs]
  rfl
section
variable {M : Model} {A : Around} {E : Value → Shared → Prop} {h0 hh : Heap} {chg news : List (Addr × Obj)} {g : Array GenState} {d : Drawn} {t : Nat} {os : OsState}
theorem m_store {env : Env} {o : Obj} {dd : Option Addr} {es : Array DictEntry} {n : Nat} {sl : Array (Option Value)} {name : Str} {v : Value} {Q : Unit → Shared → Prop} (hs : env.scope.kind = .class) (hkd : env.kindOf name = some .local)
    (D : Mem h0 hh chg news) (i : Nat) (hi : news[i]? = some (env.locals, o)) (ho : o = ⟨.type "dict", dd, .dict es n, sl⟩)
    (hk : aRefKeyMayBeTheName name es = false) (hf : ∀ hs t, (Obj.putName name hs (.str name t) v o).isFreed = false)
    (h : ∀ h' hs t, Mem h0 h' chg (news.set i (env.locals, Obj.putName name hs (.str name t) v o)) → Q () ⟨h', g, d, t + 1, os⟩) : wpAny M A (storeName env name v) Q E ⟨hh, g, d, t, os⟩ := by
  rw [store_cls hs hkd]
  exact m_localSet D i hi ho hk (fun hs => hf hs t) fun h' hs D' => h h' hs t D'
theorem m_def {p : Params} {env : Env} {name bind : Str} {n1 n2 : Str} {p1 p2 : Pos} {body : List Stmt} {scope : Scope} {pos : Pos} {file : Str} {c P : Addr} {oc oN : Obj} {cc : Value} {dc dd : Option Addr} {vs ps : Array Value} {slc sl : Array (Option Value)} {tf tg tt : Tok} {flags text : Int} {inF : Bool} {l1 l2 : List Str} (cl : List (Str × Addr)) {es : Array DictEntry} {n : Nat} {Q : Flow → Shared → Prop}
    (D : Mem h0 hh chg news) (e3 : h0.get? 3 = some (ob p 3)) (e4 : h0.get? 4 = some (ob p 4)) (w3 : away chg 3 = true) (w4 : away chg 4 = true)
    (hc : env.code = .ref c) (hg : env.globals = 3) (hb : env.builtins = 0) (iC iP iN : Nat) (hiC : news[iC]? = some (c, oc)) (hoc : oc = ⟨cc, dc, .fields vs, slc⟩) (h11 : vs.getD 11 .none = .ref P)
    (hv : (vs.getD 18 .none, vs.getD 7 .none, vs.getD 9 .none, vs.getD 10 .none) = (Value.str file tf, Value.int flags tg, Value.bool inF, Value.int text tt))
    (hiP : news[iP]? = some (P, tableObj ps)) (hPN : iP ≠ iN) (hnf : codeAmong pos ps.toList = none) (hloc : localNames (args2 n1 n2 p1 p2) scope (.stmts body) = some (l1, l2))
    (hca : ∀ c', codeAmong pos (ps ++ #[rawInt pos.line, rawInt pos.col, .ref c']).toList = some (.ref c'))
    (hcl : closureFor scope env = pure cl) (hdoc : docOf body = none) 
    (hsk : env.scope.kind = .class) (hkd : env.kindOf bind = some .local) (hiN : news[iN]? = some (env.locals, oN)) (hoN : oN = ⟨.type "dict", dd, .dict es n, sl⟩)
    (hk : aRefKeyMayBeTheName bind es = false) (hf : ∀ hs t v, (Obj.putName bind hs (.str bind t) v oN).isFreed = false)
    (h : ∀ f b6 pm ct tN hs oc' h' t', qualV oc' = some (qualnameIn env name bind) → oc'.cls = .type "code" → 
      Mem h0 h' chg ((f, ⟨.type "function", none, .func (fnX name (qualnameIn env name bind) (args2 n1 n2 p1 p2) body scope cl .none .none .none pm none (.ref b6) ct), #[]⟩) :: (b6, oc') ::
        ((news.set iP (P, tableObj (ps ++ #[rawInt pos.line, rawInt pos.col, .ref b6]))).set iN (env.locals, Obj.putName bind hs (.str bind tN) (.ref f) oN))) → Q .next ⟨h', g, d, t', os⟩) :
    wpAny M A (exec (.FunctionDef name (args2 n1 n2 p1 p2) body [] none [] scope none bind pos) env) Q E ⟨hh, g, d, t, os⟩ := by
  rw [arm_exec_FunctionDef]
  unfold defStmt
  refine ite_nb rfl ?_
  refine wpAny_bind (wpAny_evalAll_nil ?_)
  refine wpAny_bind (wpAny_standAt ?_)
  refine wpAny_bind (wpAny_holding (wpAny_bind (wpAny_evalAll_nil ?_)))
  refine wpAny_bind (wpAny_holding (wpAny_pure ?_))
  refine wpAny_holding ?_
  refine wpAny_bind (wpAny_pure ?_)
  rw [makeFunction_eq]
  refine wpAny_bind (wpAny_pure ?_)
  refine wpAny_bind (wpAny_pure ?_)
  refine wpAny_bind (wpAny_pure ?_)
  unfold makeTail
  rw [hcl, hg, hb]
  refine wpAny_bind (wpAny_pure ?_)
  have fin : ∀ (ct : Value) (hA : Heap), Mem h0 hA chg news → wpAny M A (do
      let code ← functionCode env pos pos.line name (qualnameIn env name bind) (args2 n1 n2 p1 p2) scope (.stmts body)
      let b ← builtinsFor 3 0
      let nm ← nsGet 3 "__name__"
      let doc ← (match docOf body with | some s => mkText s | none => pure .none)
      newObj (.type "function") (.func { name, qualname := qualnameIn env name bind, params := args2 n1 n2 p1 p2, body := .stmts body, scope, globals := 3, closure := cl, closureTuple := ct, code, builtins := b, defaults := .none, kwdefaults := .none, annotations := none, pyModule := nm.getD .none, doc }))
      (fun f s' => wpAny M A (bindName env bind f) (fun _ s => Q .next s) E s') E ⟨hA, g, d, t, os⟩ := by
    intro ct hA DA
    refine wpAny_bind ?_
    refine m_fcode (c := c) (P := P) DA hc iC iP hiC hoc h11 hv hiP hnf hloc hca fun b1 b2 b3 b4 b5 b6 fs1 v1 w1 tm1 tk3 h14 D14 => ?_
    have e3' := mem_keep D14 e3 w3
    have e4' := mem_keep D14 e4 w4
    refine wpAny_bind ((L_bf e3' e4').at ?_)
    refine wpAny_bind ((L_nm e3').at ?_)
    rw [hdoc]
    refine wpAny_bind (wpAny_pure ?_)
    refine m_newObj (T := "function") D14 (by size_fits) rfl fun f1 h15 D15 => ?_
    refine wpAny_bindName ?_
    have DS : Mem h0 h15 chg ((f1, ⟨.type "function", none, .func (fnX name (qualnameIn env name bind) (args2 n1 n2 p1 p2) body scope cl .none .none .none ((nmO "__name__" (ob p 3)).getD .none) none (.ref b6) ct), #[]⟩) :: (b6, codeO name (qualnameIn env name bind) file pos.line (args2 n1 n2 p1 p2) scope flags text inF (env.scope.kind == .function) t tk3 b1 b2 b3 b4 b5) ::
        (news.set iP (P, tableObj (ps ++ #[rawInt pos.line, rawInt pos.col, .ref b6])))) := mem_sub D15 (.cons_cons _ (.cons_cons _ (.cons _ (.cons _ (.cons _ (.cons _ (.cons _ (.refl _))))))))
    refine m_store hsk hkd DS (iN + 2) (by simpa [List.getElem?_set, hPN] using hiN) hoN hk (fun hs t => hf hs t _) fun h16 hs16 t16 D16 => ?_
    exact h f1 b6 _ ct t16 hs16 _ h16 _ rfl rfl D16
  have tail : ∀ (f : Value) (s' : Shared), wpAny M A (bindName env bind f) (fun _ s => Q .next s) E s' → wpAny M A (decorate [] f >>= fun f => standAt pos >>= fun _ => bindName env bind f >>= fun _ => pure .next) Q E s' := by
    intro f s' hf
    refine wpAny_bind (wpAny_pure (wpAny_bind (wpAny_standAt (wpAny_bind ?_))))
    exact wpAny_mono hf (fun _ _ q => wpAny_pure q) fun _ _ q => q
  cases hcl0 : cl.isEmpty with
  | true =>
    refine ite_yb rfl ?_
    refine wpAny_bind (wpAny_pure ?_)
    exact wpAny_mono (fin _ _ D) (fun f s' q => tail f s' q) fun _ _ q => q
  | false =>
    refine ite_nb rfl ?_
    refine wpAny_bind (m_textTuple D fun ct2 hA2 DA2 => ?_)
    exact wpAny_mono (fin _ _ (mem_sub DA2 (.cons _ (.refl _)))) (fun f s' q => tail f s' q) fun _ _ q => q
end
end
section
open PySem PySem.W PyProof.Rows PySem.Calls PySem.Spec PySem.W.X PySem.W.ZRun
set_option maxRecDepth 100000
set_option maxHeartbeats 4000000
def clsSt : Stmt := (dBody (stAt 5)).getD 0 default
def cScope : Stmt → Scope | .ClassDef _ _ _ _ _ _ sc .. => sc | _ => default
def cenv (L NS a26 a27 : Addr) : Env := { scope := cScope clsSt, locals := NS, globals := 3, cells := [(Str.ofString "mycmp", L + 1)], qual := qualnameIn (envC L) (Str.ofString "K") (Str.ofString "K") ++ Str.ofString ".", code := .ref a26, frame := some a27, builtins := 0 }
abbrev kEnts1 (h0 h1 h2 h3 h4 h5 h6 h7 h8 h9 h10 : Int) (t0 t1 t2 t3 t4 t5 t6 t7 t8 t9 t10 : Tok) (vm vq vl : Value) (SL f1 f2 f3 f4 f5 f6 : Addr) : List DictEntry :=
  [⟨h0, .str "__module__" t0, vm⟩, ⟨h1, .str "__qualname__" t1, vq⟩, ⟨h2, .str "__firstlineno__" t2, vl⟩, ⟨h3, .str "__slots__" t3, .ref SL⟩, ⟨h4, .str "__init__" t4, .ref f1⟩, ⟨h5, .str "__lt__" t5, .ref f2⟩,
   ⟨h6, .str "__gt__" t6, .ref f3⟩, ⟨h7, .str "__eq__" t7, .ref f4⟩, ⟨h8, .str "__le__" t8, .ref f5⟩, ⟨h9, .str "__ge__" t9, .ref f6⟩, ⟨h10, .str "__hash__" t10, .none⟩]
def defAt (i : Nat) : Stmt := (cBody clsSt).getD i default
/-- the function that the i-th statement of the class body makes -/
abbrev fnO (i : Nat) (cl : List (Str × Addr)) (qual : Str) (pm ct : Value) (b6 : Addr) : Obj := ⟨.type "function", none, .func (fnX (dName (defAt i)) qual (dParams (defAt i)) (dBody (defAt i)) (dScope (defAt i)) cl .none .none .none pm none (.ref b6) ct), #[]⟩
theorem cbody {w : World} {A : Around} {E : Value → Shared → Prop} {h0 hh : Heap} {o37 : Obj} {g : Array GenState} {d : Drawn} {tk : Nat} {os : OsState} {L NS a25 a26 a27 : Addr} {oc : Obj} {cc : Value} {dc : Option Addr} {vs : Array Value} {slc : Array (Option Value)} {file : Str} {tf tg tt : Tok} {flags text : Int} {inF : Bool}
    {e0 e1 e2 : Int} {t0 t1 t2 : Tok} {v0 vq vl : Value} {n : Nat} {Q : Flow → Shared → Prop}
    (D : Mem h0 hh [(37, o37)] [(a26, oc), (a25, tableObj #[]), (NS, ⟨.type "dict", none, .dict ⟨[⟨e0, .str "__module__" t0, v0⟩, ⟨e1, .str "__qualname__" t1, vq⟩, ⟨e2, .str "__firstlineno__" t2, vl⟩]⟩ n, #[]⟩)])
    (e3 : h0.get? 3 = some (ob w.params 3)) (e4 : h0.get? 4 = some (ob w.params 4))
    (hoc : oc = ⟨cc, dc, .fields vs, slc⟩) (h11 : vs.getD 11 .none = .ref a25)
    (hv : (vs.getD 18 .none, vs.getD 7 .none, vs.getD 9 .none, vs.getD 10 .none) = (Value.str file tf, Value.int flags tg, Value.bool inF, Value.int text tt))
    (h : ∀ h' t' x3 x4 x5 x6 x7 x8 x9 x10 y3 y4 y5 y6 y7 y8 y9 y10 tm ts SL f1 f2 f3 f4 f5 f6 b1 b2 oc1 oc2 o3 o4 o5 o6 pm1 ct1 pm2 ct2, oc1.cls = .type "code" → qualV oc1 = some "cmp_to_key.<locals>.K.__init__" → qualV oc2 = some "cmp_to_key.<locals>.K.__lt__" → o3.cls = .type "function" → o4.cls = .type "function" → o5.cls = .type "function" → o6.cls = .type "function" →
      Mem h0 h' [(37, o37)] [(f6, o6), (f5, o5), (f4, o4), (f3, o3), (f2, fnO 3 [(Str.ofString "mycmp", L + 1)] "cmp_to_key.<locals>.K.__lt__" pm2 ct2 b2), (b2, oc2), (f1, fnO 2 [] "cmp_to_key.<locals>.K.__init__" pm1 ct1 b1), (b1, oc1), (SL, { cls := .type "list", data := .seq #[.str "obj" ts] }),
        (NS, ⟨.type "dict", none, .dict ⟨kEnts1 e0 e1 e2 x3 x4 x5 x6 x7 x8 x9 x10 t0 t1 t2 y3 y4 y5 y6 y7 y8 y9 y10 (.str "cpy313.functools" tm) vq vl SL f1 f2 f3 f4 f5 f6⟩ (n + 8), #[]⟩)] → Q .next ⟨h', g, d, t', os⟩) :
    wpAny (model P0 w) A (execs (cBody clsSt) (cenv L NS a26 a27)) Q E ⟨hh, g, d, tk, os⟩ := by
  refine wpAny_execs_cons (wpAny_Assign_Name ?_)
  refine wpAny_mkText (x := Str.ofString "cpy313.functools") ?_
  refine m_store rfl rfl D 2 rfl rfl (by kernel_rfl) (fun _ _ => rfl) fun hz11 hs11 t11 D11 => ?_
  refine wpAny_execs_cons (wpAny_Assign_Name ?_)
  refine wpAny_bind (wpAny_standAt (wpAny_bind ?_))
  refine spliced_more (wpAny_mkText (x := Str.ofString "obj") ?_)
  refine spliced_none ?_
  refine m_newObj (T := "list") D11 (by size_fits) rfl fun a28 h12 D12 => ?_
  refine m_store rfl rfl D12 3 rfl rfl (by kernel_rfl) (fun _ _ => rfl) fun h13 hs13 t13 D13 => ?_
  refine wpAny_execs_cons ?_
  refine m_def [] D13 e3 e4 rfl rfl rfl rfl rfl 1 2 3 rfl hoc h11 hv rfl (by decide) (by kernel_rfl) rfl (fun _ => by kernel_rfl) (by kernel_rfl) rfl rfl rfl rfl rfl (by kernel_rfl) (fun _ _ _ => rfl) fun f1 b1 pm1 ct1 tN1 hs1 oc1 hD1 tk1 q1 r1 D1 => ?_
  refine wpAny_execs_cons ?_
  refine m_def [(Str.ofString "mycmp", L + 1)] D1 e3 e4 rfl rfl rfl rfl rfl 3 4 5 rfl hoc h11 hv rfl (by decide) (by kernel_rfl) rfl (fun _ => by kernel_rfl) (by kernel_rfl) rfl rfl rfl rfl rfl (by kernel_rfl) (fun _ _ _ => rfl) fun f2 b2 pm2 ct2 tN2 hs2 oc2 hD2 tk2 q2 r2 D2 => ?_
  refine wpAny_execs_cons ?_
  refine m_def [(Str.ofString "mycmp", L + 1)] D2 e3 e4 rfl rfl rfl rfl rfl 5 6 7 rfl hoc h11 hv rfl (by decide) (by kernel_rfl) rfl (fun _ => by kernel_rfl) (by kernel_rfl) rfl rfl rfl rfl rfl (by kernel_rfl) (fun _ _ _ => rfl) fun f3 b3 pm3 ct3 tN3 hs3 oc3 hD3 tk3 q3 r3 D3 => ?_
  refine wpAny_execs_cons ?_
  refine m_def [(Str.ofString "mycmp", L + 1)] D3 e3 e4 rfl rfl rfl rfl rfl 7 8 9 rfl hoc h11 hv rfl (by decide) (by kernel_rfl) rfl (fun _ => by kernel_rfl) (by kernel_rfl) rfl rfl rfl rfl rfl (by kernel_rfl) (fun _ _ _ => rfl) fun f4 b4 pm4 ct4 tN4 hs4 oc4 hD4 tk4 q4 r4 D4 => ?_
  refine wpAny_execs_cons ?_
  refine m_def [(Str.ofString "mycmp", L + 1)] D4 e3 e4 rfl rfl rfl rfl rfl 9 10 11 rfl hoc h11 hv rfl (by decide) (by kernel_rfl) rfl (fun _ => by kernel_rfl) (by kernel_rfl) rfl rfl rfl rfl rfl (by kernel_rfl) (fun _ _ _ => rfl) fun f5 b5 pm5 ct5 tN5 hs5 oc5 hD5 tk5 q5 r5 D5 => ?_
  refine wpAny_execs_cons ?_
  refine m_def [(Str.ofString "mycmp", L + 1)] D5 e3 e4 rfl rfl rfl rfl rfl 11 12 13 rfl hoc h11 hv rfl (by decide) (by kernel_rfl) rfl (fun _ => by kernel_rfl) (by kernel_rfl) rfl rfl rfl rfl rfl (by kernel_rfl) (fun _ _ _ => rfl) fun f6 b6 pm6 ct6 tN6 hs6 oc6 hD6 tk6 q6 r6 D6 => ?_
  refine wpAny_execs_cons ?_
  refine wpAny_Assign_Name (wpAny_Constant_none ?_)
  refine m_store rfl rfl D6 15 rfl rfl (by kernel_rfl) (fun _ _ => rfl) fun h17 hs17 t17 D17 => ?_
  refine wpAny_execs_nil ?_
  have DZ := mem_sub D17 (.cons_cons _ (.cons _ (.cons_cons _ (.cons _ (.cons_cons _ (.cons _ (.cons_cons _ (.cons _ (.cons_cons _ (.cons_cons _ (.cons_cons _ (.cons_cons _ (.cons_cons _ (.cons _ (.cons _ (.refl _))))))))))))))))
  exact h h17 _ hs13 hs1 hs2 hs3 hs4 hs5 hs6 hs17 t13 tN1 tN2 tN3 tN4 tN5 tN6 t17 tk (t11 + 1) a28 f1 f2 f3 f4 f5 f6 b1 b2 oc1 oc2 (fnO 4 [(Str.ofString "mycmp", L + 1)] (qualnameIn (cenv L NS a26 a27) (Str.ofString "__gt__") (Str.ofString "__gt__")) pm3 ct3 b3) (fnO 5 [(Str.ofString "mycmp", L + 1)] (qualnameIn (cenv L NS a26 a27) (Str.ofString "__eq__") (Str.ofString "__eq__")) pm4 ct4 b4) (fnO 6 [(Str.ofString "mycmp", L + 1)] (qualnameIn (cenv L NS a26 a27) (Str.ofString "__le__") (Str.ofString "__le__")) pm5 ct5 b5) (fnO 7 [(Str.ofString "mycmp", L + 1)] (qualnameIn (cenv L NS a26 a27) (Str.ofString "__ge__") (Str.ofString "__ge__")) pm6 ct6 b6)
    pm1 ct1 pm2 ct2 r1 (q1.trans (by kernel_rfl)) (q2.trans (by kernel_rfl)) rfl rfl rfl rfl (cast (by kernel_rfl) DZ)
end
section
open PySem PySem.W PyProof.Rows PySem.Calls PySem.Spec PySem.W.X PySem.W.ZRun
set_option maxRecDepth 100000
set_option maxHeartbeats 4000000
theorem ne_cls {h : Heap} {a b : Addr} {oa ob : Obj} (ha : h.get? a = some oa) (hb : h.get? b = some ob) (n : oa.cls ≠ ob.cls) : a ≠ b := fun q => by
  rw [q, hb] at ha
  cases ha
  exact n rfl
theorem kready {w : World} {h : Heap} {L lam C N T SL f1 f2 f3 f4 f5 f6 SA Dd b1 b2 : Addr} {t tq td : Tok} {n : Nat} {e0 e2 e3 e4 e5 e6 e7 e8 e9 e10 e11 e12 e13 : Int} {t0 t2 t3 t4 t5 t6 t7 t8 t9 t10 t11 t12 t13 : Tok} {vm vl pm1 ct1 pm2 ct2 : Value} {oc1 oc2 ol : Obj}
    (KS : (K3 w.params).In h) (hC : h.get? C = some (kCls C N T t tq))
    (hN : h.get? N = some ⟨.type "dict", none, .dict ⟨kEnts2 e0 e2 e3 e4 e5 e6 e7 e8 e9 e10 e11 e12 e13 t0 t2 t3 t4 t5 t6 t7 t8 t9 t10 t11 t12 t13 vm vl SL f1 f2 f3 f4 f5 f6 SA Dd⟩ n, #[]⟩)
    (hD : h.get? Dd = some (descO C td))
    (hF1 : h.get? f1 = some (fnO 2 [] "cmp_to_key.<locals>.K.__init__" pm1 ct1 b1)) (hb1 : h.get? b1 = some oc1) (_r1 : oc1.cls = .type "code") (q1 : qualV oc1 = some "cmp_to_key.<locals>.K.__init__")
    (hF2 : h.get? f2 = some (fnO 3 [(Str.ofString "mycmp", L + 1)] "cmp_to_key.<locals>.K.__lt__" pm2 ct2 b2)) (hb2 : h.get? b2 = some oc2) (q2 : qualV oc2 = some "cmp_to_key.<locals>.K.__lt__")
    (hcl : h.get? (L + 1) = some ol) (hlam : cellV ol = some (.ref lam)) (nNC : N ≠ C) (nDC : Dd ≠ C) (nDN : Dd ≠ N) (nfC : f2 ≠ C) (nfN : f2 ≠ N) (nfD : f2 ≠ Dd) : KReady w h C lam := by
  have hlim : h.NoLimit := ⟨fun _ => none, ⟨_, #[], _, KS 2 _ rfl, rfl, fun e he => by simp at he, fun _ => rfl⟩, rfl⟩
  have R : KCore h C N Dd f1 _ _ _ _ := ⟨hC, hN, hD, hF1, nNC, nDC, nDN, ne_cls hF1 hC (by simp), ne_cls hF1 hN (by simp), ne_cls hF1 hD (by simp), (by kernel_rfl)⟩
  refine ⟨fun s k i ti => kmake0 (pm := pm1) (ct := ct1) (R.keeps k) (by kernel_rfl) (hlim.keeps k) ((qualV_some hb1 q1).keeps k) (by kernel_rfl) (by kernel_rfl) (by kernel_rfl) ⟨none, Str.ofString "obj", td, 0, #[], by kernel_rfl⟩ ⟨rfl, by kernel_rfl⟩, N, Dd, f2, L + 1, b2, _, _, _, _, _, _, hC, hN, hD, hF2, hcl, hb2, nNC, nDC, nDN, nfC, nfN, nfD, ?_, ?_, ?_, ?_, ?_, ⟨none, Str.ofString "obj", td, 0, #[], by kernel_rfl⟩, ⟨pm2, ct2, rfl, by kernel_rfl⟩, hlam, q2⟩
  all_goals kernel_rfl
end
section
open PySem PySem.W PyProof.Rows PySem.Calls PySem.Spec PySem.W.X PySem.W.ZRun
set_option maxRecDepth 100000
set_option maxHeartbeats 4000000
theorem K3_in3 {p : Params} {h₀ h : Heap} (X : (K3 p).In h₀) (k : ∀ b o, b ≠ 37 → b ≤ 118 → h₀.get? b = some o → h.get? b = some o) : (K3 p).In h := by
  have e : K3 p = adr3.map fun a => (a, ob p a) := rfl
  have key : ∀ (l : List Nat) a o, (l.map fun a => (a, ob p a)).lookup a = some o → a ∈ l := by
    intro l a o
    induction l with
    | nil => intro q; simp at q
    | cons b l ih =>
      intro q
      rw [List.map_cons, List.lookup_cons] at q
      by_cases hab : a = b
      · subst hab; exact .head _
      · rw [beq_eq_false_iff_ne.mpr hab] at q
        exact .tail _ (ih q)
  have hs : adr3.all (fun a => a != 37 && Nat.ble a 118) = true := by kernel_rfl
  intro a o ho
  have h1 := List.all_eq_true.mp hs a (key _ _ _ (e ▸ ho))
  rw [Bool.and_eq_true] at h1
  exact k a o (by simpa using h1.1) (Nat.le_of_ble_eq_true h1.2) (X a o ho)
theorem L_nsm {M : Model} {h : Heap} {a : Addr} {m : Str → Option Value} (hn : h.Ns a m) (name : Str) {r : Option Value} (hr : m name = r) : Looks M h (nsGet a name) r := by
  obtain ⟨o, es, ep, ho, hd, sk, f⟩ := hn
  have e : nsLook name o = pure r := by
    rw [← hr, ← f name, nsLook_eq]
    simp only [nsLookByArray, hd, nsFind, findBy]
    cases hf : es.find? (·.key.isStr name) with
    | some e => rfl
    | none =>
      have : es.any (·.refKey) = false := by
        rw [Array.any_eq_false']
        intro e he
        obtain ⟨n, t, h⟩ := sk e he
        simp [DictEntry.refKey, h]
      simp only [this, Bool.false_eq_true, if_false, Option.map_none]
  exact (Looks.ld ho).andThen (Looks.of_pure e)
theorem store_own {env : Env} {x : Str} {v : Value} (hs : env.scope.kind = .class) (hk : env.kindOf x = none) (hb : env.blockKind = .class) (hn : compilersOwnNames.contains x = true) : storeName env x v = localSet env x v := by
  unfold storeName
  rw [hk, hs, hb, hn]
  rfl
theorem m_storeN {M : Model} {A : Around} {E : Value → Shared → Prop} {h0 hh : Heap} {chg news : List (Addr × Obj)} {g : Array GenState} {d : Drawn} {t : Nat} {os : OsState} {env : Env} {o : Obj} {dd : Option Addr} {es : Array DictEntry} {n : Nat} {sl : Array (Option Value)} {name : Str} {v : Value} {Q : Unit → Shared → Prop}
    (hs : env.scope.kind = .class) (hkd : env.kindOf name = none) (hb : env.blockKind = .class) (hn : compilersOwnNames.contains name = true)
    (D : Mem h0 hh chg news) (i : Nat) (hi : news[i]? = some (env.locals, o)) (ho : o = ⟨.type "dict", dd, .dict es n, sl⟩)
    (hk : aRefKeyMayBeTheName name es = false) (hf : ∀ hs t, (Obj.putName name hs (.str name t) v o).isFreed = false)
    (h : ∀ h' hs t, Mem h0 h' chg (news.set i (env.locals, Obj.putName name hs (.str name t) v o)) → Q () ⟨h', g, d, t + 1, os⟩) : wpAny M A (storeName env name v) Q E ⟨hh, g, d, t, os⟩ := by
  rw [store_own hs hkd hb hn]
  exact m_localSet D i hi ho hk (fun hs => hf hs t) fun h' hs D' => h h' hs t D'
theorem hideQ {α : Type} {M : Model} {A : Around} {X : Sem α} {Q : α → Shared → Prop} {E : Value → Shared → Prop} {s : Shared} (h : ∀ Q' : α → Shared → Prop, (∀ v s', Q v s' → Q' v s') → wpAny M A X Q' E s) : wpAny M A X Q E s := h Q fun _ _ x => x
/-- where the class body starts -/
inductive BodyIn (hh1 h10 : Heap) (o37 : Obj) (L NS a25 a26 : Addr) (hs8 hs9 hs10 : Int) : Prop
  | mk (oc : Obj) (vs : Array Value) (file : Str) (tf tg tt : Tok) (flags : Int) (inF : Bool) (text : Int) (tq : Tok) (il : Int) (tl : Tok) (v0 : Value) (t0 t1 t2 : Tok) (hoc : oc = (⟨.type "code", none, .fields vs, #[]⟩ : Obj)) (h11 : vs.getD 11 .none = .ref a25)
      (hv : (vs.getD 18 .none, vs.getD 7 .none, vs.getD 9 .none, vs.getD 10 .none) = (Value.str file tf, Value.int flags tg, Value.bool inF, Value.int text tt))
      (D : Mem hh1 h10 [(37, o37)] [(a26, oc), (a25, tableObj #[]), (NS, ⟨.type "dict", none, .dict ⟨[⟨hs8, .str "__module__" t0, v0⟩, ⟨hs9, .str "__qualname__" t1, .str (qualnameIn (envC L) (Str.ofString "K") (Str.ofString "K")) tq⟩, ⟨hs10, .str "__firstlineno__" t2, .int il tl⟩]⟩ 3, #[]⟩)]) : BodyIn hh1 h10 o37 L NS a25 a26 hs8 hs9 hs10
/-- what the class statement leaves -/
theorem cdef {w : World} {A : Around} {E : Value → Shared → Prop} {Q : Flow → Shared → Prop} {mg mb : Str → Option Value} {hh : Heap} {g : Array GenState} {d : Drawn} {tk : Nat} {os : OsState} {L lam LL : Addr} {ol oL oLL : Obj} (hLL : hh.get? LL = some oLL) (hLL1 : 118 < LL) (hLL2 : LL < L) (KS : (K3 w.params).In hh) (h37 : hh.get? 37 = some (ob w.params 37)) (T : TopF mg mb hh)
    (hL : hh.get? L = some oL) (hL1 : 118 < L) (hcl : hh.get? (L + 1) = some ol) (hlam : cellV ol = some (.ref lam)) (hA1 : A.handled = none) (hA2 : A.depth ≤ 310) (hA3 : A.units ≤ 8 * 310)
    (hP : ∀ s' C, (∀ b o, b ≠ 37 → hh.get? b = some o → s'.heap.get? b = some o) → (∃ more, s'.heap.get? 37 = some (tableObj (fldA (ob w.params 37) ++ more))) → s'.gens = g → s'.os = os → (∀ h2, (∀ b o, b ≠ L → b ≠ LL → s'.heap.get? b = some o → h2.get? b = some o) → KReady w h2 C lam) →
      wpAny (model P0 w) A (bindName (envC L) (Str.ofString "K") (.ref C)) (fun _ s => Q .next s) E s') :
    wpAny (model P0 w) A (exec clsSt (envC L)) Q E ⟨hh, g, d, tk, os⟩ := by
  show wpAny _ _ (exec (.ClassDef _ _ _ _ _ [] _ _ _ _ _) _) _ _ _
  rw [arm_exec_ClassDef]
  refine wpAny_bind (wpAny_evalAll_nil ?_)
  refine wpAny_bind (wpAny_standAt ?_)
  have LB : Looks (model P0 w) hh (buildClassGuard (envC L)) () := Looks.andThen (L_nsm T.b "__build_class__" (r := some (.builtin "__build_class__")) ((T.builtins _ (by decide)).trans (by kernel_rfl))) .now
  refine wpAny_bind (LB.at ?_)
  refine wpAny_bind (wpAny_holding (wpAny_bind ?_))
  refine evalArgs_plain0 ?_
  show wpAny _ _ (spliced (backTo { line := 47, col := 4, endLine := 68, endCol := 23 } (starEach [Expr.Name (Str.ofString "object") { line := 47, col := 12, endLine := 47, endCol := 18 }] (envC L)))) _ _ _
  refine spliced_more ?_
  refine nm_bi T (by decide) (by boot_by_name) ?_
  refine spliced_none ?_
  refine wpAny_bind (wpAny_standAt ?_)
  refine wpAny_holding ?_
  unfold buildClass
  refine wpAny_bind (m_newTuple (Mem.start hh) (by decide) fun T₁ h1 D1 => ?_)
  refine wpAny_bind ?_
  refine Looks.at (r := ([Value.type "object"], false)) (Looks.of_pure (by kernel_rfl)) ?_
  refine wpAny_bind ?_
  refine Looks.at (r := Value.type "type") (Looks.of_pure (by kernel_rfl)) ?_
  refine wpAny_bind ?_
  refine Looks.at (r := true) (Looks.of_pure (by kernel_rfl)) ?_
  refine wpAny_bind ?_
  refine Looks.at (r := Value.type "type") (Looks.of_pure (by kernel_rfl)) ?_
  refine wpAny_bind (wpAny_mkText ?_)
  refine wpAny_bind (wpAny_pure ?_)
  refine wpAny_holding (wpAny_bind (hideQ fun Qa ha => ?_))
  unfold getAttr? getAttrBy? getAttrBy
  refine wpAny_bind (wpAny_mkText (wpAny_bind (wpAny_attempt (wpAny_holding (wpAny_bind ?_)))))
  refine Looks.at (r := Value.type "type") (Looks.of_pure (by kernel_rfl)) ?_
  refine wpAny_bind ?_
  refine Looks.at (r := some (Value.builtin "type.__getattribute__")) (Looks.of_pure (by rw [typeLookup_type, builtinLookup_eq_fast]; kernel_rfl)) ?_
  refine ite_nb rfl ?_
  unfold getAttrByItsOwn
  refine wpAny_bind ?_
  refine Looks.at (r := none) (Looks.of_pure (by kernel_rfl)) ?_
  refine wpAny_bind (wpAny_attempt (wpAny_holding ?_))
  unfold callGetattribute
  refine ite_nb rfl ?_
  unfold boundAndCalled
  refine wpAny_bind ?_
  refine Looks.at (r := (Value.builtin "type.__getattribute__", [Value.type "type"])) (Looks.of_pure (by kernel_rfl)) ?_
  refine AL.of 330 hA1 (by omega) (by omega) (ObjPost.rec_ prep1 fun m md msl hh1 tk1 p1 p3 p4 => ?_)
  refine handed_on rfl (wpAny_pure ?_)
  refine ha _ _ ?_
  refine wpAny_bind (AL.of 330 hA1 (by omega) (by omega) (ObjPost.use (prep2 p1) fun NS on hh2 tk2 n1 n2 n3 n4 => ?_))
  obtain rfl : on = _ := n2
  have up1 : ∀ b o, hh.get? b = some o → h1.get? b = some o := fun b o e => D1.keep b o e (by simp [away])
  have up2 : ∀ b o, h1.get? b = some o → hh2.get? b = some o := fun b o e => n4 b o (p4 b o e)
  have hNSo : ∀ b o, h1.get? b = some o → NS ≠ b := fun b o e q => by rw [q] at n3; rw [p4 b o e] at n3; cases n3
  have hns : NS ≠ sysModules := hNSo _ _ (up1 _ _ (KS sysModules _ rfl))
  have LG : Looks (model P0 w) hh2 (specialOf (.ref NS) "__getitem__") (some (.builtin "dict.__getitem__")) := ((Looks.ld n1).andThen .now).andThen (Looks.of_pure (by kernel_rfl))
  refine wpAny_bind ?_
  unfold notTheModulesDict
  refine ite_no (by simpa using hns) (wpAny_pure ?_)
  refine wpAny_bind (LG.at ?_)
  refine ite_nb rfl ?_
  refine wpAny_holding ?_
  refine wpAny_bind (wpAny_pure ?_)
  refine wpAny_bind (wpAny_pure ?_)
  refine wpAny_bind ?_
  have D2 := mem_one n4 n1 n3
  have e41 : hh2.get? 41 = some (ob w.params 41) := up2 _ _ (up1 _ _ (KS 41 _ rfl))
  have e37 : hh2.get? 37 = some (ob w.params 37) := up2 _ _ (up1 _ _ h37)
  unfold classCode codeAt
  refine ite_nb rfl ?_
  have L41 : Looks (model P0 w) hh2 (fieldsOf (.ref 41)) (fldA (ob w.params 41)) := Looks.andThen (Looks.ld e41) (Looks.of_pure (by kernel_rfl))
  have L37 : Looks (model P0 w) hh2 (fieldsOf (.ref 37)) (fldA (ob w.params 37)) := Looks.andThen (Looks.ld e37) (Looks.of_pure (by kernel_rfl))
  refine wpAny_bind (L41.at ?_)
  refine wpAny_bind (m := fieldsOf (.ref 37)) (L37.at ?_)
  rw [show codeAmong { line := 47, col := 4, endLine := 68, endCol := 23 } (fldA (ob w.params 37)).toList = none from by kernel_rfl]
  rw [show ((fldA (ob w.params 41)).getD 18 Value.none, (fldA (ob w.params 41)).getD 7 Value.none, (fldA (ob w.params 41)).getD 9 Value.none, (fldA (ob w.params 41)).getD 10 Value.none) =
    (Value.str (strF ((fldA (ob w.params 41)).getD 18 Value.none)) (tokF ((fldA (ob w.params 41)).getD 18 Value.none)), Value.int (intF ((fldA (ob w.params 41)).getD 7 Value.none)) (tokF ((fldA (ob w.params 41)).getD 7 Value.none)),
      Value.bool (boolF ((fldA (ob w.params 41)).getD 9 Value.none)), Value.int (intF ((fldA (ob w.params 41)).getD 10 Value.none)) (tokF ((fldA (ob w.params 41)).getD 10 Value.none))) from by kernel_rfl]
  refine wpAny_bind ?_
  unfold newCode
  refine wpAny_bind (wpAny_mkText (wpAny_bind (wpAny_mkText (wpAny_bind (wpAny_mkText (wpAny_bind (wpAny_mkStrs fun fs => ?_)))))))
  refine wpAny_bind (m_textTuple D2 fun a24 h3 D3 => ?_)
  refine wpAny_bind (m_alloc D3 rfl fun a25 h4 D4 => wpAny_pure ?_)
  refine wpAny_bind (wpAny_pure (wpAny_bind (wpAny_pure (wpAny_bind (wpAny_pure ?_)))))
  refine wpAny_bind (wpAny_fresh ?_)
  refine wpAny_bind (wpAny_mkText ?_)
  refine m_newObj (T := "code") D4 (by size_fits) rfl fun a26 h5 D5 => ?_
  refine wpAny_bind (m_grow (c := 41) (more := #[rawInt 47, rawInt 4, .ref a26]) D5 (table_at (p4 _ _ (up1 _ _ (KS 41 _ rfl))) (vs := fldA (ob w.params 41)) (ps := fldA (ob w.params 37)) (by kernel_rfl) (by kernel_rfl) (p4 _ _ (up1 _ _ h37)) (by kernel_rfl)) (by kernel_rfl) fun h6 D6 => ?_)
  have L37' : Looks (model P0 w) h6 (fieldsOf (.ref 37)) (fldA (ob w.params 37) ++ #[rawInt 47, rawInt 4, .ref a26]) := Looks.andThen (Looks.ld (D6.atC 0 _ _ rfl)) .now
  refine wpAny_bind (L37'.at ?_)
  rw [show codeAmong { line := 47, col := 4, endLine := 68, endCol := 23 } (fldA (ob w.params 37) ++ #[rawInt 47, rawInt 4, Value.ref a26]).toList = some (.ref a26) from by kernel_rfl]
  refine wpAny_pure ?_
  have up6 : ∀ b o, b ≠ 37 → hh1.get? b = some o → h6.get? b = some o := cmp_keep D6 rfl
  have kp6 : ∀ b o, b ≠ 37 → hh.get? b = some o → h6.get? b = some o := fun b o hb e => up6 b o hb (p4 _ _ (up1 _ _ e))
  have e3 : h6.get? 3 = some (ob w.params 3) := kp6 _ _ (by decide) (KS 3 _ rfl)
  have e4 : h6.get? 4 = some (ob w.params 4) := kp6 _ _ (by decide) (KS 4 _ rfl)
  have LBf : Looks (model P0 w) h6 (builtinsFor (envC L).globals (envC L).builtins) 0 :=
    Looks.andThen (L_ns (name := "__builtins__") (r := some (.ref 4)) e3 (by kernel_rfl)) (Looks.andThen (Looks.ld e4) (Looks.of_pure (by kernel_rfl)))
  refine wpAny_bind (LBf.at ?_)
  unfold newBodyFrame
  refine wpAny_bind (wpAny_bind ((L_ns (name := "__name__") (r := nmO "__name__" (ob w.params 3)) e3 (by kernel_rfl)).at (m_alloc D6 rfl fun a27 h7 D7 => wpAny_pure ?_)))
  refine wpAny_bind ?_
  refine Looks.at (r := [(Str.ofString "mycmp", L + 1)]) (Looks.of_pure (by kernel_rfl)) ?_
  refine wpAny_holding ?_
  have kp7 : ∀ b o, b ≠ 37 → hh.get? b = some o → h7.get? b = some o := fun b o hb e => cmp_keep D7 rfl b o hb (p4 _ _ (up1 _ _ e))
  have nl7 : h7.NoLimit := by
    obtain ⟨mc, hns', hnone⟩ := T.nolimit
    exact ⟨mc, hns'.at' fun o e => kp7 _ o (by decide) e, hnone⟩
  refine wpAny_bind (wpAny_enterFrame nl7 (Nat.lt_of_le_of_lt hA2 (by decide)) ?_)
  refine wpAny_bind (wpAny_onRaise ?_)
  have e37n := kp7 3 _ (by decide) (KS 3 _ rfl)
  refine wpAny_bind ?_
  unfold loadName
  refine ite_nb rfl ?_
  unfold localGet
  refine wpAny_bind (wpAny_bind (wpAny_load (D7.at 4 _ _ rfl) ?_))
  refine ite_yb rfl ?_
  refine (L_ns (name := "__name__") (r := none) (D7.at 4 _ _ rfl) (by kernel_rfl)).at ?_
  unfold loadGlobal
  refine wpAny_bind ((L_ns (name := "__name__") (r := some ((nmO "__name__" (ob w.params 3)).getD .none)) e37n (by kernel_rfl)).at (wpAny_pure ?_))
  refine wpAny_bind (m_store rfl rfl D7 4 rfl rfl (by kernel_rfl) (fun _ _ => rfl) fun h8 hs8 t8 D8 => ?_)
  refine wpAny_bind (wpAny_mkText ?_)
  refine wpAny_bind (m_storeN rfl rfl rfl (by kernel_rfl) D8 4 rfl rfl (by kernel_rfl) (fun _ _ => rfl) fun h9 hs9 t9 D9 => ?_)
  refine wpAny_bind (wpAny_mkInt ?_)
  refine wpAny_bind (m_storeN rfl rfl rfl (by kernel_rfl) D9 4 rfl rfl (by kernel_rfl) (fun _ _ => rfl) fun h10 hs10 t10 D10 => ?_)
  refine wpAny_pure ?_
  refine wpAny_bind ?_
  refine wpAny_run (codeAny_body rfl rfl ?_)
  have DN := mem_sub D10 (.cons _ (.cons_cons _ (.cons_cons _ (.cons _ (.cons_cons _ (.refl _))))))
  obtain ⟨oc, vs, file, tf, tg, tt, flags, inF, text, tq, il, tl, v0, t0, t1, t2, hoc, h11, hv, DN2⟩ : BodyIn hh1 h10 (tableObj (fldA (ob w.params 37) ++ #[rawInt 47, rawInt 4, Value.ref a26])) L NS a25 a26 hs8 hs9 hs10 := ⟨_, _, _, _, _, _, _, _, _, _, _, _, _, _, _, _, rfl, rfl, rfl, DN⟩
  refine cbody (L := L) (a27 := a27) DN2 (p4 _ _ (up1 _ _ (KS 3 _ rfl))) (p4 _ _ (up1 _ _ (KS 4 _ rfl))) hoc h11 hv fun h17 t17 x3 x4 x5 x6 x7 x8 x9 x10 y3 y4 y5 y6 y7 y8 y9 y10 tm ts SL f1 f2 f3 f4 f5 f6 b1 b2 oc1 oc2 o3 o4 o5 o6 pm1 ct1 pm2 ct2 r1 q1 q2 r3 r4 r5 r6 D17 => ?_
  refine wpAny_bind (wpAny_onRaise ?_)
  refine wpAny_bind (wpAny_mkStrs fun vst => ?_)
  refine wpAny_bind (m_textTuple D17 fun SA h18 D18 => ?_)
  refine wpAny_bind (m_storeN rfl rfl rfl (by kernel_rfl) D18 10 rfl rfl (by kernel_rfl) (fun _ _ => rfl) fun h19 hs19 t19 D19 => ?_)
  obtain ⟨t11, D20⟩ : ∃ t11 : Tok, Mem hh1 h19 [(37, tableObj (fldA (ob w.params 37) ++ #[rawInt 47, rawInt 4, Value.ref a26]))] [(SA, { cls := .type "tuple", data := .seq vst.toArray }), (f6, o6), (f5, o5), (f4, o4), (f3, o3), (f2, fnO 3 [(Str.ofString "mycmp", L + 1)] "cmp_to_key.<locals>.K.__lt__" pm2 ct2 b2), (b2, oc2), (f1, fnO 2 [] "cmp_to_key.<locals>.K.__init__" pm1 ct1 b1), (b1, oc1),
      (SL, { cls := .type "list", data := .seq #[.str "obj" ts] }), (NS, { cls := .type "dict", data := .dict ⟨kEnts hs8 hs9 hs10 x3 x4 x5 x6 x7 x8 x9 x10 hs19 t0 t1 t2 y3 y4 y5 y6 y7 y8 y9 y10 t11 (.str "cpy313.functools" tm) (.str "cmp_to_key.<locals>.K" tq) (.int il tl) SL f1 f2 f3 f4 f5 f6 SA⟩ 12 })] := ⟨_, D19⟩
  refine wpAny_pure ?_
  have kp : ∀ b o, b ≠ 37 → hh.get? b = some o → h19.get? b = some o := fun b o hb e => cmp_keep D20 rfl b o hb (p4 _ _ (up1 _ _ e))
  have hT1 := D1.nw _ (.head _)
  have nT : T₁ ≠ 37 := fun q => by have := hT1.2; rw [q, h37] at this; cases this
  refine wpAny_bind (tc (cmp_keep D20 rfl _ _ nT (p4 _ _ hT1.1)) (D20.at 10 _ _ rfl) (D20.at 9 _ _ rfl) (D20.at 7 _ _ rfl) rfl (D20.at 5 _ _ rfl) rfl (D20.at 4 _ _ rfl) r3 (D20.at 3 _ _ rfl) r4 (D20.at 2 _ _ rfl) r5 (D20.at 1 _ _ rfl) r6 (D20.at 0 _ _ rfl) rfl hns
    (kp cStatics _ (by decide) (KS cStatics _ rfl)) (by kernel_rfl) hA1 (by omega) (by omega) fun s' C N Dd hs hs12 oC oN q1' q2' q3' q4' q5' q6' q7' q8' q9' q10' q11' q12' q13' q14' => ?_)
  subst q3' q5'
  refine wpAny_pure ?_
  refine wpAny_bind (wpAny_pure (wpAny_bind (wpAny_standAt (wpAny_bind ?_))))
  refine wpAny_mono (hP s' C (fun b o hb e => q1' b o (kp b o hb e)) ⟨_, q1' _ _ (D20.atC 0 _ _ rfl)⟩ q13' q14' fun h2 k2 => ?_) (fun _ _ q => wpAny_pure q) fun _ _ q => q
  have nL37 : L ≠ 37 := fun q => by rw [q] at hL1; exact absurd hL1 (by decide)
  have hL19 := kp L _ nL37 hL
  have nLL37 : LL ≠ 37 := fun q => by rw [q] at hLL1; exact absurd hLL1 (by decide)
  have hLL19 := kp LL _ nLL37 hLL
  have hLLh : hh1.get? LL = some oLL := p4 _ _ (up1 _ _ hLL)
  have hLh : hh1.get? L = some oL := p4 _ _ (up1 _ _ hL)
  have nw : ∀ i a o, ([(SA, { cls := .type "tuple", data := .seq vst.toArray }), (f6, o6), (f5, o5), (f4, o4), (f3, o3), (f2, fnO 3 [(Str.ofString "mycmp", L + 1)] "cmp_to_key.<locals>.K.__lt__" pm2 ct2 b2), (b2, oc2), (f1, fnO 2 [] "cmp_to_key.<locals>.K.__init__" pm1 ct1 b1), (b1, oc1),
      (SL, { cls := .type "list", data := .seq #[.str "obj" ts] }), (NS, { cls := .type "dict", data := .dict ⟨kEnts hs8 hs9 hs10 x3 x4 x5 x6 x7 x8 x9 x10 hs19 t0 t1 t2 y3 y4 y5 y6 y7 y8 y9 y10 t11 (.str "cpy313.functools" tm) (.str "cmp_to_key.<locals>.K" tq) (.int il tl) SL f1 f2 f3 f4 f5 f6 SA⟩ 12 })] : List (Addr × Obj))[i]? = some (a, o) → h2.get? a = some o := fun i a o e =>
    k2 a o (fun q => by have := (D20.nw _ (List.mem_of_getElem? e)).2; simp only [q, hLh] at this; cases this) (fun q => by have := (D20.nw _ (List.mem_of_getElem? e)).2; simp only [q, hLLh] at this; cases this) (q1' _ _ (D20.at i _ _ e))
  have nl2 : ∀ a, h19.get? a = none → a ≠ LL := fun a e q => by rw [q, hLL19] at e; cases e
  have nl : ∀ a, h19.get? a = none → a ≠ L := fun a e q => by rw [q, hL19] at e; cases e
  have nf : ∀ a, h19.get? a = none → f2 ≠ a := fun a e q => by rw [← q, D20.at 5 _ _ rfl] at e; cases e
  refine kready (L := L) (K3_in3 KS fun b o hb hle e => k2 b o (fun q => by rw [q] at hle; exact absurd hL1 (Nat.not_lt.mpr hle)) (fun q => by rw [q] at hle; exact absurd hLL1 (Nat.not_lt.mpr hle)) (q1' _ _ (kp b o hb e))) (k2 _ _ (nl _ q7') (nl2 _ q7') q2') (k2 _ _ (nl _ q8') (nl2 _ q8') q4') (k2 _ _ (nl _ q9') (nl2 _ q9') q6') (nw 7 _ _ rfl) (nw 8 _ _ rfl) r1 q1 (nw 5 _ _ rfl) (nw 6 _ _ rfl) q2
    (k2 _ _ (Nat.succ_ne_self L) (fun q => by rw [← q] at hLL2; exact absurd hLL2 (Nat.not_lt.mpr (Nat.le_succ L))) (q1' _ _ (kp _ _ ?_ hcl))) hlam q10' q11' q12' (nf _ q7') (nf _ q8') (nf _ q9')
  intro q
  have : L + 1 > 37 := Nat.lt_succ_of_lt (Nat.lt_trans (by decide) hL1)
  rw [q] at this
  exact absurd this (by decide)
end
section
open PySem PySem.W PyProof.Rows PySem.Calls PySem.Spec PySem.W.X PySem.W.ZRun
set_option maxRecDepth 100000
set_option maxHeartbeats 4000000
def docO (o : Obj) : Value := match o.data with | .func fd => fd.doc | _ => .none
def CmpPost2 (w : World) (LL lam : Addr) (s : Shared) (v : Value) (s' : Shared) : Prop := ∃ C, v = .ref C ∧ (∀ h2, (∀ b o, b ≠ LL → s'.heap.get? b = some o → h2.get? b = some o) → KReady w h2 C lam) ∧ (∀ b o, b ≠ 37 → s.heap.get? b = some o → s'.heap.get? b = some o) ∧
  (∃ more, s'.heap.get? 37 = some (tableObj (fldA (ob w.params 37) ++ more))) ∧ s'.gens = s.gens ∧ s'.os = s.os
theorem ctk {w : World} {s : Shared} {lam LL : Addr} {oLL : Obj} {mg mb : Str → Option Value} (hLL : s.heap.get? LL = some oLL) (hLL1 : 118 < LL) (KS : (K3 w.params).In s.heap) (h37 : s.heap.get? 37 = some (ob w.params 37)) (T : TopF mg mb s.heap) :
    wpAny (model P0 w) (AL 305) (call (.ref 42) [.ref lam]) (CmpPost2 w LL lam s) (fun _ _ => False) s := by
  have hz : 118 < s.heap.objs.size := Heap.lt_size (KS 118 _ rfl)
  refine wpAny_call (call_cells_ret (binds := [("mycmp", .ref lam)]) (name := dName (stAt 5)) (params := dParams (stAt 5)) (body := dBody (stAt 5)) (scope := dScope (stAt 5)) (pm := pmO (ob w.params 42)) (cd := .ref 41) (doc := docO (ob w.params 42))
    (by decide) (KS 42 _ rfl) (by kernel_rfl) T.nolimit (qualV_some (KS 41 _ rfl) (by kernel_rfl)) rfl ?_ (fun h₁ tk F X => ?_))
  · intro x hx
    rw [List.mem_singleton.mp hx]
    exact .inr ⟨rfl, rfl⟩
  obtain ⟨gs, gd, gdr, gt, gos⟩ := s
  dsimp only at *
  generalize hL : gs.objs.size = L at *
  obtain ⟨oc, hoc, hod⟩ := X.cell "mycmp" (L + 1) rfl
  obtain ⟨oL, hoL⟩ : ∃ oL, h₁.get? L = some oL := by
    obtain ⟨o, _, _, e, _⟩ := F.ns
    exact ⟨o, e⟩
  refine wpAny_execs_cons ?_
  refine cdef (L := L) (lam := lam) (LL := LL) (F.keep _ _ hLL) hLL1 (hL ▸ Heap.lt_size hLL) (KS.keeps F.keep) (F.keep _ _ h37) (T.keeps F.keep) hoL hz hoc ?_ rfl (Nat.le_of_ble_eq_true rfl) (Nat.le_of_ble_eq_true rfl) fun s' C k1 k2 k3 k4 k5 => ?_
  · unfold cellV
    rw [hod]
    rfl
  refine wpAny_bindName ?_
  have nL : L ≠ 37 := Nat.ne_of_gt (Nat.lt_trans (by decide) hz)
  refine wpAny_storeName_local rfl (F.ns.at' fun o e => k1 _ _ nL e) (fun h3 hn hs => ?_) rfl
  refine wpAny_execs_cons (wpAny_Return_some ?_)
  refine nm_loc hn (if_pos rfl) ?_
  refine ⟨C, rfl, fun h2 kk => k5 _ fun b o hb hb2 e => kk b o hb2 ((hs.2 b hb).trans e), fun b o hb e => (hs.2 b ?_).trans (k1 b o hb (F.keep b o e)), ?_, k3, k4⟩
  · exact Nat.ne_of_lt (hL ▸ Heap.lt_size e)
  · obtain ⟨more, hm⟩ := k2
    exact ⟨more, (hs.2 37 (Ne.symm nL)).trans hm⟩
end
section
open PySem PySem.W PyProof.Rows PySem.Calls PySem.Spec
set_option maxRecDepth 100000
set_option maxHeartbeats 4000000
local macro_rules | `(tactic| walk_at "own pad") => `(tactic| skip)
theorem nm_free {w : World} {A : Around} {E : Value → Shared → Prop} {s : Shared} {env : Env} {x : Str} {pos : Pos} {c : Addr} {v : Value} {Q : Value → Shared → Prop} (hc : env.cells.lookup x = some c) (hv : s.heap.IsCell c (some v)) (h : Q v s)
    (hk : env.scope.kind = .function := by rfl) (hx : env.kindOf x = some .free := by rfl) (hd : (x == ("__debug__" : Str)) = false := by decide) (hn : (x == ("__classdict__" : Str)) = false := by decide) : wpAny (model P0 w) A (eval (.Name x pos) env) Q E s :=
  wpAny_Name (wpAny_loadName_free hk hx hc hv h hn) hd
theorem call_any {w : World} {A : Around} {E : Value → Shared → Prop} {s : Shared} {env : Env} {pos : Pos} {f : Addr} {o : Obj} {fd : FuncData} {e : Expr} {rest : List Expr} {Q : Value → Shared → Prop} (ho : s.heap.get? f = some o) (hd : o.data = .func fd)
    (h : wpAny (model P0 w) A (spliced (backTo pos (starEach (e :: rest) env))) (fun vs s₁ => (∀ b o, s.heap.get? b = some o → s₁.heap.get? b = some o) ∧ wpAny (model P0 w) A (call (.ref f) vs) Q E s₁) E s)
    (he : starEach (e :: rest) env = (false, eval e env) :: starEach rest env := by rfl) :
    wpAny (model P0 w) A (callWith pos (.ref f) [] (backTo pos (starEach (e :: rest) env)) []) Q E s := callWith_meth (h₀ := s.heap) hd ho h he
local macro_rules | `(tactic| walk_at "m_look") => `(tactic| (repeat' (first | rfl | assumption | (refine Eq.trans (if_neg (by decide)) ?_) | (refine Eq.trans (if_pos rfl) ?_))))
local macro_rules | `(tactic| walk_at "eval Name") => `(tactic| first
  | refine nm_free rfl (by assumption) ?_
  | refine nm_loc (Fr.ns (by assumption)) (by walk_at "m_look") ?_)
section
variable {w : World} {A : Around} {s : Shared} {C lam N D f cell c : Addr} {oC oN oD of ol oc : Obj}
theorem klt {x y : Addr} {ox odx oy ody : Obj} {i j : Int} {ti tj : Tok} {Q : Bool → Shared → Prop} (R : KObjs s.heap C lam N D f cell c oC oN oD of ol oc)
    (hx : InstK s.heap x C (.int i ti) ox odx) (hy : InstK s.heap y C (.int j tj) oy ody) {ola : Obj} {fdl : FuncData} (hlo : s.heap.get? lam = some ola) (hld : ola.data = .func fdl) (hlim : s.heap.NoLimit) (hA1 : A.handled = none) (hA2 : A.depth ≤ 400) (hA3 : A.units ≤ 8 * 400)
    (hl : ∀ s', (∀ b o, s.heap.get? b = some o → s'.heap.get? b = some o) → s'.gens = s.gens → s'.os = s.os → wpAny (model P0 w) (AL 450) (call (.ref lam) [.int i ti, .int j tj]) (fun v s'' => ∃ n tn, v = .int n tn ∧ Q (decide (n < 0)) { s'' with toks := s''.toks + 1 }) (fun _ _ => False) s') :
    wpAny (model P0 w) A (keyLt' oneType' (.ref x) (.ref y)) Q (fun _ _ => False) s := by
  obtain ⟨pm, ct, hfn⟩ := R.fn
  obtain ⟨hcls, hdat⟩ := hfn
  rw [keyLt'_oneType, oneLt'_eq]
  simp only [if_true]
  refine wpAny_bind (wpAny_cRoomFor (Nat.lt_of_le_of_lt hA3 (by decide)) ?_)
  refine wpAny_bind (ifBound_K R.core.in_ hx.inst (R.core.find_own R.lt) ?_ ?_)
  · unfold isFn typeIn
    dsimp only
    rw [R.core.lf, Option.map_some, hcls]
    rfl
  refine AL.of 400 hA1 hA2 hA3 ?_
  refine call_clos (binds := [("self", .ref x), ("other", .ref y)]) R.hf hdat hlim (qualV_some R.hc R.code) rfl (by simp; decide) fun h₁ F => ?_
  have hcell : h₁.IsCell cell (some (.ref lam)) := ⟨ol, F.keep _ _ R.hl, cellV_some R.lam⟩
  have N₁ : News s.heap s.heap.objs.size h₁ [] := News.nil
  refine wpAny_execs_cons ?_
  repeat' walk1
  have R₁ := R.keeps F.keep
  have hx₁ := hx.keeps F.keep
  have hy₁ := hy.keeps F.keep
  refine get_obj R₁ hx₁ rfl ?_
  repeat' walk1
  refine get_obj R₁ hy₁ rfl ?_
  repeat' walk1
  refine AL.of 450 rfl (Nat.le_of_ble_eq_true rfl) (Nat.le_of_ble_eq_true rfl) (wpAny_mono (hl _ (fun b o e => F.keep b o e) rfl rfl) (fun v s2 hv => ?_) fun _ _ x => x.elim)
  obtain ⟨n, tn, rfl, hq⟩ := hv
  refine (wpAny_mkInt ?_ : wpAny _ _ (mkInt 0) _ _ _)
  refine wpAny_lt_int ?_
  exact wpAny_truthy_bool hq
end
end
section
open PySem PySem.W PyProof.Rows PySem.Calls PySem.Spec
set_option maxRecDepth 100000
/-- the units -/
inductive U where | o | c | e | qc | qo | a | b
  deriving DecidableEq
def U.txt : U → List Nat
  | .o => [40] | .c => [41] | .e => [92, 40] | .qc => [34, 41, 34] | .qo => [34, 40, 34] | .a => [97] | .b => [92, 92]
def U.quoted : U → Bool | .qc => true | .qo => true | _ => false
def U.its (i : Nat) : U → List (Nat × List Nat)
  | .o => [(i, [40])] | .c => [(i, [41])] | .e => [(i + 1, [92, 40])] | .qc => [(i, [34]), (i + 1, [41]), (i + 2, [34])]
  | .qo => [(i, [34]), (i + 1, [40]), (i + 2, [34])] | .a => [(i, [97])] | .b => [(i + 1, [92, 92])]
def utxt (us : List U) : List Nat := us.flatMap U.txt
def uits : Nat → List U → List (Nat × List Nat)
  | _, [] => []
  | i, u :: us => u.its i ++ uits (i + u.txt.length) us
theorem its_utxt : ∀ (us : List U) (i : Nat) (r : List Nat), itsOf i false (utxt us ++ r) = uits i us ++ itsOf (i + (utxt us).length) false r
  | [], i, r => by simp [utxt, uits]
  | u :: us, i, r => by
    have ih := its_utxt us (i + u.txt.length) r
    have e : utxt (u :: us) ++ r = u.txt ++ (utxt us ++ r) := by simp [utxt]
    have el : i + (utxt (u :: us)).length = i + u.txt.length + (utxt us).length := by simp [utxt]; omega
    rw [e, el]
    cases u <;> simp [U.txt, itsOf, uits, U.its] at ih ⊢ <;> exact ih
theorem end_utxt : ∀ (us : List U), endEsc false (utxt us) = false
  | [] => rfl
  | u :: us => by
    have ih := end_utxt us
    have e : utxt (u :: us) = u.txt ++ utxt us := by simp [utxt]
    rw [e]
    cases u <;> simpa [U.txt, endEsc] using ih
theorem ascii_utxt (us : List U) : ∀ x ∈ utxt us, x < 128 := by
  intro x hx
  obtain ⟨u, _, hu⟩ := List.mem_flatMap.mp hx
  cases u <;> simp [U.txt] at hu <;> omega
theorem mem34 : ∀ (us : List U), 34 ∈ utxt us ↔ ∃ u ∈ us, u.quoted = true := by
  intro us
  simp only [utxt, List.mem_flatMap]
  constructor
  · rintro ⟨u, hu, h⟩
    refine ⟨u, hu, ?_⟩
    cases u <;> simp [U.txt, U.quoted] at h ⊢
  · rintro ⟨u, hu, h⟩
    refine ⟨u, hu, ?_⟩
    cases u <;> simp [U.txt, U.quoted] at h ⊢
/-- the scan -/
def scan : Int → List U → Bool
  | o, [] => o == 0
  | o, .o :: us => scan (o + 1) us
  | o, .c :: us => if o - 1 < 0 then false else scan (o - 1) us
  | o, _ :: us => scan o us
theorem chk_uits : ∀ (us : List U) (i : Nat) (o : Int), (∀ u ∈ us, u.quoted = false) → chkGo o ((uits i us).map (·.2)) = scan o us
  | [], _, _, _ => rfl
  | u :: us, i, o, h => by
    have ih := fun i o => chk_uits us i o fun v hv => h v (List.mem_cons_of_mem _ hv)
    have hu := h u List.mem_cons_self
    cases u <;> simp [U.quoted] at hu <;> simp [uits, U.its, U.txt, chkGo, scan, ih]
theorem scan_filter : ∀ (us : List U) (o : Int), scan o (us.filter fun u => !u.quoted) = scan o us
  | [], _ => rfl
  | u :: us, o => by
    have ih := scan_filter us
    rw [List.filter_cons]
    cases u
    · exact ih (o + 1)
    · show (if o - 1 < 0 then false else scan (o - 1) _) = if o - 1 < 0 then false else scan (o - 1) us
      rw [ih]
    all_goals exact ih o
/-- the text of a list -/
def mkS (l : List Nat) : Str := ⟨l.toArray⟩
theorem slice_ss (l : List Nat) {a b : Nat} (h1 : a ≤ b) (h2 : b ≤ l.length) : (Txt.slice (mkS l) (some (a : Int)) (some (b : Int))).cps.toList = (l.drop a).take (b - a) := by
  have := slice_closes (x := mkS l) (i := a) (j := b) ⟨by omega, by omega, by simpa [mkS] using h2⟩
  have e := eq_of_beq this
  rw [e]
  simp [mkS]
theorem slice_sn (l : List Nat) {a : Nat} (h1 : a ≤ l.length) : (Txt.slice (mkS l) (some (a : Int)) none).cps.toList = l.drop a := by
  have e := slice_from_eq (x := mkS l) (i := (a : Int)) (b := (l.length : Int)) (by omega) (by simpa [mkS, Str.length] using h1) (by simp [mkS, Str.length])
  rw [e]
  simp [mkS]
  exact List.take_of_length_le (by simp)
def resTxt (l : List Str) : List Nat := l.flatMap fun s => s.cps.toList
theorem str_append_list (a b : Str) : (a ++ b).cps.toList = a.cps.toList ++ b.cps.toList := by
  show (a.cps ++ b.cps).toList = _
  simp
theorem join_list : ∀ (l : List Str), (Txt.join (Str.ofString "") l).cps.toList = resTxt l := by
  intro l
  show (Builtin.Str.glued (Str.ofString "") l).cps.toList = _
  rw [StrLaws.glued_eq_join]
  induction l with
  | nil => rfl
  | cons a r ih =>
    cases r with
    | nil => simp [Str.join, resTxt]
    | cons b r =>
      show ((a ++ Str.ofString "") ++ Str.join (Str.ofString "") (b :: r)).cps.toList = _
      rw [str_append_list, str_append_list, ih]
      simp [resTxt]
      rfl
theorem strip_fold (z : List Nat) : ∀ (us : List U) (i : Nat) (st : StripSt), st.opn = none → st.start ≤ i → z.drop i = utxt us → i ≤ z.length →
    ∃ st', (uits i us).foldl (stripStep (mkS z)) st = st' ∧ st'.opn = none ∧ st'.start ≤ z.length ∧ resTxt st'.res ++ z.drop st'.start = resTxt st.res ++ (z.drop st.start).take (i - st.start) ++ utxt (us.filter fun u => !u.quoted) := by
  intro us
  induction us with
  | nil =>
    intro i st ho hs hz hi
    refine ⟨st, rfl, ho, Nat.le_trans hs hi, ?_⟩
    have hzl : z.length ≤ i := by
      have := congrArg List.length hz
      simp [utxt] at this
      omega
    have : i = z.length := by omega
    subst this
    simp [utxt]
    rw [List.take_of_length_le]
    simp
  | cons u us ih =>
    intro i st ho hs hz hi
    have hz' : z.drop (i + u.txt.length) = utxt us := by
      rw [← List.drop_drop, hz]; simp [utxt]
    have hl : i + u.txt.length ≤ z.length := by
      have := congrArg List.length hz
      simp [utxt] at this
      have h3 : u.txt.length ≤ (List.map (fun a => a.txt.length) (u :: us)).sum := by simp
      simp at h3
      omega
    have hu : (z.drop i).take u.txt.length = u.txt := by rw [hz]; simp [utxt]
    rw [uits, List.foldl_append]
    by_cases hq : u.quoted = true
    · have hl3 : u.txt.length = 3 := by cases u <;> first | rfl | cases hq
      have hst : (u.its i).foldl (stripStep (mkS z)) st = ⟨i + 3, none, if st.start ≠ i then st.res ++ [Txt.slice (mkS z) (some (st.start : Int)) (some (i : Int))] else st.res⟩ := by
        cases u <;> first | (cases hq; done) | (simp [U.its, stripStep, ho])
      rw [hst, hl3]
      obtain ⟨st', h1, h2, h3, h4⟩ := ih (i + 3) ⟨i + 3, none, if st.start ≠ i then st.res ++ [Txt.slice (mkS z) (some (st.start : Int)) (some (i : Int))] else st.res⟩ rfl (Nat.le_refl _) (hl3 ▸ hz') (hl3 ▸ hl)
      refine ⟨st', h1, h2, h3, ?_⟩
      have ef : (u :: us).filter (fun u => !u.quoted) = us.filter fun u => !u.quoted := by rw [List.filter_cons, if_neg (by simp [hq])]
      rw [h4, ef]
      congr 1
      simp only [Nat.sub_self, List.take_zero, List.append_nil]
      by_cases hsi : st.start = i
      · simp [hsi]
      · rw [if_pos hsi]
        simp [resTxt, slice_ss z hs hi]
    · have hst : (u.its i).foldl (stripStep (mkS z)) st = st := by
        cases u <;> first | (exact absurd rfl hq) | (simp [U.its, stripStep])
      rw [hst]
      obtain ⟨st', h1, h2, h3, h4⟩ := ih (i + u.txt.length) st ho (by omega) hz' hl
      refine ⟨st', h1, h2, h3, ?_⟩
      have ef : (u :: us).filter (fun u => !u.quoted) = u :: us.filter fun u => !u.quoted := by rw [List.filter_cons, if_pos (by simp [hq])]
      rw [h4, ef]
      have e1 : (z.drop st.start).take (i + u.txt.length - st.start) = (z.drop st.start).take (i - st.start) ++ u.txt := by
        rw [show i + u.txt.length - st.start = (i - st.start) + u.txt.length by omega, List.take_add, List.drop_drop, show st.start + (i - st.start) = i by omega, hu]
      rw [e1]
      simp [utxt]
theorem strip_units (us : List U) : (stripOf (mkS (utxt us))).cps.toList = utxt (us.filter fun u => !u.quoted) := by
  have e0 : (mkS (utxt us)).cps.toList = utxt us := by simp [mkS]
  unfold stripOf
  rw [e0]
  by_cases h : 34 ∈ utxt us
  · rw [if_pos h]
    have hi := its_utxt us 0 []
    simp [itsOf] at hi
    rw [hi]
    obtain ⟨st', h1, h2, h3, h4⟩ := strip_fold (utxt us) us 0 ⟨0, none, []⟩ rfl (Nat.le_refl _) rfl (Nat.zero_le _)
    rw [h1]
    simp only [resTxt, List.flatMap_nil, List.nil_append, Nat.sub_self, List.take_zero] at h4
    have hlen : (mkS (utxt us)).length = (utxt us).length := by simp [mkS, Str.length]
    show (Txt.join (Str.ofString "") _).cps.toList = _
    rw [join_list, hlen]
    by_cases hs : st'.start < (utxt us).length
    · rw [if_pos hs]
      rw [← h4]
      simp [resTxt, slice_sn (utxt us) h3]
    · rw [if_neg hs, ← h4, List.drop_of_length_le (by omega)]
      simp [resTxt]
  · rw [if_neg h, e0]
    have : us.filter (fun u => !u.quoted) = us := by
      rw [List.filter_eq_self]
      intro u hu
      cases hq : u.quoted with
      | false => rfl
      | true => exact absurd ((mem34 us).mpr ⟨u, hu, hq⟩) h
    rw [this]
end
section
open PySem PySem.W PyProof.Rows PySem.Calls PySem.Spec
set_option maxRecDepth 100000
def ustr (u : U) : Str := mkS u.txt
theorem res_ustr (us : List U) : resTxt (us.map ustr) = utxt us := by
  simp [resTxt, utxt, List.flatMap_map, ustr, mkS]
theorem join_units (us : List U) : Txt.join (Str.ofString "") (us.map ustr) = mkS (utxt us) := by
  have := join_list (us.map ustr)
  rw [res_ustr] at this
  have e : (Txt.join (Str.ofString "") (us.map ustr)).cps = (mkS (utxt us)).cps := by
    apply Array.toList_inj.mp
    rw [this]; simp [mkS]
  cases h : Txt.join (Str.ofString "") (us.map ustr) with
  | mk cps => rw [h] at e; simp at e; rw [e]
theorem check_units (us : List U) : chkGo 0 ((itsOf 0 false (stripOf (mkS (utxt us))).cps.toList).map (·.2)) = scan 0 us := by
  rw [strip_units]
  have hi := its_utxt (us.filter fun u => !u.quoted) 0 []
  simp only [List.append_nil, itsOf] at hi
  rw [hi, chk_uits _ 0 0 (by intro u hu; have := (List.mem_filter.mp hu).2; simpa using this), scan_filter]
def fstep (p : Int × Int) : U → Int × Int
  | .o => (p.1, p.2 + 1)
  | .c => if p.2 = 0 then (p.1 + 1, 0) else (p.1, p.2 - 1)
  | _ => p
def formU (us : List U) : Int × Int := us.foldl fstep (0, 0)
theorem fstep_nonneg {p : Int × Int} (h1 : 0 ≤ p.1) (h2 : 0 ≤ p.2) (u : U) : 0 ≤ (fstep p u).1 ∧ 0 ≤ (fstep p u).2 := by
  cases u <;> simp only [fstep] <;> first | exact ⟨h1, h2⟩ | (constructor <;> omega) | (split <;> constructor <;> simp <;> omega)
/-- scan by the form: from depth d with a form p already run -/
theorem scan_form : ∀ (us : List U) (rest : List U) (d : Int) (p : Int × Int), 0 ≤ p.1 → 0 ≤ p.2 →
    (if p.1 > d then false else scan (d - p.1 + p.2) (us ++ rest)) = (if (us.foldl fstep p).1 > d then false else scan (d - (us.foldl fstep p).1 + (us.foldl fstep p).2) rest)
  | [], _, _, _, _, _ => rfl
  | u :: us, rest, d, p, h1, h2 => by
    have hn := fstep_nonneg h1 h2 u
    have ih := scan_form us rest d (fstep p u) hn.1 hn.2
    rw [List.foldl_cons, ← ih]
    cases u with
    | o => simp only [fstep, List.cons_append, scan]; congr 2; omega
    | c =>
      by_cases hp : p.2 = 0
      · have hf : fstep p .c = (p.1 + 1, 0) := if_pos hp
        rw [hf, List.cons_append, scan, hp]
        by_cases hd : p.1 > d
        · rw [if_pos hd, if_pos (show (p.1 + 1, (0 : Int)).1 > d by simp; omega)]
        · rw [if_neg hd]
          by_cases hd' : p.1 + 1 > d
          · rw [if_pos (show (p.1 + 1, (0 : Int)).1 > d from hd'), if_pos (by omega)]
          · rw [if_neg (show ¬ (p.1 + 1, (0 : Int)).1 > d from hd'), if_neg (by omega)]; congr 1; simp; omega
      · have hf : fstep p .c = (p.1, p.2 - 1) := if_neg hp
        rw [hf, List.cons_append, scan]
        by_cases hd : p.1 > d
        · rw [if_pos hd, if_pos (show (p.1, p.2 - 1).1 > d from hd)]
        · rw [if_neg hd, if_neg (show ¬ (p.1, p.2 - 1).1 > d from hd), if_neg (by omega)]; congr 1; simp; omega
    | _ => rfl
theorem scan_form0 (us rest : List U) (d : Int) (hd : 0 ≤ d) : scan d (us ++ rest) = (if (formU us).1 > d then false else scan (d - (formU us).1 + (formU us).2) rest) := by
  have := scan_form us rest d (0, 0) (Int.le_refl _) (Int.le_refl _)
  rw [if_neg (by simp; omega)] at this
  unfold formU
  simpa using this
theorem formU_nonneg : ∀ (us : List U) (p : Int × Int), 0 ≤ p.1 → 0 ≤ p.2 → 0 ≤ (us.foldl fstep p).1 ∧ 0 ≤ (us.foldl fstep p).2
  | [], _, h1, h2 => ⟨h1, h2⟩
  | u :: us, p, h1, h2 => formU_nonneg us _ (fstep_nonneg h1 h2 u).1 (fstep_nonneg h1 h2 u).2
/-- all pieces in an order -/
def cat (ps : List (List U)) (ks : List Int) : List U := ks.flatMap fun k => (ps[k.toNat]?).getD []
theorem scan_closed (ps : List (List U)) : ∀ (ks : List Int) (d : Int), 0 ≤ d → (∀ k ∈ ks, k.toNat < ps.length) → scan d (cat ps ks) = (ks.foldl (closedStep (ps.map formU)) (some d) == some 0)
  | [], d, _, _ => by
    show (d == 0) = _
    by_cases h : d = 0
    · subst h; rfl
    · have h1 : (d == 0) = false := by simpa using h
      have h2 : (some d == some (0 : Int)) = false := by simpa using h
      rw [h1]; exact h2.symm
  | k :: ks, d, hd, hk => by
    have hk0 := hk k List.mem_cons_self
    have e : cat ps (k :: ks) = ps[k.toNat] ++ cat ps ks := by simp [cat, hk0]
    have ef : closedStep (ps.map formU) (some d) k = if (formU ps[k.toNat]).1 > d then none else some (d - (formU ps[k.toNat]).1 + (formU ps[k.toNat]).2) := by
      simp [closedStep, hk0]
    rw [e, scan_form0 _ _ d hd, List.foldl_cons, ef]
    have hn := formU_nonneg ps[k.toNat] (0, 0) (Int.le_refl _) (Int.le_refl _)
    by_cases h : (formU ps[k.toNat]).1 > d
    · rw [if_pos h, if_pos h, closedStep_none]; rfl
    · rw [if_neg h, if_neg h]
      exact scan_closed ps ks _ (by unfold formU at h ⊢; omega) fun j hj => hk j (List.mem_cons_of_mem _ hj)
theorem form_ustr (us : List U) : formOf (us.map ustr) = formU us := by
  have key : ∀ (us : List U) (p : Int × Int), 0 ≤ p.2 → (us.map ustr).foldl formStep p = us.foldl fstep p := by
    intro us
    induction us with
    | nil => intro p _; rfl
    | cons u us ih =>
      intro p hp
      have hs : formStep p (ustr u) = fstep p u := by
        cases u with
        | o => show ((p.1, p.2 + 1) : Int × Int) = _; rfl
        | c =>
          show ((p.1 + (if (p.2 == 0) = true then 1 else 0), (if p.2 - 1 > 0 then p.2 - 1 else 0) + 0) : Int × Int) = if p.2 = 0 then (p.1 + 1, 0) else (p.1, p.2 - 1)
          by_cases h : p.2 = 0
          · simp [h]
          · rw [if_neg h, if_neg (by simpa using h)]
            congr 1
            · omega
            · split <;> omega
        | _ => show ((p.1, p.2 + 0) : Int × Int) = p; simp
      rw [List.map_cons, List.foldl_cons, List.foldl_cons, hs]
      refine ih _ ?_
      cases u <;> simp only [fstep] <;> first | exact hp | omega | (split <;> simp <;> omega)
  exact key us (0, 0) (Int.le_refl _)
end
section
open PySem PySem.W PyProof.Rows PySem.Calls PySem.Spec
set_option maxRecDepth 100000
set_option maxHeartbeats 4000000
open MeetsSeq MeetsSeq2 MeetsSeq3 SeqRoads2 SeqAt
theorem removeAt_loop (l : Addr) (items : Array Value) (n : Nat) (x : Value) (e : Value → Bool) (j : Nat) (hj : j < items.size) (hit : e items[j] = true) (k : Nat) (hs1 : items.size ≤ sizeLine) :
    ∀ i : Nat, j - i = k → i ≤ j → (∀ m (hm : m < items.size), i ≤ m → m < j → e items[m] = false) → Meets (Builtin.«list.remove.loop» ⟨[.ref l, x, rawInt i], []⟩)
      (fun A R s => s.heap.get? l = some { cls := .type "list", dict := none, data := .seq items n, slots := #[] } ∧ (∀ y, y ∈ items → EqAt A.in1 s y x (e y)) ∧ R (.ok (.ret .none)) { s with heap := s.heap.update l (Obj.mapSeq fun xs => xs.eraseIdxIfInBounds j) }) := by
  induction k with
  | zero =>
    intro i hk hij hno prog w A R s h
    obtain ⟨hp, g, d, tk, os⟩ := s; obtain ⟨hl, he, h⟩ := h
    have hij' : i = j := by omega
    subst hij'
    wp_walk using AutoSeq1.wpAny_loadPart' hl
    have hi : items[((i : Nat) : Int).toNat]? = some items[i] := by simp [hj]
    rw [hi]
    refine wpAny_bind (he _ (Array.getElem_mem hj) prog w _ _ ?_)
    rw [hit]
    have hz' : (items.eraseIdxIfInBounds i).size ≤ sizeLine + 1 := Nat.le_trans (size_erased items _) (Nat.le_succ_of_le hs1)
    wp_walk using (wpAny_updateSeq hl rfl (hz := hs1) (_hz' := hz')), AutoSeq1.wpAny_loadPart' hl
    simpa using h
  | succ k ih =>
    intro i hk hij hno prog w A R s h
    obtain ⟨hp, g, d, tk, os⟩ := s; obtain ⟨hl, he, h⟩ := h
    have hlt : i < items.size := by omega
    wp_walk using AutoSeq1.wpAny_loadPart' hl
    have hi : items[((i : Nat) : Int).toNat]? = some items[i] := by simp [hlt]
    have hc : ((i : Int) + 1) = ((i + 1 : Nat) : Int) := by push_cast; rfl
    rw [hi]
    refine wpAny_bind (he _ (Array.getElem_mem hlt) prog w _ _ ?_)
    rw [hno i hlt (Nat.le_refl _) (by omega)]
    wp_walk
    rw [hc]
    exact ⟨plainId_quiet plain_remove_loop _, codeAny_builtin entry_remove_loop (by
      rw [Around.under_plainId plain_remove_loop _]
      exact ih (i + 1) (by omega) (by omega) (fun m hm h1 h2 => hno m hm (by omega) h2) prog w A R _ ⟨hl, he, h⟩)⟩
theorem list_removeAt (l : Addr) (items : Array Value) (n : Nat) (x : Value) (e : Value → Bool) (j : Nat) (hj : j < items.size)
    (hit : e items[j] = true) (hno : ∀ m (hm : m < items.size), m < j → e items[m] = false) (hs1 : items.size ≤ sizeLine) :
    Meets (Builtin.«list.remove» ⟨[.ref l, x], []⟩)
      (fun A R s => s.heap.get? l = some { cls := .type "list", dict := none, data := .seq items n, slots := #[] } ∧ (∀ y, y ∈ items → EqAt A.in1 s y x (e y)) ∧ R (.ok (.ret .none)) { s with heap := s.heap.update l (Obj.mapSeq fun xs => xs.eraseIdxIfInBounds j) }) := by
  intro prog w A R s h
  obtain ⟨hp, g, d, tk, os⟩ := s; obtain ⟨hl, he, h⟩ := h
  wp_walk using AutoSeq1.wpAny_loadPart' hl
  exact ⟨plainId_quiet plain_remove_loop _, codeAny_builtin entry_remove_loop (by
    rw [Around.under_plainId plain_remove_loop _]
    exact removeAt_loop l items n x e j hj hit _ hs1 0 rfl (Nat.zero_le _) (fun m hm _ h2 => hno m hm h2) prog w A R _ ⟨hl, he, h⟩)⟩
theorem removeAt_loop_none (l : Addr) (items : Array Value) (n : Nat) (x : Value) (e : Value → Bool) (hno : ∀ m (hm : m < items.size), e items[m] = false) (k : Nat) :
    ∀ i : Nat, items.size - i = k → Meets (Builtin.«list.remove.loop» ⟨[.ref l, x, rawInt i], []⟩)
      (fun A R s => s.heap.get? l = some { cls := .type "list", dict := none, data := .seq items n, slots := #[] } ∧ (∀ y, y ∈ items → EqAt A.in1 s y x (e y)) ∧ raisesNew "ValueError" A R s) := by
  induction k with
  | zero =>
    intro i hk prog w A R s h
    obtain ⟨hp, g, d, tk, os⟩ := s; obtain ⟨hl, he, h⟩ := h
    wp_walk using AutoSeq1.wpAny_loadPart' hl
    have hi : items[((i : Nat) : Int).toNat]? = none := by simp; omega
    rw [hi]
    wp_walk
    exact_raiseError plainExc_ValueError h.1 h.2
  | succ k ih =>
    intro i hk prog w A R s h
    obtain ⟨hp, g, d, tk, os⟩ := s; obtain ⟨hl, he, h⟩ := h
    have hlt : i < items.size := by omega
    wp_walk using AutoSeq1.wpAny_loadPart' hl
    have hi : items[((i : Nat) : Int).toNat]? = some items[i] := by simp [hlt]
    have hc : ((i : Int) + 1) = ((i + 1 : Nat) : Int) := by push_cast; rfl
    rw [hi]
    refine wpAny_bind (he _ (Array.getElem_mem hlt) prog w _ _ ?_)
    rw [hno i hlt]
    wp_walk
    rw [hc]
    exact ⟨plainId_quiet plain_remove_loop _, codeAny_builtin entry_remove_loop (by
      rw [Around.under_plainId plain_remove_loop _]
      exact ih (i + 1) (by omega) prog w A R _ ⟨hl, he, h⟩)⟩
theorem list_removeAt_none (l : Addr) (items : Array Value) (n : Nat) (x : Value) (e : Value → Bool) (hno : ∀ m (hm : m < items.size), e items[m] = false) :
    Meets (Builtin.«list.remove» ⟨[.ref l, x], []⟩)
      (fun A R s => s.heap.get? l = some { cls := .type "list", dict := none, data := .seq items n, slots := #[] } ∧ (∀ y, y ∈ items → EqAt A.in1 s y x (e y)) ∧ raisesNew "ValueError" A R s) := by
  intro prog w A R s h
  obtain ⟨hp, g, d, tk, os⟩ := s; obtain ⟨hl, he, h⟩ := h
  wp_walk using AutoSeq1.wpAny_loadPart' hl
  exact ⟨plainId_quiet plain_remove_loop _, codeAny_builtin entry_remove_loop (by
    rw [Around.under_plainId plain_remove_loop _]
    exact removeAt_loop_none l items n x e hno _ 0 rfl prog w A R _ ⟨hl, he, h⟩)⟩

/-- a value that stands for a list of ints -/
def IntsAt (h : Heap) (v : Value) (b : List Int) : Prop := ∃ (r : Addr) (zs : List Value), v = .ref r ∧ h.IsList r zs.toArray ∧ Paired IsIntV zs b
theorem IntsAt.keeps {h h' : Heap} {v : Value} {b : List Int} (x : IntsAt h v b) (k : ∀ b o, h.get? b = some o → h'.get? b = some o) : IntsAt h' v b :=
  let ⟨r, zs, e, l, p⟩ := x; ⟨r, zs, e, isList_keeps l k, p⟩
theorem paired_all_eq : ∀ {xs ys : List Value} {a b : List Int}, Paired IsIntV xs a → Paired IsIntV ys b → a.length = b.length → (List.range a.length).all (fun j => a.getD j 0 == b.getD j 0) = decide (a = b) := by
  intro xs ys a b _ _ hl
  rw [Bool.eq_iff_iff]
  simp only [List.all_eq_true, List.mem_range, beq_iff_eq, decide_eq_true_eq]
  constructor
  · intro h
    apply List.ext_getElem? 
    intro j
    by_cases hj : j < a.length
    · have := h j hj
      simp only [List.getD_eq_getElem?_getD] at this
      rw [List.getElem?_eq_getElem hj, List.getElem?_eq_getElem (by omega)] at this ⊢
      simpa using this
    · rw [List.getElem?_eq_none (by omega), List.getElem?_eq_none (by omega)]
  · rintro rfl j _; rfl
theorem ints_inj {zs : List Value} {a b : List Int} (h : Paired IsIntV zs a) (h' : Paired IsIntV zs b) : a = b := by
  induction h generalizing b with
  | nil => cases h'; rfl
  | cons h t ih =>
    cases h' with
    | cons h2 t2 =>
      obtain ⟨_, e⟩ := h
      obtain ⟨_, e2⟩ := h2
      rw [e] at e2
      injection e2 with e2
      rw [e2, ih t2]
section
variable {A : Around} {s : Shared}
theorem RcAt.ints {l b : Addr} {xs ys : List Value} {p q : List Int} (hl : s.heap.IsList l xs.toArray) (hb : s.heap.IsList b ys.toArray) (hx : Paired IsIntV xs p) (hy : Paired IsIntV ys q) (hu : A.units < cLine) :
    RcAt A s (.ref l) (.ref b) (decide (p = q)) := by
  by_cases hlen : p.length = q.length
  · have := RcAt.lists (A := A) (e := fun j => p.getD j 0 == q.getD j 0) hl hb (by simp [hx.length, hy.length, hlen]) hu (fun j h1 h2 => ?_)
    · rw [show xs.toArray.size = p.length by simp [hx.length], paired_all_eq hx hy hlen] at this
      exact this
    · have h1' : j < xs.length := by simpa using h1
      have h2' : j < ys.length := by simpa using h2
      obtain ⟨u, hu', t, e⟩ := paired_get hx (List.getElem?_eq_getElem h1')
      obtain ⟨u2, hu2', t2, e2⟩ := paired_get hy (List.getElem?_eq_getElem h2')
      have e3 : xs.toArray[j] = .int u t := by simpa using e
      have e4 : ys.toArray[j] = .int u2 t2 := by simpa using e2
      rw [e3, e4]
      have e5 : p.getD j 0 = u := by simp [List.getD_eq_getElem?_getD, hu']
      have e6 : q.getD j 0 = u2 := by simp [List.getD_eq_getElem?_getD, hu2']
      rw [e5, e6]
      exact EqAt.int_int u t u2 t2
  · have hne : p ≠ q := fun e => hlen (by rw [e])
    rw [decide_eq_false hne]
    exact RcAt.lists_lengths hl hb (by simp [hx.length, hy.length, hlen]) hu
theorem EqAt.ints {v v' : Value} {p q : List Int} (h : IntsAt s.heap v p) (h' : IntsAt s.heap v' q) (hu : A.units < cLine) : EqAt A s v v' (decide (p = q)) := by
  obtain ⟨l, xs, rfl, hl, hx⟩ := h
  obtain ⟨b, ys, rfl, hb, hy⟩ := h'
  by_cases e : l = b
  · subst e
    obtain ⟨o, e1, _, n1, d1⟩ := id hl
    obtain ⟨o2, e2, _, n2, d2⟩ := id hb
    rw [e1] at e2; cases e2; rw [d1] at d2
    injection d2 with d2
    have hxy : xs = ys := by simpa using congrArg Array.toList d2
    subst hxy
    rw [ints_inj hx hy, decide_eq_true rfl]
    exact EqAt.same _
  · exact EqAt.of_refs e (RcAt.ints hl hb hx hy hu)
end
end
section
open PySem PySem.W PyProof.Rows PySem.Calls PySem.Spec
set_option maxRecDepth 100000
set_option maxHeartbeats 4000000
def hide (h : Heap) (a : Addr) : Heap := h.update a fun o => { o with data := .freed }
theorem hide_other {h : Heap} {a b : Addr} (hab : b ≠ a) : (hide h a).get? b = h.get? b := Heap.get?_update_other _ _ (Ne.symm hab)
theorem hide_self {h : Heap} {a : Addr} : (hide h a).get? a = none := by
  cases e : (hide h a).get? a with
  | none => rfl
  | some o =>
    obtain ⟨e1, e2⟩ := Heap.get?_some_iff.mp e
    unfold hide Heap.update at e1
    cases h with
    | mk objs =>
      simp only [Array.getElem?_modify, if_true] at e1
      obtain ⟨o', _, rfl⟩ := Option.map_eq_some_iff.mp e1
      cases e2
section
variable {w : World} {A : Around} {E : Value → Shared → Prop} {s : Shared}
theorem note_new {base : Heap} {env : Env} {outer : List Env} {L e : Addr} {oe : Obj} {vs : Array Value} {a0 : Value} {Q : Unit → Shared → Prop}
    (hfr : A.frames = some (env :: outer)) (hl : s.heap.FunFrames base (env :: outer)) (hf : env.frame = some L)
    (he : s.heap.get? e = some oe) (hkb : base.StaysIn s.heap) (hen : base.get? e = none) (hd : oe.data = .fields vs) (h0 : vs[0]? = some a0) (h1 : vs[1]? = some .none)
    (h : ∀ h', Heap.NotedW base (env :: outer) e oe.cls a0 (rawInt L) s.heap h' → Q () { s with heap := h' }) :
    wpAny (model P0 w) A (noteFrame (.ref e) env) Q E s := by
  unfold noteFrame
  simp only [hf]
  refine wpAny_bind (wpAny_field he hd h1 ?_)
  rw [if_neg (show ¬ ((Value.none != Value.none) = true) from by decide)]
  exact wpAny_entryW hfr hl hf he hkb hen hd (Array.getElem?_eq_some_iff.mp h1).1 h0 h

theorem caught2 {env envL : Env} {L LL e : Addr} {oL oLL : Obj} {h : Heap} {X T : String} {t : Expr} {b₀ : Stmt} {suite : List Stmt} {pos : Pos} {rest : List ExceptHandler} {Q : Flow → Shared → Prop}
    (hfr : A.frames = some [env, envL]) (hf : env.frame = some L) (hfL : envL.frame = some LL) (hk : env.scope.kind ≠ .module) (hkL : envL.scope.kind ≠ .module)
    (hx : Heap.NewExc h s.heap e X) (hL : h.get? L = some oL) (hLd : ∀ vs, oL.data ≠ .fields vs) (hLL : h.get? LL = some oLL) (hLLd : ∀ vs, oLL.data ≠ .fields vs) (hne : L ≠ LL)
    (hexc : isSubtype (.type T) (.type "BaseException") = pure true) (hnt : isSubtype (.type ((Manifest.find? T).elim "type" fun x => x.metatype)) (.type "tuple") = pure false)
    (hsub : isSubtype (.type X) (.type T) = pure true)
    (hname : ∀ (s₂ : Shared) (Q' : Value → Shared → Prop) (E' : Value → Shared → Prop), (∀ b o, b ≠ L → b ≠ LL → h.get? b = some o → s₂.heap.get? b = some o) → Q' (.type T) s₂ → wpAny (model P0 w) (A.mark (some (.ref e))) (eval t env) Q' E' s₂)
    (k : ∀ h' oL' oLL', (∀ b o, b ≠ L → b ≠ LL → h.get? b = some o → h'.get? b = some o) → h'.get? L = some oL' → oL'.data = oL.data → h'.get? LL = some oLL' → oLL'.data = oLL.data →
      wpAny (model P0 w) (A.mark (some (.ref e))) (execs (b₀ :: suite) env) Q (fun _ _ => False) { s with heap := h' }) :
    wpAny (model P0 w) A (noteFrame (.ref e) env) (fun _ s₂ => wpAny (model P0 w) A (setFlight (.ref e) none) (fun _ s₃ => wpAny (model P0 w) A (handleBy (.ref e) env (.ExceptHandler (some t) none (b₀ :: suite) pos :: rest)) Q E s₃) E s₂) E s := by
  obtain ⟨ob, a0, he, hcls, hd⟩ := hx.there
  have heL : e ≠ L := fun q => by have := hx.new; rw [q, hL] at this; cases this
  have heLL : e ≠ LL := fun q => by have := hx.new; rw [q, hLL] at this; cases this
  have bL : (hide (hide h L) LL).get? L = none := by rw [hide_other hne]; exact hide_self
  have bLL : (hide (hide h L) LL).get? LL = none := hide_self
  have bo : ∀ b, b ≠ L → b ≠ LL → (hide (hide h L) LL).get? b = h.get? b := fun b h1 h2 => by rw [hide_other h2, hide_other h1]
  have stays : ∀ h' : Heap, (∀ b o, b ≠ L → b ≠ LL → h.get? b = some o → h'.get? b = some o) → (hide (hide h L) LL).StaysIn h' := fun h' kk b o hb => by
    have h1 : b ≠ L := fun q => by rw [q, bL] at hb; cases hb
    have h2 : b ≠ LL := fun q => by rw [q, bLL] at hb; cases hb
    rw [bo b h1 h2] at hb
    exact kk b o h1 h2 hb
  have back : ∀ h' : Heap, (hide (hide h L) LL).StaysIn h' → ∀ b o, b ≠ L → b ≠ LL → h.get? b = some o → h'.get? b = some o := fun h' st b o h1 h2 e => st b o ((bo b h1 h2).trans e)
  have hen : (hide (hide h L) LL).get? e = none := (bo e heL heLL).trans hx.new
  have ff : s.heap.FunFrames (hide (hide h L) LL) [env, envL] := ⟨hk, ⟨L, oL, hf, bL, hx.keeps _ _ hL, hLd⟩, hkL, ⟨LL, oLL, hfL, bLL, hx.keeps _ _ hLL, hLLd⟩, trivial⟩
  refine note_new hfr ff hf he (stays _ fun b o _ _ e => hx.keeps b o e) hen hd rfl rfl fun h₂ ⟨x1, x2, x3, x4⟩ => ?_
  obtain ⟨sl₂, hL₂⟩ := x4 L oL (hx.keeps _ _ hL) hLd
  obtain ⟨sm₂, hLL₂⟩ := x4 LL oLL (hx.keeps _ _ hLL) hLLd
  refine wpAny_setFlight_noneW x1 x2 x3 fun h₃ y1 y2 y3 y4 => ?_
  have hL₃ := y4 L _ hL₂ hLd
  have hLL₃ := y4 LL _ hLL₂ hLLd
  refine wpAny_handleBy_builtin (X := X) (T := T) (b := true) hexc hnt hsub ?_
  refine hname _ _ _ (back h₃ y1) ⟨rfl, ?_, ?_⟩
  · obtain ⟨oe, vs, TT, oT, ts, q1, ⟨q2, _⟩, _⟩ := y3
    exact ⟨oe, q1, q2.trans hcls⟩
  · rw [if_pos rfl]
    refine wpAny_setFlight_noneW y1 y2 y3.at fun h₄ z1 z2 z3 z4 => ?_
    exact wpAny_mono (k h₄ _ _ (back h₄ z1) (z4 L _ hL₃ hLd) rfl (z4 LL _ hLL₃ hLLd) rfl) (fun _ _ x => x) fun _ _ x => x.elim
end
end
section
open PySem PySem.W PyProof.Rows PySem.Calls PySem.Spec
set_option maxRecDepth 100000
set_option maxHeartbeats 4000000
def diffGo : List (List Int) → List (List Int) → List (List Int) → List (List Int) × List (List Int)
  | [], act, mis => (mis, act)
  | e :: es, act, mis => if e ∈ act then diffGo es (act.erase e) mis else diffGo es act (mis ++ [e])
abbrev lob (vs : List Value) (n : Nat) : Obj := { cls := .type "list", data := .seq vs.toArray n }
theorem map_erase (ws : List Value) (n j : Nat) : ∃ n', Obj.mapSeq (fun xs => xs.eraseIdxIfInBounds j) (lob ws n) = { cls := .type "list", data := .seq (ws.toArray.eraseIdxIfInBounds j) n' } := by
  unfold Obj.mapSeq
  dsimp only
  exact ⟨_, rfl⟩
theorem erase_last (vs : List Value) (y : Value) : (vs ++ [y]).toArray.eraseIdxIfInBounds ((vs ++ [y]).toArray.size - 1) = vs.toArray := by
  apply Array.toList_inj.mp
  simp [Array.eraseIdxIfInBounds, List.eraseIdx_append_of_length_le]
theorem erase_at (ws : List Value) (j : Nat) (hj : j < ws.length) : ws.toArray.eraseIdxIfInBounds j = (ws.eraseIdx j).toArray := by
  apply Array.toList_inj.mp
  simp [Array.eraseIdxIfInBounds, hj]
theorem ints_unique {h : Heap} {v : Value} {a b : List Int} (x : IntsAt h v a) (y : IntsAt h v b) : a = b := by
  obtain ⟨l, xs, rfl, hl, hx⟩ := x
  obtain ⟨l', ys, e, hb, hy⟩ := y
  cases e
  obtain ⟨o, e1, _, n1, d1⟩ := id hl
  obtain ⟨o2, e2, _, n2, d2⟩ := id hb
  rw [e1] at e2; cases e2; rw [d1] at d2
  injection d2 with d2
  have hxy : xs = ys := by simpa using congrArg Array.toList d2
  subst hxy
  exact ints_inj hx hy
open Classical in
noncomputable def isE (h : Heap) (e₀ : List Int) (y : Value) : Bool := decide (IntsAt h y e₀)
theorem isE_eq {h : Heap} {e₀ b : List Int} {y : Value} (x : IntsAt h y b) : isE h e₀ y = decide (b = e₀) := by
  unfold isE
  by_cases e : b = e₀
  · subst e; simp [x]
  · have : ¬ IntsAt h y e₀ := fun z => e (ints_unique x z)
    simp [e, this]
theorem first_at {a : List Int} : ∀ {l : List (List Int)}, a ∈ l → ∃ j, ∃ hj : j < l.length, l[j] = a ∧ (∀ m (hm : m < l.length), m < j → l[m] ≠ a) ∧ l.erase a = l.eraseIdx j
  | [], h => nomatch h
  | x :: l, h => by
    by_cases e : x = a
    · exact ⟨0, by simp, by simpa using e, fun m _ h => absurd h (Nat.not_lt_zero _), by simp [e]⟩
    · have h' : a ∈ l := by
        rcases List.mem_cons.mp h with q | q
        · exact absurd q.symm e
        · exact q
      obtain ⟨j, hj, h1, h2, h3⟩ := first_at h'
      refine ⟨j + 1, by simpa using hj, by simpa using h1, fun m hm hmj => ?_, ?_⟩
      · cases m with
        | zero => simpa using e
        | succ m => simpa using h2 m (by simpa using hm) (by omega)
      · rw [List.erase_cons, if_neg (by simpa using e), h3]; rfl
theorem paired_eraseIdx {α β : Type} {R : α → β → Prop} {l₁ : List α} {l₂ : List β} (j : Nat) (x : Paired R l₁ l₂) : Paired R (l₁.eraseIdx j) (l₂.eraseIdx j) := by
  induction x generalizing j with
  | nil => exact .nil
  | cons h t ih =>
    cases j with
    | zero => exact t
    | succ j => exact .cons h (ih j)
theorem paired_last {α β : Type} {R : α → β → Prop} {l₁ : List α} {a : α} {l₂ : List β} (x : Paired R (l₁ ++ [a]) l₂) : ∃ l₃ b, l₂ = l₃ ++ [b] ∧ Paired R l₁ l₃ ∧ R a b := by
  induction l₁ generalizing l₂ with
  | nil =>
    cases x with
    | cons h t => cases t; exact ⟨[], _, rfl, .nil, h⟩
  | cons _ _ ih =>
    cases x with
    | cons h t =>
      obtain ⟨l₃, b, rfl, h1, h2⟩ := ih t
      exact ⟨_ :: l₃, b, rfl, .cons h h1, h2⟩
local macro_rules | `(tactic| walk_at "call builtin:list.append") => `(tactic| (refine append_head (by assumption) (by assumption) (by assumption) ?_ (by assumption); intro h' F' N'))
section
variable {w : World} {E : Value → Shared → Prop} {s : Shared} {mg mb : Str → Option Value}
theorem pop_at {A : Around} {D : Addr} {vs : List Value} {y : Value} {n : Nat} {Q : Value → Shared → Prop} (hz : vs.length ≤ 100) (ho : s.heap.get? D = some (lob (vs ++ [y]) n))
    (h : ∀ h' n', Heap.SameBut D s.heap h' → h'.get? D = some (lob vs n') → Q y { s with heap := h' }) : wpAny (model P0 w) A (call (.builtin "list.pop") [.ref D]) Q E s := by
  have hsz : (vs ++ [y]).toArray.size ≤ sizeLine := Nat.le_trans (show _ ≤ 101 by simp; omega) (by decide)
  refine call_meets PySem.F.slot_list_pop ⟨_, ho, rfl⟩ PySem.F.entry_list_pop (PySem.F.args_list_pop_1 _) (PySem.MeetsSeq.list_pop_last D (vs ++ [y]).toArray n y (by simp) hsz) ⟨ho, ?_⟩
  have e1 : (vs ++ [y]).toArray.eraseIdxIfInBounds ((vs ++ [y]).toArray.size - 1) = vs.toArray := erase_last vs y
  obtain ⟨n', e2⟩ := map_erase (vs ++ [y]) n ((vs ++ [y]).toArray.size - 1)
  refine h _ n' (Heap.SameBut.update ..) ?_
  rw [Heap.get?_update_self _ ho (by rw [e2]; rfl), e2, e1]
theorem remove_hit {A : Around} {D : Addr} {ws : List Value} {x : Value} {n j : Nat} {e : Value → Bool} {Q : Value → Shared → Prop} (hz : ws.length ≤ 100) (ho : s.heap.get? D = some (lob ws n)) (he : ∀ y, y ∈ ws → SeqAt.EqAt A.in1 s y x (e y))
    (hj : j < ws.length) (hit : e ws[j] = true) (hno : ∀ m (hm : m < ws.length), m < j → e ws[m] = false)
    (h : ∀ h' n', Heap.SameBut D s.heap h' → h'.get? D = some (lob (ws.eraseIdx j) n') → Q .none { s with heap := h' }) : wpAny (model P0 w) A (call (.builtin "list.remove") [.ref D, x]) Q E s := by
  have hsz : ws.toArray.size ≤ sizeLine := Nat.le_trans (show _ ≤ 100 by simpa using hz) (by decide)
  refine call_meets PySem.F.slot_list_remove ⟨_, ho, rfl⟩ PySem.F.entry_list_remove (PySem.F.args_list_remove_2 _ _) (list_removeAt D ws.toArray n x e j (by simpa using hj) (by simpa using hit) (fun m hm h1 => by simpa using hno m (by simpa using hm) h1) hsz) ⟨ho, ?_, ?_⟩
  · exact fun y hy => he y (by simpa using hy)
  · obtain ⟨n', e2⟩ := map_erase ws n j
    refine h _ n' (Heap.SameBut.update ..) ?_
    rw [Heap.get?_update_self _ ho (by rw [e2]; rfl), e2, erase_at ws j hj]
theorem remove_none {A : Around} {D : Addr} {ws : List Value} {x : Value} {n : Nat} {e : Value → Bool} {Q : Value → Shared → Prop} (hh : A.handled = none) (ho : s.heap.get? D = some (lob ws n)) (he : ∀ y, y ∈ ws → SeqAt.EqAt A.in1 s y x (e y))
    (hno : ∀ y, y ∈ ws → e y = false)
    (h : ∀ h' tk r, Heap.NewExc s.heap h' r "ValueError" → E (.ref r) { s with heap := h', toks := tk }) : wpAny (model P0 w) A (call (.builtin "list.remove") [.ref D, x]) Q E s := by
  refine call_meets PySem.F.slot_list_remove ⟨_, ho, rfl⟩ PySem.F.entry_list_remove (PySem.F.args_list_remove_2 _ _) (list_removeAt_none D ws.toArray n x e (fun m hm => hno _ (by simp)) ) ⟨ho, ?_, hh, ?_⟩
  · exact fun y hy => he y (by simpa using hy)
  · exact fun h' tk r hr => h h' tk r hr
theorem call_fnA {A : Around} {a : Addr} {st : Stmt} {vals : List Value} {binds : List (Str × Value)} {Q : Value → Shared → Prop} (F : FnAt s.heap a st) (T : TopF mg mb s.heap)
    (hb : ∀ pm c doc, bindArgs (docDef (dName st) (dParams st) (dBody st) (dScope st) pm c doc) ⟨vals, []⟩ = pure binds)
    (hloc : ∀ x ∈ binds, (dScope st).names.lookup x.1 = some .local)
    (h : ∀ c h₁, Fr s.heap s.heap.objs.size h₁ (fun x => binds.reverse.lookup x) →
      wpAny (model P0 w) (A.deeper (envOf (dName st) (dScope st) s.heap.objs.size a (.ref c))) (execs (dBody st) (envOf (dName st) (dScope st) s.heap.objs.size a (.ref c)))
        (fun f s' => Q (match f with | .ret v => v | _ => .none) s') (fun _ _ => False) { s with heap := h₁, toks := s.toks + binds.length })
    (hr : A.depth < recursionLimit) (hco : (dScope st).isCoroutine = false := by rfl) (hgen : (dScope st).isGenerator = false := by rfl) (hk : (dScope st).kind = .function := by rfl)
    (hcell : ∀ x ∈ (dScope st).names, x.2 ≠ .cell := by decide) :
    wpAny (model P0 w) A (call (.ref a) vals) Q E s := by
  obtain ⟨o, pm, c, doc, ho, hd, hc⟩ := F
  refine wpAny_call (call_plain_ret hr ho hd T.nolimit hc (hb pm _ doc) hloc (fun h₁ F₁ => ?_) hco hgen hk hcell)
  exact h c h₁ F₁
/-- what the loop of unorderable_list_difference keeps -/
inductive DiffInv (h₀ : Heap) (s : Shared) (p q M LL : Addr) (oLL : Obj) (ps qs : List (List Int)) (n : Nat) (s' : Shared) : Prop
  | mk (us : List Value) (es act : List (List Int)) (wsA : List Value) (mis : List (List Int)) (xs : List Value) (k1 k2 k3 : Nat) (m' : Str → Option Value) (oM : Obj) (hoM : oM.data = oLL.data) (hn : n = us.length) (F : Fr h₀ s.heap.objs.size s'.heap m')
    (ha : m' (Str.ofString "expected") = some (.ref p)) (hb : m' (Str.ofString "actual") = some (.ref q)) (hc : m' (Str.ofString "missing") = some (.ref M))
    (N : News h₀ s.heap.objs.size s'.heap [(M, lob xs k1), (p, lob us k2), (q, lob wsA k3), (LL, oM)]) (hd : diffGo ps.reverse qs [] = diffGo es.reverse act mis) (hus : Paired (IntsAt h₀) us es) (hws : Paired (IntsAt h₀) wsA act) (hxs : Paired (IntsAt h₀) xs mis)
    (hl1 : us.length + xs.length ≤ 100) (hl2 : wsA.length ≤ 100) (hg : GExt s s') : DiffInv h₀ s p q M LL oLL ps qs n s'
theorem diff_spec {A : Around} {envL : Env} {LL : Addr} {oLL : Obj} {h₀ : Heap} {p q : Addr} {vs ws : List Value} {n₁ n₂ : Nat} {ps qs : List (List Int)} {Q : Value → Shared → Prop} (hA : A.handled = none) (hAd : A.depth ≤ 450) (hAu : A.units ≤ 3600) (hfr : A.frames = some [envL]) (hfL : envL.frame = some LL) (hkL : envL.scope.kind ≠ .module)
    (hLL : s.heap.get? LL = some oLL) (hLLd : ∀ vs, oLL.data ≠ .fields vs) (hLL0 : h₀.get? LL = none) (hLLp : LL ≠ p) (hLLq : LL ≠ q)
    (T : TopF mg mb h₀) (hk : ∀ b o, h₀.get? b = some o → s.heap.get? b = some o) (hsz : h₀.objs.size ≤ s.heap.objs.size)
    (hp0 : h₀.get? p = none) (hq0 : h₀.get? q = none) (hpq : p ≠ q) (hp : s.heap.get? p = some (lob vs n₁)) (hq : s.heap.get? q = some (lob ws n₂)) (hvs : Paired (IntsAt h₀) vs ps) (hws : Paired (IntsAt h₀) ws qs) (hz : vs.length ≤ 100) (hz2 : ws.length ≤ 100)
    (hQ : ∀ r M s' k₁ k₂ xs ys oLL', (∀ b o, h₀.get? b = some o → s'.heap.get? b = some o) → GExt s s' → s'.heap.get? LL = some oLL' → oLL'.data = oLL.data → IsTup s'.heap r #[.ref M, .ref q] → s'.heap.get? M = some (lob xs k₁) → s'.heap.get? q = some (lob ys k₂) →
      Paired (IntsAt h₀) xs (diffGo ps.reverse qs []).1 → Paired (IntsAt h₀) ys (diffGo ps.reverse qs []).2 → Q (.ref r) s') :
    wpAny (model P0 w) A (call (.ref 58) [.ref p, .ref q]) Q E s := by
  refine call_fnA ((T.keeps hk).fn "unorderable_list_difference" 58 9) (T.keeps hk) (binds := [(Str.ofString "expected", .ref p), (Str.ofString "actual", .ref q)]) (fun _ _ _ => rfl) (by intro x hx; simp only [List.mem_cons, List.not_mem_nil, or_false] at hx; rcases hx with rfl | rfl <;> rfl) (fun c h₁ F₀ => ?_) (Nat.lt_of_le_of_lt hAd (by decide))
  have hLLL : LL ≠ s.heap.objs.size := Nat.ne_of_lt (Heap.lt_size hLL)
  have F : Fr h₀ s.heap.objs.size h₁ _ := ⟨F₀.ns, fun b o e => F₀.keep b o (hk b o e), hsz⟩
  have hpL : p ≠ s.heap.objs.size := Nat.ne_of_lt (Heap.lt_size hp)
  have hqL : q ≠ s.heap.objs.size := Nat.ne_of_lt (Heap.lt_size hq)
  have N : News h₀ s.heap.objs.size h₁ [(p, lob vs n₁), (q, lob ws n₂), (LL, oLL)] := fun x hx => by
    simp only [List.mem_cons, List.not_mem_nil, or_false] at hx
    rcases hx with rfl | rfl | rfl
    · exact ⟨F₀.keep _ _ hp, hpL, hp0⟩
    · exact ⟨F₀.keep _ _ hq, hqL, hq0⟩
    · exact ⟨F₀.keep _ _ hLL, hLLL, hLL0⟩
  clear F₀
  refine wpAny_execs_cons ?_
  walk1
  walk1
  walk1
  walk1
  dsimp only
  walk1
  rename_i h₂ F₂ N₂ h₃ F₃ N₃
  have hM : p ≠ h₁.objs.size ∧ q ≠ h₁.objs.size ∧ LL ≠ h₁.objs.size := ⟨Nat.ne_of_lt (Heap.lt_size (N.get (.head _))), Nat.ne_of_lt (Heap.lt_size (N.get (.tail _ (.head _)))), Nat.ne_of_lt (Heap.lt_size (N.get (.tail _ (.tail _ (.head _)))))⟩
  have hML : h₁.objs.size ≠ s.heap.objs.size := Nat.ne_of_gt F.ns.lt
  dsimp only at N₃
  generalize h₁.objs.size = M at *
  dsimp only
  refine wpAny_execs_cons (wpAny_While ?_)
  refine codeAny_whileLoop (DiffInv h₀ s p q M LL oLL ps qs) ?_ vs.length
    ⟨vs, ps, qs, ws, [], [], _, _, _, _, _, rfl, rfl, F₃, rfl, rfl, rfl, N₃, rfl, hvs, hws, .nil, by simpa using hz, hz2, GExt.same⟩
  rintro n s' ⟨us, es, act, wsA, mis, xs, k1, k2, k3, m', oM, hoM, rfl, F', ha, hb, hc, N', hd, hus, hwsA, hxs, hl1, hl2, hg⟩
  rcases List.eq_nil_or_concat us with rfl | ⟨us', u, rfl⟩
  · cases hus
    walk1
    walk1
    refine wpAny_truthy_list (items := #[]) ⟨_, N'.get (.tail _ (.head _)), rfl, _, rfl⟩ (by decide) ?_
    rw [if_neg (by decide)]
    refine wpAny_execs_nil ?_
    dsimp only
    walk_at "go"
    rename_i h₄ F₄ N₄
    have hd' : diffGo ps.reverse qs [] = (mis, act) := hd
    refine hQ _ M _ k1 k3 xs wsA oM F₄.keep ⟨hg.gens, hg.bare, hg.os⟩ (N₄.get (.tail _ (.tail _ (.tail _ (.tail _ (.head _)))))) hoM ⟨_, N₄.get (.head _), rfl, _, rfl⟩ (N₄.get (.tail _ (.head _))) (N₄.get (.tail _ (.tail _ (.tail _ (.head _))))) ?_ ?_
    · rw [hd']; exact hxs
    · rw [hd']; exact hwsA
  · obtain ⟨es', e₀, rfl, hus', hu⟩ : ∃ es' e₀, es = es' ++ [e₀] ∧ Paired (IntsAt h₀) us' es' ∧ IntsAt h₀ u e₀ := by rw [List.concat_eq_append] at hus; exact paired_last hus
    walk1
    walk1
    refine wpAny_truthy_list (items := (us'.concat u).toArray) ⟨_, N'.get (.tail _ (.head _)), rfl, _, rfl⟩ (Int.lt_of_le_of_lt (show ((us'.concat u).toArray.size : Int) ≤ 100 by simp at hl1 ⊢; omega) (by decide)) ?_
    rw [if_pos (by simp)]
    rw [List.concat_eq_append] at *
    refine wpAny_execs_cons ?_
    walk1
    walk1
    walk1
    walk1
    walk1
    have hul : us'.length ≤ 100 := by simp at hl1; omega
    refine pop_at hul (N'.get (.tail _ (.head _))) fun h₄ k2' hs₄ hp₄ => ?_
    have F₄ := F'.change hs₄ hpL hp0
    have N₄ : News h₀ s.heap.objs.size h₄ [(M, lob xs k1), (p, lob us' k2'), (q, lob wsA k3), (LL, oM)] := News.setSecond N' (Ne.symm hM.1) (fun x hx => by
      simp only [List.mem_cons, List.not_mem_nil, or_false] at hx
      rcases hx with rfl | rfl
      · exact Ne.symm hpq
      · exact hLLp) hs₄ hp₄
    clear N' F'
    walk1
    rename_i h₅ F₅ N₅
    dsimp only
    refine wpAny_execs_cons (wpAny_Try_except ?_)
    refine wpAny_execs_cons ?_
    walk_at "go"
    have hq₅ : h₅.get? q = some (lob wsA k3) := N₅.get (.tail _ (.tail _ (.head _)))
    have hq₅' : h₅.IsList q wsA.toArray := ⟨_, hq₅, rfl, _, rfl⟩
    refine getMethod_list_of PySem.F.slot_list_remove PySem.F.type_list_remove hq₅' ⟨_, hq₅, rfl⟩ ?_
    walk_at "go"
    have hEq : ∀ y ∈ wsA, SeqAt.EqAt (A.deeper (envOf (dName (stAt 9)) (dScope (stAt 9)) s.heap.objs.size 58 (Value.ref c))).in1 { s' with heap := h₅, toks := s'.toks + 1 + 1 + 1 } y u (isE h₀ e₀ y) := fun y hy => by
      obtain ⟨i, hi⟩ := List.getElem?_of_mem hy
      obtain ⟨b, _, hb⟩ := paired_get hwsA hi
      rw [isE_eq hb]
      exact EqAt.ints (hb.keeps F₅.keep) (hu.keeps F₅.keep) (Nat.lt_of_le_of_lt (show A.units + 3 + 1 ≤ 3604 by omega) (by decide))
    rw [List.reverse_append, List.reverse_singleton, List.singleton_append, diffGo] at hd
    by_cases hmem : e₀ ∈ act
    · rw [if_pos hmem] at hd
      obtain ⟨j, hj, h1, h2, h3⟩ := first_at hmem
      have hlA := hwsA.length
      have at_ : ∀ m (hm : m < wsA.length) (hm' : m < act.length), isE h₀ e₀ wsA[m] = decide (act[m] = e₀) := fun m hm hm' => by
        obtain ⟨b, hb1, hb2⟩ := paired_get hwsA (List.getElem?_eq_getElem hm)
        rw [List.getElem?_eq_getElem hm'] at hb1
        cases hb1
        exact isE_eq hb2
      refine remove_hit (e := isE h₀ e₀) (j := j) hl2 hq₅ hEq (by omega) (by rw [at_ j (by omega) hj, h1]; simp) (fun m hm hmj => by rw [at_ m hm (by omega)]; simpa using h2 m (by omega) hmj) fun h₆ k3' hs₆ hq₆ => ?_
      have F₆ := F₅.change hs₆ hqL hq0
      have N₆ : News h₀ s.heap.objs.size h₆ [(M, lob xs k1), (p, lob us' k2'), (q, lob (wsA.eraseIdx j) k3'), (LL, oM)] := News.setIn (own := [(M, lob xs k1), (p, lob us' k2')]) (rest := [(LL, oM)]) N₅ (fun x hx => by
        simp only [List.mem_cons, List.not_mem_nil, or_false] at hx
        rcases hx with rfl | rfl
        · exact Ne.symm hM.2.1
        · exact hpq) (fun x hx => by rw [List.mem_singleton.mp hx]; exact hLLq) hs₆ hq₆
      dsimp only
      refine wpAny_execs_nil ?_
      dsimp only
      refine wpAny_execs_nil ?_
      dsimp only
      refine wpAny_execs_nil ?_
      dsimp only
      refine ⟨us'.length, by simp, us', es', act.erase e₀, wsA.eraseIdx j, mis, xs, k1, k2', k3', _, oM, hoM, rfl, F₆, ha, hb, hc, N₆, hd, hus', h3 ▸ paired_eraseIdx j hwsA, hxs, by simp at hl1; omega, Nat.le_trans (List.length_eraseIdx_le ..) hl2, ⟨hg.gens, hg.bare, hg.os⟩⟩
    · rw [if_neg hmem] at hd
      refine remove_none (e := isE h₀ e₀) hA hq₅ hEq (fun y hy => ?_) fun h₆ tk r hr => ?_
      · obtain ⟨i, hi⟩ := List.getElem?_of_mem hy
        obtain ⟨b, hb1, hb2⟩ := paired_get hwsA hi
        rw [isE_eq hb2]
        simp only [decide_eq_false_iff_not]
        rintro rfl
        exact hmem (List.mem_of_getElem? hb1)
      · obtain ⟨oL, des, dep, hoL, hdL, hLr⟩ := id F₅.ns
        have hML5 := N₅.get (.tail _ (.tail _ (.tail _ (.head _))))
        have hne0 : ∀ b o, h₀.get? b = some o → b ≠ s.heap.objs.size ∧ b ≠ LL := fun b o e => ⟨fun q => absurd (Heap.lt_size e) (by rw [q]; exact Nat.not_lt.mpr hsz), fun q => by rw [q, hLL0] at e; cases e⟩
        refine caught2 (h := h₅) (L := s.heap.objs.size) (LL := LL) (envL := envL) (T := "ValueError") (Around.frames_deeper hfr) rfl hfL (show (dScope (stAt 9)).kind ≠ .module by decide) hkL hr hoL (fun vs e => by rw [hdL] at e; cases e) hML5 (fun vs e => hLLd vs (hoM ▸ e)) (Ne.symm hLLL) (isSubtype_of_subB (by decide +kernel)) (isSubtype_of_subB (by decide +kernel)) (isSubtype_of_subB (by decide +kernel)) ?_ ?_
        · intro s₂ Q' E' k₂ hQ'
          refine nm_bi (T.keeps fun b o e => k₂ b o (hne0 b o e).1 (hne0 b o e).2 (F₅.keep b o e)) (by decide) (by boot_by_name) hQ'
        · intro h₇ oL' oLL' k₇ hL₇ hLd₇ hLL₇ hLLd₇
          have F₇ : Fr h₀ s.heap.objs.size h₇ _ := ⟨⟨oL', des, dep, hL₇, hLd₇.trans hdL, hLr⟩, fun b o e => k₇ b o (hne0 b o e).1 (hne0 b o e).2 (F₅.keep b o e), hsz⟩
          have N₇ : News h₀ s.heap.objs.size h₇ [(M, lob xs k1), (p, lob us' k2'), (q, lob wsA k3), (LL, oLL')] := fun x hx => by
            simp only [List.mem_cons, List.not_mem_nil, or_false] at hx
            rcases hx with rfl | rfl | rfl | rfl
            · exact ⟨k₇ _ _ hML hM.2.2.symm (N₅.get (.head _)), (N₅ _ (.head _)).2⟩
            · exact ⟨k₇ _ _ hpL (Ne.symm hLLp) (N₅.get (.tail _ (.head _))), (N₅ _ (.tail _ (.head _))).2⟩
            · exact ⟨k₇ _ _ hqL (Ne.symm hLLq) (N₅.get (.tail _ (.tail _ (.head _)))), (N₅ _ (.tail _ (.tail _ (.head _)))).2⟩
            · exact ⟨hLL₇, hLLL, hLL0⟩
          clear N₅ F₅ N₄ F₄
          have hap : ∀ x ∈ [(p, lob us' k2'), (q, lob wsA k3), (LL, oLL')], x.1 ≠ M := fun x hx => by
            simp only [List.mem_cons, List.not_mem_nil, or_false] at hx
            rcases hx with rfl | rfl | rfl
            · exact hM.1
            · exact hM.2.1
            · exact hM.2.2
          have hxl : xs.length ≤ 100 := by simp at hl1; omega
          have hvl : xs.toArray.size ≤ sizeLine := Nat.le_trans (show _ ≤ 100 by simpa using hxl) (by decide)
          refine wpAny_execs_cons ?_
          walk1
          walk1
          walk1
          walk1
          walk1
          walk1
          walk1
          walk1
          refine append_head F₇ N₇ hap (fun h₈ F₈ N₈ => ?_) hvl
          dsimp only
          refine wpAny_execs_nil ?_
          dsimp only
          refine wpAny_execs_nil ?_
          dsimp only
          refine ⟨us'.length, by simp, us', es', act, wsA, mis ++ [e₀], xs ++ [u], k1 + 1, k2', k3, _, oLL', hLLd₇.trans hoM, rfl, F₈, ha, hb, hc, by simpa using N₈, hd, hus', hwsA, paired_snoc hu hxs, by simp at hl1 ⊢; omega, hl2, ⟨hg.gens, hg.bare, hg.os⟩⟩
end
end
section
open PySem PySem.W PyProof.Rows PySem.Calls PySem.Spec
set_option maxRecDepth 100000
theorem fstep_melt (p q : Int × Int) (u : U) (hq1 : 0 ≤ q.1) (hq2 : 0 ≤ q.2) (hp : 0 ≤ p.2) : fstep (meltOf p q) u = meltOf p (fstep q u) := by
  obtain ⟨a, b⟩ := p
  obtain ⟨c, d⟩ := q
  simp only at hq1 hq2 hp
  cases u with
  | o =>
    show ((a + max 0 (c - b), d + max 0 (b - c) + 1) : Int × Int) = (a + max 0 (c - b), d + 1 + max 0 (b - c))
    apply Prod.ext
    · rfl
    · show d + max 0 (b - c) + 1 = d + 1 + max 0 (b - c); omega
  | c =>
    by_cases hd : d = 0
    · have e2 : fstep (c, d) .c = (c + 1, 0) := if_pos hd
      rw [e2]
      by_cases hb : d + max 0 (b - c) = 0
      · have e1 : fstep (meltOf (a, b) (c, d)) .c = (a + max 0 (c - b) + 1, 0) := if_pos hb
        rw [e1]
        apply Prod.ext
        · show a + max 0 (c - b) + 1 = a + max 0 (c + 1 - b); omega
        · show (0 : Int) = 0 + max 0 (b - (c + 1)); omega
      · have e1 : fstep (meltOf (a, b) (c, d)) .c = (a + max 0 (c - b), d + max 0 (b - c) - 1) := if_neg hb
        rw [e1]
        apply Prod.ext
        · show a + max 0 (c - b) = a + max 0 (c + 1 - b); omega
        · show d + max 0 (b - c) - 1 = 0 + max 0 (b - (c + 1)); omega
    · have e2 : fstep (c, d) .c = (c, d - 1) := if_neg hd
      have hb : ¬ d + max 0 (b - c) = 0 := by omega
      have e1 : fstep (meltOf (a, b) (c, d)) .c = (a + max 0 (c - b), d + max 0 (b - c) - 1) := if_neg hb
      rw [e1, e2]
      apply Prod.ext
      · rfl
      · show d + max 0 (b - c) - 1 = d - 1 + max 0 (b - c); omega
  | _ => rfl
theorem form_append (us vs : List U) : formU (us ++ vs) = meltOf (formU us) (formU vs) := by
  have hp := formU_nonneg us (0, 0) (Int.le_refl _) (Int.le_refl _)
  have key : ∀ (vs : List U) (q : Int × Int), 0 ≤ q.1 → 0 ≤ q.2 → vs.foldl fstep (meltOf (formU us) q) = meltOf (formU us) (vs.foldl fstep q) := by
    intro vs
    induction vs with
    | nil => intro q _ _; rfl
    | cons v vs ih =>
      intro q h1 h2
      rw [List.foldl_cons, List.foldl_cons, fstep_melt (formU us) q v h1 h2 (show 0 ≤ (formU us).2 from hp.2)]
      exact ih _ (fstep_nonneg h1 h2 v).1 (fstep_nonneg h1 h2 v).2
  have h0 : meltOf (formU us) (0, 0) = formU us := by
    have h2 := hp.2
    unfold meltOf
    apply Prod.ext
    · show (formU us).1 + max 0 (0 - (formU us).2) = _
      have : 0 ≤ (formU us).2 := h2
      omega
    · show 0 + max 0 ((formU us).2 - 0) = _
      have : 0 ≤ (formU us).2 := h2
      omega
  have := key vs (0, 0) (Int.le_refl _) (Int.le_refl _)
  rw [h0] at this
  rw [formU, List.foldl_append]
  exact this
def U.flip : U → U | .o => .c | .c => .o | u => u
def swapP (p : Int × Int) : Int × Int := (p.2, p.1)
theorem swap_melt (p q : Int × Int) : swapP (meltOf p q) = meltOf (swapP q) (swapP p) := by
  unfold swapP meltOf
  simp only
theorem form_turn : ∀ us : List U, formU (us.reverse.map U.flip) = swapP (formU us)
  | [] => rfl
  | u :: us => by
    rw [List.reverse_cons, List.map_append, form_append, form_turn us, show u :: us = [u] ++ us from rfl, form_append, swap_melt]
    congr 1
    cases u <;> rfl
theorem scan_zero (us : List U) : scan 0 us = decide (formU us = (0, 0)) := by
  have := scan_form0 us [] 0 (Int.le_refl _)
  rw [List.append_nil] at this
  rw [this]
  have hn := formU_nonneg us (0, 0) (Int.le_refl _) (Int.le_refl _)
  have h1 : 0 ≤ (formU us).1 := hn.1
  by_cases h : (formU us).1 > 0
  · rw [if_pos h]
    symm
    rw [decide_eq_false_iff_not]
    intro e; rw [e] at h; simp at h
  · rw [if_neg h]
    have h0 : (formU us).1 = 0 := by omega
    show ((0 - (formU us).1 + (formU us).2) == 0) = _
    rw [h0]
    by_cases h2 : (formU us).2 = 0
    · rw [h2]; simp; exact Prod.ext h0 h2
    · rw [decide_eq_false (by intro e; rw [e] at h2; exact h2 rfl)]
      simpa using h2
theorem scan_turn (us : List U) : scan 0 (us.reverse.map U.flip) = scan 0 us := by
  rw [scan_zero, scan_zero, form_turn]
  congr 1
  apply propext
  constructor
  · intro h
    have h1 := congrArg Prod.fst h
    have h2 := congrArg Prod.snd h
    exact Prod.ext h2 h1
  · intro h; rw [h]; rfl
theorem turn_ustr (u : U) : turnU (ustr u) = ustr u.flip := by
  cases u <;> decide
theorem cat_append (ps : List (List U)) (as bs : List Int) : cat ps (as ++ bs) = cat ps as ++ cat ps bs := by simp [cat]
theorem cat_turn (ps : List (List U)) : ∀ ks : List Int, cat (ps.map fun us => us.reverse.map U.flip) ks.reverse = (cat ps ks).reverse.map U.flip
  | [] => rfl
  | k :: ks => by
    rw [List.reverse_cons, cat_append, cat_turn ps ks]
    have e : cat ps (k :: ks) = (ps[k.toNat]?).getD [] ++ cat ps ks := by simp [cat]
    rw [e, List.reverse_append, List.map_append]
    congr 1
    cases h : ps[k.toNat]? <;> simp [cat, h]
theorem melt_cat (ps : List (List U)) : ∀ (ks : List Int) (us : List U), (∀ k ∈ ks, k.toNat < ps.length) → ((ks.map fun k => (ps.map formU).getD k.toNat (0, 0)).foldl meltOf (formU us)) = formU (us ++ cat ps ks)
  | [], us, _ => by simp [cat]
  | k :: ks, us, h => by
    have hk := h k List.mem_cons_self
    have e : cat ps (k :: ks) = ps[k.toNat] ++ cat ps ks := by simp [cat, hk]
    have e2 : (ps.map formU).getD k.toNat (0, 0) = formU ps[k.toNat] := by simp [List.getD_eq_getElem?_getD, hk]
    rw [List.map_cons, List.foldl_cons, e2, ← form_append, melt_cat ps ks _ fun j hj => h j (List.mem_cons_of_mem _ hj), e, List.append_assoc]
/-- the difference of a list without twins and a part of it -/
theorem diff_filter' (p : List Int → Bool) : ∀ (r mis : List (List Int)), r.Nodup → diffGo r (r.reverse.filter p) mis = (mis ++ r.filter (fun x => !p x), [])
  | [], mis, _ => by simp [diffGo]
  | x :: r, mis, hn => by
    have hn' : r.Nodup := (List.nodup_cons.mp hn).2
    have hx : x ∉ r := (List.nodup_cons.mp hn).1
    rw [List.reverse_cons, List.filter_append, diffGo]
    cases hp : p x with
    | true =>
      have hm : x ∈ r.reverse.filter p ++ [x].filter p := by simp [hp]
      rw [if_pos hm]
      have he : (r.reverse.filter p ++ [x].filter p).erase x = r.reverse.filter p := by
        rw [List.erase_append_right _ (by simp [hx])]
        simp [hp]
      rw [he, diff_filter' p r mis hn']
      simp [hp]
    | false =>
      have hm : x ∉ r.reverse.filter p ++ [x].filter p := by simp [hp, hx]
      rw [if_neg hm]
      have : r.reverse.filter p ++ [x].filter p = r.reverse.filter p := by simp [hp]
      rw [this, diff_filter' p r _ hn']
      simp [hp]
theorem diff_filter (p : List Int → Bool) (l : List (List Int)) (hn : l.Nodup) : diffGo l.reverse (l.filter p) [] = ((l.filter fun x => !p x).reverse, []) := by
  have := diff_filter' p l.reverse [] (by unfold List.Nodup at hn ⊢; rw [List.pairwise_reverse]; exact hn.imp fun h => Ne.symm h)
  rw [List.reverse_reverse] at this
  rw [this]
  simp [List.filter_reverse]
end
section
open PySem PySem.W PyProof.Rows PySem.Calls PySem.Spec
set_option maxRecDepth 100000
set_option maxHeartbeats 0
def runK {α : Type} (f : Nat → Nat → Bool) : KasT α → α
  | .ret a => a
  | .ask i j k => runK f (k (f i j))
/-- the order that sorted finds -/
def sortedOf (fs : List (Int × Int)) : List Int := ((runK (fun i j => tltB (keyOf (fs.getD i (0, 0))) (keyOf (fs.getD j (0, 0)))) (kas_sort 4)).toList.map fun (i : Nat) => (i : Int))
def allOrders : List (List Int) := ordersOf 4 [0, 1, 2, 3]
def okForms (fs : List (Int × Int)) : Bool := closedOf fs (sortedOf fs) == !(allOrders.filter (closedOf fs)).isEmpty
def forms15 : List (Int × Int) := [(0,0),(0,1),(0,2),(0,3),(0,4),(1,0),(1,1),(1,2),(1,3),(2,0),(2,1),(2,2),(3,0),(3,1),(4,0)]
def fix1 : List U := [.c, .e, .o, .o]
def fix2 : List U := [.o, .qo, .o]
def fix3 : List U := [.c, .a, .c]
def fix4 : List U := [.c, .c, .b, .o]
theorem ok0 : okForms [formU fix1, formU fix2, formU fix3, formU fix4] = true := by decide +kernel
theorem ok1 : (forms15.all fun f => okForms [f, formU fix1, formU fix2, formU fix3]) = true := by decide +kernel
theorem ok2 : (forms15.all fun f => forms15.all fun g => okForms [f, g, formU fix1, formU fix2]) = true := by decide +kernel
end
section
open PySem PySem.W PyProof.Rows PySem.Calls PySem.Spec
set_option maxRecDepth 100000
set_option maxHeartbeats 4000000
theorem iadd_range {prog : Program} {w : World} {A : Around} {s : Shared} {R : Result → Shared → Prop} {r S : Addr} {a b c : Int} {t u v : Tok} {n : Nat} (hh : A.handled = none) (hr : IsRange s.heap r a b c t u v) (hsmall : Builtin.Range.small a b c = true)
    (hn : Builtin.Range.rangeSize a b c = n) (hlen : n ≤ 2 ^ 24) (hS : s.heap.get? S = some { cls := .type "list", data := .seq #[] 0 })
    (hR : ∀ h' tk acc' c', (∀ b o, b ≠ S → s.heap.get? b = some o → h'.get? b = some o) → h'.get? S = some { cls := .type "list", dict := none, data := .seq acc' c', slots := #[] } →
      ItemsOf (fun i v => ∃ t, v = .int (a + i * c) t) acc' n → R (.ok (.ret (.ref S))) { s with heap := h', toks := tk }) :
    codeAny (model prog w) A (.builtin "list.__iadd__" ⟨[.ref S, .ref r], []⟩) R s := by
  refine codeAny_builtin entry_list_iadd' ?_
  rw [Around.under_plainId PySem.F.plain_list_iadd _]
  exact wpAny_extend_range hh hr hsmall hn hlen S _ 0 hS hR
theorem collect_range {prog : Program} {w : World} {A : Around} {E : Value → Shared → Prop} {s : Shared} {r : Addr} {a b c : Int} {t u v : Tok} {n : Nat} {Q : List Value → Shared → Prop} (hh : A.handled = none) (hr : IsRange s.heap r a b c t u v) (hsmall : Builtin.Range.small a b c = true)
    (hn : Builtin.Range.rangeSize a b c = n) (hlen : n ≤ 2 ^ 24)
    (h : ∀ h' tk acc, (∀ b o, s.heap.get? b = some o → h'.get? b = some o) → ItemsOf (fun i v => ∃ t, v = .int (a + i * c) t) acc n → Q acc.toList { s with heap := h', toks := tk }) :
    wpAny (model prog w) A (collect (.ref r)) Q E s := by
  unfold collect
  refine wpAny_bind (wpAny_runValue (codeAny_builtin entry_proto_collect' ?_))
  show wpAny _ _ (do again (.builtin "list.__iadd__" ⟨[← newList [], .ref r], []⟩)) _ _ s
  refine wpAny_bind (wpAny_newList (wpAny_pure ⟨Code.quiet_builtin _ (by decide +kernel), iadd_range (s := { s with heap := s.heap.push (seqObj "list" #[] 0) }) hh (Heap.get?_push_of_some _ hr) hsmall hn hlen (Heap.get?_push_size _ rfl) ?_⟩))
  intro h' tk acc c' hk hS hI
  show wpAny (model prog w) A (do
      let o ← load s.heap.objs.size
      match o.data with
      | .seq xs _ => pure xs.toList
      | _ => unsupported "internal:collect") Q E _
  refine wpAny_bind (wpAny_load hS ?_)
  exact wpAny_pure (h h' tk acc (fun b o e => hk b o (Nat.ne_of_lt (Heap.lt_size e)) (Heap.get?_push_of_some _ e)) hI)

/-- every question of the tree is of two of the first n -/
def bndK {α : Type} (n : Nat) : KasT α → Bool
  | .ret _ => true
  | .ask i j k => decide (i < n) && decide (j < n) && bndK n (k true) && bndK n (k false)
theorem bnd4 : bndK 4 (kas_sort 4) = true := by decide +kernel
def allK {α : Type} (q : α → Bool) : KasT α → Bool
  | .ret a => q a
  | .ask _ _ k => allK q (k true) && allK q (k false)
theorem run_all {α : Type} {q : α → Bool} {f : Nat → Nat → Bool} : ∀ t : KasT α, allK q t = true → q (runK f t) = true
  | .ret _, h => h
  | .ask i j k, h => by
    simp only [allK, Bool.and_eq_true] at h
    show q (runK f (k (f i j))) = true
    cases f i j
    · exact run_all _ h.2
    · exact run_all _ h.1
theorem all4 : allK (fun p : Array Nat => p.toList.all (· < 4)) (kas_sort 4) = true := by decide +kernel
theorem paired_map {α β γ : Type} {R : β → γ → Prop} {g : α → β} {g' : α → γ} : ∀ l : List α, (∀ a ∈ l, R (g a) (g' a)) → Paired R (l.map g) (l.map g')
  | [], _ => .nil
  | a :: l, h => .cons (h a List.mem_cons_self) (paired_map l fun b hb => h b (List.mem_cons_of_mem _ hb))
theorem run_tree {α : Type} {n : Nat} {f : Nat → Nat → Bool} {cmp : Nat → Nat → (Bool → Shared → Prop) → Shared → Prop} {I : Shared → Prop} {G : α → Shared → Prop}
    (step : ∀ i j C s, i < n → j < n → I s → (∀ s', I s' → C (f i j) s') → cmp i j C s) : ∀ (t : KasT α) (s : Shared), bndK n t = true → I s → (∀ s', I s' → G (runK f t) s') → t.kasWp cmp G s
  | .ret _, s, _, hI, h => h s hI
  | .ask i j k, s, hb, hI, h => by
    simp only [bndK, Bool.and_eq_true, decide_eq_true_eq] at hb
    refine step i j _ s hb.1.1.1 hb.1.1.2 hI fun s' hI' => ?_
    refine run_tree step (k (f i j)) s' ?_ hI' h
    cases f i j
    · exact hb.2
    · exact hb.1.2

/-- what the lambda of the law answers -/
def LamSpec (w : World) (h : Heap) (lam : Addr) (f : Nat → Nat → Bool) : Prop := ∀ (s : Shared), (∀ b o, h.get? b = some o → s.heap.get? b = some o) → ∀ (i j : Nat) (ti tj : Tok), i < 4 → j < 4 →
  wpAny (model P0 w) (AL 450) (call (.ref lam) [.int (i : Int) ti, .int (j : Int) tj]) (fun v s' => ∃ n tn, v = .int n tn ∧ decide (n < 0) = f i j ∧ Ext s s') (fun _ _ => False) s

/-- the state while the sort runs -/
structure SInv (s0 : Shared) (C a kS : Addr) (e1 : Nat) (keys : Array Value) (s : Shared) : Prop where
  ext : Ext s0 s
  at_ : s.heap.get? a = some (seqObj "list" #[] e1)
  ks : ∃ e, s.heap.get? kS = some (seqObj "list" keys e)
  inst : ∀ (i : Nat) (v : Value), keys[i]? = some v → ∃ (x : Addr) (ox od : Obj) (t : Tok), v = .ref x ∧ InstK s.heap x C (.int (i : Int) t) ox od
theorem Ext.but {s0 s : Shared} {h : Heap} {a : Addr} (x : Ext s0 s) (h0 : s0.heap.get? a = none) (hs : Heap.SameBut a s.heap h) : Ext s0 { s with heap := h } :=
  ⟨fun b o e => (hs.2 b (fun q => by rw [q, h0] at e; cases e)).trans (x.keep b o e), x.gens, x.bare, x.os⟩
theorem SInv.ext' {s0 s s' : Shared} {C a kS : Addr} {e1 : Nat} {keys : Array Value} (I : SInv s0 C a kS e1 keys s) (x : Ext s s') : SInv s0 C a kS e1 keys s' :=
  ⟨I.ext.trans x, x.keep _ _ I.at_, let ⟨e, h⟩ := I.ks; ⟨e, x.keep _ _ h⟩, fun i v hv => let ⟨y, ox, od, t, e, k⟩ := I.inst i v hv; ⟨y, ox, od, t, e, k.keeps x.keep⟩⟩

section
variable {w : World} {A : Around} {E : Value → Shared → Prop} {s s0 : Shared} {C lam a kS : Addr} {f : Nat → Nat → Bool} {e1 : Nat} {keys items : Array Value} {P : PySem.Fin → Shared → Prop}

theorem key_tail {st : SortSt} {p : Array Nat} (I : SInv s0 C a kS e1 keys s) (hka : kS ≠ a) (h0a : s0.heap.get? a = none) (h0k : s0.heap.get? kS = none) (hk4 : keys.size = 4) (hp : p.size = 4)
    (har : arrOf st = p.map (kas_item (keys.zip items))) (hfl : failedOf st = none) 
    (h : ∀ (s' : Shared) (c : Nat), Ext s0 s' → s'.heap.get? a = some (seqObj "list" (p.map fun i => (kas_item (keys.zip items) i).2) c) → P (.done (.ret .none)) s') :
    wpAny (model P0 w) A (ksk_tail a false e1 (.ref kS) st) P E s := by
  obtain ⟨e, hkS⟩ := I.ks
  have s1 := Heap.SameBut.update s.heap kS (Obj.mapSeq fun _ => (#[] : Array Value))
  have na1 : (s.heap.update kS (Obj.mapSeq fun _ => (#[] : Array Value))).get? a = some (seqObj "list" #[] e1) := (s1.2 a hka.symm).trans I.at_
  unfold ksk_tail
  generalize hO : (arrOf st).map (·.2) = out
  have hout : out.size = 4 := by rw [← hO, har, Array.size_map, Array.size_map, hp]
  have s2 := Heap.SameBut.update (s.heap.update kS (Obj.mapSeq fun _ => (#[] : Array Value))) a (Obj.mapSeq fun _ => out)
  have hc2 := get?_update_seq na1 fun _ => out
  refine wpAny_bind (listUpdate_at hkS rfl ?_ (by rw [hk4, sizeLine_eq]; omega) (Nat.zero_le _))
  refine wpAny_bind (wpAny_letGo ?_)
  refine wpAny_bind (seqEpoch_at na1 rfl ?_)
  simp only [Bool.false_eq_true, if_false]
  refine wpAny_bind (listUpdate_at na1 rfl ?_ (Nat.zero_le _) (Nat.le_trans (Nat.le_of_eq hout) (by rw [sizeLine_eq]; omega)))
  rw [hfl]
  simp only [bne_self_eq_false, Bool.false_eq_true, if_false]
  refine wpAny_pure (h _ (if (out.size == (#[] : Array Value).size) = true then e1 else e1 + 1) ((I.ext.but h0k s1).but h0a s2) (hc2.trans ?_))
  have e2 : out = p.map fun i => (kas_item (keys.zip items) i).2 := by
    rw [← hO, har, Array.map_map]
    rfl
  rw [e2]

theorem kas_zip {keys items : Array Value} {i : Nat} (h1 : i < keys.size) (h2 : i < items.size) : kas_item (keys.zip items) i = (keys[i], items[i]) := by
  unfold kas_item
  have h : i < min keys.size items.size := by omega
  simp [Array.getD, h]

theorem key_runs (R : KReady w s0.heap C lam) (hL : LamSpec w s0.heap lam f) (hlim : s0.heap.NoLimit) (hlo : ∃ o fd, s0.heap.get? lam = some o ∧ o.data = .func fd) (hA1 : A.handled = none) (hA2 : A.depth ≤ 400) (hA3 : A.units ≤ 8 * 400)
    (I : SInv s0 C a kS e1 keys s) (hka : kS ≠ a) (h0a : s0.heap.get? a = none) (h0k : s0.heap.get? kS = none) (hk4 : keys.size = 4) (hi4 : items.size = 4)
    (h : ∀ (s' : Shared) (c : Nat), Ext s0 s' → s'.heap.get? a = some (seqObj "list" ((runK f (kas_sort 4)).map fun i => (kas_item (keys.zip items) i).2) c) → P (.done (.ret .none)) s') :
    wpAny (model P0 w) A (ksk_end a false items e1 (.ref kS) keys) P E s := by
  obtain ⟨hmk, N, D, ff, cell, c, oC, oN, oD, of, ol, oc, RO⟩ := R
  obtain ⟨olam, fdl, hlo, hld⟩ := hlo
  have hn2 : ¬ items.size < 2 := by omega
  have hz : (keys.zip items).size = 4 := by rw [Array.size_zip, hk4, hi4]; rfl
  unfold ksk_end
  dsimp only
  simp only [Bool.false_eq_true, if_false]
  rw [if_neg hn2, if_neg hn2]
  have kind : ∀ (Q : SortKind → Shared → Prop), Q oneType' s → wpAny (model P0 w) A (keyKind' keys) Q E s := fun Q h => by
    rw [← Array.toArray_toList (xs := keys)]
    refine kas_kind (T := .ref C) (by rw [Array.length_toList, hk4]; decide) (fun v hv => ?_) (by rfl) (by simp) h
    obtain ⟨i, hi⟩ := List.getElem?_of_mem hv
    obtain ⟨x, ox, od, t, rfl, hx⟩ := I.inst i v (by simpa using hi)
    exact hx.inst.type
  refine wpAny_bind (kind _ ?_)
  have est : SortSt.mk' oneType' (keys.zip items) #[] 7 none = kas_st oneType' (keys.zip items) (List.toArray (List.range 4)) := by
    have e := kas_range (keys.zip items)
    rw [hz] at e
    show _ = SortSt.mk' oneType' ((List.toArray (List.range 4)).map (kas_item (keys.zip items))) #[] 7 none
    rw [e]
  have get : ∀ i, i < 4 → ∃ x ox od t, (kas_item (keys.zip items) i).1 = .ref x ∧ ∀ s', Ext s s' → InstK s'.heap x C (.int (i : Int) t) ox od := fun i hi => by
    have h1 : i < keys.size := by omega
    have h2 : i < items.size := by omega
    obtain ⟨x, ox, od, t, e, hx⟩ := I.inst i keys[i] (by simp)
    refine ⟨x, ox, od, t, ?_, fun s' k => hx.keeps k.keep⟩
    rw [kas_zip h1 h2, e]
  have run := kas_runs (E := E) (prog := P0) (w := w) (A := A) (κ := oneType') (it := keys.zip items) (n := 4) (s := s) (Q := fun _ st' s' => arrOf st' = (runK f (kas_sort 4)).map (kas_item (keys.zip items)) ∧ failedOf st' = none ∧ Ext s s' ∧ (runK f (kas_sort 4)).size = 4)
    (G := fun p s' => Ext s s' ∧ p = runK f (kas_sort 4)) (by decide) (by decide) (fun p' st' s' a1 a2 a3 a4 => by rw [a4.2] at a1 a2; exact ⟨a2, a3, a4.1, a1⟩) (run_tree (f := f) (I := fun s' => Ext s s') (fun i j Cc s1 hi hj x hC => ?_) (kas_sort 4) s bnd4 (Ext.refl s) fun s' x => ⟨x, rfl⟩)
  · rw [← est] at run
    refine wpAny_bind (wpAny_mono run ?_ fun _ _ e => e)
    rintro ⟨⟨⟩, st'⟩ s' ⟨har, hf, x, hp⟩
    dsimp only
    exact key_tail (I.ext' x) hka h0a h0k hk4 hp har hf h
  · obtain ⟨x1, ox, od, ti, e1', hx⟩ := get i hi
    obtain ⟨y1, oy, ody, tj, e2', hy⟩ := get j hj
    unfold kas_cmp
    rw [e1', e2']
    have x0 := I.ext.trans x
    refine klt (RO.keeps x0.keep) (hx _ x) (hy _ x) (x0.keep _ _ hlo) hld (hlim.keeps x0.keep) hA1 hA2 hA3 fun s2 k2 g2 o2 => ?_
    have x2 : Ext s1 s2 := ⟨k2, fun i x e => by rw [g2]; exact e, fun h => by rw [g2]; exact h, o2⟩
    refine wpAny_mono (hL s2 (fun b o e => k2 _ _ (x0.keep _ _ e)) i j ti tj hi hj) (fun v s3 hv => ?_) fun _ _ e => e
    obtain ⟨n, tn, rfl, hd, x3⟩ := hv
    refine ⟨n, tn, rfl, ?_⟩
    rw [hd]
    exact hC _ ((x.trans x2).trans (x3.trans (Ext.heap (s := s3) (h := s3.heap) (t := s3.toks + 1) fun _ _ e => e)))

theorem InstK.but {h h' : Heap} {x b : Addr} {v : Value} {ox od o' : Obj} (I : InstK h x C v ox od) (hs : Heap.SameBut b h h') (hx : x ≠ b) (hb : h'.get? b = some o') : ∃ od', InstK h' x C v ox od' := by
  obtain ⟨dx, e1, e2⟩ := I.dict
  have e0 := (hs.2 x hx).trans I.at_
  by_cases q : dx = b
  · exact ⟨o', e0, I.cls, I.no, ⟨dx, e1, q ▸ hb⟩, I.slot⟩
  · exact ⟨od, e0, I.cls, I.no, ⟨dx, e1, (hs.2 dx q).trans e2⟩, I.slot⟩

theorem key_rest {vs : List Value} (R : KReady w s0.heap C lam) (hL : LamSpec w s0.heap lam f) (hlim : s0.heap.NoLimit) (hlo : ∃ o fd, s0.heap.get? lam = some o ∧ o.data = .func fd) (hA1 : A.handled = none) (hA2 : A.depth ≤ 400) (hA3 : A.units ≤ 8 * 400)
    (I : SInv s0 C a kS e1 #[] s) (hka : kS ≠ a) (h0a : s0.heap.get? a = none) (h0k : s0.heap.get? kS = none) (hv4 : vs.length = 4) (hvs : ∀ (i : Nat) (v : Value), vs[i]? = some v → ∃ t, v = Value.int (i : Int) t)
    (h : ∀ (s' : Shared) (c : Nat) (keys : Array Value), keys.size = 4 → Ext s0 s' → s'.heap.get? a = some (seqObj "list" ((runK f (kas_sort 4)).map fun i => (kas_item (keys.zip vs.toArray) i).2) c) → P (.done (.ret .none)) s') :
    wpAny (model P0 w) A (ksk_rest a (.ref C) false vs.toArray e1 (.ref kS)) P E s := by
  unfold ksk_rest
  refine wpAny_bind (wpAny_rule ?_)
  rw [List.forIn_toArray]
  refine wpAny_bind (ksk_fold (fun i s' => ∃ keys, keys.size = i ∧ SInv s0 C a kS e1 keys s') vs 0 s ⟨#[], rfl, I⟩ ?step ?done)
  case step =>
    rintro j x s' hx ⟨keys, hz, I'⟩
    rw [Nat.zero_add] at hz
    have hj : j < 4 := hv4 ▸ (List.getElem?_eq_some_iff.mp hx).1
    obtain ⟨t, rfl⟩ := hvs j x hx
    refine wpAny_bind (wpAny_attempt (AL.of 400 hA1 hA2 hA3 (wpAny_mono (R.1 s' I'.ext.keep (j : Int) t) (fun v s2 hv => ?_) fun _ _ hF => hF.elim)))
    obtain ⟨y, oy, ody, rfl, hy0, hy, hk, hg, ho⟩ := hv
    have x2 : Ext s' s2 := ⟨hk, fun i x e => by rw [hg]; exact e, fun h => by rw [hg]; exact h, ho⟩
    have I2 := I'.ext' x2
    obtain ⟨e, he⟩ := I2.ks
    have s1 := Heap.SameBut.update s2.heap kS (Obj.mapSeq (·.push (.ref y)))
    obtain ⟨c2, hc2⟩ : ∃ c2, (s2.heap.update kS (Obj.mapSeq (·.push (.ref y)))).get? kS = some (seqObj "list" (keys.push (.ref y)) c2) := ⟨_, get?_update_seq he (·.push (.ref y))⟩
    have nk : ∀ z oz od v, InstK s2.heap z C v oz od → z ≠ kS := fun z oz od v hz q => by
      have h1 := hz.at_
      rw [q, he] at h1
      cases h1
      cases hz.cls
    refine wpAny_bind (listUpdate_at he rfl ?_ (by rw [hz, sizeLine_eq]; omega) (Nat.le_trans (Nat.le_of_eq (Array.size_push ..)) (by rw [hz, sizeLine_eq]; omega)))
    refine wpAny_pure ⟨rfl, keys.push (.ref y), by rw [Array.size_push, hz, Nat.zero_add], I2.ext.but h0k s1, (s1.2 a hka.symm).trans I2.at_, ⟨c2, hc2⟩, fun i v hv => ?_⟩
    rw [Array.getElem?_push] at hv
    split at hv
    · rename_i q
      cases hv
      obtain ⟨od', h'⟩ := hy.but s1 (nk _ _ _ _ hy) hc2
      rw [q, hz]
      exact ⟨y, oy, od', t, rfl, h'⟩
    · obtain ⟨z, oz, odz, tz, rfl, h'⟩ := I2.inst i v hv
      obtain ⟨od', h'⟩ := h'.but s1 (nk _ _ _ _ h') hc2
      exact ⟨z, oz, od', tz, rfl, h'⟩
  case done =>
    rintro s' ⟨keys, hz, I'⟩
    rw [Nat.zero_add, hv4] at hz
    obtain ⟨e, he⟩ := I'.ks
    refine wpAny_bind (listItems_at he rfl ?_)
    exact key_runs R hL hlim hlo hA1 hA2 hA3 I' hka h0a h0k hz (by rw [List.size_toArray, hv4]) fun s'' c x e => h s'' c keys hz x e

theorem sorted_key {r : Addr} {t u v : Tok} {Q : Value → Shared → Prop} (R : KReady w s.heap C lam) (hL : LamSpec w s.heap lam f) (hlim : s.heap.NoLimit) (hlo : ∃ o fd, s.heap.get? lam = some o ∧ o.data = .func fd) (hA1 : A.handled = none) (hA2 : A.depth ≤ 390) (hA3 : A.units ≤ 8 * 390)
    (hr : IsRange s.heap r 0 4 1 t u v)
    (h : ∀ s' D vs, Ext s s' → s'.heap.IsList D vs.toArray → Paired IsIntV vs ((runK f (kas_sort 4)).toList.map fun (i : Nat) => (i : Int)) → Q (.ref D) s') :
    wpAny (model P0 w) A (call (.builtin "sorted") [.ref r] [(Str.ofString "key", .ref C)]) Q E s := by
  refine call_function_entry_kw kind_sorted plain_sorted entry_sorted (ksk_s1 _ _) ?_
  unfold Builtin.«sorted»
  refine wpAny_bind (m := checkCount "sorted" 1 1 _) (wpAny_pure ?_)
  refine wpAny_bind (collect_range (n := 4) ?_ hr (by decide) (by decide) (by decide) fun h1 tk acc k1 hI => ?_)
  · exact hA1
  have hz : acc.toList.length = 4 := by rw [Array.length_toList]; exact hI.1
  refine wpAny_bind (wpAny_newList ?_ (by rw [hz, sizeLine_eq]; omega))
  have hv : ∀ (i : Nat) v, acc.toList[i]? = some v → ∃ t, v = Value.int (i : Int) t := fun i v hi => by
    obtain ⟨t, e⟩ := hI.2 i v (by simpa using hi)
    exact ⟨t, by rw [e]; simp⟩
  generalize acc.toList = vs at *
  have hoL : (h1.push (seqObj "list" vs.toArray 0)).get? h1.objs.size = some (seqObj "list" vs.toArray 0) := Heap.get?_push_size _ rfl
  refine wpAny_bind (wpAny_holding (wpAny_call_entry_kw slot_list_sort ⟨_, hoL, rfl⟩ entry_list_sort ?body (ksk_l1 _ _)))
  case body =>
    rw [ksk_t1]
    unfold ksk_tree
    have s1 := Heap.SameBut.update (h1.push (seqObj "list" vs.toArray 0)) h1.objs.size (Obj.mapSeq fun _ => (#[] : Array Value))
    obtain ⟨e1, ho1⟩ : ∃ e1, ((h1.push (seqObj "list" vs.toArray 0)).update h1.objs.size (Obj.mapSeq fun _ => (#[] : Array Value))).get? h1.objs.size = some (seqObj "list" #[] e1) := ⟨_, get?_update_seq hoL fun _ => #[]⟩
    have h0a : s.heap.get? h1.objs.size = none := by
      cases q : s.heap.get? h1.objs.size with
      | none => rfl
      | some o => exact absurd (Heap.lt_size (k1 _ _ q)) (Nat.lt_irrefl _)
    refine wpAny_bind (listItems_at hoL rfl ?_)
    refine wpAny_bind (listUpdate_at hoL rfl ?_ (by rw [List.size_toArray, hz, sizeLine_eq]; decide) (Nat.zero_le _))
    refine wpAny_bind (seqEpoch_at ho1 rfl ?_)
    refine wpAny_bind (wpAny_newTuple ?_ (by show vs.length ≤ _; rw [hz, sizeLine_eq]; omega))
    refine wpAny_bind (wpAny_newList ?_ (Nat.zero_le _))
    refine wpAny_holding ?_
    have x1 : Ext s { s with heap := h1, toks := tk } := Ext.heap k1
    have x2 : ∀ o, Ext s { s with heap := h1.push o, toks := tk } := fun o => Ext.heap fun b o e => Heap.get?_push_of_some _ (k1 b o e)
    have x3 := (x2 (seqObj "list" vs.toArray 0)).but h0a s1
    dsimp only at x3 ⊢
    generalize hH : (h1.push (seqObj "list" vs.toArray 0)).update h1.objs.size (Obj.mapSeq fun _ => (#[] : Array Value)) = H at *
    have hHz : H.objs.size = h1.objs.size + 1 := by rw [← hH, Heap.size_update, size_push']
    have hS : (H.push (seqObj "tuple" vs.toArray 0)).objs.size = h1.objs.size + 2 := by rw [size_push', hHz]
    refine key_rest (s0 := s) (f := f) R hL hlim hlo hA1 (by show A.depth ≤ 400; omega) (by show A.units + 1 + 1 ≤ 8 * 400; omega) ⟨x3.trans (Ext.heap (s := { s with heap := H, toks := tk }) (h := (H.push (seqObj "tuple" vs.toArray 0)).push (seqObj "list" #[] 0)) (t := tk) fun b o e => Heap.get?_push_of_some _ (Heap.get?_push_of_some _ e)),
      Heap.get?_push_of_some _ (Heap.get?_push_of_some _ ho1), ⟨0, Heap.get?_push_size _ rfl⟩, fun i v hi => by simp at hi⟩ ?_ h0a ?_ hz hv fun s' c keys hk4 x hD => ⟨_, rfl, ?_⟩
    · rw [hS]; exact Nat.ne_of_gt (Nat.lt_of_lt_of_le (Nat.lt_succ_self _) (Nat.le_succ _))
    · rw [hS]
      cases q : s.heap.get? (h1.objs.size + 2) with
      | none => rfl
      | some o => exact absurd (Heap.lt_size (k1 _ _ q)) (Nat.not_lt.mpr (Nat.le_add_right _ _))
    · have hall := run_all (f := f) (kas_sort 4) all4
      generalize runK f (kas_sort 4) = p at *
      refine wpAny_pure ⟨_, rfl, h s' _ (p.toList.map fun i => (kas_item (keys.zip vs.toArray) i).2) x ⟨_, hD, rfl, c, ?_⟩ (paired_map _ fun i hi => ?_)⟩
      · show Data.seq _ c = _
        rw [show p.map (fun i => (kas_item (keys.zip vs.toArray) i).2) = (p.toList.map fun i => (kas_item (keys.zip vs.toArray) i).2).toArray from Array.toList_inj.mp (by simp)]
      · have h4 : i < 4 := by simpa using List.all_eq_true.mp hall i hi
        have h5 : i < vs.toArray.size := by rw [List.size_toArray, hz]; exact h4
        rw [kas_zip (by rw [hk4]; exact h4) h5]
        exact hv i _ (by simpa using List.getElem?_eq_getElem (by simpa using h5))
end
end
section
open PySem PySem.W PyProof.Rows PySem.Calls PySem.Spec
set_option maxRecDepth 100000
set_option maxHeartbeats 4000000
theorem here_of {P : Prop} (h : Here P) : P := h
/-- the lists and tuples stand as they stood -/
def KeepS (h h' : Heap) : Prop := ∀ b o xs n, o.data = .seq xs n → h.get? b = some o → h'.get? b = some o
theorem KeepS.refl (h : Heap) : KeepS h h := fun _ _ _ _ _ e => e
theorem KeepS.trans {h h' h'' : Heap} (x : KeepS h h') (y : KeepS h' h'') : KeepS h h'' := fun b o xs n d e => y b o xs n d (x b o xs n d e)
theorem KeepS.of {h h' : Heap} (k : ∀ b o, h.get? b = some o → h'.get? b = some o) : KeepS h h' := fun b o _ _ _ e => k b o e
theorem KeepS.ns {h h' : Heap} {L : Addr} {m : Str → Option Value} (hn : h.Ns L m) (k : ∀ b o, b ≠ L → h.get? b = some o → h'.get? b = some o) : KeepS h h' := fun b o xs n d e => by
  refine k b o (fun q => ?_) e
  obtain ⟨o', es, ep, e', d', _⟩ := hn
  rw [q, e'] at e
  cases e
  rw [d] at d'
  cases d'
theorem KeepS.cell {h h' : Heap} {c : Addr} {v : Option Value} (hn : h.IsCell c v) (k : ∀ b o, b ≠ c → h.get? b = some o → h'.get? b = some o) : KeepS h h' := fun b o xs n d e => by
  refine k b o (fun q => ?_) e
  obtain ⟨o', e', d'⟩ := hn
  rw [q, e'] at e
  cases e
  rw [d] at d'
  cases d'
theorem isList_s {h h' : Heap} {a : Addr} {items : Array Value} (x : h.IsList a items) (k : KeepS h h') : h'.IsList a items := let ⟨o, e, c, n, d⟩ := x; ⟨o, k _ _ _ _ d e, c, n, d⟩
theorem isTup_s {h h' : Heap} {a : Addr} {items : Array Value} (x : IsTup h a items) (k : KeepS h h') : IsTup h' a items := let ⟨o, e, c, n, d⟩ := x; ⟨o, k _ _ _ _ d e, c, n, d⟩
theorem plain_s {h h' : Heap} {a : Addr} {items : Array Value} (x : h.PlainList a items) (k : KeepS h h') : h'.PlainList a items := let ⟨n, e⟩ := x; ⟨n, k _ _ _ _ rfl e⟩
theorem PiecesAt.s {h h' : Heap} {vs : List Value} {ps : List (List Str)} (x : PiecesAt h vs ps) (k : KeepS h h') : PiecesAt h' vs ps :=
  paired_mono (fun _ _ ⟨r, ws, e, g, q⟩ => ⟨r, ws, e, isList_s g k, q⟩) x
theorem FormsAt.s {h h' : Heap} {vs : List Value} {fs : List (Int × Int)} (x : FormsAt h vs fs) (k : KeepS h h') : FormsAt h' vs fs :=
  paired_mono (fun _ _ ⟨r, t1, t2, e, g⟩ => ⟨r, t1, t2, e, isTup_s g k⟩) x
theorem ordsAt_s {h h' : Heap} {vs : List Value} {os : List (List Int)} (x : Paired (IntsAt h) vs os) (k : KeepS h h') : Paired (IntsAt h') vs os :=
  paired_mono (fun _ _ ⟨r, zs, e, g, q⟩ => ⟨r, zs, e, isList_s g k, q⟩) x

def lawSt : Stmt := stAt 20
def lst (i : Nat) : Stmt := (dBody (stAt 20)).getD i default
abbrev lcs (L : Addr) : List (Str × Addr) := cellsFrom (L + 1) (dScope (stAt 20)).names []
abbrev lenv (L cd : Addr) : Env := envOfC (dName (stAt 20)) (dScope (stAt 20)) L 118 (.ref cd)

/-- picks out of a list by the rule of a slice -/
def pickL {α : Type} (l : List α) (lo hi st : Option Int) : List α :=
  (sliceRange (sliceBounds lo hi st l.length).1 (sliceBounds lo hi st l.length).2.1 (sliceBounds lo hi st l.length).2.2).filterMap (l[·]?)
theorem paired_picks {α β : Type} {R : α → β → Prop} {as : List α} {bs : List β} (h : Paired R as bs) : ∀ js : List Nat, Paired R (js.filterMap (as[·]?)) (js.filterMap (bs[·]?))
  | [] => .nil
  | j :: js => by
    have ih := paired_picks h js
    cases e : as[j]? with
    | none =>
      have hl := h.length
      have : bs[j]? = none := by rw [List.getElem?_eq_none_iff] at e ⊢; omega
      simpa [e, this] using ih
    | some v =>
      obtain ⟨u, e2, r⟩ := paired_get h e
      simpa [e, e2] using Paired.cons r ih
theorem paired_pick {β : Type} {R : Value → β → Prop} {vs : List Value} {bs : List β} (h : Paired R vs bs) (lo hi st : Option Int) : Paired R (slicePick vs.toArray lo hi st).toList (pickL bs lo hi st) := by
  have hl := h.length
  unfold slicePick pickL
  simp only [List.size_toArray, hl, List.getElem?_toArray]
  exact paired_picks h _

section
variable {w : World} {A : Around} {E : Value → Shared → Prop} {s : Shared} {L cd : Addr} {h₀ : Heap} {m cm : Str → Option Value}
/-- the frame of the law: its names, its cells, the old objects -/
structure LF (h₀ : Heap) (L : Addr) (m cm : Str → Option Value) (h : Heap) : Prop where
  fr : Fr h₀ L h m
  cl : Cl L (lcs L) h cm
theorem LF.keeps {h h' : Heap} (x : LF h₀ L m cm h) (k : ∀ b o, h.get? b = some o → h'.get? b = some o) : LF h₀ L m cm h' := ⟨⟨x.fr.ns.keeps k, fun b o e => k b o (x.fr.keep b o e), x.fr.above⟩, x.cl.keeps k⟩
theorem LF.cell {h : Heap} (x : LF h₀ L m cm h) (y : Str) (c : Addr) {v : Option Value} (e : cm y = v) (hc : (lcs L).lookup y = some c := by rfl) : h.IsCell c v := e ▸ x.cl.cell y c hc
theorem st_locL {x : Str} {v : Value} {Q : Unit → Shared → Prop} (F : LF h₀ L m cm s.heap)
    (h : ∀ h', LF h₀ L (fun y => if y = x then some v else m y) cm h' → KeepS s.heap h' → Q () { s with heap := h', toks := s.toks + 1 })
    (hl : (lenv L cd).kindOf x = some .local := by rfl) : wpAny (model P0 w) A (storeName (lenv L cd) x v) Q E s :=
  wpAny_storeName_local hl F.fr.ns (fun h' hn hs => h h' ⟨F.fr.set hn hs, F.cl.sameBut hs (Nat.le_refl _)⟩ (KeepS.ns F.fr.ns fun b o q e => (hs.2 b q).trans e)) rfl
theorem st_cellL {x : Str} {c : Addr} {v : Value} {Q : Unit → Shared → Prop} (F : LF h₀ L m cm s.heap) (hc : (lcs L).lookup x = some c)
    (h : ∀ h', LF h₀ L m (fun y => if y = x then some v else cm y) h' → KeepS s.heap h' → Q () { s with heap := h' })
    (hl : (lenv L cd).kindOf x = some .cell := by rfl) : wpAny (model P0 w) A (storeName (lenv L cd) x v) Q E s := by
  obtain ⟨F, X⟩ := F
  have hLc : L < c := X.above x c (mem_of_lookup hc)
  refine wpAny_storeName_cell rfl hl hc (X.cell x c hc) fun h' hv hs => h h' ⟨⟨F.ns.sameBut hs (Nat.ne_of_lt hLc), fun b o e => (hs.2 b (Nat.ne_of_lt (Nat.lt_trans (Nat.lt_of_lt_of_le (Heap.lt_size e) F.above) hLc))).trans (F.keep b o e), F.above⟩,
    ⟨fun n c' e => ?_, X.apart, X.above⟩⟩ (KeepS.cell (X.cell x c hc) fun b o q e => (hs.2 b q).trans e)
  by_cases hn : n = x
  · subst hn; rw [hc] at e; cases e; simpa using hv
  · have hcc : c' ≠ c := fun q => hn (name_of_addr X.apart (mem_of_lookup e) (q ▸ mem_of_lookup hc))
    simpa [hn] using (X.cell n c' e).sameBut hs hcc
/-- a cut without a step out of a list -/
theorem sub_cut {env : Env} {value : Expr} {lower upper : Option Expr} {p pos : Pos} {Q : Value → Shared → Prop}
    (h : wpAny (model P0 w) A (eval value env) (fun o s₁ => wpAny (model P0 w) A (evalPart lower env) (fun vl s₂ => wpAny (model P0 w) A (evalPart upper env) (fun vu s₄ =>
      Here (∃ l items lo hi, o = .ref l ∧ s₄.heap.IsList l items ∧ items.size ≤ sizeLine ∧ IsPart vl lo ∧ IsPart vu hi ∧
        ∀ h' r, (∀ b o, s₄.heap.get? b = some o → h'.get? b = some o) → s₄.heap.get? r = none → h'.PlainList r (slicePick items lo hi none) → Q (.ref r) { s₄ with heap := h' })) E s₂) E s₁) E s)
    (ht : ∀ o r, letTemporaryGo value o r = pure () := by intro _ _; rfl) :
    wpAny (model P0 w) A (eval (.Subscript value (.Slice lower upper none p) pos) env) Q E s := by
  refine wpAny_Subscript_Slice (T := "list") slot_list_getitem.lookup (wpAny_mono h (fun o s₁ h₁ => wpAny_Slice (wpAny_mono h₁ (fun vl s₂ h₂ => wpAny_mono h₂ (fun vu s₄ h₄ => ?_)
    fun _ _ e => e) fun _ _ e => e)) fun _ _ e => e) ht
  obtain ⟨l, items, lo, hi, rfl, hl, hsz, pl, pu, hQ⟩ := h₄
  refine (show wpAny (model P0 w) A (evalPart none env) _ E s₄ from wpAny_pure ?_)
  have k1 : ∀ b o, s₄.heap.get? b = some o → (s₄.heap.push { cls := .type "slice", data := .fields #[vl, vu, .none] }).get? b = some o := fun b o e => Heap.get?_push_of_some _ e
  have hl' := isList_keeps hl k1
  refine ⟨hl'.typeIs, wpAny_getItem_list_slice hl' (Heap.IsSliceOf.new _ _ _ _) pl pu .none (by simp) ?_ hsz⟩
  exact hQ _ _ (fun b o e => Heap.get?_push_of_some _ (k1 b o e)) (get_none_of_ge (by simp [Heap.size_push])) ⟨0, Heap.get?_push_size _ rfl⟩
theorem newL {E : Value → Shared → Prop} {vs : List Value} {Q : Value → Shared → Prop} (h : ∀ h' r, (∀ b o, s.heap.get? b = some o → h'.get? b = some o) → s.heap.get? r = none → h'.IsList r vs.toArray → Q (.ref r) { s with heap := h' }) (hz : vs.length ≤ sizeLine := by size_fits) :
    wpAny (model P0 w) A (newList vs) Q E s :=
  wpAny_newList (h _ _ (fun b o e => Heap.get?_push_of_some _ e) (get_size_none _) ⟨_, Heap.get?_push_size _ rfl, rfl, 0, rfl⟩) hz
theorem cut_tail {E : Value → Shared → Prop} {value slice : Expr} {ops : List Value} {l sl : Addr} {items : Array Value} {vl vu vs : Value} {lo hi st : Option Int} {Q : Value → Shared → Prop} (hl : s.heap.IsList l items) (hsl : s.heap.IsSliceOf sl vl vu vs) (hsz : items.size ≤ sizeLine)
    (pl : IsPart vl lo) (pu : IsPart vu hi) (ps : IsPart vs st) (h0 : st ≠ some 0)
    (h : ∀ h' r, (∀ b o, s.heap.get? b = some o → h'.get? b = some o) → s.heap.get? r = none → h'.PlainList r (slicePick items lo hi st) → Q (.ref r) { s with heap := h' })
    (hs : subscripted slice false (.ref l) (.ref sl) = operate ops (getItem (.ref l) (.ref sl)) := by with_unfolding_all rfl) :
    wpAny (model P0 w) A (subscriptTail value slice (.ref l) (.ref sl)) Q E s :=
  tail_any hl.typeIs slot_list_getitem.lookup (wpAny_getItem_list_slice hl hsl pl pu ps h0 (h _ _ (fun b o e => Heap.get?_push_of_some _ e) (get_size_none _) ⟨0, Heap.get?_push_size _ rfl⟩) hsz) hs
/-- the sum of a list of ints -/
theorem call_sum {l : Addr} {vs : List Value} {ns : List Int} {Q : Value → Shared → Prop} (hh : A.handled = none) (hl : s.heap.IsList l vs.toArray) (hi : IntsAre vs ns)
    (h : ∀ h' tk t', (∀ b o, s.heap.get? b = some o → h'.get? b = some o) → Q (.int ns.sum t') { s with heap := h', toks := tk }) : wpAny (model P0 w) A (call (.builtin "sum") [.ref l]) Q E s := by
  obtain ⟨xs, hx⟩ := hi.allInts.items
  have hl' : s.heap.IsList l (intItems xs) := hx ▸ hl
  refine sum_intListG hh hl' fun h' tk t' hk => ?_
  have e1 : ns = xs.toList.map (·.1) := by
    rw [← nums_intItems, ← hx]
    exact (show numsOf vs.toArray.toList = ns from hi.numsOf).symm
  have e2 : preSum (numAt xs) xs.size = ns.sum := by
    rw [preSum_eq, List.take_of_length_le (by simp), e1]
  rw [e2]
  exact h h' tk t' hk
end
end
section
open PySem PySem.W PyProof.Rows PySem.Calls PySem.Spec
local macro_rules | `(tactic| walk_at "eval Name") => `(tactic| first | refine nm_cell (by assumption) rfl ?_ | walk_at "nm_l" | walk_at "nm_t" | refine nm_glob (by assumption) (RedF.red (by assumption)) ?_)
local macro_rules | `(tactic| walk_at "eval Subscript") => `(tactic| with_unfolding_all (first | refine sub_cut ?_ | refine sub_step ?_))
section
open PySem PySem.W PyProof.Rows PySem.Calls PySem.Spec
set_option maxRecDepth 100000
set_option maxHeartbeats 4000000
section
variable {w : World} {A : Around} {E : Value → Shared → Prop} {env : Env}
theorem comp_range_assign {s : Shared} {elt iter : Expr} {x y : Str} {px py : Pos} {ifs : List Expr} {scope : Scope} {cl : List (Str × Addr)} {pos spos : Pos} {Q : Flow → Shared → Prop} (G : Value → Value → Prop) (O : Value → Obj → Prop)
    (hsw : swapsWith (.ListComp elt [⟨.Name x px, iter, ifs, 0⟩] scope pos) (some (.Name y py)) spos.line env = pure true)
    (hh : A.handled = none) (hclos : closureFor scope env = pure cl) (hcell : ∀ y ∈ scope.names, y.2 ≠ .cell) (hkind : scope.kind = .function)
    (hnames : ∀ y ∈ scope.names, y.2 = .local → scope.names.lookup y.1 = some .local) (hx : scope.names.lookup x = some .local)
    (hy : env.kindOf y = some .local) (hp : (env.scope.kind == .class || (env.scope.kind == .module && env.locals != env.globals)) = false)
    (h : wpAny (model P0 w) A (eval iter env) (fun xv s₁ => Here (∃ (r : Addr) (n : Nat) (t u v : Tok) (m : Str → Option Value), xv = .ref r ∧ IsRange s₁.heap r 0 (n : Nat) 1 t u v ∧ n ≤ 1000 ∧ RangeOk w A env scope cl x ifs elt G O s₁ n ∧ s₁.heap.Ns env.locals m ∧
      (∀ D s' (ys vs : List Value), s₁.heap.get? D = none → s'.heap.PlainList D ys.toArray → vs.length = n → (∀ (j : Nat) v, vs[j]? = some v → IsIntV v j) → Paired (fun v y => ElN G O D v y s'.heap) vs ys →
        s'.heap.Ns env.locals (fun z => if z = y then some (.ref D) else m z) → (∀ b o, b ≠ env.locals → s₁.heap.get? b = some o → s'.heap.get? b = some o) → GExt s₁ s' → Q .next s'))) E s)
    (hO : ∀ v o, O v o → ∀ es ep, o.data ≠ .dict es ep)
    (hs : ∀ x, foldedSetIterable iter env x = pure x := by intro _; rfl) :
    wpAny (model P0 w) A (exec (.Assign [.Name y py] (.ListComp elt [⟨.Name x px, iter, ifs, 0⟩] scope pos) spos) env) Q E s := by
  refine comp_assign (fun _ => true) G O hsw hclos hcell hkind hnames hx hy hp (wpAny_mono h (fun xv s₁ h₁ => ?_) fun _ _ e => e) hO hs
  obtain ⟨r, n, t, u, v, m, rfl, hr, hn, k, hns, hQ⟩ := h₁
  have hsz : Builtin.Range.rangeSize 0 (n : Int) 1 = (n : Int) := by rw [rangeSize_one]; split <;> omega
  refine wpAny_pyIter_range hr (small_one (by omega) (by omega) (by omega) (by omega)) (Here.mk ?_)
  have kp : ∀ (s₃ : Shared) (ob : Obj), (∀ b o, b ∉ [s₁.heap.objs.size] → (s₁.heap.push ob).get? b = some o → s₃.heap.get? b = some o) → ∀ b o, s₁.heap.get? b = some o → s₃.heap.get? b = some o :=
    fun s₃ ob q b o e => q b o (by simp; exact Nat.ne_of_lt (Heap.lt_size e)) (Heap.get?_push_of_some _ e)
  refine ⟨s₁.heap.objs.size, [s₁.heap.objs.size], [s₁.heap.objs.size], n, _, _, m, rfl, ⟨(Walks.range hh _ 0 1 n).bound, ?_, Nat.le_trans hn (by decide), ?_, ?_, ?_, ?_⟩, ?_, hns.keeps fun b o e => Heap.get?_push_of_some _ e, ?_⟩
  · intro i h st b hb
    obtain rfl := List.mem_singleton.mp hb
    exact ⟨_, st⟩
  · show IsRangeIter _ _ _ _ _
    rw [hsz]; simpa using Heap.get?_push_size _ rfl
  · intro b hb
    rw [List.mem_singleton.mp hb]
    show _ < (Heap.push _ _).objs.size
    rw [Heap.size_push]; exact Nat.lt_succ_self _
  · rintro C i v s₃ m₃ hC ⟨hi, t, rfl⟩ hn₃ hm hk hg
    exact k.tests C i t s₃ m₃ (by rw [Heap.size_push] at hC; omega) hi hn₃ (by simpa using hm) (kp s₃ _ hk) ⟨hg.gens, hg.bare, hg.os⟩
  · rintro C i v s₃ m₃ hC ⟨hi, t, rfl⟩ _ hn₃ hm hk hg
    have := k.elt C i t s₃ m₃ (by rw [Heap.size_push] at hC; omega) hi hn₃ (by simpa using hm) (kp s₃ _ hk) ⟨hg.gens, hg.bare, hg.os⟩
    simpa using this
  · intro hb
    have := hns.lt
    rw [List.mem_singleton.mp hb] at this
    exact Nat.lt_irrefl _ this
  · intro D s' ys vs hD hpl hlen hP hF hn' hk hg
    have hD' : s₁.heap.get? D = none := by
      cases e : s₁.heap.get? D with
      | none => rfl
      | some o => rw [Heap.get?_push_of_some _ e] at hD; cases hD
    rw [List.filter_eq_self.mpr (by simp)] at hF
    exact hQ D s' ys.toList vs hD' (by simpa using hpl) hlen (fun j v hj => by obtain ⟨_, t, e⟩ := hP j v hj; exact ⟨t, by simpa using e⟩) hF hn'
      (fun b o hb e => hk b o hb (by simp; exact Nat.ne_of_lt (Heap.lt_size e)) (Heap.get?_push_of_some _ e)) ⟨hg.gens, hg.bare, hg.os⟩
end
theorem fresh_of {h h' : Heap} {a : Addr} (k : ∀ b o, h.get? b = some o → h'.get? b = some o) (e : h'.get? a = none) : h.get? a = none := by
  cases q : h.get? a with
  | none => rfl
  | some o => rw [k a o q] at e; cases e
def drawnOf (ns : List Int) : List (List Str) := (List.range (min 2 ns.length)).map fun (k : Nat) => pieceOf (pickNums ns (some (k : Int)) none (some 2)).sum
section
variable {w : World} {A : Around} {s : Shared} {L cd : Addr} {h₀ : Heap} {m cm mg mb : Str → Option Value}
theorem law1 {l : Addr} {vs : List Value} {ns : List Int} {Q : Flow → Shared → Prop} (hA : A.handled = none) (hd : A.depth ≤ 400) (hu : A.units ≤ 8 * 400) (T : TopF mg mb s.heap) (F : LF h₀ L m cm s.heap)
    (hc : cm (Str.ofString "script") = some (.ref l)) (hl : s.heap.IsList l vs.toArray) (hi : IntsAre vs ns) (h63 : ns.length ≤ 63)
    (h : ∀ D s' ys, LF h₀ L (fun y => if y = Str.ofString "drawn" then some (.ref D) else m y) cm s'.heap → KeepS s.heap s'.heap → GExt s s' → s'.heap.IsList D ys.toArray → PiecesAt s'.heap ys (drawnOf ns) → Q .next s') :
    wpAny (model P0 w) A (exec (lst 0) (lenv L cd)) Q (fun _ _ => False) s := by
  have hcell := F.cell (Str.ofString "script") (L + 1) hc
  refine comp_range_assign (fun _ _ => False) (fun v o => ∃ (ys : List Value) (k : Int), IsIntV v k ∧ Paired IsStrV ys (pieceOf (pickNums ns (some k) none (some 2)).sum) ∧ ∃ n, o = { cls := .type "list", data := .seq ys.toArray n })
    rfl hA (cl := [(Str.ofString "script", L + 1)]) rfl (by decide) rfl (by decide) rfl rfl rfl ?_ ?_
  · walk_at "go"
    refine Here.mk ⟨l, vs.toArray, none, some 2, rfl, hl, ?_, .none, .int _ _, fun h' r k hr hp => ?_⟩
    · rw [List.size_toArray, hi.length, sizeLine_eq]; omega
    have hl2 := hp.isList
    have hz : (slicePick vs.toArray none (some 2) none).size = min 2 ns.length := by
      rw [show (2 : Int) = ((2 : Nat) : Int) from rfl, slicePick_upto' vs.toArray 2, List.size_toArray, List.length_take, hi.length]
    generalize slicePick vs.toArray none (some 2) none = items at *
    have hF : (items.size : Int) < 2 ^ 63 := by rw [hz]; omega
    walk_at "go"
    rw [hz]
    have kk : ∀ o' b o, s.heap.get? b = some o → (h'.push o').get? b = some o := fun o' b o e => Heap.get?_push_of_some _ (k b o e)
    refine call_range_1 (Here.mk ⟨_, min 2 ns.length, _, _, _, m, rfl, IsRange.new _ _ _ _ _ _ _, by omega, ⟨?_, ?_⟩, F.fr.ns.keeps (kk _), ?_⟩)
    · intro C i t s₃ m₃ hC hi' hn₃ hm hk hg
      exact wpAny_tests_nil (Here.mk ⟨rfl, Ext.refl _⟩)
    · intro C i t s₃ m₃ hC hi' hn₃ hm hk hg
      have k₃ : ∀ b o, s.heap.get? b = some o → s₃.heap.get? b = some o := fun b o e => hk b o (kk _ b o e)
      have hcell₃ := hcell.keeps k₃
      have T₃ := T.keeps k₃
      have hl₃ := isList_keeps hl k₃
      clear hk k kk hcell T hl
      walk_at "go"
      refine call_top (T₃.fn "_law_piece" 70 12) ?_
      walk_at "go"
      refine Here.mk ⟨l, vs.toArray, some (i : Int), none, 2, rfl, hl₃, by rw [List.size_toArray, hi.length, sizeLine_eq]; omega, .int _ _, .none, .int _ _, by decide, fun h₅ r₅ k₅ hr₅ hp₅ => ?_⟩
      have hi₅ := IntsAre.pick hi (some (i : Int)) none (some 2)
      have hl₅ : h₅.IsList r₅ (slicePick vs.toArray (some (i : Int)) none (some 2)).toList.toArray := by rw [Array.toArray_toList]; exact hp₅.isList
      generalize (slicePick vs.toArray (some (i : Int)) none (some 2)).toList = zs at *
      walk_at "go"
      refine call_sum hA hl₅ hi₅ fun h₆ tk₆ t₆ k₆ => ?_
      walk_at "go"
      · exact k₆ _ _ (k₅ _ _ (by assumption))
      have k₇ : ∀ b o, s₃.heap.get? b = some o → h₆.get? b = some o := fun b o e => k₆ _ _ (k₅ _ _ e)
      refine AL.of 500 hA (by omega) (by omega) (piece_spec (T₃.keeps k₇) fun a s₈ ys x hf hp hs => ?_)
      obtain ⟨n, e⟩ := hp
      exact Here.mk ⟨.inr ⟨a, _, rfl, fresh_of k₇ hf, e, ys, i, ⟨t, rfl⟩, hs, n, rfl⟩, ⟨fun b o e => x.keep b o (k₇ b o e), x.gens, x.bare, x.os⟩⟩
    · intro D s' ys zs hD hpl hlen hz' hF hn' hk hg
      have k₁ : ∀ b o, b ≠ L → s.heap.get? b = some o → s'.heap.get? b = some o := fun b o hb e => hk b o hb (kk _ b o e)
      refine h D s' ys ⟨⟨hn', fun b o e => ?_, F.fr.above⟩, ⟨fun n c e => ?_, F.cl.apart, F.cl.above⟩⟩ (KeepS.ns F.fr.ns k₁) ⟨hg.gens, hg.bare, hg.os⟩ hpl.isList ?_
      · exact k₁ b o (Nat.ne_of_lt (Nat.lt_of_lt_of_le (Heap.lt_size e) F.fr.above)) (F.fr.keep b o e)
      · obtain ⟨o, e1, e2⟩ := F.cl.cell n c e
        exact ⟨o, k₁ c o (Nat.ne_of_gt (F.cl.above n c (mem_of_lookup e))) e1, e2⟩
      · have := paired_range (R := fun v y => ElN (fun _ _ => False) (fun v o => ∃ (ys : List Value) (k : Int), IsIntV v k ∧ Paired IsStrV ys (pieceOf (pickNums ns (some k) none (some 2)).sum) ∧ ∃ n, o = { cls := .type "list", data := .seq ys.toArray n }) D v y s'.heap)
          (S := fun v us => ∃ r ws, v = Value.ref r ∧ s'.heap.IsList r (List.toArray ws) ∧ Paired IsStrV ws us) (f := fun (k : Nat) => pieceOf (pickNums ns (some (k : Int)) none (some 2)).sum) (min 2 ns.length) 0 hlen (fun j v hj => by rw [Nat.zero_add]; exact hz' j v hj) hF
          (fun v y j hv hy => ?_)
        · rw [← List.range_eq_range'] at this
          exact this
        · obtain ⟨t, rfl⟩ := hv
          rcases hy with hy | ⟨r₂, o₂, rfl, _, ho₂, ws, k, ⟨t', e⟩, hS, n, rfl⟩
          · exact hy.elim
          · cases e
            exact ⟨r₂, ws, rfl, ⟨_, ho₂, rfl, n, rfl⟩, hS⟩
  · rintro v o ⟨ys, k, _, _, n, rfl⟩ es ep q
    cases q
end
end
section
open PySem PySem.W PyProof.Rows PySem.Calls PySem.Spec
local macro_rules | `(tactic| walk_at "newList") => `(tactic| (with_unfolding_all refine newL ?_); intro h' r' k' f' l')
local macro_rules | `(tactic| walk_at "binaryOp Add ref ref") => `(tactic| refine here_of ?_)
local macro_rules | `(tactic| walk_at "eval ListComp") => `(tactic| refine here_of ?_)
local macro_rules | `(tactic| walk_at "newTuple") => `(tactic| refine here_of ?_)
local macro_rules | `(tactic| walk_at "call ref") => `(tactic| refine here_of ?_)
local macro_rules | `(tactic| walk_at "callWith ref") => `(tactic| refine call_top (TopF.fn (by assumption) _ _ _ (by walk_at "f_mem")) ?_)
section
open PySem PySem.W PyProof.Rows PySem.Calls PySem.Spec
set_option maxRecDepth 100000
set_option maxHeartbeats 4000000
def fixS : List (List Str) := [[Str.ofString ")", Str.ofString "\\(", Str.ofString "(", Str.ofString "("], [Str.ofString "(", Str.ofString "\"(\"", Str.ofString "("], [Str.ofString ")", Str.ofString "a", Str.ofString ")"], [Str.ofString ")", Str.ofString ")", Str.ofString "\\\\", Str.ofString "("]]
section
variable {w : World} {A : Around} {s : Shared} {L cd : Addr} {h₀ : Heap} {m cm mg mb : Str → Option Value}
theorem paired_take {α β : Type} {R : α → β → Prop} (n : Nat) {l₁ : List α} {l₂ : List β} (x : Paired R l₁ l₂) : Paired R (l₁.take n) (l₂.take n) := by
  induction x generalizing n with
  | nil => rw [List.take_nil, List.take_nil]; exact .nil
  | cons h _ ih =>
    cases n with
    | zero => exact .nil
    | succ n => exact .cons h (ih n)
theorem law2 {D : Addr} {ys : List Value} {ps : List (List Str)} {Q : Flow → Shared → Prop} (F : LF h₀ L m cm s.heap)
    (hm : m (Str.ofString "drawn") = some (.ref D)) (hD : s.heap.IsList D ys.toArray) (hP : PiecesAt s.heap ys ps) (hz : ps.length ≤ 2)
    (h : ∀ D' s' zs, LF h₀ L m (fun y => if y = Str.ofString "pieces" then some (.ref D') else cm y) s'.heap → KeepS s.heap s'.heap → GExt s s' → s'.heap.IsList D' zs.toArray → PiecesAt s'.heap zs ((ps ++ fixS).take 4) → Q .next s') :
    wpAny (model P0 w) A (exec (lst 1) (lenv L cd)) Q (fun _ _ => False) s := by
  have hn := F.fr.ns
  refine wpAny_Assign_Name ?_
  walk_at "go"
  rename_i h1 r1 k1 f1 l1 h2 r2 k2 f2 l2 h3 r3 k3 f3 l3 h4 r4 k4 f4 l4 h5 r5 k5 f5 l5
  have kk : ∀ b o, s.heap.get? b = some o → h5.get? b = some o := fun b o e => k5 _ _ (k4 _ _ (k3 _ _ (k2 _ _ (k1 _ _ e))))
  have q1 := isList_keeps l1 fun b o e => k5 _ _ (k4 _ _ (k3 _ _ (k2 _ _ e)))
  have q2 := isList_keeps l2 fun b o e => k5 _ _ (k4 _ _ (k3 _ _ e))
  have q3 := isList_keeps l3 fun b o e => k5 _ _ (k4 _ _ e)
  have q4 := isList_keeps l4 fun b o e => k5 _ _ e
  have hP5 : PiecesAt h5 (ys ++ [.ref r1, .ref r2, .ref r3, .ref r4]) (ps ++ fixS) := paired_append (hP.keeps kk)
    (.cons ⟨_, _, rfl, q1, .cons ⟨_, rfl⟩ (.cons ⟨_, rfl⟩ (.cons ⟨_, rfl⟩ (.cons ⟨_, rfl⟩ .nil)))⟩ (.cons ⟨_, _, rfl, q2, .cons ⟨_, rfl⟩ (.cons ⟨_, rfl⟩ (.cons ⟨_, rfl⟩ .nil))⟩
      (.cons ⟨_, _, rfl, q3, .cons ⟨_, rfl⟩ (.cons ⟨_, rfl⟩ (.cons ⟨_, rfl⟩ .nil))⟩ (.cons ⟨_, _, rfl, q4, .cons ⟨_, rfl⟩ (.cons ⟨_, rfl⟩ (.cons ⟨_, rfl⟩ (.cons ⟨_, rfl⟩ .nil)))⟩ .nil))))
  have hyz : ys.length ≤ 2 := by rw [hP.length]; exact hz
  clear k1 k2 k3 k4 k5 l1 l2 l3 l4 f1 f2 f3 f4 f5 q1 q2 q3 q4
  refine Here.mk ?_
  refine add_lists0 (isList_keeps hD kk) l5 ?_ (by show ys.length + 4 ≤ sizeLine; rw [sizeLine_eq]; omega)
  have hP6 := hP5.keeps fun b o e => Heap.get?_push_of_some { cls := .type "list", data := .seq (ys ++ [Value.ref r1, Value.ref r2, Value.ref r3, Value.ref r4]).toArray } e
  have kk6 : ∀ b o, s.heap.get? b = some o → (h5.push { cls := .type "list", data := .seq (ys ++ [Value.ref r1, Value.ref r2, Value.ref r3, Value.ref r4]).toArray }).get? b = some o := fun b o e => Heap.get?_push_of_some _ (kk b o e)
  have l6 : (h5.push { cls := .type "list", data := .seq (ys ++ [Value.ref r1, Value.ref r2, Value.ref r3, Value.ref r4]).toArray }).IsList h5.objs.size (ys ++ [Value.ref r1, Value.ref r2, Value.ref r3, Value.ref r4]).toArray := ⟨_, Heap.get?_push_size _ rfl, rfl, 0, rfl⟩
  dsimp only
  generalize h5.push _ = h6 at *
  generalize h5.objs.size = r6 at *
  walk_at "go"
  refine cut_tail (lo := none) (hi := some 4) (st := none) (isList_keeps l6 fun b o e => Heap.get?_push_of_some _ e) (Heap.IsSliceOf.new _ _ _ _) (by show (ys ++ [Value.ref r1, Value.ref r2, Value.ref r3, Value.ref r4]).length ≤ sizeLine; rw [List.length_append, sizeLine_eq]; simp only [List.length_cons, List.length_nil]; omega) .none (.int _ _) .none (by simp) fun h7 r7 k7' f7 p7 => ?_
  have k7 : ∀ b o, h6.get? b = some o → h7.get? b = some o := fun b o e => k7' _ _ (Heap.get?_push_of_some _ e)
  rw [show (4 : Int) = ((4 : Nat) : Int) from rfl, slicePick_upto' _ 4] at p7
  have F7 := F.keeps fun b o e => k7 _ _ (kk6 _ _ e)
  refine st_cellL F7 (c := L + 2) rfl fun h8 F8 k8 => ?_
  refine h r7 _ ((ys ++ [Value.ref r1, Value.ref r2, Value.ref r3, Value.ref r4]).take 4) F8 ((KeepS.of fun b o e => k7 _ _ (kk6 _ _ e)).trans k8) ⟨fun _ _ e => e, fun e => e, rfl⟩ (isList_s p7.isList k8) (PiecesAt.s (paired_take 4 (hP6.keeps k7)) k8)
end
end
section
open PySem PySem.W PyProof.Rows PySem.Calls PySem.Spec
set_option maxRecDepth 100000
set_option maxHeartbeats 4000000
section
variable {w : World} {A : Around} {s : Shared} {L cd : Addr} {h₀ : Heap} {m cm mg mb : Str → Option Value}
def PieceV (h : Heap) (v : Value) (us : List Str) : Prop := ∃ (r : Addr) (ws : List Value), v = Value.ref r ∧ h.IsList r (List.toArray ws) ∧ Paired IsStrV ws us
theorem strs_inj {zs : List Value} {a b : List Str} (x : Paired IsStrV zs a) (y : Paired IsStrV zs b) : a = b := by
  induction x generalizing b with
  | nil => cases y; rfl
  | cons h _ ih =>
    obtain ⟨_, e⟩ := h
    cases y with
    | cons h' t' =>
      obtain ⟨_, e'⟩ := h'
      rw [e] at e'
      cases e'
      rw [ih t']
theorem PieceV.unique {h : Heap} {v : Value} {a b : List Str} (x : PieceV h v a) (y : PieceV h v b) : a = b := by
  obtain ⟨r, ws, rfl, ⟨o, e, c, n, d⟩, p⟩ := x
  obtain ⟨r', ws', e', ⟨o', e'', c', n', d'⟩, p'⟩ := y
  cases e'
  rw [e] at e''
  cases e''
  rw [d] at d'
  cases d'
  exact strs_inj p p'
theorem PieceV.get {h : Heap} {vs : List Value} {ps : List (List Str)} (x : PiecesAt h vs ps) {i : Nat} {v : Value} (e : vs[i]? = some v) : ∃ us, us ∈ ps ∧ PieceV h v us := by
  obtain ⟨us, e', r⟩ := paired_get x e
  exact ⟨us, List.mem_of_getElem? e', r⟩
theorem ints_of_orders {h h' : Heap} {D : Addr} {ys : List Value} {os : List (List Int)} (hF : Paired (fun b y => ElB (fun _ _ => False) (fun b r o => h.get? r = none ∧ IntsO b o) [D] b y h') os ys) : Paired (IntsAt h') ys os :=
  paired_flip (paired_mono (fun b y e => by
    rcases e with e | ⟨r, o, rfl, _, ho, _, zs, n, rfl, hz⟩
    · exact e.elim
    · exact ⟨r, zs, rfl, ⟨_, ho, rfl, n, rfl⟩, hz⟩) hF)
theorem law3 {D : Addr} {ys : List Value} {ps : List (List Str)} {Q : Flow → Shared → Prop} (hA : A.handled = none) (hd : A.depth ≤ 400) (hu : A.units ≤ 8 * 400) (T : TopF mg mb s.heap) (F : LF h₀ L m cm s.heap)
    (hc : cm (Str.ofString "pieces") = some (.ref D)) (hD : s.heap.IsList D ys.toArray) (hP : PiecesAt s.heap ys ps) (hz : ps.length = 4) (hpz : ∀ us ∈ ps, us.length ≤ 100)
    (h : ∀ Df Do Dt s' fs os ts, LF h₀ L (fun y => if y = Str.ofString "orders" then some (.ref Do) else m y) (fun y => if y = Str.ofString "turned" then some (.ref Dt) else if y = Str.ofString "forms" then some (.ref Df) else cm y) s'.heap → KeepS s.heap s'.heap → GExt s s' →
      s'.heap.IsList Df fs.toArray → FormsAt s'.heap fs (ps.map formOf) → s'.heap.IsList Do os.toArray → Paired (IntsAt s'.heap) os allOrders → s'.heap.IsList Dt ts.toArray → PiecesAt s'.heap ts (ps.map fun us => us.reverse.map turnU) → Q .next s') :
    wpAny (model P0 w) A (exec (lst 2) (lenv L cd)) Q (fun _ _ => False) s := by
  have hcell := F.cell (Str.ofString "pieces") (L + 2) hc
  have hyz : ys.length = 4 := by rw [hP.length]; exact hz
  show wpAny _ _ (exec (.Assign _ _ _) _) _ _ _
  walk_at "go"
  refine Here.mk ?_
  refine comp_list (fun _ => true) (fun _ _ => False) (fun v o => ∃ us, PieceV s.heap v us ∧ ∃ t1 t2, o = tup2 (formOf us).1 t1 (formOf us).2 t2) (cl := []) hA rfl (by decide) rfl (by decide) rfl ?_
  walk_at "go"
  refine Here.mk ⟨D, ys, rfl, hD, by rw [hyz, sizeLine_eq]; decide, ⟨?_, ?_⟩, ?_⟩
  · intro C i v s₃ m₃ hC hv hn hm hk hg
    exact wpAny_tests_nil (Here.mk ⟨rfl, Ext.refl _⟩)
  · intro C i v s₃ m₃ hC hv _ hn hm hk hg
    obtain ⟨us, hus, hpv⟩ := PieceV.get hP hv
    obtain ⟨r, ws, rfl, hr, hw⟩ := id hpv
    have T₃ := T.keeps hk
    have hr₃ := isList_keeps hr hk
    clear T hcell
    walk_at "go"
    refine AL.of 500 hA (by omega) (by omega) (form_spec' T₃ hr₃ hw fun k s' t1 t2 x hf e _ => ?_)
    exact Here.mk ⟨.inr ⟨k, _, rfl, hf, e, us, hpv, t1, t2, rfl⟩, x⟩
  intro Df s₁ fs hDf hplf hFf x₁
  rw [List.filter_eq_self.mpr (by simp)] at hFf
  have hforms : FormsAt s₁.heap fs (ps.map formOf) := paired_through hP hFf fun v us y hv hy => by
    rcases hy with hy | ⟨r, o, rfl, _, ho, us', hus', t1, t2, rfl⟩
    · exact hy.elim
    · rw [PieceV.unique hv hus']
      exact ⟨r, t1, t2, rfl, _, ho, rfl, _, rfl⟩
  have T₁ := T.keeps x₁.keep
  have hcell₁ := hcell.keeps x₁.keep
  have F₁ := F.keeps x₁.keep
  have hD₁ := isList_keeps hD x₁.keep
  have hP₁ := hP.keeps x₁.keep
  clear hFf T hcell F hDf
  walk_at "go"
  · solve_by_elim
  rename_i h₂ r₂ k₂ f₂ l₂
  refine Here.mk ?_
  refine AL.of 500 hA (by omega) (by omega) (orders_spec 4 500 (ps := [0, 1, 2, 3]) (by decide) (by decide) (by decide) (T₁.keeps k₂) l₂ (.cons ⟨_, rfl⟩ (.cons ⟨_, rfl⟩ (.cons ⟨_, rfl⟩ (.cons ⟨_, rfl⟩ .nil)))) fun Do s₃ os hf hplo hFo x₃' => ?_)
  have x₃ : Ext s₁ s₃ := ⟨fun b o e => x₃'.keep b o (k₂ b o e), x₃'.gens, x₃'.bare, x₃'.os⟩
  have hords := ints_of_orders hFo
  have T₃ := T₁.keeps x₃.keep
  have hcell₃ := hcell₁.keeps x₃.keep
  have F₃ := F₁.keeps x₃.keep
  have hD₃ := isList_keeps hD₁ x₃.keep
  have hP₃ := hP₁.keeps x₃.keep
  have hforms₃ := hforms.keeps x₃.keep
  have hplf₃ := isList_keeps hplf.isList x₃.keep
  clear hFo T₁ hcell₁ F₁ hf hP₁ hforms hplf hP hD l₂ k₂ f₂ x₃' hD₁
  walk_at "go"
  refine Here.mk ?_
  refine comp_list (fun _ => true) (fun _ _ => False) (fun v o => ∃ us, PieceV s₃.heap v us ∧ ∃ zs n, o = { cls := .type "list", data := .seq (List.toArray zs) n } ∧ Paired IsStrV zs (us.reverse.map turnU)) (cl := []) hA rfl (by decide) rfl (by decide) rfl ?_
  walk_at "go"
  refine Here.mk ⟨D, ys, rfl, hD₃, by rw [hyz, sizeLine_eq]; decide, ⟨?_, ?_⟩, ?_⟩
  · intro C i v s₄ m₃ hC hv hn hm hk hg
    exact wpAny_tests_nil (Here.mk ⟨rfl, Ext.refl _⟩)
  · intro C i v s₄ m₃ hC hv _ hn hm hk hg
    obtain ⟨us, hus, hpv⟩ := PieceV.get hP₃ hv
    obtain ⟨r, ws, rfl, hr, hw⟩ := id hpv
    have T₄ := T₃.keeps hk
    have hr₄ := isList_keeps hr hk
    clear T₃ hcell₃
    walk_at "go"
    refine AL.of 500 hA (by omega) (by omega) (turned_spec T₄ hr₄ hw (by rw [hw.length, sizeLine_eq]; have := hpz us hus; omega) fun k s' ys x hf e hs => ?_)
    obtain ⟨n, e⟩ := e
    exact Here.mk ⟨.inr ⟨k, _, rfl, hf, e, us, hpv, ys, n, rfl, hs⟩, x⟩
  intro Dt s₅ ts hDt hplt hFt x₅
  rw [List.filter_eq_self.mpr (by simp)] at hFt
  have hturned : PiecesAt s₅.heap ts (ps.map fun us => us.reverse.map turnU) := paired_through hP₃ hFt fun v us y hv hy => by
    rcases hy with hy | ⟨r, o, rfl, _, ho, us', hus', zs, n, rfl, hs⟩
    · exact hy.elim
    · rw [PieceV.unique hv hus']
      exact ⟨r, zs, rfl, ⟨_, ho, rfl, n, rfl⟩, hs⟩
  have F₅ := F₃.keeps x₅.keep
  have hords₅ := paired_mono (fun _ _ (q : IntsAt s₃.heap _ _) => q.keeps x₅.keep) hords
  have hplo₅ := isList_keeps hplo.isList x₅.keep
  have hforms₅ := hforms₃.keeps x₅.keep
  have hplf₅ := isList_keeps hplf₃ x₅.keep
  have k05 : ∀ b o, s.heap.get? b = some o → s₅.heap.get? b = some o := fun b o e => x₅.keep _ _ (x₃.keep _ _ (x₁.keep _ _ e))
  have g05 := (x₁.g.trans x₃.g).trans x₅.g
  clear hFt F₃ hords hplo hforms₃ hplf₃ hP₃ hD₃ T₃ hcell₃ x₁ x₃ x₅
  walk_at "go"
  refine Here.mk ?_
  refine wpAny_newTuple ?_
  refine assign_Tuple_tuple hA ⟨_, Heap.get?_push_size _ rfl, rfl, 0, rfl⟩ rfl rfl fun h₇ x₇ => ?_
  have k57 : ∀ b o, s₅.heap.get? b = some o → h₇.get? b = some o := fun b o e => x₇ b o (Nat.ne_of_lt (by rw [size_push']; exact Nat.lt_succ_of_lt (Heap.lt_size e))) (Heap.get?_push_of_some _ e)
  dsimp only
  refine assignInOrder_cons (assign_Name ?_)
  refine st_cellL (F₅.keeps k57) (c := L + 5) rfl fun h₈ F₈ k8 => ?_
  refine assignInOrder_cons (assign_Name ?_)
  refine st_locL F₈ fun h₉ F₉ k9 => ?_
  refine assignInOrder_cons (assign_Name ?_)
  refine st_cellL F₉ (c := L + 3) rfl fun h₁₀ F₁₀ k10 => ?_
  refine assignInOrder_nil ?_
  have kk := ((KeepS.of k57).trans k8).trans (k9.trans k10)
  exact h Df Do Dt _ fs os ts F₁₀ ((KeepS.of k05).trans kk) ⟨g05.gens, g05.bare, g05.os⟩ (isList_s hplf₅ kk) (hforms₅.s kk) (isList_s hplo₅ kk) (ordsAt_s hords₅ kk) (isList_s (isList_s hplt.isList (KeepS.refl _)) kk) (hturned.s kk)
end
end
section
open PySem PySem.W PyProof.Rows PySem.Calls PySem.Spec
set_option maxRecDepth 100000
set_option maxHeartbeats 4000000
def ordV (h : Heap) (v : Value) : List Int := match v with
  | .ref r => (match h.get? r with
    | some o => (match o.data with | .seq xs _ => xs.toList.map (fun x => match x with | .int i _ => i | _ => 0) | _ => [])
    | none => [])
  | _ => []
theorem ints_map {zs : List Value} {b : List Int} (x : Paired IsIntV zs b) : zs.map (fun x => match x with | .int i _ => i | _ => 0) = b := by
  induction x with
  | nil => rfl
  | cons h _ ih =>
    obtain ⟨_, rfl⟩ := h
    rw [List.map_cons, ih]
theorem IntsAt.ordV {h : Heap} {v : Value} {b : List Int} (x : IntsAt h v b) : ordV h v = b := by
  obtain ⟨r, zs, rfl, ⟨o, e, c, n, d⟩, p⟩ := x
  unfold Mine.ordV
  dsimp only
  rw [e]
  dsimp only
  rw [d]
  exact ints_map p
theorem paired_filter2 {α β : Type} {R : α → β → Prop} {p : α → Bool} {q : β → Bool} {as : List α} {bs : List β} (x : Paired R as bs) (k : ∀ a b, R a b → p a = q b) : Paired R (as.filter p) (bs.filter q) := by
  induction x with
  | nil => exact .nil
  | @cons a b _ _ h _ ih =>
    have e := k a b h
    rw [List.filter_cons, List.filter_cons, e]
    cases q b with
    | true => exact .cons h ih
    | false => exact ih
section
variable {w : World} {A : Around} {E : Value → Shared → Prop} {env : Env}
/-- the orders of a list that stand a test -/
theorem comp_orders {s : Shared} {x : Str} {iter : Expr} {px pe : Pos} {ifs : List Expr} {scope : Scope} {cl : List (Str × Addr)} {pos : Pos} {Q : Value → Shared → Prop} (p : List Int → Bool)
    (hh : A.handled = none) (hclos : closureFor scope env = pure cl) (hcell : ∀ y ∈ scope.names, y.2 ≠ .cell) (hkind : scope.kind = .function)
    (hnames : ∀ y ∈ scope.names, y.2 = .local → scope.names.lookup y.1 = some .local) (hx : scope.names.lookup x = some .local) (hd : (x == ("__debug__" : Str)) = false)
    (h : wpAny (model P0 w) A (eval iter env) (fun xv s₁ => Here (∃ (l : Addr) (vs : List Value) (os : List (List Int)), xv = .ref l ∧ s₁.heap.IsList l vs.toArray ∧ Paired (IntsAt s.heap) vs os ∧ (∀ b o, s.heap.get? b = some o → s₁.heap.get? b = some o) ∧ os.length ≤ 100 ∧
      (∀ C v b s₃ m₃, b ∈ os → IntsAt s₃.heap v b → s₃.heap.Ns C m₃ → m₃ x = some v → (∀ b o, s₁.heap.get? b = some o → s₃.heap.get? b = some o) → GExt s₁ s₃ →
        wpAny (model P0 w) A (testsOf ifs (compEnvC scope cl C env)) (fun ok s₄ => Here (ok = p b ∧ Ext s₃ s₄)) (fun _ _ => False) s₃) ∧
      (∀ D s' ys, s₁.heap.get? D = none → s'.heap.PlainList D ys.toArray → Paired (IntsAt s'.heap) ys (os.filter p) → Ext s₁ s' → Q (.ref D) s'))) E s)
    (hs : ∀ x, foldedSetIterable iter env x = pure x := by intro _; rfl) :
    wpAny (model P0 w) A (eval (.ListComp (.Name x pe) [⟨.Name x px, iter, ifs, 0⟩] scope pos) env) Q E s := by
  refine comp_list (fun v => p (ordV s.heap v)) (fun v y => y = v) (fun _ _ => False) hh hclos hcell hkind hnames hx (wpAny_mono h (fun xv s₁ h₁ => ?_) fun _ _ e => e) hs
  obtain ⟨l, vs, os, rfl, hl, hv, k, hz, ht, hQ⟩ := h₁
  have hvz := hv.length
  refine Here.mk ⟨l, vs, rfl, hl, by rw [hvz, sizeLine_eq]; omega, ⟨fun C i v s₃ m₃ _ hi hn hm hk hg => ?_, fun C i v s₃ m₃ _ hi _ hn hm hk hg => ?_⟩, fun D s' ys hD hpl hF x₁ => ?_⟩
  · obtain ⟨b, hb, hvb⟩ := paired_get hv hi
    rw [hvb.ordV]
    exact ht C v b s₃ m₃ (List.mem_of_getElem? hb) (hvb.keeps fun b o e => hk b o (k b o e)) hn hm hk hg
  · refine nm_loc hn hm (Here.mk ⟨.inl rfl, Ext.refl _⟩) (by simp [compEnvC, relabel, hkind]) (lookup_relabel_local hx) hd
  · have e : ys = vs.filter fun v => p (ordV s.heap v) := by
      refine (paired_eq (paired_mono (fun v y e => ?_) hF)).symm
      rcases e with e | ⟨_, _, _, _, _, e⟩
      · exact e.symm
      · exact e.elim
    refine hQ D s' ys hD hpl ?_ x₁
    rw [e]
    exact paired_mono (fun v b (q : IntsAt s.heap v b) => q.keeps fun b o e => x₁.keep b o (k b o e)) (paired_filter2 hv fun v b q => by rw [q.ordV])
end
theorem orders_in : ∀ b ∈ allOrders, ∀ k ∈ b, (0 : Int) ≤ k ∧ k < 4 := by decide +kernel
theorem orders_size : allOrders.length = 24 := by decide +kernel
theorem orders_four : ∀ b ∈ allOrders, b.length = 4 := by decide +kernel
section
variable {w : World} {A : Around} {s : Shared} {L cd : Addr} {h₀ : Heap} {m cm mg mb : Str → Option Value}
theorem law4 {Do Df : Addr} {os fv : List Value} {fs : List (Int × Int)} {Q : Flow → Shared → Prop} (hA : A.handled = none) (hd : A.depth ≤ 400) (hu : A.units ≤ 8 * 400) (T : TopF mg mb s.heap) (F : LF h₀ L m cm s.heap)
    (hm : m (Str.ofString "orders") = some (.ref Do)) (hc : cm (Str.ofString "forms") = some (.ref Df)) (hO : s.heap.IsList Do os.toArray) (hP : Paired (IntsAt s.heap) os allOrders) (hF : s.heap.IsList Df fv.toArray) (hf : FormsAt s.heap fv fs) (hz : fs.length = 4)
    (h : ∀ D s' ys, LF h₀ L m (fun y => if y = Str.ofString "due" then some (.ref D) else cm y) s'.heap → KeepS s.heap s'.heap → GExt s s' → s'.heap.IsList D ys.toArray → Paired (IntsAt s'.heap) ys (allOrders.filter (closedOf fs)) → Q .next s') :
    wpAny (model P0 w) A (exec (lst 3) (lenv L cd)) Q (fun _ _ => False) s := by
  have hcell := F.cell (Str.ofString "forms") (L + 5) hc
  have hn := F.fr.ns
  refine wpAny_Assign_Name ?_
  refine comp_orders (closedOf fs) (cl := [(Str.ofString "forms", L + 5)]) hA rfl (by decide) rfl (by decide) rfl (by decide) ?_
  walk_at "go"
  refine Here.mk ⟨Do, os, allOrders, rfl, hO, hP, fun _ _ e => e, by decide +kernel, ?_, ?_⟩
  · intro C v b s₃ m₃ hb hvb hn₃ hm₃ hk hg
    have T₃ := T.keeps hk
    have hcell₃ := hcell.keeps hk
    have hF₃ := isList_keeps hF hk
    have hf₃ := hf.keeps hk
    obtain ⟨r, zs, rfl, hr, hzs⟩ := hvb
    clear hn T hcell
    refine wpAny_tests_one ?_
    walk_at "go"
    refine Here.mk (AL.of 500 hA (by omega) (by omega) (closed_spec T₃ hF₃ hf₃ hr hzs (fun k hk => ?_) (by omega) fun s' x => ?_))
    · have := orders_in b hb k hk; omega
    exact wpAny_truthy_bool (Here.mk ⟨rfl, x⟩)
  · intro D s' ys hD hp hF' x
    refine st_cellL (F.keeps x.keep) (c := L + 4) rfl fun h₅ F₅ k₅ => ?_
    exact h D _ ys F₅ ((KeepS.of x.keep).trans k₅) ⟨x.gens, x.bare, x.os⟩ (isList_s hp.isList k₅) (ordsAt_s hF' k₅)
end
end
section
open PySem PySem.W PyProof.Rows PySem.Calls PySem.Spec
set_option maxRecDepth 100000
set_option maxHeartbeats 4000000
theorem uits_len : ∀ (us : List U) (i : Nat), (uits i us).length ≤ 3 * us.length
  | [], _ => Nat.le_refl _
  | u :: us, i => by
    have ih := uits_len us (i + u.txt.length)
    have h1 : (u.its i).length ≤ 3 := by cases u <;> exact Nat.le_of_ble_eq_true rfl
    simp only [uits, List.length_append, List.length_cons]
    omega
theorem utxt_len : ∀ us : List U, (utxt us).length ≤ 3 * us.length
  | [] => Nat.le_refl _
  | u :: us => by
    have ih := utxt_len us
    have h1 : u.txt.length ≤ 3 := by cases u <;> exact Nat.le_of_ble_eq_true rfl
    have e : utxt (u :: us) = u.txt ++ utxt us := by simp [utxt]
    rw [e, List.length_append, List.length_cons]
    omega
theorem mkS_list (l : List Nat) : (mkS l).cps.toList = l := by simp [mkS]
theorem units_cat (pu : List (List U)) : ∀ ks : List Int, unitsOf (pu.map (·.map ustr)) ks = (cat pu ks).map ustr
  | [] => rfl
  | k :: ks => by
    have ih := units_cat pu ks
    unfold unitsOf cat at ih ⊢
    rw [List.flatMap_cons, List.flatMap_cons, List.map_append, ih]
    congr 1
    cases h : pu[k.toNat]? with
    | none => simp [h]
    | some us => simp [h]
theorem cat_len {pu : List (List U)} (h4 : ∀ us ∈ pu, us.length ≤ 4) : ∀ ks : List Int, (cat pu ks).length ≤ 4 * ks.length
  | [] => Nat.le_refl _
  | k :: ks => by
    have ih := cat_len h4 ks
    have h1 : ((pu[k.toNat]?).getD []).length ≤ 4 := by
      cases h : pu[k.toNat]? with
      | none => simp
      | some us => simpa using h4 us (List.mem_of_getElem? h)
    have e : cat pu (k :: ks) = (pu[k.toNat]?).getD [] ++ cat pu ks := by simp [cat]
    rw [e, List.length_append, List.length_cons]
    omega
section
variable {w : World} {A : Around} {E : Value → Shared → Prop} {s : Shared} {mg mb : Str → Option Value}
theorem text_u {p o : Addr} {vp vo : List Value} {pu : List (List U)} {ks : List Int} {Q : Value → Shared → Prop} (hA : A.handled = none) (hd : A.depth ≤ 400) (hu : A.units ≤ 8 * 400) (T : TopF mg mb s.heap)
    (hp : s.heap.IsList p vp.toArray) (hP : PiecesAt s.heap vp (pu.map (·.map ustr))) (ho : s.heap.IsList o vo.toArray) (hO : Paired IsIntV vo ks) (hk : ∀ k ∈ ks, 0 ≤ k ∧ k < 4) (hz : pu.length = 4) (hkl : ks.length = 4) (h4 : ∀ us ∈ pu, us.length ≤ 4)
    (hQ : ∀ s' t, Ext s s' → Q (.str (mkS (utxt (cat pu ks))) t) s') : wpAny (model P0 w) A (call (.ref 113) [.ref p, .ref o]) Q E s := by
  have h1 := cat_len h4 ks
  refine AL.of 500 hA (by omega) (by omega) (text_spec T hp hP ho hO (by simpa [hz] using hk) (by simp [hz]) (by omega) (fun us hus => ?_) ?_ fun s' t x => ?_)
  · obtain ⟨u, hu', rfl⟩ := List.mem_map.mp hus
    have := h4 u hu'
    rw [List.length_map]
    omega
  · rw [units_cat, List.map_map, List.length_map]
    have h2 : ∀ l : List U, (l.map ((fun x : Str => x.length) ∘ ustr)).sum ≤ 3 * l.length := fun l => by
      induction l with
      | nil => exact Nat.le_refl _
      | cons u l ih =>
        have h3 : (ustr u).length ≤ 3 := by cases u <;> exact Nat.le_of_ble_eq_true rfl
        rw [List.map_cons, List.sum_cons, List.length_cons]
        have e : ((fun x : Str => x.length) ∘ ustr) u = (ustr u).length := rfl
        rw [e]
        omega
    have h3 := h2 (cat pu ks)
    have e : (cat pu ks).map ((·.length) ∘ ustr) = (cat pu ks).map ((fun x : Str => x.length) ∘ ustr) := rfl
    rw [e]
    omega
  · rw [units_cat, join_units]
    exact hQ s' t x
theorem check_u {us : List U} {t : Tok} {Q : Value → Shared → Prop} (hA : A.handled = none) (hd : A.depth ≤ 400) (hu : A.units ≤ 8 * 400) (T : TopF mg mb s.heap) (hz : us.length ≤ 16)
    (hQ : ∀ s', Ext s s' → Q (.bool (scan 0 us)) s') : wpAny (model P0 w) A (call (.ref 35) [.str (mkS (utxt us)) t]) Q E s := by
  have all128 : ∀ z : Str, (∃ vs : List U, z.cps.toList = utxt vs) → z.cps.all (· < 128) = true := fun z ⟨vs, e⟩ => by
    rw [← Array.all_toList, e, List.all_eq_true]
    intro x hx
    simpa using ascii_utxt vs x hx
  have h1 := uits_len us 0
  have h2 := utxt_len us
  refine AL.of 450 hA (by omega) (by omega) (wpAny_mono (check_spec T (all128 _ ⟨us, mkS_list _⟩) (by rw [mkS_list]; exact end_utxt us) ?_ ?_ (all128 _ ⟨_, strip_units us⟩) (by rw [strip_units]; exact end_utxt _)) (fun v s' hv => ?_) fun _ _ e => e)
  · rw [mkS_list]
    have hi := its_utxt us 0 []
    simp only [List.append_nil, itsOf] at hi
    rw [hi]
    omega
  · show (mkS (utxt us)).cps.size ≤ 1000
    rw [← Array.length_toList, mkS_list]
    omega
  · obtain ⟨rfl, x⟩ := hv
    rw [check_units]
    exact hQ s' x
theorem ne_orders {a b : Addr} {xs ys : List Value} {os : List (List Int)} {Q : Value → Shared → Prop} (hl : s.heap.IsList a xs.toArray) (hb : s.heap.IsList b ys.toArray) (hx : Paired (IntsAt s.heap) xs os) (hy : Paired (IntsAt s.heap) ys os) (hu : A.units + 1 < cLine)
    (h : Q (.bool false) s) : wpAny (model P0 w) A (compareOp .NotEq (.ref a) (.ref b)) Q E s := by
  have hxl := hx.length
  have hyl := hy.length
  refine SeqAt.RcNeAt.lists (e := fun _ => true) hl hb (by simp [hxl, hyl]) (by omega) (fun j h1 h2 => ?_) P0 w E Q ?_
  · have h1' : j < xs.length := by simpa using h1
    have h2' : j < ys.length := by simpa using h2
    obtain ⟨p, hp, r⟩ := paired_get hx (List.getElem?_eq_getElem h1')
    obtain ⟨q, hq, r'⟩ := paired_get hy (List.getElem?_eq_getElem h2')
    rw [hp] at hq
    cases hq
    have := EqAt.ints (A := A.in1) r r' hu
    simpa using this
  · rw [show (List.range xs.toArray.size).all (fun _ => true) = true by simp]
    exact h
end
end
section
open PySem PySem.W PyProof.Rows PySem.Calls PySem.Spec
local macro_rules | `(tactic| walk_at "compareOp NotEq ref ref") => `(tactic| refine here_of ?_)
local macro_rules | `(tactic| walk_at "compareOp Eq ref ref") => `(tactic| refine here_of ?_)
local macro_rules | `(tactic| walk_at "compareOp In ref ref") => `(tactic| refine here_of ?_)
local macro_rules | `(tactic| walk_at "compareOp NotIn ref ref") => `(tactic| refine here_of ?_)
section
open PySem PySem.W PyProof.Rows PySem.Calls PySem.Spec
set_option maxRecDepth 100000
set_option maxHeartbeats 4000000
section
variable {w : World} {A : Around} {s : Shared} {L cd : Addr} {h₀ : Heap} {m cm mg mb : Str → Option Value}
theorem law5 {Do Dp Dd : Addr} {os vp yd : List Value} {pu : List (List U)} {Q : Flow → Shared → Prop} (hA : A.handled = none) (hd : A.depth ≤ 400) (hu : A.units ≤ 8 * 400) (T : TopF mg mb s.heap) (F : LF h₀ L m cm s.heap)
    (hm : m (Str.ofString "orders") = some (.ref Do)) (hcp : cm (Str.ofString "pieces") = some (.ref Dp)) (hcd : cm (Str.ofString "due") = some (.ref Dd))
    (hO : s.heap.IsList Do os.toArray) (hP : Paired (IntsAt s.heap) os allOrders) (hpl : s.heap.IsList Dp vp.toArray) (hpp : PiecesAt s.heap vp (pu.map (·.map ustr))) (hz : pu.length = 4) (h4 : ∀ us ∈ pu, us.length ≤ 4)
    (hdl : s.heap.IsList Dd yd.toArray) (hdd : Paired (IntsAt s.heap) yd (allOrders.filter (closedOf (pu.map formU))))
    (h : ∀ s', Ext s s' → Q .next s') :
    wpAny (model P0 w) A (exec (lst 4) (lenv L cd)) Q (fun _ _ => False) s := by
  have hcell := F.cell (Str.ofString "pieces") (L + 2) hcp
  have hcelld := F.cell (Str.ofString "due") (L + 4) hcd
  have hn := F.fr.ns
  show wpAny _ _ (exec (.If _ _ _ _) _) _ _ _
  walk_at "go"
  refine Here.mk ?_
  refine comp_orders (closedOf (pu.map formU)) (cl := [(Str.ofString "pieces", L + 2)]) hA rfl (by decide) rfl (by decide) rfl (by decide) ?_
  walk_at "go"
  refine Here.mk ⟨Do, os, allOrders, rfl, hO, hP, fun _ _ e => e, by decide +kernel, ?_, ?_⟩
  · intro C v b s₃ m₃ hb hvb hn₃ hm₃ hk hg
    have T₃ := T.keeps hk
    have hcell₃ := hcell.keeps hk
    have hpl₃ := isList_keeps hpl hk
    have hpp₃ := hpp.keeps hk
    obtain ⟨r, zs, rfl, hr, hzs⟩ := hvb
    clear hn T hcell hcelld
    refine wpAny_tests_one ?_
    walk_at "go"
    refine Here.mk (text_u hA hd hu T₃ hpl₃ hpp₃ hr hzs (orders_in b hb) hz (orders_four b hb) h4 fun s₄ t₄ x₄ => ?_)
    walk_at "go"
    · exact x₄.keep _ _ (by assumption)
    have hlen := cat_len h4 b
    have h44 := orders_four b hb
    refine Here.mk (check_u hA hd hu (T₃.keeps x₄.keep) (by omega) fun s₅ x₅ => wpAny_truthy_bool (Here.mk ⟨?_, x₄.trans x₅⟩))
    exact scan_closed pu b 0 (Int.le_refl _) fun k hk => by have := orders_in b hb k hk; omega
  · intro D s' ys hD hp hF' x
    have hcd' := hcelld.keeps x.keep
    clear hcell hcelld hn T
    walk1
    refine ne_orders hp.isList (isList_keeps hdl x.keep) hF' (paired_mono (fun _ _ (q : IntsAt s.heap _ _) => q.keeps x.keep) hdd) (by have : cLine = cLine := rfl; show A.units + 1 < _; exact Nat.lt_of_le_of_lt (show A.units + 1 ≤ 4000 by omega) (by decide)) ?_
    walk1
    walk1
    exact wpAny_execs_nil (h s' x)
end
end
section
open PySem PySem.W PyProof.Rows PySem.Calls PySem.Spec
set_option maxRecDepth 100000
set_option maxHeartbeats 4000000
theorem any_ints {h : Heap} {b : List Int} {yd : List Value} {os : List (List Int)} (x : Paired (IntsAt h) yd os) : yd.any (fun y => decide (ordV h y = b)) = decide (b ∈ os) := by
  induction x with
  | nil => rfl
  | @cons _ p _ _ e _ ih =>
    rw [List.any_cons, ih, e.ordV]
    by_cases q : p = b
    · simp [q]
    · have q' : ¬ b = p := fun e => q e.symm
      simp [q, q']
theorem pick_mem {α : Type} {l : List α} {lo hi st : Option Int} {b : α} (h : b ∈ pickL l lo hi st) : b ∈ l := by
  obtain ⟨j, _, e⟩ := List.mem_filterMap.mp h
  exact List.mem_of_getElem? e
theorem pick_size : (pickL allOrders (some 1) none (some 3)).length ≤ 100 := by decide +kernel
section
variable {w : World} {A : Around} {E : Value → Shared → Prop} {s : Shared}
theorem in_orders {Dd : Addr} {v : Value} {b : List Int} {yd : List Value} {os : List (List Int)} {Q : Value → Shared → Prop} (hdl : s.heap.IsList Dd yd.toArray) (hdd : Paired (IntsAt s.heap) yd os) (hv : IntsAt s.heap v b) (hu : A.units + 1 < cLine)
    (h : Q (.bool (decide (b ∈ os))) s) : wpAny (model P0 w) A (compareOp .In v (.ref Dd)) Q E s := by
  refine SeqAt.in_listAt (fun y => decide (ordV s.heap y = b)) hdl (fun y hy => ?_) ?_
  · obtain ⟨j, hj⟩ := List.getElem?_of_mem (show y ∈ yd by simpa using hy)
    obtain ⟨p, hp, r⟩ := paired_get hdd hj
    rw [r.ordV]
    exact EqAt.ints r hv hu
  · rw [List.any_toArray, any_ints hdd]
    exact h
theorem notIn_orders {Dd : Addr} {v : Value} {b : List Int} {yd : List Value} {os : List (List Int)} {Q : Value → Shared → Prop} (hdl : s.heap.IsList Dd yd.toArray) (hdd : Paired (IntsAt s.heap) yd os) (hv : IntsAt s.heap v b) (hu : A.units + 1 < cLine)
    (h : Q (.bool (!decide (b ∈ os))) s) : wpAny (model P0 w) A (compareOp .NotIn v (.ref Dd)) Q E s := by
  refine SeqAt.notIn_listAt (fun y => decide (ordV s.heap y = b)) hdl (fun y hy => ?_) ?_
  · obtain ⟨j, hj⟩ := List.getElem?_of_mem (show y ∈ yd by simpa using hy)
    obtain ⟨p, hp, r⟩ := paired_get hdd hj
    rw [r.ordV]
    exact EqAt.ints r hv hu
  · rw [List.any_toArray, any_ints hdd]
    exact h
end
theorem turn_pieces (pu : List (List U)) : ((pu.map (·.map ustr)).map fun us => us.reverse.map turnU) = (pu.map fun us => us.reverse.map U.flip).map (·.map ustr) := by
  rw [List.map_map, List.map_map]
  refine List.map_congr_left fun us _ => ?_
  simp only [Function.comp, List.map_reverse, List.map_map]
  congr 1
  exact List.map_congr_left fun u _ => turn_ustr u
theorem four_room {A : Around} (hu : A.units ≤ 8 * 400) : A.units + 1 < cLine := Nat.lt_of_le_of_lt (show A.units + 1 ≤ 4000 by omega) (by decide)
theorem mem_due {fs : List (Int × Int)} {b : List Int} (hb : b ∈ allOrders) : decide (b ∈ allOrders.filter (closedOf fs)) = closedOf fs b := by
  rw [Bool.eq_iff_iff]
  simp [List.mem_filter, hb]
section
variable {w : World} {A : Around} {s : Shared} {L cd : Addr} {h₀ : Heap} {m cm mg mb : Str → Option Value}
theorem law6 {Do Dt Dd : Addr} {os vt yd : List Value} {pu : List (List U)} {Q : Flow → Shared → Prop} (hA : A.handled = none) (hd : A.depth ≤ 400) (hu : A.units ≤ 8 * 400) (T : TopF mg mb s.heap) (F : LF h₀ L m cm s.heap)
    (hm : m (Str.ofString "orders") = some (.ref Do)) (hct : cm (Str.ofString "turned") = some (.ref Dt)) (hcd : cm (Str.ofString "due") = some (.ref Dd))
    (hO : s.heap.IsList Do os.toArray) (hP : Paired (IntsAt s.heap) os allOrders) (htl : s.heap.IsList Dt vt.toArray) (htt : PiecesAt s.heap vt ((pu.map (·.map ustr)).map fun us => us.reverse.map turnU)) (hz : pu.length = 4) (h4 : ∀ us ∈ pu, us.length ≤ 4)
    (hdl : s.heap.IsList Dd yd.toArray) (hdd : Paired (IntsAt s.heap) yd (allOrders.filter (closedOf (pu.map formU))))
    (h : ∀ s', Ext s s' → Q .next s') :
    wpAny (model P0 w) A (exec (lst 5) (lenv L cd)) Q (fun _ _ => False) s := by
  have hcell := F.cell (Str.ofString "turned") (L + 3) hct
  have hcelld := F.cell (Str.ofString "due") (L + 4) hcd
  have hn := F.fr.ns
  have hosz : os.toArray.size ≤ sizeLine := by rw [List.size_toArray, hP.length, orders_size, sizeLine_eq]; omega
  rw [turn_pieces] at htt
  have hpt : ∀ us ∈ pu.map (fun us : List U => us.reverse.map U.flip), us.length ≤ 4 := fun us hus => by
    obtain ⟨u, hu', rfl⟩ := List.mem_map.mp hus
    have := h4 u hu'
    rw [List.length_map, List.length_reverse]
    exact this
  show wpAny _ _ (exec (.If _ _ _ _) _) _ _ _
  walk_at "go"
  refine Here.mk ?_
  refine comp_orders (closedOf (pu.map formU)) (cl := [(Str.ofString "turned", L + 3)]) hA rfl (by decide) rfl (by decide) rfl (by decide) ?_
  walk_at "go"
  refine Here.mk ⟨Do, os.toArray, some 1, none, 3, rfl, hO, hosz, .int _ _, .none, .int _ _, by decide, fun h₁ r₁ k₁ f₁ p₁ => ?_⟩
  have hpk := paired_pick hP (some 1) none (some 3)
  have hl₁ : h₁.IsList r₁ (slicePick os.toArray (some 1) none (some 3)).toList.toArray := by rw [Array.toArray_toList]; exact p₁.isList
  refine Here.mk ⟨r₁, _, pickL allOrders (some 1) none (some 3), rfl, hl₁, hpk, k₁, pick_size, ?_, ?_⟩
  · intro C v b s₃ m₃ hb' hvb hn₃ hm₃ hk' hg
    have hb := pick_mem hb'
    have hk : ∀ b o, s.heap.get? b = some o → s₃.heap.get? b = some o := fun b o e => hk' b o (k₁ b o e)
    have T₃ := T.keeps hk
    have hcell₃ := hcell.keeps hk
    have htl₃ := isList_keeps htl hk
    have htt₃ := htt.keeps hk
    obtain ⟨r, zs, rfl, hr, hzs⟩ := hvb
    clear hn T hcell hcelld hl₁ p₁ k₁ hk' hO hdl hosz
    have hzz : zs.length = 4 := by rw [hzs.length]; exact orders_four b hb
    refine wpAny_tests_one ?_
    walk_at "go"
    refine Here.mk ⟨r, zs.toArray, none, none, -1, rfl, hr, by rw [List.size_toArray, hzz, sizeLine_eq]; decide, .none, .none, .int _ _, by decide, fun h₄ r₄ k₄ f₄ p₄ => ?_⟩
    rw [slice_rev] at p₄
    have k₃₄ : ∀ b o, s₃.heap.get? b = some o → h₄.get? b = some o := k₄
    clear k₄ f₄
    walk_at "go"
    · exact k₃₄ _ _ (by assumption)
    refine Here.mk (text_u hA hd hu (T₃.keeps k₃₄) (isList_keeps htl₃ k₃₄) (htt₃.keeps k₃₄) p₄.isList (paired_reverse hzs) (fun k hk => orders_in b hb k (List.mem_reverse.mp hk)) (by rw [List.length_map]; exact hz) (by rw [List.length_reverse]; exact orders_four b hb) hpt fun s₄ t₄ x₄ => ?_)
    walk_at "go"
    · exact x₄.keep _ _ (k₃₄ _ _ (by assumption))
    have hlen := cat_len hpt b.reverse
    rw [List.length_reverse, orders_four b hb] at hlen
    refine Here.mk (check_u hA hd hu (T₃.keeps fun b o e => x₄.keep _ _ (k₃₄ _ _ e)) hlen fun s₅ x₅ => wpAny_truthy_bool (Here.mk ⟨?_, ⟨fun b o e => x₅.keep _ _ (x₄.keep _ _ (k₃₄ _ _ e)), (x₄.trans x₅).gens, (x₄.trans x₅).bare, (x₄.trans x₅).os⟩⟩))
    rw [cat_turn, scan_turn]
    exact scan_closed pu b 0 (Int.le_refl _) fun k hk => by have := orders_in b hb k hk; omega
  · intro D s' ys hD hp hF' x
    have xs : Ext s s' := ⟨fun b o e => x.keep _ _ (k₁ _ _ e), x.gens, x.bare, x.os⟩
    have hn' := hn.keeps xs.keep
    have hcelld' := hcelld.keeps xs.keep
    have hO' := isList_keeps hO xs.keep
    have hP' : Paired (IntsAt s'.heap) os allOrders := paired_mono (fun _ _ (q : IntsAt s.heap _ _) => q.keeps xs.keep) hP
    have hdl' := isList_keeps hdl xs.keep
    have hdd' : Paired (IntsAt s'.heap) yd (allOrders.filter (closedOf (pu.map formU))) := paired_mono (fun _ _ (q : IntsAt s.heap _ _) => q.keeps xs.keep) hdd
    clear x hl₁ hpk p₁ f₁ k₁ hn hcell hcelld hO hP hdl hdd htl htt T hD
    refine comp_orders (closedOf (pu.map formU)) (cl := [(Str.ofString "due", L + 4)]) hA rfl (by decide) rfl (by decide) rfl (by decide) ?_
    walk_at "go"
    refine Here.mk ⟨Do, os.toArray, some 1, none, 3, rfl, hO', hosz, .int _ _, .none, .int _ _, by decide, fun h₁ r₁ k₁ f₁ p₁ => ?_⟩
    have hpk := paired_pick hP' (some 1) none (some 3)
    have hl₁ : h₁.IsList r₁ (slicePick os.toArray (some 1) none (some 3)).toList.toArray := by rw [Array.toArray_toList]; exact p₁.isList
    refine Here.mk ⟨r₁, _, pickL allOrders (some 1) none (some 3), rfl, hl₁, hpk, k₁, pick_size, ?_, ?_⟩
    · intro C v b s₃ m₃ hb' hvb hn₃ hm₃ hk' hg
      have hb := pick_mem hb'
      have hk : ∀ b o, s'.heap.get? b = some o → s₃.heap.get? b = some o := fun b o e => hk' b o (k₁ b o e)
      have hcell₃ := hcelld'.keeps hk
      have hdl₃ := isList_keeps hdl' hk
      have hdd₃ : Paired (IntsAt s₃.heap) yd (allOrders.filter (closedOf (pu.map formU))) := paired_mono (fun _ _ (q : IntsAt s'.heap _ _) => q.keeps hk) hdd'
      have hvb' := hvb
      obtain ⟨r, zs, rfl, hr, hzs⟩ := hvb
      clear hn' hcelld' hl₁ p₁ k₁ hk' hO' hdl' hosz f₁
      refine wpAny_tests_one ?_
      walk_at "go"
      refine Here.mk (in_orders hdl₃ hdd₃ hvb' (four_room hu) ?_)
      rw [mem_due hb]
      exact wpAny_truthy_bool (Here.mk ⟨rfl, Ext.refl _⟩)
    · intro D₂ s₂ ys₂ hD₂ hp₂ hF₂ x₂
      have x₂' : Ext s' s₂ := ⟨fun b o e => x₂.keep _ _ (k₁ _ _ e), x₂.gens, x₂.bare, x₂.os⟩
      refine ne_orders (isList_keeps hp.isList x₂'.keep) hp₂.isList (paired_mono (fun _ _ (q : IntsAt s'.heap _ _) => q.keeps x₂'.keep) hF') hF₂ (four_room hu) ?_
      walk1
      walk1
      exact wpAny_execs_nil (h s₂ (xs.trans x₂'))
end
end
section
open PySem PySem.W PyProof.Rows PySem.Calls PySem.Spec
set_option maxRecDepth 100000
set_option maxHeartbeats 4000000
local macro_rules | `(tactic| walk_at "subscriptTail") => `(tactic| refine item_at (by assumption) (by assumption) (by assumption) (by assumption) ?_)
theorem eq_zero {w : World} {A : Around} {E : Value → Shared → Prop} {s : Shared} {t u : Addr} {p : Int × Int} {ta tb tc td : Tok} {Q : Value → Shared → Prop} (ht : IsTup s.heap t #[.int p.1 ta, .int p.2 tb]) (hv : IsTup s.heap u #[.int 0 tc, .int 0 td]) (hu : A.units + 1 < cLine)
    (h : Q (.bool (decide (p = (0, 0)))) s) : wpAny (model P0 w) A (compareOp .Eq (.ref t) (.ref u)) Q E s := by
  refine SeqAt.eq_tupleAt (e := fun j => decide ([p.1, p.2].getD j 0 = 0)) ht hv (by omega) (fun j h1 h2 => ?_) ?_
  · match j, h1 with
    | 0, _ => exact SeqAt.EqAt.int_int p.1 ta 0 tc
    | 1, _ => exact SeqAt.EqAt.int_int p.2 tb 0 td
    | j + 2, h1 => exact absurd h1 (by simp)
  · obtain ⟨a, b⟩ := p
    have e : ((List.range (min (#[Value.int a ta, Value.int b tb] : Array Value).size (#[Value.int 0 tc, Value.int 0 td] : Array Value).size)).all (fun j => decide ([a, b].getD j 0 = 0)) && (#[Value.int a ta, Value.int b tb] : Array Value).size == (#[Value.int 0 tc, Value.int 0 td] : Array Value).size) = decide ((a, b) = ((0 : Int), (0 : Int))) := by
      rw [Bool.eq_iff_iff]
      simp [List.range_succ, Prod.ext_iff]
    rw [e]
    exact h
section
variable {w : World} {A : Around} {s : Shared} {L cd : Addr} {h₀ : Heap} {m cm mg mb : Str → Option Value}
theorem law7 {Do Df Dd : Addr} {os fv yd : List Value} {fs : List (Int × Int)} {Q : Flow → Shared → Prop} (hA : A.handled = none) (hd : A.depth ≤ 400) (hu : A.units ≤ 8 * 400) (T : TopF mg mb s.heap) (Rd : RedF mg s.heap) (F : LF h₀ L m cm s.heap)
    (hm : m (Str.ofString "orders") = some (.ref Do)) (hcf : cm (Str.ofString "forms") = some (.ref Df)) (hcd : cm (Str.ofString "due") = some (.ref Dd))
    (hO : s.heap.IsList Do os.toArray) (hP : Paired (IntsAt s.heap) os allOrders) (hfl : s.heap.IsList Df fv.toArray) (hff : FormsAt s.heap fv fs) (hz : fs.length = 4)
    (hdl : s.heap.IsList Dd yd.toArray) (hdd : Paired (IntsAt s.heap) yd (allOrders.filter (closedOf fs)))
    (hmelt : ∀ b ∈ allOrders, ∃ f gs, (b.map fun k => fs.getD k.toNat (0, 0)) = f :: gs ∧ decide (gs.foldl meltOf f = (0, 0)) = closedOf fs b)
    (h : ∀ s', Ext s s' → Q .next s') :
    wpAny (model P0 w) A (exec (lst 6) (lenv L cd)) Q (fun _ _ => False) s := by
  have hcell := F.cell (Str.ofString "forms") (L + 5) hcf
  have hcelld := F.cell (Str.ofString "due") (L + 4) hcd
  have hn := F.fr.ns
  show wpAny _ _ (exec (.If _ _ _ _) _) _ _ _
  walk_at "go"
  refine Here.mk ?_
  refine comp_orders (closedOf fs) (cl := [(Str.ofString "forms", L + 5)]) hA rfl (by decide) rfl (by decide) rfl (by decide) ?_
  walk_at "go"
  refine Here.mk ⟨Do, os, allOrders, rfl, hO, hP, fun _ _ e => e, by decide +kernel, ?_, ?_⟩
  · intro C v b s₃ m₃ hb hvb hn₃ hm₃ hk hg
    have T₃ := T.keeps hk
    have Rd₃ := Rd.keeps hk
    have hcell₃ := hcell.keeps hk
    have hfl₃ := isList_keeps hfl hk
    have hff₃ := hff.keeps hk
    obtain ⟨r, zs, rfl, hr, hzs⟩ := hvb
    clear hn T hcell hcelld
    refine wpAny_tests_one ?_
    walk1
    walk1
    walk1
    obtain ⟨ored, pmr, cr, docr, hr1, hr2, hr3⟩ := Rd₃.fn
    refine call_any hr1 hr2 ?_
    walk_at "go"
    refine Here.mk ?_
    refine comp_list (fun _ => true) (fun v y => ∃ k : Int, IsIntV v k ∧ fv[k.toNat]? = some y) (fun _ _ => False) (cl := [(Str.ofString "forms", L + 5)]) hA rfl (by decide) rfl (by decide) rfl ?_
    walk_at "go"
    refine Here.mk ⟨r, zs, rfl, hr, by rw [hzs.length, orders_four b hb, sizeLine_eq]; decide, ⟨?_, ?_⟩, ?_⟩
    · intro C₂ i v s₄ m₄ hC hv hn₄ hm₄ hk₄ hg₄
      exact wpAny_tests_nil (Here.mk ⟨rfl, Ext.refl _⟩)
    · intro C₂ i v s₄ m₄ hC hv _ hn₄ hm₄ hk₄ hg₄
      obtain ⟨k, hk', tk, rfl⟩ := paired_get hzs hv
      have hb4 := orders_in b hb k (List.mem_of_getElem? hk')
      have k0 := hb4.1
      have kl' : k < 2 ^ 63 := by omega
      obtain ⟨y, hy⟩ : ∃ y, fv[k.toNat]? = some y := ⟨_, List.getElem?_eq_getElem (by have := hff.length; omega)⟩
      have hcell₄ := hcell₃.keeps hk₄
      have hfl₄ := isList_keeps hfl₃ hk₄
      clear T₃ Rd₃ hcell₃ hfl₃ hn₃
      walk_at "go"
      exact Here.mk ⟨.inl ⟨k, ⟨tk, rfl⟩, hy⟩, Ext.refl _⟩
    · intro D s₄ ys hD hpl hF x₄
      walk_at "go"
      · exact x₄.keep _ _ (by assumption)
      obtain ⟨f, gs, hfg, hmel⟩ := hmelt b hb
      have hforms : FormsAt s₄.heap ys (b.map fun k => fs.getD k.toNat (0, 0)) := by
        rw [List.filter_eq_self.mpr (by simp)] at hF
        refine paired_through hzs hF fun v k y hv hy => ?_
        rcases hy with ⟨k', ⟨t', e⟩, hy⟩ | ⟨_, _, _, _, _, hf⟩
        · obtain ⟨tk, rfl⟩ := hv
          cases e
          obtain ⟨p, hp, q⟩ := paired_get (hff₃.keeps x₄.keep) hy
          have e : fs.getD k.toNat (0, 0) = p := by simp [List.getD_eq_getElem?_getD, hp]
          rw [e]
          exact q
        · exact hf.elim
      rw [hfg] at hforms
      refine Here.mk (AL.of 450 hA (by omega) (by omega) (reduce_spec (T₃.keeps x₄.keep) (Rd₃.keeps x₄.keep) hpl.isList hforms fun t s₅ t1 t2 x₅ ht => ?_))
      clear hF hforms T₃ Rd₃ hcell₃ hfl₃ hn₃
      walk_at "go"
      refine Here.mk (wpAny_newTuple ?_)
      refine Here.mk ?_
      have ht' : IsTup (s₅.heap.push { cls := .type "tuple", data := .seq #[Value.int 0 s₅.toks, Value.int 0 (s₅.toks + 1)] }) t #[.int (gs.foldl meltOf f).1 t1, .int (gs.foldl meltOf f).2 t2] := ht.keeps fun b o e => Heap.get?_push_of_some _ e
      refine eq_zero ht' ⟨_, Heap.get?_push_size _ rfl, rfl, 0, rfl⟩ (four_room hu) ?_
      rw [hmel]
      exact wpAny_truthy_bool (Here.mk ⟨rfl, ⟨fun b o e => Heap.get?_push_of_some _ (x₅.keep _ _ (x₄.keep _ _ e)), (x₄.trans x₅).gens, (x₄.trans x₅).bare, (x₄.trans x₅).os⟩⟩)
  · intro D s' ys hD hp hF' x
    have hcd' := hcelld.keeps x.keep
    clear hcell hcelld hn T
    walk1
    refine ne_orders hp.isList (isList_keeps hdl x.keep) hF' (paired_mono (fun _ _ (q : IntsAt s.heap _ _) => q.keeps x.keep) hdd) (four_room hu) ?_
    walk1
    walk1
    exact wpAny_execs_nil (h s' x)
end
end
section
open PySem PySem.W PyProof.Rows PySem.Calls PySem.Spec
local macro_rules | `(tactic| walk_at "call type:list") => `(tactic| refine here_of ?_)
section
open PySem PySem.W PyProof.Rows PySem.Calls PySem.Spec
set_option maxRecDepth 100000
set_option maxHeartbeats 4000000
local macro_rules | `(tactic| walk_at "own pad") => `(tactic| skip)
theorem KeepS.hide {h : Heap} {L : Addr} {m : Str → Option Value} (hn : h.Ns L m) : KeepS h (hide h L) := KeepS.ns hn fun b o q e => (hide_other q).trans e
theorem orders_nodup : allOrders.Nodup := by decide +kernel
section
variable {w : World} {A : Around} {E : Value → Shared → Prop} {s : Shared}
theorem eq_ordersAt {a b : Addr} {xs ys : List Value} {os : List (List Int)} (hl : s.heap.IsList a xs.toArray) (hb : s.heap.IsList b ys.toArray) (hx : Paired (IntsAt s.heap) xs os) (hy : Paired (IntsAt s.heap) ys os) (hu : A.units + 1 < cLine) : SeqAt.EqAt A s (.ref a) (.ref b) true := by
  by_cases e : a = b
  · subst e
    exact SeqAt.EqAt.same _
  · have hxl := hx.length
    have hyl := hy.length
    have := SeqAt.RcAt.lists (A := A) (e := fun _ => true) hl hb (by simp [hxl, hyl]) (by omega) (fun j h1 h2 => by
      have h1' : j < xs.length := by simpa using h1
      have h2' : j < ys.length := by simpa using h2
      obtain ⟨p, hp, r⟩ := paired_get hx (List.getElem?_eq_getElem h1')
      obtain ⟨q, hq, r'⟩ := paired_get hy (List.getElem?_eq_getElem h2')
      rw [hp] at hq
      cases hq
      have := EqAt.ints (A := A.in1) r r' hu
      simpa using this)
    rw [show (List.range xs.toArray.size).all (fun _ => true) = true by simp] at this
    exact SeqAt.EqAt.of_refs e this
theorem ne_pairs {t u a b c d : Addr} {xs ys zs ws : List Value} {os ps : List (List Int)} {Q : Value → Shared → Prop} (ht : IsTup s.heap t #[.ref a, .ref b]) (hv : IsTup s.heap u #[.ref c, .ref d])
    (ha : s.heap.IsList a xs.toArray) (hb : s.heap.IsList b ys.toArray) (hc : s.heap.IsList c zs.toArray) (hd : s.heap.IsList d ws.toArray) (pa : Paired (IntsAt s.heap) xs os) (pb : Paired (IntsAt s.heap) ys ps) (pc : Paired (IntsAt s.heap) zs os) (pd : Paired (IntsAt s.heap) ws ps) (hu : A.units + 2 < cLine)
    (h : Q (.bool false) s) : wpAny (model P0 w) A (compareOp .NotEq (.ref t) (.ref u)) Q E s := by
  refine SeqAt.RcNeAt.tuples (e := fun _ => true) ht hv (by omega) (fun j h1 h2 => ?_) P0 w E Q ?_
  · match j, h1, h2 with
    | 0, _, _ => exact eq_ordersAt ha hc pa pc hu
    | 1, _, _ => exact eq_ordersAt hb hd pb pd hu
    | j + 2, h1, _ => exact absurd h1 (by simp)
  · exact h
end
section
variable {w : World} {A : Around} {s : Shared} {L cd : Addr} {h₀ : Heap} {m cm mg mb : Str → Option Value}
theorem law8 {Do Dd : Addr} {os yd : List Value} {fs : List (Int × Int)} {Q : Flow → Shared → Prop} (hA : A.handled = none) (hd : A.depth ≤ 400) (hu : A.units ≤ 8 * 400) (hfr : A.frames = some [lenv L cd]) (T₀ : TopF mg mb h₀) (F : LF h₀ L m cm s.heap)
    (hm : m (Str.ofString "orders") = some (.ref Do)) (hcd : cm (Str.ofString "due") = some (.ref Dd))
    (hO : s.heap.IsList Do os.toArray) (hP : Paired (IntsAt s.heap) os allOrders)
    (hdl : s.heap.IsList Dd yd.toArray) (hdd : Paired (IntsAt s.heap) yd (allOrders.filter (closedOf fs)))
    (h : ∀ s', LF h₀ L m cm s'.heap → KeepS s.heap s'.heap → GExt s s' → Q .next s') :
    wpAny (model P0 w) A (exec (lst 7) (lenv L cd)) Q (fun _ _ => False) s := by
  have hcelld := F.cell (Str.ofString "due") (L + 4) hcd
  have hn := F.fr.ns
  have T := T₀.keeps F.fr.keep
  have ho24 : os.length ≤ 100 := by rw [hP.length, orders_size]; omega
  have hy24 : yd.length ≤ 100 := by rw [hdd.length]; exact Nat.le_trans (List.length_filter_le _ _) (by rw [orders_size]; omega)
  show wpAny _ _ (exec (.If _ _ _ _) _) _ _ _
  walk_at "go"
  obtain ⟨oo, ho1, ho2, no, ho3⟩ := id hO
  refine Here.mk (call_list_seq Do (.inl rfl) ho1 ho2 ho3 (fun h₁ c₁ k₁ p₁ => ?_) (by rw [List.size_toArray, sizeLine_eq]; omega))
  have hcelld₁ := hcelld.keeps k₁
  have hdl₁ := isList_keeps hdl k₁
  have T₁ := T.keeps k₁
  have hn₁ := hn.keeps k₁
  clear T
  walk_at "go"
  obtain ⟨od, hd1, hd2, nd, hd3⟩ := id hdl₁
  refine Here.mk (call_list_seq Dd (.inl rfl) hd1 hd2 hd3 (fun h₂ c₂ k₂ p₂ => ?_) (by rw [List.size_toArray, sizeLine_eq]; omega))
  walk_at "go"
  · exact k₂ _ _ (k₁ _ _ (by assumption))
  have k₀₂ : ∀ b o, s.heap.get? b = some o → h₂.get? b = some o := fun b o e => k₂ _ _ (k₁ _ _ e)
  obtain ⟨oL, esL, epL, hoL, hdL, _⟩ := id hn
  have hLne : L ≠ s.heap.objs.size := Nat.ne_of_lt (Heap.lt_size hoL)
  have h12 : s.heap.objs.size < h₁.objs.size := Heap.lt_size p₁
  have hLne2 : L ≠ h₁.objs.size := Nat.ne_of_lt (Nat.lt_trans (Heap.lt_size hoL) h12)
  have kH : ∀ b o, (hide s.heap L).get? b = some o → s.heap.get? b = some o := fun b o e => by
    by_cases q : b = L
    · rw [q, hide_self] at e; cases e
    · rwa [hide_other q] at e
  have kB : ∀ b o, h₀.get? b = some o → (hide s.heap L).get? b = some o := fun b o e => by
    rw [hide_other (Nat.ne_of_lt (Nat.lt_of_lt_of_le (Heap.lt_size e) F.fr.above))]
    exact F.fr.keep b o e
  have none1 : ∀ a, s.heap.get? a = none → (hide s.heap L).get? a = none := fun a e => fresh_of kH e
  have hf2 : s.heap.get? h₁.objs.size = none := fresh_of k₁ (get_size_none _)
  refine Here.mk (diff_spec (oLL := oL) (n₁ := c₁) (n₂ := c₂) hA (by omega) (by omega) hfr rfl (fun q => by cases q) (k₀₂ _ _ hoL) (fun vs q => by rw [hdL] at q; cases q) hide_self hLne hLne2 (T₀.keeps kB) (fun b o e => k₀₂ _ _ (kH b o e)) ?_ (none1 _ (get_size_none _)) (none1 _ hf2) (Nat.ne_of_lt h12) (k₂ _ _ p₁) p₂ (ordsAt_s hP (KeepS.hide hn)) (ordsAt_s hdd (KeepS.hide hn)) ho24 hy24
    fun r M s₃ e₁ e₂ xs ys oL' k₃ g₃ hL₃ hdL₃ hr₃ hM₃ hq₃ hxs hys => ?_)
  · show (hide s.heap L).objs.size ≤ h₂.objs.size
    unfold hide
    rw [Heap.size_update]
    have h3 : h₁.objs.size < h₂.objs.size := Heap.lt_size p₂
    exact Nat.le_of_lt (Nat.lt_trans h12 h3)
  have F₃ : LF h₀ L m cm s₃.heap := ⟨⟨by obtain ⟨o', es', ep', e1, e2, e3⟩ := hn; rw [hoL] at e1; cases e1; exact ⟨oL', es', ep', hL₃, hdL₃.trans e2, e3⟩, fun b o e => k₃ b o (kB b o e), F.fr.above⟩,
    ⟨fun n c e => by obtain ⟨o, e1, e2⟩ := F.cl.cell n c e; exact ⟨o, k₃ c o ((hide_other (Nat.ne_of_gt (F.cl.above n c (mem_of_lookup e)))).trans e1), e2⟩, F.cl.apart, F.cl.above⟩⟩
  have ks₃ : KeepS s.heap s₃.heap := (KeepS.hide hn).trans (KeepS.of k₃)
  have gs₃ : GExt s s₃ := ⟨g₃.gens, g₃.bare, g₃.os⟩
  have hcd₃ := F₃.cell (Str.ofString "due") (L + 4) hcd
  have hO₃ := isList_s hO ks₃
  have hP₃ := ordsAt_s hP ks₃
  have hdl₃ := isList_s hdl ks₃
  have hdd₃ := ordsAt_s hdd ks₃
  have hns₃ := F₃.fr.ns
  have hM : s₃.heap.IsList M xs.toArray := ⟨_, hM₃, rfl, e₁, rfl⟩
  have hq : s₃.heap.IsList h₁.objs.size ys.toArray := ⟨_, hq₃, rfl, e₂, rfl⟩
  rw [diff_filter (closedOf fs) allOrders orders_nodup] at hxs hys
  have hxs₃ := paired_mono (fun _ _ (q : IntsAt (hide s.heap L) _ _) => q.keeps k₃) hxs
  have hys₃ := paired_mono (fun _ _ (q : IntsAt (hide s.heap L) _ _) => q.keeps k₃) hys
  generalize h₁.objs.size = q₁ at *
  clear hxs hys hM₃ hq₃ hL₃ hdL₃ k₃ g₃ kB kH none1 k₀₂ hLne hLne2 h12 hf2 hoL hdL p₁ p₂ k₂ hd1 hd2 hd3 hcelld₁ hdl₁ T₁ hn₁ ho1 ho2 ho3 k₁ hcelld hn hO hP hdl hdd
  walk_at "go"
  refine Here.mk ?_
  refine comp_orders (fun b => !closedOf fs b) (cl := [(Str.ofString "due", L + 4)]) hA rfl (by decide) rfl (by decide) rfl (by decide) ?_
  walk_at "go"
  refine Here.mk ⟨Do, os, allOrders, rfl, hO₃, hP₃, fun _ _ e => e, by decide +kernel, ?_, ?_⟩
  · intro C v b s₄ m₄ hb hvb hn₄ hm₄ hk hg
    have hcell₄ := hcd₃.keeps hk
    have hdl₄ := isList_keeps hdl₃ hk
    have hdd₄ : Paired (IntsAt s₄.heap) yd (allOrders.filter (closedOf fs)) := paired_mono (fun _ _ (q : IntsAt s₃.heap _ _) => q.keeps hk) hdd₃
    have hvb' := hvb
    obtain ⟨r', zs, rfl, hr', hzs⟩ := hvb
    clear hcd₃ hns₃
    refine wpAny_tests_one ?_
    walk_at "go"
    refine Here.mk (notIn_orders hdl₄ hdd₄ hvb' (four_room hu) ?_)
    rw [mem_due hb]
    exact wpAny_truthy_bool (Here.mk ⟨rfl, Ext.refl _⟩)
  · intro D s₅ zs hD hp₅ hF₅ x₅
    have hns₅ := hns₃.keeps x₅.keep
    clear hns₃ hcd₃
    walk_at "go"
    have hzl := hF₅.length
    have hz100 : zs.length ≤ 100 := by rw [hzl]; exact Nat.le_trans (List.length_filter_le _ _) (by rw [orders_size]; omega)
    refine cut_tail (lo := none) (hi := none) (st := some (-1)) (isList_keeps hp₅.isList fun b o e => Heap.get?_push_of_some _ e) (Heap.IsSliceOf.new _ _ _ _) (by rw [List.size_toArray, sizeLine_eq]; omega) .none .none (.int _ _) (by decide) fun h₇ r₇ k₇ f₇ p₇ => ?_
    have k₅₇ : ∀ b o, s₅.heap.get? b = some o → h₇.get? b = some o := fun b o e => k₇ _ _ (Heap.get?_push_of_some _ e)
    rw [slice_rev] at p₇
    clear k₇ f₇
    dsimp only
    walk_at "go"
    rename_i h₈ r₈ k₈ f₈ l₈
    refine Here.mk (wpAny_newTuple ?_)
    have kk : ∀ o' b o, s₅.heap.get? b = some o → (h₈.push o').get? b = some o := fun o' b o e => Heap.get?_push_of_some _ (k₈ _ _ (k₅₇ _ _ e))
    have kk₃ : ∀ o' b o, s₃.heap.get? b = some o → (h₈.push o').get? b = some o := fun o' b o e => kk o' _ _ (x₅.keep _ _ e)
    refine Here.mk (ne_pairs (zs := zs.reverse) (ws := []) (hr₃.keeps (kk₃ _)) ⟨_, Heap.get?_push_size _ rfl, rfl, 0, rfl⟩ (isList_keeps hM (kk₃ _)) (isList_keeps hq (kk₃ _)) (isList_keeps p₇.isList fun b o e => Heap.get?_push_of_some _ (k₈ _ _ e)) (isList_keeps l₈ fun b o e => Heap.get?_push_of_some _ e)
      (paired_mono (fun _ _ (q : IntsAt s₃.heap _ _) => q.keeps (kk₃ _)) hxs₃) (paired_mono (fun _ _ (q : IntsAt s₃.heap _ _) => q.keeps (kk₃ _)) hys₃)
      (paired_reverse (paired_mono (fun _ _ (q : IntsAt s₅.heap _ _) => q.keeps (kk _)) hF₅)) .nil (Nat.lt_of_le_of_lt (show A.units + 2 ≤ 4000 by omega) (by decide)) ?_)
    walk1
    walk1
    refine wpAny_execs_nil (h _ (F₃.keeps (kk₃ _)) (ks₃.trans (KeepS.of (kk₃ _))) ⟨fun i x e => x₅.gens _ _ (gs₃.gens _ _ e), fun q => x₅.bare (gs₃.bare q), x₅.os.trans gs₃.os⟩)
end
end
section
open PySem PySem.W PyProof.Rows PySem.Calls PySem.Spec
set_option maxRecDepth 100000
set_option maxHeartbeats 4000000
def lamA : Arguments := match lst 8 with | .Assign _ (.Call _ [.Lambda a _ _ _] _ _) _ => a | _ => default
def lamB : Expr := match lst 8 with | .Assign _ (.Call _ [.Lambda _ b _ _] _ _) _ => b | _ => default
def lamS : Scope := match lst 8 with | .Assign _ (.Call _ [.Lambda _ _ s _] _ _) _ => s | _ => default
def lamQ : Str := Str.ofString "law.<locals>.<lambda>"
/-- the law's lambda stands at an address -/
def LamAt (h : Heap) (lam L : Addr) : Prop := ∃ pm c' ctv, h.get? lam = some (kla_obj (Str.ofString "<lambda>") lamQ lamA lamB lamS [(Str.ofString "forms", L + 5)] pm c' ctv) ∧ h.CodeRec (.ref c') lamQ
theorem codeRec_but {h h' : Heap} {c : Addr} {q : Str} (x : h.CodeRec (.ref c) q) (k : ∀ o, h.get? c = some o → h'.get? c = some o) : h'.CodeRec (.ref c) q := by
  obtain ⟨c', o, vs, t, e, e1, e2, e3⟩ := x
  cases e
  exact ⟨_, o, vs, t, rfl, k _ e1, e2, e3⟩
theorem KeepS.but {h h' : Heap} {a : Addr} {o : Obj} (e : h.get? a = some o) (hno : ∀ xs n, o.data ≠ .seq xs n) (k : ∀ b o, b ≠ a → h.get? b = some o → h'.get? b = some o) : KeepS h h' := fun b o' xs n d e' => by
  refine k b o' (fun q => ?_) e'
  rw [q, e] at e'
  cases e'
  exact hno _ _ d
section
variable {w : World} {A : Around} {s : Shared} {L : Addr} {h₀ : Heap} {m cm mg mb : Str → Option Value}
theorem LF.but {a : Addr} {h h' : Heap} (F : LF h₀ L m cm h) (ha : h₀.get? a = none) (haL : a < L) (k : ∀ b o, b ≠ a → h.get? b = some o → h'.get? b = some o) : LF h₀ L m cm h' :=
  ⟨⟨F.fr.ns.at' fun o e => k _ o (Nat.ne_of_gt haL) e, fun b o e => k b o (fun q => by rw [q, ha] at e; cases e) (F.fr.keep b o e), F.fr.above⟩,
   ⟨fun n c e => let ⟨o, e1, e2⟩ := F.cl.cell n c e; ⟨o, k c o (Nat.ne_of_gt (Nat.lt_trans haL (F.cl.above n c (mem_of_lookup e)))) e1, e2⟩, F.cl.apart, F.cl.above⟩⟩
theorem law9 {Df : Addr} {Q : Flow → Shared → Prop} (hA : A.handled = none) (hd : A.depth ≤ 305) (hu : A.units ≤ 8 * 305) (T₀ : TopF mg mb h₀) (KS₀ : (K3 w.params).In h₀) (F : LF h₀ L m cm s.heap)
    (h37n : h₀.get? 37 = none) (h115n : h₀.get? 115 = none) (hL : 118 < L) (e37 : s.heap.get? 37 = some (ob w.params 37)) (e115 : s.heap.get? 115 = some (ob w.params 115))
    (hck : mg (Str.ofString "cmp_to_key") = some (.ref 42)) (hbi : mg (Str.ofString "__builtins__") = some (.ref 4))
    (h : ∀ s' C lam, LF h₀ L (fun y => if y = Str.ofString "key" then some (.ref C) else m y) cm s'.heap → KeepS s.heap s'.heap → GExt s s' → KReady w s'.heap C lam → LamAt s'.heap lam L → (∃ more, s'.heap.get? 37 = some (PySem.W.X.tableObj (fldA (ob w.params 37) ++ more))) → (∃ more, s'.heap.get? 115 = some (tabObj more)) → Q .next s') :
    wpAny (model P0 w) A (exec (lst 8) (lenv L 117)) Q (fun _ _ => False) s := by
  have T := T₀.keeps F.fr.keep
  have KS := KS₀.keeps F.fr.keep
  have e117 : s.heap.get? 117 = some (ob w.params 117) := KS 117 _ rfl
  have e42 : s.heap.get? 42 = some (ob w.params 42) := KS 42 _ rfl
  have e4 : s.heap.get? 4 = some (ob w.params 4) := KS 4 _ rfl
  refine wpAny_Assign_Name ?_
  walk1
  refine nm_glob T hck ?_
  have hfd : (ob w.params 42).data = .func (docDef (dName (stAt 5)) (dParams (stAt 5)) (dBody (stAt 5)) (dScope (stAt 5)) (pmO (ob w.params 42)) (.ref 41) (docO (ob w.params 42))) := by kernel_rfl
  refine callWith_meth (h₀ := h₀) hfd (KS₀ 42 _ rfl) ?_ rfl
  walk1
  have C : CodeHd s.heap 117 115 := ⟨ob w.params 117, fldA (ob w.params 117), strF ((fldA (ob w.params 117)).getD 18 .none), tokF ((fldA (ob w.params 117)).getD 18 .none), intF ((fldA (ob w.params 117)).getD 7 .none), tokF ((fldA (ob w.params 117)).getD 7 .none), boolF ((fldA (ob w.params 117)).getD 9 .none),
    intF ((fldA (ob w.params 117)).getD 10 .none), tokF ((fldA (ob w.params 117)).getD 10 .none), e117, by kernel_rfl, by kernel_rfl, by kernel_rfl, by kernel_rfl, by kernel_rfl, by kernel_rfl, by kernel_rfl, by kernel_rfl, by decide⟩
  have e115' : s.heap.get? 115 = some (tabObj #[]) := e115.trans (by kernel_rfl)
  refine kla_eval rfl ?_
  refine kla_makeFunction (mg := mg) (c := 117) (P := 115) (ps := #[]) rfl rfl T.g rfl C e115' trivial rfl (by decide) ⟨4, ob w.params 4, hbi, by decide, by decide, by decide, e4, by kernel_rfl, by kernel_rfl, by kernel_rfl⟩ fun c' ctv h' tk x1 hc1 hc2 hcr hP' => ?_
  have hn := F.fr.ns
  obtain ⟨oL, hoL⟩ : ∃ oL, s.heap.get? L = some oL := let ⟨o, _, _, e, _⟩ := hn; ⟨o, e⟩
  have hqual : (lenv L 117).qual ++ Str.ofString "<lambda>" = lamQ := by kernel_rfl
  rw [hqual] at hcr ⊢
  have hs' : s.heap.objs.size < h'.objs.size := Nat.lt_of_le_of_lt hc1 hc2
  have hLs : L < s.heap.objs.size := hn.lt
  refine spliced_none ?_
  generalize hpH : h'.push _ = hp
  have hlam : hp.get? h'.objs.size = some (kla_obj (Str.ofString "<lambda>") lamQ lamA lamB lamS [(Str.ofString "forms", L + 5)] ((mg (Str.ofString "__name__")).getD Value.none) c' ctv) := by
    rw [← hpH]
    exact Heap.get?_push_size _ rfl
  have kx' : ∀ b o, h'.get? b = some o → hp.get? b = some o := fun b o e => by rw [← hpH]; exact Heap.get?_push_of_some _ e
  have kx : ∀ b o, b ≠ 115 → s.heap.get? b = some o → hp.get? b = some o := fun b o hb e => kx' b o (x1 b o hb e)
  clear hpH
  have k0 : ∀ b o, h₀.get? b = some o → hp.get? b = some o := fun b o e => kx b o (fun q => by rw [q, h115n] at e; cases e) (F.fr.keep b o e)
  refine ⟨k0, ?_⟩
  have nL115 : L ≠ 115 := Nat.ne_of_gt (Nat.lt_trans (by decide) hL)
  have nL37 : L ≠ 37 := Nat.ne_of_gt (Nat.lt_trans (by decide) hL)
  have F₁ : LF h₀ L m cm hp := F.but h115n (Nat.lt_trans (by decide) hL) kx
  have e37p : hp.get? 37 = some (ob w.params 37) := kx _ _ (by decide) e37
  have kS₁ : KeepS s.heap hp := KeepS.but e115' (fun xs n q => by cases q) kx
  refine AL.of 305 hA hd hu (wpAny_mono (ctk (s := { s with heap := hp, toks := tk }) (LL := L) (kx _ _ nL115 hoL) hL (KS₀.keeps k0) e37p (T₀.keeps k0)) (fun v s₂ hv => ?_) fun _ _ e => e.elim)
  obtain ⟨C', rfl, hready, hk, ⟨more37, h37'⟩, hg, hos⟩ := hv
  have F₂ : LF h₀ L m cm s₂.heap := F₁.but h37n (Nat.lt_trans (by decide) hL) hk
  have kS₂ : KeepS hp s₂.heap := KeepS.but e37p (fun xs n q => by rw [show (ob w.params 37).data = .fields (fldA (ob w.params 37)) by kernel_rfl] at q; cases q) hk
  have h118 : 118 < s.heap.objs.size := Nat.lt_trans hL hLs
  refine wpAny_storeName_local rfl F₂.fr.ns (fun h₃ hn₃ hs₃ => ?_) rfl
  have F₃ : LF h₀ L (fun y => if y = Str.ofString "key" then some (.ref C') else m y) cm h₃ := ⟨F₂.fr.set hn₃ hs₃, F₂.cl.sameBut hs₃ (Nat.le_refl _)⟩
  have kS₃ : KeepS s₂.heap h₃ := KeepS.ns F₂.fr.ns fun b o q e => (hs₃.2 b q).trans e
  have up : ∀ b o, s.heap.objs.size ≤ b → hp.get? b = some o → h₃.get? b = some o := fun b o hb e => by
    have h1 : b ≠ 37 := Nat.ne_of_gt (Nat.lt_of_lt_of_le (Nat.lt_trans (by decide) h118) hb)
    have h2 : b ≠ L := Nat.ne_of_gt (Nat.lt_of_lt_of_le hLs hb)
    exact (hs₃.2 b h2).trans (hk b o h1 e)
  refine h _ C' h'.objs.size F₃ ((kS₁.trans kS₂).trans kS₃) ⟨fun i x e => by show s₂.gens[i]? = some x; rw [hg]; exact e, fun q => by show ∀ x ∈ s₂.gens, _; rw [hg]; exact q, hos⟩ (hready _ fun b o hb e => (hs₃.2 b hb).trans e)
    ⟨_, c', ctv, up _ _ (Nat.le_of_lt hs') hlam, codeRec_but hcr fun o e => up _ _ hc1 (kx' _ _ e)⟩ ⟨more37, (hs₃.2 37 (Ne.symm nL37)).trans h37'⟩ ⟨_, (hs₃.2 115 (Ne.symm nL115)).trans (hk _ _ (by decide) (kx' _ _ hP'))⟩
end
end
end
end
end
end
section
open PySem PySem.W PyProof.Rows PySem.Calls PySem.Spec
local macro_rules | `(tactic| walk_at "eval Subscript") => `(tactic| with_unfolding_all (first | refine sub_cut ?_ | refine sub_step ?_))
local macro_rules | `(tactic| walk_at "newList") => `(tactic| (with_unfolding_all refine newL ?_); intro h' r' k' f' l')
local macro_rules | `(tactic| walk_at "binaryOp Add ref ref") => `(tactic| refine here_of ?_)
local macro_rules | `(tactic| walk_at "compareOp NotEq ref ref") => `(tactic| refine here_of ?_)
local macro_rules | `(tactic| walk_at "compareOp Eq ref ref") => `(tactic| refine here_of ?_)
local macro_rules | `(tactic| walk_at "compareOp In ref ref") => `(tactic| refine here_of ?_)
local macro_rules | `(tactic| walk_at "compareOp NotIn ref ref") => `(tactic| refine here_of ?_)
local macro_rules | `(tactic| walk_at "call type:list") => `(tactic| refine here_of ?_)
local macro_rules | `(tactic| walk_at "eval ListComp") => `(tactic| refine here_of ?_)
local macro_rules | `(tactic| walk_at "newTuple") => `(tactic| refine here_of ?_)
local macro_rules | `(tactic| walk_at "call ref") => `(tactic| refine here_of ?_)
local macro_rules | `(tactic| walk_at "callWith ref") => `(tactic| refine call_top (TopF.fn (by assumption) _ _ _ (by walk_at "f_mem")) ?_)
section
open PySem PySem.W PyProof.Rows PySem.Calls PySem.Spec
set_option maxRecDepth 100000
set_option maxHeartbeats 4000000
local macro_rules | `(tactic| walk_at "eval Name") => `(tactic| first
  | refine nm_free rfl (by assumption) ?_
  | refine nm_loc (by assumption) (by walk_at "m_look") ?_
  | refine nm_fn (by assumption) (by walk_at "f_mem") ?_)
local macro_rules | `(tactic| walk_at "subscriptTail") => `(tactic| refine item_at (by assumption) (by assumption) (by assumption) (by assumption) ?_)
theorem tlt_neg (p q : Int × Int) : decide (b2i (tltB q p) - b2i (tltB p q) < 0) = tltB p q := by
  obtain ⟨a, b⟩ := p
  obtain ⟨c, d⟩ := q
  unfold tltB
  by_cases h : a = c
  · subst h
    simp only [if_true]
    by_cases h1 : b < d
    · have h2 : ¬ d < b := by omega
      simp [h1, h2, b2i]
    · by_cases h2 : d < b <;> simp [h1, h2, b2i]
  · have h' : ¬ c = a := fun e => h e.symm
    simp only [if_neg h, if_neg h']
    by_cases h1 : a < c
    · have h2 : ¬ c < a := by omega
      simp [h1, h2, b2i]
    · by_cases h2 : c < a <;> simp [h1, h2, b2i]
section
variable {w : World} {mg mb : Str → Option Value} {L : Addr}
theorem lam_spec {h : Heap} {lam Df : Addr} {fv : List Value} {fs : List (Int × Int)} (T : TopF mg mb h) (hl : LamAt h lam L) (hc : h.IsCell (L + 5) (some (.ref Df))) (hfl : h.IsList Df fv.toArray) (hff : FormsAt h fv fs) (hz : fs.length = 4) :
    LamSpec w h lam (fun i j => tltB (keyOf (fs.getD i (0, 0))) (keyOf (fs.getD j (0, 0)))) := by
  intro s k i j ti tj hi hj
  obtain ⟨pm, c', ctv, ho, hcr⟩ := hl
  have hcell : ∀ x ∈ lamS.names, x.2 ≠ NameKind.cell := by decide
  rw [show lamS = Scope.mk _ _ _ _ _ from rfl] at hcell ho
  rw [show lamB = Expr.Call _ _ _ _ from rfl] at ho
  have T₁ := T.keeps k
  refine wpAny_call (kla_callFunE (show 450 < recursionLimit by decide) (k _ _ ho) rfl rfl rfl rfl (hcr.keeps k) ?_)
  refine wpAny_of_eq (a := [(Str.ofString "j", Value.int (i : Int) ti), (Str.ofString "k", Value.int (j : Int) tj)]) rfl ?_
  refine wpAny_newFunctionEnv hcell (by simp only [List.mem_cons, List.not_mem_nil, or_false]; rintro x (rfl | rfl) <;> rfl) (fun h₁ hn hs => ?_)
  have k₁ : ∀ b o, s.heap.get? b = some o → h₁.get? b = some o := fun b o e => (hs.2 b (Nat.ne_of_lt (Heap.lt_size e))).trans (Heap.get?_push_of_some _ e)
  have T₂ := T₁.keeps k₁
  refine ⟨T₂.nolimit, kla_codeExpr ?_⟩
  have hc₂ := (hc.keeps k).keeps k₁
  have hfl₂ := isList_keeps (isList_keeps hfl k) k₁
  have hff₂ := (hff.keeps k).keeps k₁
  have i0 : 0 ≤ (i : Int) := Int.natCast_nonneg i
  have j0 : 0 ≤ (j : Int) := Int.natCast_nonneg j
  have i63 : (i : Int) < 2 ^ 63 := by omega
  have j63 : (j : Int) < 2 ^ 63 := by omega
  obtain ⟨vi, hvi⟩ : ∃ vi, fv[(i : Int).toNat]? = some vi := ⟨_, List.getElem?_eq_getElem (by have := hff.length; simp; omega)⟩
  obtain ⟨vj, hvj⟩ : ∃ vj, fv[(j : Int).toNat]? = some vj := ⟨_, List.getElem?_eq_getElem (by have := hff.length; simp; omega)⟩
  obtain ⟨pi, hpi, ri, ti1, ti2, rfl, hti⟩ := paired_get hff₂ hvi
  obtain ⟨pj, hpj, rj, tj1, tj2, rfl, htj⟩ := paired_get hff₂ hvj
  have ei : fs.getD i (0, 0) = pi := by
    have : fs[i]? = some pi := by simpa using hpi
    simp [List.getD_eq_getElem?_getD, this]
  have ej : fs.getD j (0, 0) = pj := by
    have : fs[j]? = some pj := by simpa using hpj
    simp [List.getD_eq_getElem?_getD, this]
  dsimp only
  rw [ei, ej]
  clear hc hfl hff T T₁ hcr
  refine wpAny_mono (E := fun _ _ => False) ?_ (fun _ _ x => x) (fun _ _ x => x.elim)
  generalize lamQ ++ Str.ofString ".<locals>." = q
  clear hs ho hcell
  walk_at "go"
  refine Here.mk (AL.of 500 rfl (Nat.le_of_ble_eq_true rfl) (Nat.le_of_ble_eq_true rfl) (key_spec T₂ hti fun r₃ s₃ u1 u2 x₃ hr₃ => ?_))
  have T₃ := T₂.keeps x₃.keep
  have hc₃ := hc₂.keeps x₃.keep
  have hn₃ := hn.keeps x₃.keep
  have hfl₃ := isList_keeps hfl₂ x₃.keep
  have htj₃ := htj.keeps x₃.keep
  clear T₂ hc₂ hn hfl₂ htj hti
  walk_at "go"
  refine Here.mk (AL.of 500 rfl (Nat.le_of_ble_eq_true rfl) (Nat.le_of_ble_eq_true rfl) (key_spec T₃ htj₃ fun r₄ s₄ u3 u4 x₄ hr₄ => ?_))
  walk_at "go"
  · exact x₄.keep _ _ (x₃.keep _ _ (by assumption))
  refine Here.mk (AL.of 500 rfl (Nat.le_of_ble_eq_true rfl) (Nat.le_of_ble_eq_true rfl) (three_spec (T₃.keeps x₄.keep) (hr₃.keeps x₄.keep) hr₄ fun s₅ u5 x₅ => ?_))
  refine ⟨_, _, rfl, tlt_neg (keyOf pi) (keyOf pj), ⟨fun b o e => x₅.keep _ _ (x₄.keep _ _ (x₃.keep _ _ (k₁ _ _ e))), fun i x e => x₅.gens _ _ (x₄.gens _ _ (x₃.gens _ _ e)), fun q => x₅.bare (x₄.bare (x₃.bare q)), x₅.os.trans (x₄.os.trans x₃.os)⟩⟩
end
end
section
open PySem PySem.W PyProof.Rows PySem.Calls PySem.Spec
set_option maxRecDepth 100000
set_option maxHeartbeats 4000000
local macro_rules | `(tactic| walk_at "eval Name") => `(tactic| first | refine nm_cell (by assumption) rfl ?_ | refine nm_loc (by assumption) (by walk_at "m_look") ?_ | walk_at "nm_b")
local macro_rules | `(tactic| walk_at "call type:range") => `(tactic| refine here_of ?_)
local macro_rules | `(tactic| walk_at "call builtin:sorted") => `(tactic| refine here_of ?_)
theorem KReady.keeps {w : World} {h h' : Heap} {C lam : Addr} (x : KReady w h C lam) (k : ∀ b o, h.get? b = some o → h'.get? b = some o) : KReady w h' C lam := by
  obtain ⟨hm, N, D, f, cell, c, oC, oN, oD, of, ol, oc, R⟩ := x
  exact ⟨fun s2 k2 i t => hm s2 (fun b o e => k2 _ _ (k _ _ e)) i t, N, D, f, cell, c, oC, oN, oD, of, ol, oc, R.keeps k⟩
theorem LamAt.keeps {h h' : Heap} {lam L : Addr} (x : LamAt h lam L) (k : ∀ b o, h.get? b = some o → h'.get? b = some o) : LamAt h' lam L := by
  obtain ⟨pm, c', ctv, e, r⟩ := x
  exact ⟨pm, c', ctv, k _ _ e, r.keeps k⟩
theorem size4 : allK (fun p : Array Nat => p.size == 4) (kas_sort 4) = true := by decide +kernel
theorem sorted_len (fs : List (Int × Int)) : (sortedOf fs).length = 4 := by
  have := run_all (f := fun i j => tltB (keyOf (fs.getD i (0, 0))) (keyOf (fs.getD j (0, 0)))) (kas_sort 4) size4
  unfold sortedOf
  rw [List.length_map, Array.length_toList]
  simpa using this
theorem sorted_in (fs : List (Int × Int)) : ∀ k ∈ sortedOf fs, (0 : Int) ≤ k ∧ k < 4 := by
  have := run_all (f := fun i j => tltB (keyOf (fs.getD i (0, 0))) (keyOf (fs.getD j (0, 0)))) (kas_sort 4) all4
  unfold sortedOf
  intro k hk
  obtain ⟨i, hi, rfl⟩ := List.mem_map.mp hk
  have h4 : i < 4 := by simpa using List.all_eq_true.mp this i hi
  omega
section
variable {w : World} {A : Around} {E : Value → Shared → Prop} {s : Shared}
theorem ne_empty {a b : Addr} {xs : List Value} {Q : Value → Shared → Prop} (hl : s.heap.IsList a xs.toArray) (hb : s.heap.IsList b (#[] : Array Value)) (hu : A.units + 1 < cLine)
    (h : Q (.bool (!xs.isEmpty)) s) : wpAny (model P0 w) A (compareOp .NotEq (.ref a) (.ref b)) Q E s := by
  cases xs with
  | nil => exact SeqAt.RcNeAt.lists (e := fun _ => true) hl hb rfl (by omega) (fun j h1 _ => absurd h1 (Nat.not_lt_zero _)) P0 w E Q h
  | cons x xs => exact SeqAt.RcNeAt.lists_lengths hl hb (by simp) (by omega) P0 w E Q h
end
section
variable {w : World} {A : Around} {s : Shared} {L cd : Addr} {h₀ : Heap} {m cm mg mb : Str → Option Value}
theorem law10 {Df Dp Dd C lam : Addr} {vp yd fv : List Value} {pu : List (List U)} {Q : Flow → Shared → Prop} (hA : A.handled = none) (hd : A.depth ≤ 380) (hu : A.units ≤ 8 * 380) (T : TopF mg mb s.heap) (F : LF h₀ L m cm s.heap)
    (hmk : m (Str.ofString "key") = some (.ref C)) (hcp : cm (Str.ofString "pieces") = some (.ref Dp)) (hcd : cm (Str.ofString "due") = some (.ref Dd)) (hcf : cm (Str.ofString "forms") = some (.ref Df))
    (hpl : s.heap.IsList Dp vp.toArray) (hpp : PiecesAt s.heap vp (pu.map (·.map ustr))) (hz : pu.length = 4) (h4 : ∀ us ∈ pu, us.length ≤ 4)
    (hdl : s.heap.IsList Dd yd.toArray) (hdd : Paired (IntsAt s.heap) yd (allOrders.filter (closedOf (pu.map formU))))
    (hfl : s.heap.IsList Df fv.toArray) (hff : FormsAt s.heap fv (pu.map formU)) (R : KReady w s.heap C lam) (hl : LamAt s.heap lam L) (hok : okForms (pu.map formU) = true)
    (h : ∀ s', Ext s s' → Q (.ret (.bool true)) s') :
    wpAny (model P0 w) A (exec (lst 9) (lenv L cd)) Q (fun _ _ => False) s := by
  have hcell := F.cell (Str.ofString "pieces") (L + 2) hcp
  have hcelld := F.cell (Str.ofString "due") (L + 4) hcd
  have hcellf := F.cell (Str.ofString "forms") (L + 5) hcf
  have hn := F.fr.ns
  refine wpAny_Return_some ?_
  walk_at "go"
  refine Here.mk (call_range_1 ?_)
  have hr₁ : IsRange (s.heap.push { cls := .type "range", data := .fields #[.int 0 (s.toks + 1), .int 4 s.toks, .int 1 (s.toks + 1 + 1)] }) s.heap.objs.size 0 4 1 (s.toks + 1) s.toks (s.toks + 1 + 1) := IsRange.new _ _ _ _ _ _ _
  have k₁ : ∀ b o, s.heap.get? b = some o → (s.heap.push { cls := .type "range", data := .fields #[.int 0 (s.toks + 1), .int 4 s.toks, .int 1 (s.toks + 1 + 1)] }).get? b = some o := fun b o e => Heap.get?_push_of_some _ e
  dsimp only
  generalize s.heap.push _ = h₁ at *
  generalize s.heap.objs.size = r₁ at *
  have hn₁ := hn.keeps k₁
  have T₁ := T.keeps k₁
  have hcell₁ := hcell.keeps k₁
  have hcelld₁ := hcelld.keeps k₁
  have hpl₁ := isList_keeps hpl k₁
  have hpp₁ := hpp.keeps k₁
  have hdl₁ := isList_keeps hdl k₁
  have hydl := hdd.length
  have hL := lam_spec (w := w) T₁ (hl.keeps k₁) (hcellf.keeps k₁) (isList_keeps hfl k₁) (hff.keeps k₁) (by rw [List.length_map]; exact hz)
  have R₁ := R.keeps k₁
  obtain ⟨pm, c', ctv, hlam, _⟩ := hl.keeps k₁
  clear hn T hcell hcelld hcellf hpl hpp hdl hdd hfl hff R hl F
  walk_at "go"
  refine Here.mk (sorted_key (f := fun i j => tltB (keyOf ((pu.map formU).getD i (0, 0))) (keyOf ((pu.map formU).getD j (0, 0)))) R₁ hL T₁.nolimit ⟨_, _, hlam, rfl⟩ hA (by omega) (by omega) hr₁ fun s₂ D vs x₂ hD hvs => ?_)
  have k₂ : ∀ b o, h₁.get? b = some o → s₂.heap.get? b = some o := x₂.keep
  have hvs' : Paired IsIntV vs (sortedOf (pu.map formU)) := hvs
  walk_at "go"
  · exact k₂ _ _ (k₁ _ _ (by assumption))
  refine Here.mk (text_u hA (by omega) (by omega) (T₁.keeps k₂) (isList_keeps hpl₁ k₂) (hpp₁.keeps k₂) hD hvs' (sorted_in _) hz (sorted_len _) h4 fun s₃ t₃ x₃ => ?_)
  have hcelld₃ := (hcelld₁.keeps k₂).keeps x₃.keep
  have T₃ := (T₁.keeps k₂).keeps x₃.keep
  have hdl₃ := isList_keeps (isList_keeps hdl₁ k₂) x₃.keep
  clear T₁ hn₁ hcell₁ hcelld₁ hpl₁ hpp₁ hdl₁ R₁ hL hr₁ hvs
  walk_at "go"
  · exact x₃.keep _ _ (k₂ _ _ (k₁ _ _ (by assumption)))
  have hlen := cat_len h4 (sortedOf (pu.map formU))
  rw [sorted_len] at hlen
  refine Here.mk (check_u hA (by omega) (by omega) T₃ hlen fun s₄ x₄ => ?_)
  have hcelld₄ := hcelld₃.keeps x₄.keep
  have hdl₄ := isList_keeps hdl₃ x₄.keep
  clear T₃ hcelld₃ hdl₃
  walk_at "go"
  rename_i h₅ r₅ k₅ f₅ l₅
  refine Here.mk (ne_empty (isList_keeps hdl₄ k₅) l₅ (four_room (by omega)) ?_)
  have e1 : scan 0 (cat pu (sortedOf (pu.map formU))) = closedOf (pu.map formU) (sortedOf (pu.map formU)) := scan_closed pu _ 0 (Int.le_refl _) fun k hk => by have := sorted_in _ k hk; omega
  have e2 : (!yd.isEmpty) = !(allOrders.filter (closedOf (pu.map formU))).isEmpty := by
    congr 1
    rw [Bool.eq_iff_iff, List.isEmpty_iff_length_eq_zero, List.isEmpty_iff_length_eq_zero, hydl]
  have e3 : (closedOf (pu.map formU) (sortedOf (pu.map formU)) == !(allOrders.filter (closedOf (pu.map formU))).isEmpty) = true := hok
  rw [e1, e2]
  generalize closedOf (pu.map formU) (sortedOf (pu.map formU)) = x at *
  generalize (!(allOrders.filter (closedOf (pu.map formU))).isEmpty) = y at *
  obtain rfl : x = y := by simpa using e3
  walk1
  rw [beq_self_eq_true]
  exact h _ ⟨fun b o e => k₅ _ _ (x₄.keep _ _ (x₃.keep _ _ (k₂ _ _ (k₁ _ _ e)))), fun i x e => x₄.gens _ _ (x₃.gens _ _ (x₂.gens _ _ e)), fun q => x₄.bare (x₃.bare (x₂.bare q)), x₄.os.trans (x₃.os.trans x₂.os)⟩
end
end
end
section
open PySem PySem.W PyProof.Rows PySem.Calls PySem.Spec
set_option maxRecDepth 100000
set_option maxHeartbeats 4000000
def menuU : List U := [.o, .c, .e, .qc, .a, .b]
def pieceU (x : Int) : List U := (List.range (1 + x % 4).toNat).map fun k => menuU.getD ((x / 4 / 6 ^ k % 6).toNat) .a
theorem menu_u : ∀ n : Nat, n < 6 → menuS.getD n "" = ustr (menuU.getD n .a)
  | 0, _ => rfl
  | 1, _ => rfl
  | 2, _ => rfl
  | 3, _ => rfl
  | 4, _ => rfl
  | 5, _ => rfl
theorem piece_u (x : Int) : pieceOf x = (pieceU x).map ustr := by
  unfold pieceOf pieceU
  rw [List.map_map]
  refine List.map_congr_left fun k _ => ?_
  refine menu_u _ ?_
  have h1 : x / 4 / 6 ^ k % 6 < 6 := Int.emod_lt_of_pos _ (by decide)
  omega
theorem piece_len (x : Int) : (pieceU x).length ≤ 4 := by
  unfold pieceU
  rw [List.length_map, List.length_range]
  have h1 : x % 4 < 4 := Int.emod_lt_of_pos _ (by decide)
  omega
def fixU : List (List U) := [fix1, fix2, fix3, fix4]
theorem fix_u : fixS = fixU.map (·.map ustr) := by rfl
def drawnU (ns : List Int) : List (List U) := (List.range (min 2 ns.length)).map fun (k : Nat) => pieceU (pickNums ns (some (k : Int)) none (some 2)).sum
theorem drawn_u (ns : List Int) : drawnOf ns = (drawnU ns).map (·.map ustr) := by
  unfold drawnOf drawnU
  rw [List.map_map]
  exact List.map_congr_left fun k _ => piece_u _
def puOf (ns : List Int) : List (List U) := (drawnU ns ++ fixU).take 4
theorem pieces_u (ns : List Int) : (drawnOf ns ++ fixS).take 4 = (puOf ns).map (·.map ustr) := by
  rw [drawn_u, fix_u, ← List.map_append, ← List.map_take]
  rfl
theorem drawn_len (ns : List Int) : (drawnU ns).length ≤ 2 := by
  unfold drawnU
  rw [List.length_map, List.length_range]
  omega
theorem pu_len (ns : List Int) : (puOf ns).length = 4 := by
  unfold puOf
  rw [List.length_take, List.length_append]
  have : fixU.length = 4 := rfl
  omega
theorem pu_four (ns : List Int) : ∀ us ∈ puOf ns, us.length ≤ 4 := by
  intro us h
  have h := List.mem_of_mem_take h
  rcases List.mem_append.mp h with h | h
  · obtain ⟨k, _, rfl⟩ := List.mem_map.mp h
    exact piece_len _
  · have : ∀ us ∈ fixU, us.length ≤ 4 := by decide
    exact this us h
theorem form_sum : ∀ (us : List U) (p : Int × Int), 0 ≤ p.1 → 0 ≤ p.2 → (us.foldl fstep p).1 + (us.foldl fstep p).2 ≤ p.1 + p.2 + us.length
  | [], p, _, _ => by simp
  | u :: us, p, h1, h2 => by
    have h3 := fstep_nonneg h1 h2 u
    have ih := form_sum us (fstep p u) h3.1 h3.2
    have h4 : (fstep p u).1 + (fstep p u).2 ≤ p.1 + p.2 + 1 := by
      cases u <;> simp only [fstep] <;> first | omega | (split <;> simp <;> omega)
    rw [List.foldl_cons, List.length_cons]
    omega
theorem forms_all : ∀ a : Fin 5, ∀ b : Fin 5, a.val + b.val ≤ 4 → ((a.val : Int), (b.val : Int)) ∈ forms15 := by decide
theorem form_in {us : List U} (h : us.length ≤ 4) : formU us ∈ forms15 := by
  have h1 := formU_nonneg us (0, 0) (Int.le_refl _) (Int.le_refl _)
  have h2 := form_sum us (0, 0) (Int.le_refl _) (Int.le_refl _)
  show us.foldl fstep (0, 0) ∈ forms15
  generalize us.foldl fstep (0, 0) = p at *
  obtain ⟨c, l⟩ := p
  simp only at h1 h2
  have h3 := forms_all ⟨c.toNat, by omega⟩ ⟨l.toNat, by omega⟩ (by simp only; omega)
  have e1 : ((c.toNat : Nat) : Int) = c := Int.toNat_of_nonneg h1.1
  have e2 : ((l.toNat : Nat) : Int) = l := Int.toNat_of_nonneg h1.2
  simp only [e1, e2] at h3
  exact h3
theorem pu_ok (ns : List Int) : okForms ((puOf ns).map formU) = true := by
  have hd := drawn_len ns
  have h4 : ∀ us ∈ drawnU ns, us.length ≤ 4 := fun us h => by
    obtain ⟨k, _, rfl⟩ := List.mem_map.mp h
    exact piece_len _
  unfold puOf
  match e : drawnU ns with
  | [] => exact ok0
  | [p] =>
    have h := h4 p (by rw [e]; exact .head _)
    exact List.all_eq_true.mp ok1 _ (form_in h)
  | [p, q] =>
    have hp := h4 p (by rw [e]; exact .head _)
    have hq := h4 q (by rw [e]; exact .tail _ (.head _))
    exact List.all_eq_true.mp (List.all_eq_true.mp ok2 _ (form_in hp)) _ (form_in hq)
  | p :: q :: r :: t => rw [e] at hd; simp at hd
theorem orders_four' : ∀ b ∈ allOrders, b.length = 4 := by decide +kernel
theorem orders_in' : ∀ b ∈ allOrders, ∀ k ∈ b, (0 : Int) ≤ k ∧ k < 4 := by decide +kernel
theorem pu_melt {pu : List (List U)} (hz : pu.length = 4) : ∀ b ∈ allOrders, ∃ f gs, (b.map fun k => (pu.map formU).getD k.toNat (0, 0)) = f :: gs ∧ decide (gs.foldl meltOf f = (0, 0)) = closedOf (pu.map formU) b := by
  intro b hb
  have h4 := orders_four' b hb
  have hin := orders_in' b hb
  match b, h4, hin with
  | k :: ks, _, hin =>
    refine ⟨_, _, rfl, ?_⟩
    dsimp only
    have hk := hin k (.head _)
    have hk' : k.toNat < pu.length := by omega
    have e1 : (pu.map formU).getD k.toNat (0, 0) = formU pu[k.toNat] := by simp [List.getD_eq_getElem?_getD, hk']
    have e2 : pu[k.toNat] ++ cat pu ks = cat pu (k :: ks) := by simp [cat, hk']
    have hX : (ks.map fun k => (pu.map formU).getD k.toNat (0, 0)).foldl meltOf ((pu.map formU).getD k.toNat (0, 0)) = formU (cat pu (k :: ks)) := by
      rw [e1, melt_cat pu ks _ fun j hj => by have := hin j (.tail _ hj); omega, e2]
    refine Eq.trans (congrArg (fun z : Int × Int => decide (z = (0, 0))) hX) ?_
    refine (scan_zero _).symm.trans ?_
    exact scan_closed pu _ 0 (Int.le_refl _) fun j hj => by have := hin j hj; omega
end
section
open PySem PySem.W PyProof.Rows PySem.Calls PySem.Spec PySem.W.X PySem.W.ZRun
set_option maxRecDepth 100000
set_option maxHeartbeats 4000000
/-- the heap without the two code tables that grow -/
def base2 (h : Heap) : Heap := hide (hide h 37) 115
theorem base2_get {h : Heap} {b : Addr} (h1 : b ≠ 37) (h2 : b ≠ 115) : (base2 h).get? b = h.get? b := (hide_other h2).trans (hide_other h1)
theorem base2_le {h : Heap} : ∀ b o, (base2 h).get? b = some o → h.get? b = some o := fun b o e => by
  by_cases h2 : b = 115
  · rw [h2, base2, hide_self] at e; cases e
  · by_cases h1 : b = 37
    · rw [h1, base2, hide_other (by decide), hide_self] at e; cases e
    · rwa [base2_get h1 h2] at e
theorem base2_37 {h : Heap} : (base2 h).get? 37 = none := (hide_other (by decide)).trans hide_self
theorem base2_115 {h : Heap} : (base2 h).get? 115 = none := hide_self
theorem base2_size {h : Heap} : (base2 h).objs.size = h.objs.size := by
  unfold base2 hide
  rw [Heap.size_update, Heap.size_update]
theorem K3_base2 {p : Params} {h : Heap} (X : (K3 p).In h) : (K3 p).In (base2 h) := by
  have e : K3 p = adr3.map fun a => (a, ob p a) := rfl
  have key : ∀ (l : List Nat) a o, (l.map fun a => (a, ob p a)).lookup a = some o → a ∈ l := by
    intro l a o
    induction l with
    | nil => intro q; simp at q
    | cons b l ih =>
      intro q
      rw [List.map_cons, List.lookup_cons] at q
      by_cases hab : a = b
      · subst hab; exact .head _
      · rw [beq_eq_false_iff_ne.mpr hab] at q
        exact .tail _ (ih q)
  have hs : adr3.all (fun a => a != 37 && a != 115) = true := by kernel_rfl
  intro a o ho
  have h1 := List.all_eq_true.mp hs a (key _ _ _ (e ▸ ho))
  rw [Bool.and_eq_true] at h1
  rw [base2_get (by simpa using h1.1) (by simpa using h1.2)]
  exact X a o ho
theorem law_stmts : dBody (stAt 20) = [lst 0, lst 1, lst 2, lst 3, lst 4, lst 5, lst 6, lst 7, lst 8, lst 9] := by rfl
theorem law_spec {w : World} {s : Shared} {A : Around} {E : Value → Shared → Prop} {mg mb : Str → Option Value} {l : Addr} {vs : List Value} {ns : List Int} {Q : Value → Shared → Prop} (hA : A.handled = none) (hd : A.depth ≤ 303) (hu : A.units ≤ 8 * 304) (hfr : A.frames = some [])
    (KS : (K3 w.params).In s.heap) (e37 : s.heap.get? 37 = some (ob w.params 37)) (e115 : s.heap.get? 115 = some (ob w.params 115)) (hsz : 119 ≤ s.heap.objs.size) (T₀ : TopF mg mb (base2 s.heap)) (Rd₀ : RedF mg (base2 s.heap))
    (hck : mg (Str.ofString "cmp_to_key") = some (.ref 42)) (hbi : mg (Str.ofString "__builtins__") = some (.ref 4)) (hl : s.heap.IsList l vs.toArray) (hi : IntsAre vs ns) (h63 : ns.length ≤ 63) (h : ∀ s', OldK s.heap s'.heap → GExt s s' → Q (.bool true) s') :
    wpAny (model P0 w) A (call (.ref 118) [.ref l]) Q E s := by
  have T := T₀.keeps base2_le
  refine wpAny_call (call_cells_ret (binds := [("script", .ref l)]) (name := dName (stAt 20)) (params := dParams (stAt 20)) (body := dBody (stAt 20)) (scope := dScope (stAt 20)) (pm := pmO (ob w.params 118)) (cd := .ref 117) (doc := docO (ob w.params 118))
    (Nat.lt_of_le_of_lt hd (by decide)) (KS 118 _ rfl) (by kernel_rfl) T.nolimit (qualV_some (KS 117 _ rfl) (by kernel_rfl)) rfl ?_ (fun h₁ tk F₁ X₁ => ?_))
  · intro x hx
    rw [List.mem_singleton.mp hx]
    exact .inr ⟨rfl, rfl⟩
  have hA' : (A.deeper (lenv s.heap.objs.size 117)).handled = none := hA
  have hd' : (A.deeper (lenv s.heap.objs.size 117)).depth ≤ 304 := Nat.succ_le_succ hd
  have hu' : (A.deeper (lenv s.heap.objs.size 117)).units ≤ 8 * 304 + 3 := Nat.add_le_add_right hu 3
  have hfr' : (A.deeper (lenv s.heap.objs.size 117)).frames = some [lenv s.heap.objs.size 117] := by
    show A.frames.map _ = _
    rw [hfr]
    rfl
  show wpAny (model P0 w) (A.deeper (lenv s.heap.objs.size 117)) (execs (dBody (stAt 20)) (lenv s.heap.objs.size 117)) _ _ _
  generalize hAA : A.deeper (lenv s.heap.objs.size 117) = AA at *
  have hL : 118 < s.heap.objs.size := hsz
  have F : LF s.heap s.heap.objs.size _ _ h₁ := ⟨⟨F₁.ns, F₁.keep, Nat.le_refl _⟩, X₁⟩
  have hc : bindC (envOfC (dName (stAt 20)) (dScope (stAt 20)) s.heap.objs.size 118 (.ref 117)).kindOf [("script", .ref l)] (fun _ => none) (Str.ofString "script") = some (.ref l) := rfl
  have hl₁ := isList_keeps hl F₁.keep
  have KS₀ := K3_base2 KS
  have Rd := Rd₀.keeps base2_le
  have toB : ∀ (m cm : Str → Option Value) (h' : Heap), LF s.heap s.heap.objs.size m cm h' → LF (base2 s.heap) s.heap.objs.size m cm h' := fun m cm h' x => ⟨⟨x.fr.ns, fun b o e => x.fr.keep b o (base2_le b o e), Nat.le_of_eq base2_size⟩, x.cl⟩
  have t37 : s.heap.TableAt 41 37 (fldA (ob w.params 37)) := table_at (KS 41 _ rfl) (vs := fldA (ob w.params 41)) (ps := fldA (ob w.params 37)) (by kernel_rfl) (by kernel_rfl) e37 (by kernel_rfl)
  have t115 : s.heap.TableAt 117 115 #[] := table_at (KS 117 _ rfl) (vs := fldA (ob w.params 117)) (ps := #[]) (by kernel_rfl) (by kernel_rfl) e115 (by kernel_rfl)
  have oldK : ∀ h' : Heap, (∀ b o, (base2 s.heap).get? b = some o → h'.get? b = some o) → (∃ more, h'.get? 37 = some (tableObj (fldA (ob w.params 37) ++ more))) → (∃ more, h'.get? 115 = some (tabObj more)) → OldK s.heap h' := fun h' k ⟨m1, q1⟩ ⟨m2, q2⟩ => by
    have one : ∀ b o, s.heap.get? b = some o → b ≠ 37 → b ≠ 115 → h'.get? b = some o := fun b o e n1 n2 => k b o ((base2_get n1 n2).trans e)
    refine ⟨fun b o e => ?_, fun b o e => ?_⟩
    · by_cases n1 : b = 37
      · subst n1
        rw [t37.2] at e
        cases e
        exact .inr (.inl ⟨t37.isCodeTable, rfl, _, m1, rfl, q1⟩)
      · by_cases n2 : b = 115
        · subst n2
          rw [t115.2] at e
          cases e
          exact .inr (.inl ⟨t115.isCodeTable, rfl, _, m2, rfl, by rw [q2]; simp⟩)
        · exact .inl (one b o e n1 n2)
    · by_cases n1 : b = 37
      · exact ⟨_, n1 ▸ q1⟩
      · by_cases n2 : b = 115
        · exact ⟨_, n2 ▸ q2⟩
        · exact ⟨_, one b o e n1 n2⟩
  have b37 := base2_37 (h := s.heap)
  have b115 := base2_115 (h := s.heap)
  clear F₁ X₁ hAA hl KS Rd₀
  generalize bindC (envOfC (dName (stAt 20)) (dScope (stAt 20)) s.heap.objs.size 118 (.ref 117)).kindOf [("script", .ref l)] (fun _ => none) = cm at *
  generalize bindL (envOfC (dName (stAt 20)) (dScope (stAt 20)) s.heap.objs.size 118 (.ref 117)).kindOf [("script", .ref l)] (fun _ => none) = m at *
  generalize s.heap.objs.size = L at *
  generalize base2 s.heap = B at *
  rw [law_stmts]
  have pz := pu_len ns
  have p4 := pu_four ns
  refine wpAny_execs_cons (law1 hA' (by omega) (by omega) (T.keeps F.fr.keep) F hc hl₁ hi h63 fun D₁ s₁ y₁ F₁ k₁ g₁ hD₁ hP₁ => ?_)
  refine wpAny_execs_cons (law2 F₁ (by walk_at "m_look") hD₁ hP₁ (by rw [drawn_u, List.length_map]; exact drawn_len ns) fun D₂ s₂ y₂ F₂ k₂ g₂ hD₂ hP₂ => ?_)
  rw [pieces_u] at hP₂
  refine wpAny_execs_cons (law3 hA' (by omega) (by omega) (T.keeps F₂.fr.keep) F₂ (by walk_at "m_look") hD₂ hP₂ (by rw [List.length_map]; exact pz) (fun us hus => ?_) fun Df Do Dt s₃ fv os tv F₃ k₃ g₃ hf hff ho hoo ht htt => ?_)
  · obtain ⟨u, hu, rfl⟩ := List.mem_map.mp hus
    have := p4 u hu
    rw [List.length_map]
    omega
  have ef : ((puOf ns).map (·.map ustr)).map formOf = (puOf ns).map formU := by
    rw [List.map_map]
    exact List.map_congr_left fun us _ => form_ustr us
  rw [ef] at hff
  have hD₃ := isList_s hD₂ k₃
  have hP₃ := hP₂.s k₃
  refine wpAny_execs_cons (law4 hA' (by omega) (by omega) (T.keeps F₃.fr.keep) F₃ (by walk_at "m_look") (by walk_at "m_look") ho hoo hf hff (by rw [List.length_map]; exact pz) fun Dd s₄ yd F₄ k₄ g₄ hd₄ hdd₄ => ?_)
  have hD₄ := isList_s hD₃ k₄
  have hP₄ := hP₃.s k₄
  have hf₄ := isList_s hf k₄
  have hff₄ := hff.s k₄
  have ho₄ := isList_s ho k₄
  have hoo₄ := ordsAt_s hoo k₄
  have ht₄ := isList_s ht k₄
  have htt₄ := htt.s k₄
  clear hD₃ hP₃ hf hff ho hoo ht htt hD₂ hP₂ hD₁ hP₁
  refine wpAny_execs_cons (law5 hA' (by omega) (by omega) (T.keeps F₄.fr.keep) F₄ (by walk_at "m_look") (by walk_at "m_look") (by walk_at "m_look") ho₄ hoo₄ hD₄ hP₄ pz p4 hd₄ hdd₄ fun s₅ x₅ => ?_)
  have up : ∀ {s' : Shared} {v : Value} {b : List Int}, Ext s₄ s' → IntsAt s₄.heap v b → IntsAt s'.heap v b := fun x q => q.keeps x.keep
  refine wpAny_execs_cons (law6 hA' (by omega) (by omega) (T.keeps (F₄.keeps x₅.keep).fr.keep) (F₄.keeps x₅.keep) (by walk_at "m_look") (by walk_at "m_look") (by walk_at "m_look") (isList_keeps ho₄ x₅.keep) (paired_mono (fun _ _ => up x₅) hoo₄)
    (isList_keeps ht₄ x₅.keep) (htt₄.keeps x₅.keep) pz p4 (isList_keeps hd₄ x₅.keep) (paired_mono (fun _ _ => up x₅) hdd₄) fun s₆ x₆' => ?_)
  have x₆ := x₅.trans x₆'
  refine wpAny_execs_cons (law7 hA' (by omega) (by omega) (T.keeps (F₄.keeps x₆.keep).fr.keep) (Rd.keeps (F₄.keeps x₆.keep).fr.keep) (F₄.keeps x₆.keep) (by walk_at "m_look") (by walk_at "m_look") (by walk_at "m_look") (isList_keeps ho₄ x₆.keep) (paired_mono (fun _ _ => up x₆) hoo₄)
    (isList_keeps hf₄ x₆.keep) (hff₄.keeps x₆.keep) (by rw [List.length_map]; exact pz) (isList_keeps hd₄ x₆.keep) (paired_mono (fun _ _ => up x₆) hdd₄) (pu_melt pz) fun s₇ x₇' => ?_)
  have x₇ := x₆.trans x₇'
  refine wpAny_execs_cons (law8 hA' (by omega) (by omega) hfr' T (F₄.keeps x₇.keep) (by walk_at "m_look") (by walk_at "m_look") (isList_keeps ho₄ x₇.keep) (paired_mono (fun _ _ => up x₇) hoo₄) (isList_keeps hd₄ x₇.keep) (paired_mono (fun _ _ => up x₇) hdd₄) fun s₈ F₈ k₈ g₈ => ?_)
  have k₄₈ := (KeepS.of x₇.keep).trans k₈
  refine wpAny_execs_cons (law9 (Df := Df) hA' (by omega) (by omega) T₀ KS₀ (toB _ _ _ F₈) b37 b115 hL (F₈.fr.keep _ _ e37) (F₈.fr.keep _ _ e115) hck hbi fun s₉ C lam F₉ k₉ g₉ R hlam q37 q115 => ?_)
  have k₄₉ := k₄₈.trans k₉
  refine wpAny_execs_cons (law10 hA' (by omega) (by omega) (T₀.keeps F₉.fr.keep) F₉ (by walk_at "m_look") (by walk_at "m_look") (by walk_at "m_look") (by walk_at "m_look") (isList_s hD₄ k₄₉) (hP₄.s k₄₉) pz p4 (isList_s hd₄ k₄₉) (ordsAt_s hdd₄ k₄₉) (isList_s hf₄ k₄₉) (hff₄.s k₄₉) R hlam (pu_ok ns) fun s' x' => ?_)
  obtain ⟨m1, q37⟩ := q37
  obtain ⟨m2, q115⟩ := q115
  refine h s' (oldK _ (fun b o e => x'.keep _ _ (F₉.fr.keep b o e)) ⟨m1, x'.keep _ _ q37⟩ ⟨m2, x'.keep _ _ q115⟩) ?_
  have gg := ((((g₁.trans g₂).trans g₃).trans g₄).trans (x₇.g.trans (g₈.trans g₉))).trans x'.g
  exact ⟨gg.gens, gg.bare, gg.os⟩
end
section
open PySem PySem.W PyProof.Rows PySem.Calls PySem.Spec PySem.W.X PySem.W.ZRun
set_option maxRecDepth 100000
set_option maxHeartbeats 4000000
def entsOf (o : Obj) : Array DictEntry := match o.data with | .dict es _ => es | _ => #[]
theorem mg_eq {p : Params} {h : Heap} {mg : Str → Option Value} (hg : h.Ns mainGlobals mg) (e3 : h.get? 3 = some (ob p 3)) (x : Str) : mg x = nsFind (entsOf (ob p 3)) x := by
  obtain ⟨o, es, ep, e, d, _, f⟩ := hg
  have e' : h.get? 3 = some o := e
  rw [e3] at e'
  cases e'
  rw [← f x]
  unfold entsOf
  rw [d]
/-- the object that a part of the heap has at an address -/
def obK (K : Frag) (a : Nat) : Obj := (K.lookup a).getD default
theorem obK_at {K : Frag} {h : Heap} (X : K.In h) {a : Nat} (hs : (K.lookup a).isSome = true) : h.get? a = some (obK K a) := by
  obtain ⟨o, e⟩ := Option.isSome_iff_exists.mp hs
  have e2 : obK K a = o := by unfold obK; rw [e]; rfl
  rw [e2]
  exact X a o e
/-- the top's defs: address, place in the text, code object -/
def fnT : List (Nat × Nat × Nat) := [(21, 1, 20), (28, 2, 27), (35, 3, 34), (58, 9, 57), (65, 10, 64), (70, 12, 69), (77, 13, 76), (84, 14, 83), (91, 15, 90), (96, 16, 95), (101, 17, 100), (108, 18, 107), (113, 19, 112)]
def adrT : List Nat := [51, 50, 44] ++ fnT.map (fun q => q.1) ++ fnT.map (fun q => q.2.2)
/-- what the top leaves, as far as the law reads it -/
structure TopOk (p : Params) (K : Frag) : Prop where
  obs : (37 :: 115 :: adr3).map (fun a => K.lookup a) = (37 :: 115 :: adr3).map fun a => some (ob p a)
  some_ : adrT.all (fun a => (K.lookup a).isSome) = true
  fns : fnT.map (fun q => (obK K q.1).data) = fnT.map fun q => .func (docDef (dName (stAt q.2.1)) (dParams (stAt q.2.1)) (dBody (stAt q.2.1)) (dScope (stAt q.2.1)) (pmO (obK K q.1)) (.ref q.2.2) (docO (obK K q.1)))
  quals : fnT.map (fun q => qualV (obK K q.2.2)) = fnT.map fun q => some (dName (stAt q.2.1))
  red : (obK K 51).data = .func { docDef (dName (stAt 7)) (dParams (stAt 7)) (dBody (stAt 7)) (dScope (stAt 7)) (pmO (obK K 51)) (.ref 50) (docO (obK K 51)) with defaults := .ref 44 }
  redq : qualV (obK K 50) = some (dName (stAt 7))
  tup : (obK K 44).data = .seq #[.ref 43] 0
theorem topOk_for {p : Params} {K : Frag} {h : Heap} (_ : K.In h) (x : TopOk p K) : TopOk p K := x
section
variable {p : Params} {K : Frag} {h : Heap}
theorem TopOk.at_ (H : TopOk p K) (X : K.In h) {a : Nat} (ha : a ∈ 37 :: 115 :: adr3) : h.get? a = some (ob p a) := X a _ (List.map_inj_left.mp H.obs a ha)
theorem TopOk.in_ (H : TopOk p K) (X : K.In h) : (K3 p).In h := by
  have e : K3 p = adr3.map fun a => (a, ob p a) := rfl
  have key : ∀ (l : List Nat) a o, (l.map fun a => (a, ob p a)).lookup a = some o → a ∈ l ∧ o = ob p a := by
    intro l a o
    induction l with
    | nil => intro q; simp at q
    | cons b l ih =>
      intro q
      rw [List.map_cons, List.lookup_cons] at q
      by_cases hab : a = b
      · subst hab
        rw [beq_self_eq_true] at q
        cases q
        exact ⟨.head _, rfl⟩
      · rw [beq_eq_false_iff_ne.mpr hab] at q
        exact ⟨.tail _ (ih q).1, (ih q).2⟩
  intro a o ho
  obtain ⟨h1, h2⟩ := key _ _ _ (e ▸ ho)
  rw [h2]
  exact H.at_ X (.tail _ (.tail _ h1))
theorem TopOk.base_at (H : TopOk p K) (X : K.In h) {a : Nat} (ha : a ∈ adrT) (h1 : a ≠ 37) (h2 : a ≠ 115) : (base2 h).get? a = some (obK K a) :=
  (base2_get h1 h2).trans (obK_at X (List.all_eq_true.mp H.some_ a ha))
theorem TopOk.fnAt (H : TopOk p K) (X : K.In h) {q : Nat × Nat × Nat} (hq : q ∈ fnT) : FnAt (base2 h) q.1 (stAt q.2.1) := by
  have hn : fnT.all (fun q => q.1 != 37 && q.1 != 115 && q.2.2 != 37 && q.2.2 != 115) = true := by decide
  have h1 := List.all_eq_true.mp hn q hq
  simp only [Bool.and_eq_true, bne_iff_ne, ne_eq] at h1
  exact ⟨obK K q.1, pmO (obK K q.1), q.2.2, docO (obK K q.1), H.base_at X (List.mem_append_left _ (List.mem_append_right _ (List.mem_map_of_mem hq))) h1.1.1.1 h1.1.1.2,
    List.map_inj_left.mp H.fns q hq, qualV_some (H.base_at X (List.mem_append_right _ (List.mem_map_of_mem hq)) h1.1.2 h1.2) (List.map_inj_left.mp H.quals q hq)⟩
end
theorem mg_none (p : Params) : noneList.all (fun x => (nsFind (entsOf (ob p 3)) x).isNone) = true := by kernel_rfl
def refIs (v : Option Value) (a : Addr) : Bool := match v with | some (.ref b) => Nat.beq b a | _ => false
theorem refIs_eq {v : Option Value} {a : Addr} (h : refIs v a = true) : v = some (.ref a) := by
  unfold refIs at h
  split at h
  · rw [Nat.eq_of_beq_eq_true h]
  · cases h
theorem mg_fns (p : Params) : fnList.all (fun q => refIs (nsFind (entsOf (ob p 3)) q.1) q.2.1) = true := by kernel_rfl
theorem fn_list : fnList.all (fun q => fnT.any fun r => r.1 == q.2.1 && r.2.1 == q.2.2) = true := by decide
theorem topf_base {pr : Program} {loose : List Str} {mean : ExcName → Option Value} {mg mb : Str → Option Value} {p : Params} {h : Heap} {K : Frag} (T : Top pr loose mean mg mb h) (H : TopOk p K) (X : K.In h) : TopF mg mb (base2 h) where
  g := T.g.at' fun o e => (base2_get (by decide) (by decide)).trans e
  b := T.b.at' fun o e => (base2_get (by decide) (by decide)).trans e
  nolimit := by
    obtain ⟨mc, hns', hnone⟩ := T.nolimit
    exact ⟨mc, hns'.at' fun o e => (base2_get (by decide) (by decide)).trans e, hnone⟩
  builtins := T.builtins
  none_ := fun x hx => by
    rw [mg_eq (p := p) T.g (H.at_ X (by decide))]
    simpa using List.all_eq_true.mp (mg_none p) x hx
  fns := fun q hq => by
    refine ⟨?_, ?_⟩
    · rw [mg_eq (p := p) T.g (H.at_ X (by decide))]
      exact refIs_eq (List.all_eq_true.mp (mg_fns p) q hq)
    · obtain ⟨r, hr, hr2⟩ := List.any_eq_true.mp (List.all_eq_true.mp fn_list q hq)
      simp only [Bool.and_eq_true, beq_iff_eq] at hr2
      rw [← hr2.1, ← hr2.2]
      exact H.fnAt X hr
theorem redf_base {p : Params} {mg : Str → Option Value} {h : Heap} {K : Frag} (hg : h.Ns mainGlobals mg) (H : TopOk p K) (X : K.In h) : RedF mg (base2 h) where
  fn := ⟨obK K 51, pmO (obK K 51), 50, docO (obK K 51), H.base_at X (by decide) (by decide) (by decide), H.red, qualV_some (H.base_at X (by decide) (by decide) (by decide)) H.redq⟩
  tup := ⟨obK K 44, 0, H.base_at X (by decide) (by decide) (by decide), H.tup⟩
  nm := by rw [mg_eq (p := p) hg (H.at_ X (by decide))]; kernel_rfl
  red := by rw [mg_eq (p := p) hg (H.at_ X (by decide))]; kernel_rfl
theorem mg_cmp {p : Params} {mg : Str → Option Value} {h : Heap} {K : Frag} (hg : h.Ns mainGlobals mg) (H : TopOk p K) (X : K.In h) : mg (Str.ofString "cmp_to_key") = some (.ref 42) ∧ mg (Str.ofString "__builtins__") = some (.ref 4) := by
  constructor
  · rw [mg_eq (p := p) hg (H.at_ X (by decide))]; kernel_rfl
  · rw [mg_eq (p := p) hg (H.at_ X (by decide))]; kernel_rfl
theorem law_end {c : ClaimW} {cl : Str → Option Addr} {mean : ExcName → Option Value} {args : List WData} {s s' : Shared} (hr : ∀ cls, c.raises args cls = false) (hp : c.post args (.bool true) args = true) (hg : s.gens = #[]) (O : OldK s.heap s'.heap) (g : GExt s s') : GoodWG c cl mean args s (.ok (.ret (.bool true))) s' :=
  ⟨.inl ⟨_, _, [], rfl, hr, ReadsW.bool true, hp, fun _ => ⟨List.nodup_nil, fun _ hm => (nomatch hm)⟩⟩, O, g.os, g.bare fun x hx => by rw [hg] at hx; simp at hx⟩
end
section
open PySem PySem.W PyProof.Rows PySem.Calls PySem.Spec PySem.W.X PySem.W.ZRun
set_option maxRecDepth 100000
set_option maxHeartbeats 0
/-- the given program with each text constant written as its code points -/
noncomputable def P1 : Program := by
  refine' (?f : (p : Program) → PySem.Challenge.pw_oc0053_01 = p → Program) _ _
  case f => exact fun p _ => p
  rotate_left
  · delta PySem.Challenge.pw_oc0053_01
    simp only [show Str.ofString "" = Str.mk (Array.mk []) from rfl,
    show Str.ofString "(" = Str.mk (Array.mk [nat_lit 40]) from rfl,
    show Str.ofString ")" = Str.mk (Array.mk [nat_lit 41]) from rfl,
    show Str.ofString ".0" = Str.mk (Array.mk [nat_lit 46, nat_lit 48]) from rfl,
    show Str.ofString "/claim/cut.py" = Str.mk (Array.mk [nat_lit 47, nat_lit 99, nat_lit 108, nat_lit 97, nat_lit 105, nat_lit 109, nat_lit 47, nat_lit 99, nat_lit 117, nat_lit 116, nat_lit 46, nat_lit 112, nat_lit 121]) from rfl,
    show Str.ofString "K" = Str.mk (Array.mk [nat_lit 75]) from rfl,
    show Str.ofString "StopIteration" = Str.mk (Array.mk [nat_lit 83, nat_lit 116, nat_lit 111, nat_lit 112, nat_lit 73, nat_lit 116, nat_lit 101, nat_lit 114, nat_lit 97, nat_lit 116, nat_lit 105, nat_lit 111, nat_lit 110]) from rfl,
    show Str.ofString "TypeError" = Str.mk (Array.mk [nat_lit 84, nat_lit 121, nat_lit 112, nat_lit 101, nat_lit 69, nat_lit 114, nat_lit 114, nat_lit 111, nat_lit 114]) from rfl,
    show Str.ofString "ValueError" = Str.mk (Array.mk [nat_lit 86, nat_lit 97, nat_lit 108, nat_lit 117, nat_lit 101, nat_lit 69, nat_lit 114, nat_lit 114, nat_lit 111, nat_lit 114]) from rfl,
    show Str.ofString "\"" = Str.mk (Array.mk [nat_lit 34]) from rfl,
    show Str.ofString "\"(\"" = Str.mk (Array.mk [nat_lit 34, nat_lit 40, nat_lit 34]) from rfl,
    show Str.ofString "\")\"" = Str.mk (Array.mk [nat_lit 34, nat_lit 41, nat_lit 34]) from rfl,
    show Str.ofString "\\" = Str.mk (Array.mk [nat_lit 92]) from rfl,
    show Str.ofString "\\(" = Str.mk (Array.mk [nat_lit 92, nat_lit 40]) from rfl,
    show Str.ofString "\\\\" = Str.mk (Array.mk [nat_lit 92, nat_lit 92]) from rfl,
    show Str.ofString "__eq__" = Str.mk (Array.mk [nat_lit 95, nat_lit 95, nat_lit 101, nat_lit 113, nat_lit 95, nat_lit 95]) from rfl,
    show Str.ofString "__ge__" = Str.mk (Array.mk [nat_lit 95, nat_lit 95, nat_lit 103, nat_lit 101, nat_lit 95, nat_lit 95]) from rfl,
    show Str.ofString "__gt__" = Str.mk (Array.mk [nat_lit 95, nat_lit 95, nat_lit 103, nat_lit 116, nat_lit 95, nat_lit 95]) from rfl,
    show Str.ofString "__hash__" = Str.mk (Array.mk [nat_lit 95, nat_lit 95, nat_lit 104, nat_lit 97, nat_lit 115, nat_lit 104, nat_lit 95, nat_lit 95]) from rfl,
    show Str.ofString "__init__" = Str.mk (Array.mk [nat_lit 95, nat_lit 95, nat_lit 105, nat_lit 110, nat_lit 105, nat_lit 116, nat_lit 95, nat_lit 95]) from rfl,
    show Str.ofString "__le__" = Str.mk (Array.mk [nat_lit 95, nat_lit 95, nat_lit 108, nat_lit 101, nat_lit 95, nat_lit 95]) from rfl,
    show Str.ofString "__lt__" = Str.mk (Array.mk [nat_lit 95, nat_lit 95, nat_lit 108, nat_lit 116, nat_lit 95, nat_lit 95]) from rfl,
    show Str.ofString "__module__" = Str.mk (Array.mk [nat_lit 95, nat_lit 95, nat_lit 109, nat_lit 111, nat_lit 100, nat_lit 117, nat_lit 108, nat_lit 101, nat_lit 95, nat_lit 95]) from rfl,
    show Str.ofString "__name__" = Str.mk (Array.mk [nat_lit 95, nat_lit 95, nat_lit 110, nat_lit 97, nat_lit 109, nat_lit 101, nat_lit 95, nat_lit 95]) from rfl,
    show Str.ofString "__slots__" = Str.mk (Array.mk [nat_lit 95, nat_lit 95, nat_lit 115, nat_lit 108, nat_lit 111, nat_lit 116, nat_lit 115, nat_lit 95, nat_lit 95]) from rfl,
    show Str.ofString "_check_parenthesis" = Str.mk (Array.mk [nat_lit 95, nat_lit 99, nat_lit 104, nat_lit 101, nat_lit 99, nat_lit 107, nat_lit 95, nat_lit 112, nat_lit 97, nat_lit 114, nat_lit 101, nat_lit 110, nat_lit 116, nat_lit 104, nat_lit 101, nat_lit 115, nat_lit 105, nat_lit 115]) from rfl,
    show Str.ofString "_initial_missing" = Str.mk (Array.mk [nat_lit 95, nat_lit 105, nat_lit 110, nat_lit 105, nat_lit 116, nat_lit 105, nat_lit 97, nat_lit 108, nat_lit 95, nat_lit 109, nat_lit 105, nat_lit 115, nat_lit 115, nat_lit 105, nat_lit 110, nat_lit 103]) from rfl,
    show Str.ofString "_iter_escaped_chars" = Str.mk (Array.mk [nat_lit 95, nat_lit 105, nat_lit 116, nat_lit 101, nat_lit 114, nat_lit 95, nat_lit 101, nat_lit 115, nat_lit 99, nat_lit 97, nat_lit 112, nat_lit 101, nat_lit 100, nat_lit 95, nat_lit 99, nat_lit 104, nat_lit 97, nat_lit 114, nat_lit 115]) from rfl,
    show Str.ofString "_law_closed" = Str.mk (Array.mk [nat_lit 95, nat_lit 108, nat_lit 97, nat_lit 119, nat_lit 95, nat_lit 99, nat_lit 108, nat_lit 111, nat_lit 115, nat_lit 101, nat_lit 100]) from rfl,
    show Str.ofString "_law_form" = Str.mk (Array.mk [nat_lit 95, nat_lit 108, nat_lit 97, nat_lit 119, nat_lit 95, nat_lit 102, nat_lit 111, nat_lit 114, nat_lit 109]) from rfl,
    show Str.ofString "_law_key" = Str.mk (Array.mk [nat_lit 95, nat_lit 108, nat_lit 97, nat_lit 119, nat_lit 95, nat_lit 107, nat_lit 101, nat_lit 121]) from rfl,
    show Str.ofString "_law_melted" = Str.mk (Array.mk [nat_lit 95, nat_lit 108, nat_lit 97, nat_lit 119, nat_lit 95, nat_lit 109, nat_lit 101, nat_lit 108, nat_lit 116, nat_lit 101, nat_lit 100]) from rfl,
    show Str.ofString "_law_orders" = Str.mk (Array.mk [nat_lit 95, nat_lit 108, nat_lit 97, nat_lit 119, nat_lit 95, nat_lit 111, nat_lit 114, nat_lit 100, nat_lit 101, nat_lit 114, nat_lit 115]) from rfl,
    show Str.ofString "_law_piece" = Str.mk (Array.mk [nat_lit 95, nat_lit 108, nat_lit 97, nat_lit 119, nat_lit 95, nat_lit 112, nat_lit 105, nat_lit 101, nat_lit 99, nat_lit 101]) from rfl,
    show Str.ofString "_law_text" = Str.mk (Array.mk [nat_lit 95, nat_lit 108, nat_lit 97, nat_lit 119, nat_lit 95, nat_lit 116, nat_lit 101, nat_lit 120, nat_lit 116]) from rfl,
    show Str.ofString "_law_turned" = Str.mk (Array.mk [nat_lit 95, nat_lit 108, nat_lit 97, nat_lit 119, nat_lit 95, nat_lit 116, nat_lit 117, nat_lit 114, nat_lit 110, nat_lit 101, nat_lit 100]) from rfl,
    show Str.ofString "_strip_quoted_realnames" = Str.mk (Array.mk [nat_lit 95, nat_lit 115, nat_lit 116, nat_lit 114, nat_lit 105, nat_lit 112, nat_lit 95, nat_lit 113, nat_lit 117, nat_lit 111, nat_lit 116, nat_lit 101, nat_lit 100, nat_lit 95, nat_lit 114, nat_lit 101, nat_lit 97, nat_lit 108, nat_lit 110, nat_lit 97, nat_lit 109, nat_lit 101, nat_lit 115]) from rfl,
    show Str.ofString "a" = Str.mk (Array.mk [nat_lit 97]) from rfl,
    show Str.ofString "actual" = Str.mk (Array.mk [nat_lit 97, nat_lit 99, nat_lit 116, nat_lit 117, nat_lit 97, nat_lit 108]) from rfl,
    show Str.ofString "addr" = Str.mk (Array.mk [nat_lit 97, nat_lit 100, nat_lit 100, nat_lit 114]) from rfl,
    show Str.ofString "append" = Str.mk (Array.mk [nat_lit 97, nat_lit 112, nat_lit 112, nat_lit 101, nat_lit 110, nat_lit 100]) from rfl,
    show Str.ofString "ch" = Str.mk (Array.mk [nat_lit 99, nat_lit 104]) from rfl,
    show Str.ofString "closes" = Str.mk (Array.mk [nat_lit 99, nat_lit 108, nat_lit 111, nat_lit 115, nat_lit 101, nat_lit 115]) from rfl,
    show Str.ofString "cmp_to_key" = Str.mk (Array.mk [nat_lit 99, nat_lit 109, nat_lit 112, nat_lit 95, nat_lit 116, nat_lit 111, nat_lit 95, nat_lit 107, nat_lit 101, nat_lit 121]) from rfl,
    show Str.ofString "cpy313.email.utils" = Str.mk (Array.mk [nat_lit 99, nat_lit 112, nat_lit 121, nat_lit 51, nat_lit 49, nat_lit 51, nat_lit 46, nat_lit 101, nat_lit 109, nat_lit 97, nat_lit 105, nat_lit 108, nat_lit 46, nat_lit 117, nat_lit 116, nat_lit 105, nat_lit 108, nat_lit 115]) from rfl,
    show Str.ofString "cpy313.functools" = Str.mk (Array.mk [nat_lit 99, nat_lit 112, nat_lit 121, nat_lit 51, nat_lit 49, nat_lit 51, nat_lit 46, nat_lit 102, nat_lit 117, nat_lit 110, nat_lit 99, nat_lit 116, nat_lit 111, nat_lit 111, nat_lit 108, nat_lit 115]) from rfl,
    show Str.ofString "cpy313.unittest.util" = Str.mk (Array.mk [nat_lit 99, nat_lit 112, nat_lit 121, nat_lit 51, nat_lit 49, nat_lit 51, nat_lit 46, nat_lit 117, nat_lit 110, nat_lit 105, nat_lit 116, nat_lit 116, nat_lit 101, nat_lit 115, nat_lit 116, nat_lit 46, nat_lit 117, nat_lit 116, nat_lit 105, nat_lit 108]) from rfl,
    show Str.ofString "depth" = Str.mk (Array.mk [nat_lit 100, nat_lit 101, nat_lit 112, nat_lit 116, nat_lit 104]) from rfl,
    show Str.ofString "drawn" = Str.mk (Array.mk [nat_lit 100, nat_lit 114, nat_lit 97, nat_lit 119, nat_lit 110]) from rfl,
    show Str.ofString "due" = Str.mk (Array.mk [nat_lit 100, nat_lit 117, nat_lit 101]) from rfl,
    show Str.ofString "element" = Str.mk (Array.mk [nat_lit 101, nat_lit 108, nat_lit 101, nat_lit 109, nat_lit 101, nat_lit 110, nat_lit 116]) from rfl,
    show Str.ofString "enumerate" = Str.mk (Array.mk [nat_lit 101, nat_lit 110, nat_lit 117, nat_lit 109, nat_lit 101, nat_lit 114, nat_lit 97, nat_lit 116, nat_lit 101]) from rfl,
    show Str.ofString "escape" = Str.mk (Array.mk [nat_lit 101, nat_lit 115, nat_lit 99, nat_lit 97, nat_lit 112, nat_lit 101]) from rfl,
    show Str.ofString "expected" = Str.mk (Array.mk [nat_lit 101, nat_lit 120, nat_lit 112, nat_lit 101, nat_lit 99, nat_lit 116, nat_lit 101, nat_lit 100]) from rfl,
    show Str.ofString "fast" = Str.mk (Array.mk [nat_lit 102, nat_lit 97, nat_lit 115, nat_lit 116]) from rfl,
    show Str.ofString "form" = Str.mk (Array.mk [nat_lit 102, nat_lit 111, nat_lit 114, nat_lit 109]) from rfl,
    show Str.ofString "forms" = Str.mk (Array.mk [nat_lit 102, nat_lit 111, nat_lit 114, nat_lit 109, nat_lit 115]) from rfl,
    show Str.ofString "function" = Str.mk (Array.mk [nat_lit 102, nat_lit 117, nat_lit 110, nat_lit 99, nat_lit 116, nat_lit 105, nat_lit 111, nat_lit 110]) from rfl,
    show Str.ofString "initial" = Str.mk (Array.mk [nat_lit 105, nat_lit 110, nat_lit 105, nat_lit 116, nat_lit 105, nat_lit 97, nat_lit 108]) from rfl,
    show Str.ofString "it" = Str.mk (Array.mk [nat_lit 105, nat_lit 116]) from rfl,
    show Str.ofString "item" = Str.mk (Array.mk [nat_lit 105, nat_lit 116, nat_lit 101, nat_lit 109]) from rfl,
    show Str.ofString "iter" = Str.mk (Array.mk [nat_lit 105, nat_lit 116, nat_lit 101, nat_lit 114]) from rfl,
    show Str.ofString "j" = Str.mk (Array.mk [nat_lit 106]) from rfl,
    show Str.ofString "join" = Str.mk (Array.mk [nat_lit 106, nat_lit 111, nat_lit 105, nat_lit 110]) from rfl,
    show Str.ofString "k" = Str.mk (Array.mk [nat_lit 107]) from rfl,
    show Str.ofString "key" = Str.mk (Array.mk [nat_lit 107, nat_lit 101, nat_lit 121]) from rfl,
    show Str.ofString "law" = Str.mk (Array.mk [nat_lit 108, nat_lit 97, nat_lit 119]) from rfl,
    show Str.ofString "law_oc0053_01" = Str.mk (Array.mk [nat_lit 108, nat_lit 97, nat_lit 119, nat_lit 95, nat_lit 111, nat_lit 99, nat_lit 48, nat_lit 48, nat_lit 53, nat_lit 51, nat_lit 95, nat_lit 48, nat_lit 49]) from rfl,
    show Str.ofString "leaves" = Str.mk (Array.mk [nat_lit 108, nat_lit 101, nat_lit 97, nat_lit 118, nat_lit 101, nat_lit 115]) from rfl,
    show Str.ofString "len" = Str.mk (Array.mk [nat_lit 108, nat_lit 101, nat_lit 110]) from rfl,
    show Str.ofString "list" = Str.mk (Array.mk [nat_lit 108, nat_lit 105, nat_lit 115, nat_lit 116]) from rfl,
    show Str.ofString "max" = Str.mk (Array.mk [nat_lit 109, nat_lit 97, nat_lit 120]) from rfl,
    show Str.ofString "missing" = Str.mk (Array.mk [nat_lit 109, nat_lit 105, nat_lit 115, nat_lit 115, nat_lit 105, nat_lit 110, nat_lit 103]) from rfl,
    show Str.ofString "mycmp" = Str.mk (Array.mk [nat_lit 109, nat_lit 121, nat_lit 99, nat_lit 109, nat_lit 112]) from rfl,
    show Str.ofString "next" = Str.mk (Array.mk [nat_lit 110, nat_lit 101, nat_lit 120, nat_lit 116]) from rfl,
    show Str.ofString "obj" = Str.mk (Array.mk [nat_lit 111, nat_lit 98, nat_lit 106]) from rfl,
    show Str.ofString "object" = Str.mk (Array.mk [nat_lit 111, nat_lit 98, nat_lit 106, nat_lit 101, nat_lit 99, nat_lit 116]) from rfl,
    show Str.ofString "one" = Str.mk (Array.mk [nat_lit 111, nat_lit 110, nat_lit 101]) from rfl,
    show Str.ofString "open_pos" = Str.mk (Array.mk [nat_lit 111, nat_lit 112, nat_lit 101, nat_lit 110, nat_lit 95, nat_lit 112, nat_lit 111, nat_lit 115]) from rfl,
    show Str.ofString "opens" = Str.mk (Array.mk [nat_lit 111, nat_lit 112, nat_lit 101, nat_lit 110, nat_lit 115]) from rfl,
    show Str.ofString "order" = Str.mk (Array.mk [nat_lit 111, nat_lit 114, nat_lit 100, nat_lit 101, nat_lit 114]) from rfl,
    show Str.ofString "orders" = Str.mk (Array.mk [nat_lit 111, nat_lit 114, nat_lit 100, nat_lit 101, nat_lit 114, nat_lit 115]) from rfl,
    show Str.ofString "other" = Str.mk (Array.mk [nat_lit 111, nat_lit 116, nat_lit 104, nat_lit 101, nat_lit 114]) from rfl,
    show Str.ofString "pieces" = Str.mk (Array.mk [nat_lit 112, nat_lit 105, nat_lit 101, nat_lit 99, nat_lit 101, nat_lit 115]) from rfl,
    show Str.ofString "places" = Str.mk (Array.mk [nat_lit 112, nat_lit 108, nat_lit 97, nat_lit 99, nat_lit 101, nat_lit 115]) from rfl,
    show Str.ofString "pop" = Str.mk (Array.mk [nat_lit 112, nat_lit 111, nat_lit 112]) from rfl,
    show Str.ofString "pos" = Str.mk (Array.mk [nat_lit 112, nat_lit 111, nat_lit 115]) from rfl,
    show Str.ofString "range" = Str.mk (Array.mk [nat_lit 114, nat_lit 97, nat_lit 110, nat_lit 103, nat_lit 101]) from rfl,
    show Str.ofString "reduce" = Str.mk (Array.mk [nat_lit 114, nat_lit 101, nat_lit 100, nat_lit 117, nat_lit 99, nat_lit 101]) from rfl,
    show Str.ofString "reduce() of empty iterable with no initial value" = Str.mk (Array.mk [nat_lit 114, nat_lit 101, nat_lit 100, nat_lit 117, nat_lit 99, nat_lit 101, nat_lit 40, nat_lit 41, nat_lit 32, nat_lit 111, nat_lit 102, nat_lit 32, nat_lit 101, nat_lit 109, nat_lit 112, nat_lit 116, nat_lit 121, nat_lit 32, nat_lit 105, nat_lit 116, nat_lit 101, nat_lit 114, nat_lit 97, nat_lit 98, nat_lit 108, nat_lit 101, nat_lit 32, nat_lit 119, nat_lit 105, nat_lit 116, nat_lit 104, nat_lit 32, nat_lit 110, nat_lit 111, nat_lit 32, nat_lit 105, nat_lit 110, nat_lit 105, nat_lit 116, nat_lit 105, nat_lit 97, nat_lit 108, nat_lit 32, nat_lit 118, nat_lit 97, nat_lit 108, nat_lit 117, nat_lit 101]) from rfl,
    show Str.ofString "remove" = Str.mk (Array.mk [nat_lit 114, nat_lit 101, nat_lit 109, nat_lit 111, nat_lit 118, nat_lit 101]) from rfl,
    show Str.ofString "result" = Str.mk (Array.mk [nat_lit 114, nat_lit 101, nat_lit 115, nat_lit 117, nat_lit 108, nat_lit 116]) from rfl,
    show Str.ofString "script" = Str.mk (Array.mk [nat_lit 115, nat_lit 99, nat_lit 114, nat_lit 105, nat_lit 112, nat_lit 116]) from rfl,
    show Str.ofString "self" = Str.mk (Array.mk [nat_lit 115, nat_lit 101, nat_lit 108, nat_lit 102]) from rfl,
    show Str.ofString "sequence" = Str.mk (Array.mk [nat_lit 115, nat_lit 101, nat_lit 113, nat_lit 117, nat_lit 101, nat_lit 110, nat_lit 99, nat_lit 101]) from rfl,
    show Str.ofString "sorted" = Str.mk (Array.mk [nat_lit 115, nat_lit 111, nat_lit 114, nat_lit 116, nat_lit 101, nat_lit 100]) from rfl,
    show Str.ofString "start" = Str.mk (Array.mk [nat_lit 115, nat_lit 116, nat_lit 97, nat_lit 114, nat_lit 116]) from rfl,
    show Str.ofString "sum" = Str.mk (Array.mk [nat_lit 115, nat_lit 117, nat_lit 109]) from rfl,
    show Str.ofString "three_way_cmp" = Str.mk (Array.mk [nat_lit 116, nat_lit 104, nat_lit 114, nat_lit 101, nat_lit 101, nat_lit 95, nat_lit 119, nat_lit 97, nat_lit 121, nat_lit 95, nat_lit 99, nat_lit 109, nat_lit 112]) from rfl,
    show Str.ofString "turned" = Str.mk (Array.mk [nat_lit 116, nat_lit 117, nat_lit 114, nat_lit 110, nat_lit 101, nat_lit 100]) from rfl,
    show Str.ofString "two" = Str.mk (Array.mk [nat_lit 116, nat_lit 119, nat_lit 111]) from rfl,
    show Str.ofString "unit" = Str.mk (Array.mk [nat_lit 117, nat_lit 110, nat_lit 105, nat_lit 116]) from rfl,
    show Str.ofString "units" = Str.mk (Array.mk [nat_lit 117, nat_lit 110, nat_lit 105, nat_lit 116, nat_lit 115]) from rfl,
    show Str.ofString "unorderable_list_difference" = Str.mk (Array.mk [nat_lit 117, nat_lit 110, nat_lit 111, nat_lit 114, nat_lit 100, nat_lit 101, nat_lit 114, nat_lit 97, nat_lit 98, nat_lit 108, nat_lit 101, nat_lit 95, nat_lit 108, nat_lit 105, nat_lit 115, nat_lit 116, nat_lit 95, nat_lit 100, nat_lit 105, nat_lit 102, nat_lit 102, nat_lit 101, nat_lit 114, nat_lit 101, nat_lit 110, nat_lit 99, nat_lit 101]) from rfl,
    show Str.ofString "value" = Str.mk (Array.mk [nat_lit 118, nat_lit 97, nat_lit 108, nat_lit 117, nat_lit 101]) from rfl,
    show Str.ofString "x" = Str.mk (Array.mk [nat_lit 120]) from rfl,
    show Str.ofString "y" = Str.mk (Array.mk [nat_lit 121]) from rfl]
    exact rfl
theorem P1_eq : P0 = P1 := by rfl
/-- the given law over that program -/
theorem law_eq : PySem.Challenge.rw_oc0053_01 = { prog := P1, name := Str.mk (Array.mk [nat_lit 108, nat_lit 97, nat_lit 119]), about := [Str.mk (Array.mk [nat_lit 95, nat_lit 99, nat_lit 104, nat_lit 101, nat_lit 99, nat_lit 107, nat_lit 95, nat_lit 112, nat_lit 97, nat_lit 114, nat_lit 101, nat_lit 110, nat_lit 116, nat_lit 104, nat_lit 101, nat_lit 115, nat_lit 105, nat_lit 115])], foot := 9, most := some 63, bound := none, writes := false } := by kernel_rfl
theorem law_P1 {w : World} {A : Around} {E : Value → Shared → Prop} {Q : Value → Shared → Prop} {s : Shared} {f : Value} {args : List Value} (h : wpAny (model P0 w) A (call f args) Q E s) : wpAny (model P1 w) A (call f args) Q E s := P1_eq ▸ h
end
end
end
end Mine
open PySem PySem.W PyProof.Rows PySem.Calls PySem.Spec PySem.W.X PySem.W.ZRun Mine
set_option maxRecDepth 100000 in
set_option maxHeartbeats 0 in
theorem PySem.Challenge.cw_oc0053_01_holds : PySem.Challenge.rw_oc0053_01.Holds := by
  rw [law_eq]
  w_on; o_law
  delta OpenLaw.row
  dsimp only
  delta Mine.P1
  z_head; (case hw => w_witness2)
  k_fill
  intro w s0 s1 mg mb G y fa o pm cd doc dV kV ho hd hcd hD hmg hg args vals as L hpre hlay hrd hwl hlo
  z_open y L KX ZH ZN ZT
  refine Ground.open G ?_
  intro T B D TE TW
  wrow_args hpre hlay hrd hwl hlo
  obtain ⟨hat, hsz⟩ := script_at L
  have htk := script_toks L ZT
  rw [ZN] at hat hsz
  subst hat
  x_fa T KX hmg
  all_lens
  clear hd hcd hD ho hmg
  rename IntsAre _ _ => hi
  rename Heap.IsList _ _ _ => hl
  rename ¬ _ < _ => hc
  have H := topOk_for (p := w.params) KX ⟨by kernel_rfl, by kernel_rfl, by kernel_rfl, by kernel_rfl, by kernel_rfl, by kernel_rfl, by kernel_rfl⟩
  have h63 := Int.not_lt.mp hc
  have hmm := mg_cmp T.g H KX
  show wpAny (model P1 w) callerA (call (.ref 118) [.ref 119]) _ _ _
  refine law_P1 ?_
  refine law_spec (mg := mg) (mb := mb) rfl (by decide) (by decide) rfl (H.in_ KX) (H.at_ KX (by decide)) (H.at_ KX (by decide)) (by rw [hsz]; decide) (topf_base T H KX) (redf_base T.g H KX) hmm.1 hmm.2 hl hi (by omega) fun s' O g => ?_
  refine law_end (fun _ => rfl) ?_ hg O g
  wrow_post

