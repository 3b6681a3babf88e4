import PyProof.Rows.All
import Wide.All
import OpenK.AllK
import Wide.FinOn
import PySem.Challenge.RW_ti0064_01
set_option Elab.async false
section
open PySem PySem.W PyProof.Rows
set_option maxRecDepth 100000
namespace Mine
abbrev pw := PySem.Challenge.pw_ti0064_01
def q : Program := view pw [1, 2, 3, 4, 6, 7, 9, 10, 11, 12, 13, 14, 16, 17, 18, 19, 20, 21, 22]
abbrev loose : List Str := ["b1_set", "b3_exceptions"]
end Mine
end
section
open PySem PySem.W PyProof.Rows
set_option maxRecDepth 100000
set_option Elab.async false
namespace Mine

/-- scalars -/
inductive Sc where
  | none | bool (b : Bool) | int (i : Int) | str (x : Str)
noncomputable def Sc.Is : Sc → Value → Prop
  | .none, v => v = .none
  | .bool b, v => v = .bool b
  | .int i, v => ∃ t, v = .int i t
  | .str x, v => ∃ t, v = .str x t
noncomputable def AllIs : List Sc → List Value → Prop
  | [], [] => True
  | a :: r, v :: vs => a.Is v ∧ AllIs r vs
  | _, _ => False
theorem AllIs.length : ∀ {xs : List Sc} {vs : List Value}, AllIs xs vs → vs.length = xs.length
  | [], [], _ => rfl
  | _ :: _, _ :: _, h => by simp [AllIs.length h.2]
  | [], _ :: _, h => h.elim
  | _ :: _, [], h => h.elim
theorem AllIs.append : ∀ {xs ys : List Sc} {vs us : List Value}, AllIs xs vs → AllIs ys us → AllIs (xs ++ ys) (vs ++ us)
  | [], _, [], _, _, h => h
  | _ :: _, _, _ :: _, _, h, k => ⟨h.1, AllIs.append h.2 k⟩
  | [], _, _ :: _, _, h, _ => h.elim
  | _ :: _, _, [], _, h, _ => h.elim
theorem AllIs.get : ∀ {xs : List Sc} {vs : List Value} {i : Nat} {a : Sc}, AllIs xs vs → xs[i]? = some a → ∃ v, vs[i]? = some v ∧ a.Is v
  | [], [], _, _, _, h => by simp at h
  | x :: xs, v :: vs, 0, a, h, e => by
    simp at e; subst e; exact ⟨v, by simp, h.1⟩
  | x :: xs, v :: vs, i + 1, a, h, e => by
    simp at e
    obtain ⟨u, h1, h2⟩ := AllIs.get h.2 e
    exact ⟨u, by simpa using h1, h2⟩
  | [], _ :: _, _, _, h, _ => h.elim
  | _ :: _, [], _, _, h, _ => h.elim
theorem AllIs.none : ∀ {xs : List Sc} {vs : List Value} {i : Nat}, AllIs xs vs → xs[i]? = Option.none → vs[i]? = Option.none := fun h e => by
  have := h.length
  rw [List.getElem?_eq_none_iff] at e ⊢
  omega
theorem AllIs.ints : ∀ {ns : List Int} {vs : List Value}, AllIs (ns.map .int) vs → IntsAre vs ns
  | [], [], _ => .nil
  | _ :: _, v :: vs, h => by
    obtain ⟨⟨t, rfl⟩, r⟩ := h
    exact .cons _ _ (AllIs.ints r)
  | [], _ :: _, h => h.elim
  | _ :: _, [], h => h.elim
theorem AllIs.ofInts : ∀ {ns : List Int} {vs : List Value}, IntsAre vs ns → AllIs (ns.map .int) vs
  | _, _, .nil => trivial
  | _, _, .cons _ _ r => ⟨⟨_, rfl⟩, AllIs.ofInts r⟩

/-- what a name may hold -/
inductive PV where
  | sc (a : Sc) | list (xs : List Sc) | tuple (xs : List Sc) | dict (kvs : List (Str × Sc)) | range (a b c : Int)

noncomputable def DVals : List (Str × Sc) → List (Str × Value) → Prop
  | [], [] => True
  | (k, a) :: r, (k', v) :: r' => k = k' ∧ a.Is v ∧ DVals r r'
  | _, _ => False

noncomputable def Rep (w : World) (h : Heap) : PV → Value → Prop
  | .sc a, v => a.Is v
  | .list xs, v => ∃ a vs, v = .ref a ∧ h.IsList a (List.toArray vs) ∧ AllIs xs vs
  | .tuple xs, v => ∃ a vs, v = .ref a ∧ IsTup h a (List.toArray vs) ∧ AllIs xs vs
  | .dict kvs, v => ∃ a vs, v = .ref a ∧ h.DictOf (PySem.strKind pw w) a vs ∧ DVals kvs vs ∧ a ≠ sysModules
  | .range a b c, v => ∃ r t u x, v = .ref r ∧ IsRange h r a b c t u x

/-- old objects stand as they stood -/
structure GrowX (L : Addr) (h h' : Heap) : Prop where
  keep : ∀ b o, h.get? b = some o → h'.get? b = some o
theorem GrowX.ns {L : Addr} {h h' : Heap} (G : GrowX L h h') {a : Addr} (m : Str → Option Value) (e : h.Ns a m) : h'.Ns a m := e.keeps G.keep
theorem GrowX.refl (L : Addr) (h : Heap) : GrowX L h h := ⟨fun _ _ e => e⟩
theorem GrowX.trans {L : Addr} {h h' h'' : Heap} (a : GrowX L h h') (b : GrowX L h' h'') : GrowX L h h'' := ⟨fun x o e => b.keep x o (a.keep x o e)⟩
theorem GrowX.of {L : Addr} {h h' : Heap} (k : ∀ b o, h.get? b = some o → h'.get? b = some o) : GrowX L h h' := ⟨k⟩
theorem GrowX.push {L : Addr} {h : Heap} (o : Obj) : GrowX L h (h.push o) := .of fun _ _ e => Heap.get?_push_of_some _ e

theorem ns_dict {h : Heap} {a : Addr} {m : Str → Option Value} {o : Obj} (hn : h.Ns a m) (ho : h.get? a = some o) : ∃ es n, o.data = .dict es n := by
  obtain ⟨o', es, ep, h1, h2, _⟩ := hn
  rw [ho] at h1; cases h1
  exact ⟨es, ep, h2⟩

theorem dictOf_keep {w : World} {h h' : Heap} {a : Addr} {kvs : List (Str × Value)} (hd : h.DictOf (PySem.strKind pw w) a kvs) (k : ∀ o, h.get? a = some o → h'.get? a = some o) : h'.DictOf (PySem.strKind pw w) a kvs := by
  obtain ⟨o, es, ep, h1, h2⟩ := hd
  exact ⟨o, es, ep, k o h1, h2⟩
theorem isTup_keep {h h' : Heap} {a : Addr} {l : Array Value} (x : IsTup h a l) (k : ∀ o, h.get? a = some o → h'.get? a = some o) : IsTup h' a l := by
  obtain ⟨o, h1, h2⟩ := x
  exact ⟨o, k o h1, h2⟩
theorem isList_keep {h h' : Heap} {a : Addr} {l : Array Value} (x : h.IsList a l) (k : ∀ o, h.get? a = some o → h'.get? a = some o) : h'.IsList a l := by
  obtain ⟨o, h1, h2⟩ := x
  exact ⟨o, k o h1, h2⟩
theorem Rep.grow {w : World} {L : Addr} {h h' : Heap} (G : GrowX L h h') : ∀ {pv : PV} {v : Value}, Rep w h pv v → v ≠ .ref L → Rep w h' pv v
  | .sc _, _, r, _ => r
  | .list _, _, ⟨a, vs, e, ho, r⟩, _ => ⟨a, vs, e, isList_keep ho (G.keep _), r⟩
  | .tuple _, _, ⟨a, vs, e, ho, r⟩, _ => ⟨a, vs, e, isTup_keep ho (G.keep _), r⟩
  | .dict _, _, ⟨a, vs, e, hd, r, l⟩, _ => ⟨a, vs, e, dictOf_keep hd (G.keep _), r, l⟩
  | .range _ _ _, _, ⟨a, t, u, x, e, ho⟩, _ => ⟨a, t, u, x, e, G.keep _ _ ho⟩

noncomputable def VarIs (env : Env) (h : Heap) (x : Str) (v : Value) : Prop :=
  (env.kindOf x = some .local ∧ ∃ m, h.Ns env.locals m ∧ m x = some v) ∨
  ((env.kindOf x = some .cell ∨ env.kindOf x = some .free) ∧ ∃ c, env.cells.lookup x = some c ∧ h.IsCell c (some v))
theorem VarIs.grow {env : Env} {h h' : Heap} {x : Str} {v : Value} (G : GrowX env.locals h h') (V : VarIs env h x v) : VarIs env h' x v := by
  rcases V with ⟨a, m, b, c⟩ | ⟨a, c, b, o, d, e⟩
  · exact .inl ⟨a, m, G.ns m b, c⟩
  · exact .inr ⟨a, c, b, o, G.keep _ _ d, e⟩

structure Inv (w : World) (g : Heap) (sc : Scope) (env : Env) (h : Heap) (ρ : List (Str × PV)) : Prop where
  scp : env.scope = sc
  kind : sc.kind = .function
  glob : env.globals = mainGlobals
  blt : env.builtins = builtinsNs
  keep : ∀ b o, g.get? b = some o → h.get? b = some o
  off : g.get? env.locals = none
  ns : ∃ m, h.Ns env.locals m
  vars : ∀ x pv, ρ.lookup x = some pv → ∃ v, VarIs env h x v ∧ Rep w h pv v ∧ v ≠ .ref env.locals
theorem Inv.grow {w : World} {g : Heap} {sc : Scope} {env : Env} {h h' : Heap} {ρ : List (Str × PV)} (I : Inv w g sc env h ρ) (G : GrowX env.locals h h') : Inv w g sc env h' ρ :=
  ⟨I.scp, I.kind, I.glob, I.blt, fun b o e => G.keep b o (I.keep b o e), I.off, I.ns.imp fun m e => G.ns m e, fun x pv e => let ⟨v, a, b, c⟩ := I.vars x pv e; ⟨v, a.grow G, b.grow G c, c⟩⟩
theorem Inv.weaken {w : World} {g : Heap} {sc : Scope} {env : Env} {h : Heap} {ρ ρ' : List (Str × PV)} (I : Inv w g sc env h ρ) (k : ∀ x pv, ρ'.lookup x = some pv → ρ.lookup x = some pv) : Inv w g sc env h ρ' :=
  ⟨I.scp, I.kind, I.glob, I.blt, I.keep, I.off, I.ns, fun x pv e => I.vars x pv (k x pv e)⟩

/-- expression e has the value pv wherever the names hold ρ; it only makes new objects -/
structure Ev (w : World) (g : Heap) (A : Around) (sc : Scope) (ρ : List (Str × PV)) (e : Expr) (pv : PV) : Prop where
  run : ∀ (env : Env) (s : Shared) (Q : Value → Shared → Prop) (E : Value → Shared → Prop), Inv w g sc env s.heap ρ → 1 ≤ s.toks →
    (∀ v h' t', 1 ≤ t' → GrowX env.locals s.heap h' → Rep w h' pv v → v ≠ .ref env.locals → Q v { s with heap := h', toks := t' }) → wpAny (model pw w) A (eval e env) Q E s

section
variable {w : World} {g : Heap} {A : Around} {sc : Scope} {ρ : List (Str × PV)}

theorem tk {α : Type} {M : Model} {t : Sem α} {s : Shared} {Q : α → Shared → Prop} {E : Value → Shared → Prop} (h1 : 1 ≤ s.toks) (h : wpAny M A t (fun v s' => 1 ≤ s'.toks → Q v s') E s) : wpAny M A t Q E s :=
  wpAny_mono (wpAny_toks_of h1 h) (fun _ _ q => q.2 q.1) fun _ _ q => q.2

theorem Ev.var {x : Str} {p : Pos} {pv : PV} (hx : ρ.lookup x = some pv) (hd : (x == ("__debug__" : Str)) = false := by decide) (hc : (x == ("__classdict__" : Str)) = false := by decide) : Ev w g A sc ρ (.Name x p) pv := .mk fun env s Q E I hk1 k => by
  obtain ⟨v, V, R, ne⟩ := I.vars x pv hx
  have hk : env.scope.kind = .function := I.scp ▸ I.kind
  refine wpAny_Name ?_ hd
  have q := k v s.heap s.toks hk1 (.refl _ _) R ne
  rcases V with ⟨a, m, b, c⟩ | ⟨a | a, c, b, d⟩
  · exact wpAny_loadName_local hk a b c q
  · exact wpAny_loadName_cell hk a b d q
  · exact wpAny_loadName_free hk a b d q hc
theorem Ev.int {i : Int} {n : Nat} {p : Pos} : Ev w g A sc ρ (.Constant (.int i) n p) (.sc (.int i)) := .mk fun env s Q E I hk1 k =>
  wpAny_Constant_int (k (.int i s.toks) s.heap (s.toks + 1) (by omega) (.refl _ _) ⟨_, rfl⟩ (by nofun))
theorem Ev.str {x : Str} {n : Nat} {p : Pos} : Ev w g A sc ρ (.Constant (.str x) n p) (.sc (.str x)) := .mk fun env s Q E I hk1 k =>
  PySem.Calls.Constant_str (k (.str x s.toks) s.heap (s.toks + 1) (by omega) (.refl _ _) ⟨_, rfl⟩ (by nofun))

/-- a rule on two values -/
noncomputable def Op2 (w : World) (A : Around) (f : Value → Value → Sem Value) (a b c : PV) : Prop :=
  ∀ (L : Addr) (s : Shared) (u v : Value) (Q E : Value → Shared → Prop), (∃ m, s.heap.Ns L m) → Rep w s.heap a u → Rep w s.heap b v → u ≠ .ref L → v ≠ .ref L → 1 ≤ s.toks →
    (∀ r h' t', 1 ≤ t' → GrowX L s.heap h' → Rep w h' c r → r ≠ .ref L → Q r { s with heap := h', toks := t' }) → wpAny (model pw w) A (f u v) Q E s
theorem Ev.bin {l r : Expr} {op : Operator} {p : Pos} {a b c : PV} (hl : Ev w g A sc ρ l a) (hr : Ev w g A sc ρ r b) (ho : Op2 w A (binaryOp op) a b c) : Ev w g A sc ρ (.BinOp l op r p) c := .mk fun env s Q E I hk1 k => by
  refine wpAny_BinOp (hl.run env s _ E I hk1 fun u h₁ t₁ j₁ G₁ R₁ n₁ => ?_)
  refine hr.run env { s with heap := h₁, toks := t₁ } _ E (I.grow G₁) j₁ fun v h₂ t₂ j₂ G₂ R₂ n₂ => ?_
  exact ho env.locals { s with heap := h₂, toks := t₂ } u v Q E (((I.grow G₁).grow G₂).ns) (R₁.grow G₂ n₁) R₂ n₁ n₂ j₂ fun r h' t' j G R n => k r h' t' j ((G₁.trans G₂).trans G) R n
theorem Ev.cmp {l r : Expr} {op : CmpOp} {p : Pos} {a b c : PV} (hl : Ev w g A sc ρ l a) (hr : Ev w g A sc ρ r b) (ho : Op2 w A (compareOp op) a b c) (hb : behindInMarks op r = false := by rfl) : Ev w g A sc ρ (.Compare l [op] [r] p) c := .mk fun env s Q E I hk1 k => by
  refine wpAny_Compare1 (hl.run env s _ E I hk1 fun u h₁ t₁ j₁ G₁ R₁ n₁ => ?_) hb
  refine hr.run env { s with heap := h₁, toks := t₁ } _ E (I.grow G₁) j₁ fun v h₂ t₂ j₂ G₂ R₂ n₂ => ?_
  exact ho env.locals { s with heap := h₂, toks := t₂ } u v Q E (((I.grow G₁).grow G₂).ns) (R₁.grow G₂ n₁) R₂ n₁ n₂ j₂ fun r h' t' j G R n => k r h' t' j ((G₁.trans G₂).trans G) R n

theorem Op2.addI {a b : Int} : Op2 w A (binaryOp .Add) (.sc (.int a)) (.sc (.int b)) (.sc (.int (a + b))) := fun L s u v Q E _ ⟨t, hu⟩ ⟨t', hv⟩ _ _ hk1 k => by
  subst hu hv
  refine tk hk1 ?_
  exact add_int (fun j => k (.int _ _) s.heap _ j (.refl _ _) ⟨_, rfl⟩ (by nofun))
theorem Op2.subI {a b : Int} : Op2 w A (binaryOp .Sub) (.sc (.int a)) (.sc (.int b)) (.sc (.int (a - b))) := fun L s u v Q E _ ⟨t, hu⟩ ⟨t', hv⟩ _ _ hk1 k => by
  subst hu hv
  refine tk hk1 ?_
  exact sub_int (fun j => k (.int _ _) s.heap _ j (.refl _ _) ⟨_, rfl⟩ (by nofun))
theorem Op2.mulI {a b : Int} (hm : IntMulOk a b) : Op2 w A (binaryOp .Mult) (.sc (.int a)) (.sc (.int b)) (.sc (.int (a * b))) := fun L s u v Q E _ ⟨t, hu⟩ ⟨t', hv⟩ _ _ hk1 k => by
  subst hu hv
  refine tk hk1 ?_
  exact mul_int (fun j => k (.int _ _) s.heap _ j (.refl _ _) ⟨_, rfl⟩ (by nofun)) hm
theorem Op2.modI {a b : Int} (hb : b ≠ 0) : Op2 w A (binaryOp .Mod) (.sc (.int a)) (.sc (.int b)) (.sc (.int (a.fmod b))) := fun L s u v Q E _ ⟨t, hu⟩ ⟨t', hv⟩ _ _ hk1 k => by
  subst hu hv
  refine tk hk1 ?_
  exact mod_int hb (fun j => k (.int _ _) s.heap _ j (.refl _ _) ⟨_, rfl⟩ (by nofun))
theorem Op2.divI {a b : Int} (hb : b ≠ 0) (hp : Builtin.divisionGoesByPylong a b = false) : Op2 w A (binaryOp .FloorDiv) (.sc (.int a)) (.sc (.int b)) (.sc (.int (a.fdiv b))) := fun L s u v Q E _ ⟨t, hu⟩ ⟨t', hv⟩ _ _ hk1 k => by
  subst hu hv
  refine tk hk1 ?_
  exact floordiv_int hb (fun j => k (.int _ _) s.heap _ j (.refl _ _) ⟨_, rfl⟩ (by nofun)) (.inl hp)
theorem Op2.powI {a n : Int} (h0 : 0 ≤ n) (h1 : n ≤ 1000000) (ha : a.natAbs < 2 ^ 64) : Op2 w A (binaryOp .Pow) (.sc (.int a)) (.sc (.int n)) (.sc (.int (a ^ n.toNat))) := fun L s u v Q E _ ⟨t, hu⟩ ⟨t', hv⟩ _ _ hk1 k => by
  subst hu hv
  refine tk hk1 ?_
  exact pow_int_small (hn := h0) (hn2 := h1) (ha := ha) (fun j => k (.int _ _) s.heap _ j (.refl _ _) ⟨_, rfl⟩ (by nofun))
theorem Op2.addS {x y : Str} (hsz : x.length + y.length ≤ sizeLine) : Op2 w A (binaryOp .Add) (.sc (.str x)) (.sc (.str y)) (.sc (.str (x ++ y))) := fun L s u v Q E _ ⟨t, hu⟩ ⟨t', hv⟩ _ _ hk1 k => by
  subst hu hv
  refine tk hk1 ?_
  exact add_str (fun t' tk j => k (.str _ _) s.heap _ j (.refl _ _) ⟨_, rfl⟩ (by nofun)) hsz
theorem Op2.iaddS {x y : Str} (hsz : x.length + y.length ≤ sizeLine) : Op2 w A (inplaceOp .Add) (.sc (.str x)) (.sc (.str y)) (.sc (.str (x ++ y))) := fun L s u v Q E _ ⟨t, hu⟩ ⟨t', hv⟩ _ _ hk1 k => by
  subst hu hv
  refine tk hk1 ?_
  exact iadd_str (fun t' tk j => k (.str _ _) s.heap _ j (.refl _ _) ⟨_, rfl⟩ (by nofun)) hsz
theorem Op2.eqI {a b : Int} : Op2 w A (compareOp .Eq) (.sc (.int a)) (.sc (.int b)) (.sc (.bool (a == b))) := fun L s u v Q E _ ⟨t, hu⟩ ⟨t', hv⟩ _ _ hk1 k => by
  subst hu hv
  refine tk hk1 ?_
  exact eq_int (fun j => k (.bool _) s.heap s.toks j (.refl _ _) rfl (by nofun))
theorem Op2.gtI {a b : Int} : Op2 w A (compareOp .Gt) (.sc (.int a)) (.sc (.int b)) (.sc (.bool (decide (b < a)))) := fun L s u v Q E _ ⟨t, hu⟩ ⟨t', hv⟩ _ _ hk1 k => by
  subst hu hv
  refine tk hk1 ?_
  exact gt_int (fun j => k (.bool _) s.heap s.toks j (.refl _ _) rfl (by nofun))
theorem Op2.ltI {a b : Int} : Op2 w A (compareOp .Lt) (.sc (.int a)) (.sc (.int b)) (.sc (.bool (decide (a < b)))) := fun L s u v Q E _ ⟨t, hu⟩ ⟨t', hv⟩ _ _ hk1 k => by
  subst hu hv
  refine tk hk1 ?_
  exact lt_int (fun j => k (.bool _) s.heap s.toks j (.refl _ _) rfl (by nofun))
theorem Op2.geI {a b : Int} : Op2 w A (compareOp .GtE) (.sc (.int a)) (.sc (.int b)) (.sc (.bool (decide (b ≤ a)))) := fun L s u v Q E _ ⟨t, hu⟩ ⟨t', hv⟩ _ _ hk1 k => by
  subst hu hv
  refine tk hk1 ?_
  exact ge_int (fun j => k (.bool _) s.heap s.toks j (.refl _ _) rfl (by nofun))
theorem Op2.eqS {x y : Str} : Op2 w A (compareOp .Eq) (.sc (.str x)) (.sc (.str y)) (.sc (.bool (x == y))) := fun L s u v Q E _ ⟨t, hu⟩ ⟨t', hv⟩ _ _ hk1 k => by
  subst hu hv
  refine tk hk1 ?_
  exact eq_str (fun j => k (.bool _) s.heap s.toks j (.refl _ _) rfl (by nofun))
theorem Op2.neS {x y : Str} : Op2 w A (compareOp .NotEq) (.sc (.str x)) (.sc (.str y)) (.sc (.bool (x != y))) := fun L s u v Q E _ ⟨t, hu⟩ ⟨t', hv⟩ _ _ hk1 k => by
  subst hu hv
  refine tk hk1 ?_
  exact ne_str (fun j => k (.bool _) s.heap s.toks j (.refl _ _) rfl (by nofun))
theorem Op2.inS {x y : Str} : Op2 w A (compareOp .In) (.sc (.str y)) (.sc (.str x)) (.sc (.bool !(Builtin.Str.occurrences x y 0 x.length 1).isEmpty)) := fun L s u v Q E _ ⟨t, hu⟩ ⟨t', hv⟩ _ _ hk1 k => by
  subst hu hv
  refine tk hk1 ?_
  exact in_str (fun j => k (.bool _) s.heap s.toks j (.refl _ _) rfl (by nofun))
theorem Op2.notInS {x y : Str} : Op2 w A (compareOp .NotIn) (.sc (.str y)) (.sc (.str x)) (.sc (.bool (!(!(Builtin.Str.occurrences x y 0 x.length 1).isEmpty)))) := fun L s u v Q E _ ⟨t, hu⟩ ⟨t', hv⟩ _ _ hk1 k => by
  subst hu hv
  refine tk hk1 ?_
  exact notIn_str (fun j => k (.bool _) s.heap s.toks j (.refl _ _) rfl (by nofun))
end
end Mine
end
section
open PySem PySem.W PyProof.Rows
set_option maxRecDepth 100000
set_option Elab.async false
namespace Mine

section
variable {w : World} {g : Heap} {A : Around} {sc : Scope} {ρ : List (Str × PV)}

-- truth of a test
structure Tr (w : World) (g : Heap) (A : Around) (sc : Scope) (ρ : List (Str × PV)) (e : Expr) (b : Bool) : Prop where
  run : ∀ (env : Env) (s : Shared) (Q : Bool → Shared → Prop) (E : Value → Shared → Prop), Inv w g sc env s.heap ρ → 1 ≤ s.toks →
    (∀ h' t', 1 ≤ t' → GrowX env.locals s.heap h' → Q b { s with heap := h', toks := t' }) → wpAny (model pw w) A (PySem.isTrue e env (eval e env)) Q E s

theorem Tr.cmp {l r : Expr} {op : CmpOp} {p : Pos} {a b : PV} {c : Bool} (hl : Ev w g A sc ρ l a) (hr : Ev w g A sc ρ r b) (ho : Op2 w A (compareOp op) a b (.sc (.bool c))) (hb : behindInMarks op r = false := by rfl) : Tr w g A sc ρ (.Compare l [op] [r] p) c := .mk fun env s Q E I hk1 k => by
  refine wpAny_isTrue_Compare1 (hl.run env s _ E I hk1 fun u h₁ t₁ j₁ G₁ R₁ n₁ => ?_) hb
  refine hr.run env { s with heap := h₁, toks := t₁ } _ E (I.grow G₁) j₁ fun v h₂ t₂ j₂ G₂ R₂ n₂ => ?_
  refine ho env.locals { s with heap := h₂, toks := t₂ } u v _ E (((I.grow G₁).grow G₂).ns) (R₁.grow G₂ n₁) R₂ n₁ n₂ j₂ fun r h' t' j G R n => ?_
  obtain rfl : r = .bool c := R
  exact wpAny_truthy_bool (k h' t' j ((G₁.trans G₂).trans G))
theorem Tr.not {x : Expr} {p : Pos} {c : Bool} (h : Tr w g A sc ρ x c) : Tr w g A sc ρ (.UnaryOp .Not x p) (!c) := .mk fun env s Q E I hk1 k =>
  isTrue_not (h.run env s _ E I hk1 fun h' t' j G => k h' t' j G)
theorem Tr.and {x y : Expr} {p : Pos} {a b : Bool} (hx : Tr w g A sc ρ x a) (hy : a = true → Tr w g A sc ρ y b) : Tr w g A sc ρ (.BoolOp .And [x, y] p) (a && b) := .mk fun env s Q E I hk1 k => by
  refine isTrue_and (hx.run env s _ E I hk1 fun h' t' j G => ?_)
  cases a with
  | false => exact k h' t' j G
  | true =>
    refine isTrue_and ((hy rfl).run env { s with heap := h', toks := t' } _ E (I.grow G) j fun h'' t'' j' G' => ?_)
    cases b with
    | false => exact k h'' t'' j' (G.trans G')
    | true => exact isTrue_and_nil (k h'' t'' j' (G.trans G'))
theorem Tr.or {x y : Expr} {p : Pos} {a b : Bool} (hx : Tr w g A sc ρ x a) (hy : a = false → Tr w g A sc ρ y b) : Tr w g A sc ρ (.BoolOp .Or [x, y] p) (a || b) := .mk fun env s Q E I hk1 k => by
  refine isTrue_or (hx.run env s _ E I hk1 fun h' t' j G => ?_)
  cases a with
  | true => exact k h' t' j G
  | false =>
    refine isTrue_or ((hy rfl).run env { s with heap := h', toks := t' } _ E (I.grow G) j fun h'' t'' j' G' => ?_)
    cases b with
    | true => exact k h'' t'' j' (G.trans G')
    | false => exact isTrue_or_nil (k h'' t'' j' (G.trans G'))
theorem Tr.bool {e : Expr} {c : Bool} (h : Ev w g A sc ρ e (.sc (.bool c))) (he : ∀ env whole, PySem.isTrue e env whole = (do let v ← whole; standAt e.pos; holding [v] (truthy v)) := by intros; rfl) : Tr w g A sc ρ e c := .mk fun env s Q E I hk1 k => by
  refine isTrue_plain (h.run env s _ E I hk1 fun v h' t' j G R n => ?_) (he env _)
  obtain rfl : v = .bool c := R
  exact wpAny_truthy_bool (k h' t' j G)
theorem Tr.str {e : Expr} {x : Str} (h : Ev w g A sc ρ e (.sc (.str x))) (hx : x.length < 2 ^ 62) (he : ∀ env whole, PySem.isTrue e env whole = (do let v ← whole; standAt e.pos; holding [v] (truthy v)) := by intros; rfl) : Tr w g A sc ρ e ((x.length : Int) != 0) := .mk fun env s Q E I hk1 k => by
  refine isTrue_plain (h.run env s _ E I hk1 fun v h' t' j G R n => ?_) (he env _)
  obtain ⟨t, rfl⟩ := R
  exact PySem.P.truthy_str (by omega) (k h' _ (by show 1 ≤ t' + 1 + 1; omega) G)
theorem Tr.list {e : Expr} {xs : List Sc} (h : Ev w g A sc ρ e (.list xs)) (hx : xs.length < 2 ^ 62) (he : ∀ env whole, PySem.isTrue e env whole = (do let v ← whole; standAt e.pos; holding [v] (truthy v)) := by intros; rfl) : Tr w g A sc ρ e (!xs.isEmpty) := .mk fun env s Q E I hk1 k => by
  refine isTrue_plain (h.run env s _ E I hk1 fun v h' t' j G R nv => ?_) (he env _)
  obtain ⟨a, vs, rfl, ho, hr⟩ := R
  have hl := hr.length
  refine wpAny_truthy_list (items := vs.toArray) ho (by simp; omega) ?_
  have e : (!vs.toArray.isEmpty) = !xs.isEmpty := by
    cases xs <;> cases vs <;> first | rfl | (simp at hl)
  rw [e]
  exact k h' _ (by show 1 ≤ t' + 1 + 1; omega) G

theorem Ev.ifExp {t b o : Expr} {p : Pos} {c : Bool} {pv : PV} (ht : Tr w g A sc ρ t c) (h1 : c = true → Ev w g A sc ρ b pv) (h2 : c = false → Ev w g A sc ρ o pv) : Ev w g A sc ρ (.IfExp t b o p) pv := .mk fun env s Q E I hk1 k => by
  refine IfExp_ (ht.run env s _ E I hk1 fun h' t' j G => ?_)
  cases c with
  | true => exact (h1 rfl).run env { s with heap := h', toks := t' } Q E (I.grow G) j fun v h'' t'' j' G' R n => k v h'' t'' j' (G.trans G') R n
  | false => exact (h2 rfl).run env { s with heap := h', toks := t' } Q E (I.grow G) j fun v h'' t'' j' G' R n => k v h'' t'' j' (G.trans G') R n

-- subscripts
noncomputable def SubOp (w : World) (A : Around) (value slice : Expr) (a b c : PV) : Prop := Op2 w A (subscriptTail value slice) a b c
theorem Ev.sub {value slice : Expr} {p : Pos} {a b c : PV} (hv : Ev w g A sc ρ value a) (hi : Ev w g A sc ρ slice b) (ho : SubOp w A value slice a b c) : Ev w g A sc ρ (.Subscript value slice p) c := .mk fun env s Q E I hk1 k => by
  refine Subscript_ (hv.run env s _ E I hk1 fun u h₁ t₁ j₁ G₁ R₁ n₁ => ?_)
  refine hi.run env { s with heap := h₁, toks := t₁ } _ E (I.grow G₁) j₁ fun v h₂ t₂ j₂ G₂ R₂ n₂ => ?_
  exact ho env.locals { s with heap := h₂, toks := t₂ } u v Q E (((I.grow G₁).grow G₂).ns) (R₁.grow G₂ n₁) R₂ n₁ n₂ j₂ fun r h' t' j G R n => k r h' t' j ((G₁.trans G₂).trans G) R n
theorem SubOp.strI {x : Str} {i : Int} {n : Str} {p : Pos} {slice : Expr} (h1 : -(x.length : Int) ≤ i) (h2 : i < x.length) (h3 : x.length < 2 ^ 62)
    (hs : ∀ t u, subscripted slice false (.str x t) (.int i u) = operate [.str x t, .int i u] (getItem (.str x t) (.int i u)) := by intros; with_unfolding_all rfl) :
    SubOp w A (.Name n p) slice (.sc (.str x)) (.sc (.int i)) (.sc (.str (Txt.item x i))) := fun L s u v Q E _ ⟨t, hu⟩ ⟨t', hv⟩ _ _ hk1 k => by
  subst hu hv
  refine item_str (by simp [fitsSsize]; omega) h1 h2 (fun _ => k (.str _ _) s.heap _ (by omega) (.refl _ _) ⟨_, rfl⟩ (by nofun)) (hs _ _) (fun _ => rfl)
theorem SubOp.listI {xs : List Sc} {i : Int} {a : Sc} {value slice : Expr} (h0 : 0 ≤ i) (h1 : i < 2 ^ 63) (hx : xs[i.toNat]? = some a) (hn : ∀ r, letTemporaryGo value r = fun _ => pure ())
    (hs : ∀ (r : Addr) (u : Tok), subscripted slice false (.ref r) (.int i u) = operate [.ref r, .int i u] (getItem (.ref r) (.int i u)) := by intros; with_unfolding_all rfl) :
    SubOp w A value slice (.list xs) (.sc (.int i)) (.sc a) := fun L s u v Q E hns ⟨r, vs, hu, ho, hr⟩ ⟨t', hv⟩ nu _ hk1 k => by
  subst hu hv
  obtain ⟨y, hy, hya⟩ := hr.get hx
  have hL : s.heap.IsList r vs.toArray := ho
  refine tail_any hL.typeIs slot_list_getitem.lookup (wpAny_getItem_list hL h0 h1 (by simpa using hy) (k y s.heap s.toks hk1 (.refl _ _) hya ?_)) (hs _ _)
  intro e; subst e
  cases a <;> first | (cases hya; done) | (obtain ⟨_, q⟩ := hya; cases q)
theorem SubOp.tupI {xs : List Sc} {i : Int} {j : Nat} {a : Sc} {value slice : Expr} (h0 : -2 ^ 63 ≤ i) (h1 : i < 2 ^ 63) (hj : seqIndex? i xs.length = some j) (hx : xs[j]? = some a)
    (hs : ∀ (r : Addr) (u : Tok), subscripted slice false (.ref r) (.int i u) = operate [.ref r, .int i u] (getItem (.ref r) (.int i u)) := by intros; with_unfolding_all rfl) :
    SubOp w A value slice (.tuple xs) (.sc (.int i)) (.sc a) := fun L s u v Q E hns ⟨r, vs, hu, ho, hr⟩ ⟨t', hv⟩ nu _ hk1 k => by
  subst hu hv
  obtain ⟨y, hy, hya⟩ := hr.get hx
  refine item_tupleT (l := vs) ho h0 h1 (by rw [hr.length]; exact hj) hy (k y s.heap s.toks hk1 (.refl _ _) hya ?_) (hs _ _)
  intro e; subst e
  cases a <;> first | (cases hya; done) | (obtain ⟨_, q⟩ := hya; cases q)

-- arguments
noncomputable def RepAll (w : World) (h : Heap) (L : Addr) : List PV → List Value → Prop
  | [], [] => True
  | p :: ps, v :: vs => (Rep w h p v ∧ v ≠ .ref L) ∧ RepAll w h L ps vs
  | _, _ => False
theorem RepAll.grow {h h' : Heap} {L : Addr} (G : GrowX L h h') : ∀ {ps : List PV} {vs : List Value}, RepAll w h L ps vs → RepAll w h' L ps vs
  | [], [], _ => trivial
  | _ :: _, _ :: _, r => ⟨⟨r.1.1.grow G r.1.2, r.1.2⟩, RepAll.grow G r.2⟩
  | [], _ :: _, r => r.elim
  | _ :: _, [], r => r.elim
noncomputable def EvArgs (w : World) (g : Heap) (A : Around) (sc : Scope) (ρ : List (Str × PV)) : List Expr → List PV → Prop
  | [], [] => True
  | e :: es, p :: ps => (Ev w g A sc ρ e p ∧ ∀ es env, starEach (e :: es) env = (false, eval e env) :: starEach es env) ∧ EvArgs w g A sc ρ es ps
  | _, _ => False
theorem EvArgs.nil : EvArgs w g A sc ρ [] [] := trivial
theorem EvArgs.cons {e : Expr} {es : List Expr} {p : PV} {ps : List PV} (h : Ev w g A sc ρ e p) (r : EvArgs w g A sc ρ es ps) (hs : ∀ es env, starEach (e :: es) env = (false, eval e env) :: starEach es env := by intros; rfl) : EvArgs w g A sc ρ (e :: es) (p :: ps) := ⟨⟨h, hs⟩, r⟩
theorem EvArgs.spliced {pos : Pos} {env : Env} {E : Value → Shared → Prop} : ∀ {es : List Expr} {ps : List PV} {s : Shared} {Q : List Value → Shared → Prop}, EvArgs w g A sc ρ es ps → Inv w g sc env s.heap ρ → 1 ≤ s.toks →
    (∀ vs h' t', 1 ≤ t' → GrowX env.locals s.heap h' → RepAll w h' env.locals ps vs → Q vs { s with heap := h', toks := t' }) → wpAny (model pw w) A (spliced (backTo pos (starEach es env))) Q E s
  | [], [], s, Q, _, _, hk1, k => PySem.Calls.spliced_nil (k [] s.heap s.toks hk1 (.refl _ _) trivial)
  | e :: es, p :: ps, s, Q, ⟨⟨h, hs⟩, r⟩, I, hk1, k => by
    rw [hs]
    refine PySem.Calls.spliced_cons (h.run env s _ E I hk1 fun v h₁ t₁ j₁ G₁ R₁ n₁ => ?_)
    refine EvArgs.spliced (pos := pos) (s := { s with heap := h₁, toks := t₁ }) r (I.grow G₁) j₁ fun vs h₂ t₂ j₂ G₂ R₂ => ?_
    exact k (v :: vs) h₂ t₂ j₂ (G₁.trans G₂) ⟨⟨R₁.grow G₂ n₁, n₁⟩, R₂⟩
  | [], _ :: _, _, _, h, _, _, _ => h.elim
  | _ :: _, [], _, _, h, _, _, _ => h.elim
theorem EvArgs.plain {pos : Pos} {env : Env} : ∀ {es : List Expr} {ps : List PV}, EvArgs w g A sc ρ es ps → (backTo pos (starEach es env)).any (·.1) = false
  | [], [], _ => rfl
  | e :: es, p :: ps, ⟨⟨_, hs⟩, r⟩ => by
    rw [hs]
    exact EvArgs.plain (pos := pos) (env := env) r
  | [], _ :: _, h => h.elim
  | _ :: _, [], h => h.elim

noncomputable def CallOp (w : World) (A : Around) (f : Value) (ps : List PV) (c : PV) : Prop :=
  ∀ (L : Addr) (s : Shared) (vs : List Value) (Q E : Value → Shared → Prop), (∃ m, s.heap.Ns L m) → RepAll w s.heap L ps vs → 1 ≤ s.toks →
    (∀ r h' t', 1 ≤ t' → GrowX L s.heap h' → Rep w h' c r → r ≠ .ref L → Q r { s with heap := h', toks := t' }) → wpAny (model pw w) A (call f vs) Q E s
/-- a call that may lean on what the top laid down -/
noncomputable def CallG (w : World) (g : Heap) (A : Around) (f : Value) (ps : List PV) (c : PV) : Prop :=
  ∀ (L : Addr) (s : Shared) (vs : List Value) (Q E : Value → Shared → Prop), (∀ b o, g.get? b = some o → s.heap.get? b = some o) → g.get? L = none → (∃ m, s.heap.Ns L m) → RepAll w s.heap L ps vs → 1 ≤ s.toks →
    (∀ r h' t', 1 ≤ t' → GrowX L s.heap h' → Rep w h' c r → r ≠ .ref L → Q r { s with heap := h', toks := t' }) → wpAny (model pw w) A (call f vs) Q E s
theorem CallOp.toG {f : Value} {ps : List PV} {c : PV} (h : CallOp w A f ps c) : CallG w g A f ps c := fun L s vs Q E _ _ hn r k q => h L s vs Q E hn r k q
end
end Mine
end
section
open PySem PySem.W PyProof.Rows
set_option maxRecDepth 100000
set_option Elab.async false
namespace Mine
section
variable {w : World} {g : Heap} {A : Around} {sc : Scope} {ρ : List (Str × PV)} {mean : ExcName → Option Value} {mg mb : Str → Option Value}

theorem RepAll.one {h : Heap} {L : Addr} {p : PV} {vs : List Value} (r : RepAll w h L [p] vs) : ∃ v, vs = [v] ∧ Rep w h p v ∧ v ≠ .ref L := by
  cases vs with
  | nil => exact r.elim
  | cons v vs => cases vs with
    | nil => exact ⟨v, rfl, r.1⟩
    | cons _ _ => exact r.2.elim
theorem RepAll.two {h : Heap} {L : Addr} {p q : PV} {vs : List Value} (r : RepAll w h L [p, q] vs) : ∃ u v, vs = [u, v] ∧ (Rep w h p u ∧ u ≠ .ref L) ∧ Rep w h q v ∧ v ≠ .ref L := by
  cases vs with
  | nil => exact r.elim
  | cons u vs =>
    obtain ⟨v, rfl, r2⟩ := RepAll.one r.2
    exact ⟨u, v, rfl, r.1, r2⟩
theorem CallOp.lenS {x : Str} (hx : x.length < 2 ^ 62) : CallOp w A (.builtin "len") [.sc (.str x)] (.sc (.int x.length)) := fun L s vs Q E hn hr hk1 k => by
  match vs, hr with
  | [_], ⟨⟨⟨t, rfl⟩, _⟩, _⟩ =>
    refine len_str (by omega) (k (.int _ _) s.heap _ (by show 1 ≤ s.toks + 1 + 1; omega) (.refl _ _) ⟨_, rfl⟩ (by nofun))
theorem CallOp.lenL {xs : List Sc} (hx : xs.length < 2 ^ 62) : CallOp w A (.builtin "len") [.list xs] (.sc (.int xs.length)) := fun L s vs Q E hn hr hk1 k => by
  obtain ⟨_, rfl, ⟨a, us, rfl, ho, hr⟩, _⟩ := hr.one
  · 
    have hl := hr.length
    refine PySem.Calls.call_len_list (items := us.toArray) ho (by simp; omega) (k (.int _ _) s.heap _ (by show 1 ≤ s.toks + 1 + 1; omega) (.refl _ _) ⟨s.toks + 1, by simp [hl]⟩ (by nofun))
theorem CallOp.ord {c : Nat} : CallOp w A (.builtin "ord") [.sc (.str ⟨#[c]⟩)] (.sc (.int c)) := fun L s vs Q E hn hr hk1 k => by
  match vs, hr with
  | [_], ⟨⟨⟨t, rfl⟩, _⟩, _⟩ =>
    exact PySem.P.ord_of_char (k (.int _ _) s.heap _ (by omega) (.refl _ _) ⟨_, rfl⟩ (by nofun))
theorem CallOp.chr {i : Int} (h0 : 0 ≤ i) (h1 : i ≤ 1114111) : CallOp w A (.builtin "chr") [.sc (.int i)] (.sc (.str ⟨#[i.toNat]⟩)) := fun L s vs Q E hn hr hk1 k => by
  match vs, hr with
  | [_], ⟨⟨⟨t, rfl⟩, _⟩, _⟩ =>
    exact chr_of_range h0 h1 (k (.str _ _) s.heap _ (by omega) (.refl _ _) ⟨_, rfl⟩ (by nofun))
theorem CallOp.sum {ns : List Int} (hA : A.handled = none) : CallOp w A (.builtin "sum") [.list (ns.map .int)] (.sc (.int ns.sum)) := fun L s vs Q E hn hr hk1 k => by
  obtain ⟨_, rfl, ⟨a, us, rfl, ho, hr⟩, _⟩ := hr.one
  · 
    have hi := hr.ints
    obtain ⟨xs, hx⟩ := hi.allInts.items
    have e : numsOf (intItems xs).toList = ns := by rw [← hx]; exact hi.numsOf
    refine tk hk1 (sum_intListG (xs := xs) hA (hx ▸ ho) fun h' tk' t' hk j => ?_)
    refine k (.int _ _) h' _ j (.of hk) ⟨t', ?_⟩ (by nofun)
    rw [nums_intItems] at e
    rw [preSum_eq, List.take_of_length_le (by simp), e]
theorem strs_of : ∀ {ys : List Str} {us : List Value}, AllIs (ys.map .str) us → ∃ l : List (Str × Tok), strValues l = us ∧ l.map (·.1) = ys
  | [], [], _ => ⟨[], rfl, rfl⟩
  | y :: ys, _ :: us, ⟨⟨t', rfl⟩, hr⟩ => by
    obtain ⟨l, h1, h2⟩ := strs_of hr
    exact ⟨(y, t') :: l, by simp [strValues] at h1 ⊢; exact h1, by simp [h2]⟩
  | [], _ :: _, h => h.elim
  | _ :: _, [], h => h.elim
theorem of_strs : ∀ (l : List (Str × Tok)), AllIs ((l.map (·.1)).map .str) (strValues l)
  | [] => trivial
  | (y, t) :: l => ⟨⟨t, rfl⟩, of_strs l⟩
theorem CallOp.join {x : Str} {ys : List Str} (hok : JoinOk x ys = true) : CallOp w A (.builtin "str.join") [.sc (.str x), .list (ys.map .str)] (.sc (.str (Txt.join x ys))) := fun L s vs Q E hn hr hk1 k => by
  obtain ⟨_, _, rfl, ⟨⟨t, rfl⟩, _⟩, ⟨a, us, rfl, ho, hr⟩, _⟩ := hr.two
  · 
    obtain ⟨l, rfl, rfl⟩ := strs_of hr
    exact tk hk1 (SC.join ho rfl hok fun t' k' j => k (.str _ _) s.heap _ j (.refl _ _) ⟨_, rfl⟩ (by nofun))
theorem CallOp.upper {x : Str} (hx : x.length ≤ 5592405) : CallOp w A (.builtin "str.upper") [.sc (.str x)] (.sc (.str (Txt.upper x))) := fun L s vs Q E hn hr hk1 k => by
  match vs, hr with
  | [_], ⟨⟨⟨t, rfl⟩, _⟩, _⟩ =>
    exact SCL.upper hx fun _ => k (.str _ _) s.heap _ (by omega) (.refl _ _) ⟨_, rfl⟩ (by nofun)
theorem CallOp.lower {x : Str} (hx : x.length ≤ 5592405) : CallOp w A (.builtin "str.lower") [.sc (.str x)] (.sc (.str (Txt.lower x))) := fun L s vs Q E hn hr hk1 k => by
  match vs, hr with
  | [_], ⟨⟨⟨t, rfl⟩, _⟩, _⟩ =>
    exact SCL.lower hx fun _ => k (.str _ _) s.heap _ (by omega) (.refl _ _) ⟨_, rfl⟩ (by nofun)
theorem CallOp.find {x y : Str} : CallOp w A (.builtin "str.find") [.sc (.str x), .sc (.str y)] (.sc (.int (Txt.find x y))) := fun L s vs Q E hn hr hk1 k => by
  match vs, hr with
  | [_, _], ⟨⟨⟨t, rfl⟩, _⟩, ⟨⟨t', rfl⟩, _⟩, _⟩ =>
    exact SC.find (k (.int _ _) s.heap _ (by omega) (.refl _ _) ⟨_, rfl⟩ (by nofun))
theorem CallOp.startswith {x y : Str} : CallOp w A (.builtin "str.startswith") [.sc (.str x), .sc (.str y)] (.sc (.bool (Txt.startswith x y))) := fun L s vs Q E hn hr hk1 k => by
  match vs, hr with
  | [_, _], ⟨⟨⟨t, rfl⟩, _⟩, ⟨⟨t', rfl⟩, _⟩, _⟩ =>
    exact SC.startswith (k (.bool _) s.heap s.toks hk1 (.refl _ _) rfl (by nofun))
theorem CallOp.range1 {n : Int} : CallOp w A (.type "range") [.sc (.int n)] (.range 0 n 1) := fun L s vs Q E hn hr hk1 k => by
  match vs, hr with
  | [_], ⟨⟨⟨t, rfl⟩, _⟩, _⟩ =>
    refine call_range_1 (k (.ref _) _ _ (by show 1 ≤ s.toks + 1 + 1; omega) (.push _) ⟨_, _, _, _, rfl, Heap.get?_push_size _ rfl⟩ ?_)
    obtain ⟨m, hn⟩ := hn
    intro e; cases e; exact absurd hn.lt (Nat.lt_irrefl _)
theorem CallOp.range2 {a b : Int} : CallOp w A (.type "range") [.sc (.int a), .sc (.int b)] (.range a b 1) := fun L s vs Q E hn hr hk1 k => by
  match vs, hr with
  | [_, _], ⟨⟨⟨t, rfl⟩, _⟩, ⟨⟨t', rfl⟩, _⟩, _⟩ =>
    refine call_range_2 (k (.ref _) _ _ (by show 1 ≤ s.toks + 1; omega) (.push _) ⟨_, _, _, _, rfl, Heap.get?_push_size _ rfl⟩ ?_)
    obtain ⟨m, hn⟩ := hn
    intro e; cases e; exact absurd hn.lt (Nat.lt_irrefl _)

theorem ne_new {h : Heap} {L : Addr} (hn : ∃ m, h.Ns L m) (k : Nat) : Value.ref (h.objs.size + k) ≠ .ref L := by
  obtain ⟨m, hn⟩ := hn
  intro e; cases e
  exact absurd (show h.objs.size + k < h.objs.size from hn.lt) (Nat.not_lt.mpr (Nat.le_add_right _ _))
theorem allIs_of_get : ∀ {xs : List Sc} {vs : List Value}, vs.length = xs.length → (∀ (j : Nat) (a : Sc) (v : Value), xs[j]? = some a → vs[j]? = some v → a.Is v) → AllIs xs vs
  | [], [], _, _ => trivial
  | x :: xs, v :: vs, h, k => ⟨k 0 x v rfl rfl, allIs_of_get (by simpa using h) fun j a u h1 h2 => k (j + 1) a u (by simpa using h1) (by simpa using h2)⟩
  | [], _ :: _, h, _ => by simp at h
  | _ :: _, [], h, _ => by simp at h
theorem ne_list {h : Heap} {L D : Addr} {l : Array Value} (hD : h.IsList D l) (hn : ∃ m, h.Ns L m) : Value.ref D ≠ .ref L := by
  obtain ⟨m, hn⟩ := hn
  obtain ⟨o, h1, _, n, h2⟩ := hD
  intro e; cases e
  obtain ⟨_, _, z⟩ := ns_dict hn h1
  rw [h2] at z; cases z
theorem CallOp.split {x y : Str} (hx : x.length ≤ 100000) (hy : (y.length == 0) = false) : CallOp w A (.builtin "str.split") [.sc (.str x), .sc (.str y)] (.list ((Txt.split x y).map .str)) := fun L s vs Q E hn hr hk1 k => by
  match vs, hr with
  | [_, _], ⟨⟨⟨t, rfl⟩, _⟩, ⟨⟨t', rfl⟩, _⟩, _⟩ =>
    refine tk hk1 (SCH.split1 (P := fun h' => ∀ b o, s.heap.get? b = some o → h'.get? b = some o) (fun h ob k b o e => Heap.get?_push_of_some _ (k b o e)) (fun _ _ e => e) hy (fun D l h' k' hl G hD j => ?_) (by rw [sizeLine_eq]; omega) ?_)
    · refine k (.ref _) h' k' j ⟨G⟩ ⟨_, strValues l, rfl, hD, ?_⟩ (ne_list hD (hn.imp fun m e => e.keeps G))
      rw [← hl]; exact of_strs l
    · have h1 := length_partsBetween x (Builtin.Str.occurrences x y 0 x.length (x.length + 1)) y.length
      have h2 := StrLaws.occ_length_le x y 0 x.length (x.length + 1)
      rw [sizeLine_eq]; omega
theorem CallOp.listRange {a b : Int} {n : Nat} (hA : A.handled = none) (hsmall : Builtin.Range.small a b 1 = true) (hn : Builtin.Range.rangeSize a b 1 = n) (hlen : n ≤ 2 ^ 24) :
    CallOp w A (.type "list") [.range a b 1] (.list ((List.range n).map fun (i : Nat) => .int (a + i))) := fun L s vs Q E hns hr hk1 k => by
  match vs, hr with
  | [_], ⟨⟨⟨r, t, u, x, rfl, ho⟩, _⟩, _⟩ =>
    refine tk hk1 (PySem.call_list_range hA ho hsmall hn hlen fun h' tk' acc c' hk hS hI j => ?_)
    refine k (.ref _) h' tk' j (.of hk) ⟨_, acc.toList, rfl, ⟨_, hS, rfl, c', by simp⟩, ?_⟩ (ne_new hns 0)
    obtain ⟨h1, h2⟩ := hI
    refine allIs_of_get (by simp [h1]) fun j a' v e1 e2 => ?_
    obtain ⟨t', rfl⟩ := h2 j v (by simpa using e2)
    rw [List.getElem?_map] at e1
    obtain ⟨i, hi, rfl⟩ := Option.map_eq_some_iff.mp e1
    have : i = j := by
      have := List.getElem?_eq_some_iff.mp hi
      obtain ⟨_, h⟩ := this
      simpa using h.symm
    subst this
    exact ⟨t', by simp⟩
theorem CallOp.listStr {x : Str} (hA : A.handled = none) (hx : x.length ≤ 100000) : CallOp w A (.type "list") [.sc (.str x)] (.list ((signs x).map .str)) := fun L s vs Q E hns hr hk1 k => by
  match vs, hr with
  | [_], ⟨⟨⟨t, rfl⟩, _⟩, _⟩ =>
    refine tk hk1 (PySem.call_list_str hA x t (fun h' tk' acc c' hk hS hI j => ?_) (by rw [sizeLine_eq]; show x.length ≤ _; omega))
    refine k (.ref _) h' tk' j (.of hk) ⟨_, acc.toList, rfl, ⟨_, hS, rfl, c', by simp⟩, ?_⟩ (ne_new hns 0)
    obtain ⟨h1, h2⟩ := hI
    refine allIs_of_get (by simp [h1, signs]) fun j a' v e1 e2 => ?_
    obtain ⟨c, u, hc, rfl⟩ := h2 j v (by simpa using e2)
    rw [List.getElem?_map] at e1
    obtain ⟨i, hi, rfl⟩ := Option.map_eq_some_iff.mp e1
    refine ⟨u, ?_⟩
    unfold signs at hi
    rw [List.getElem?_map] at hi
    obtain ⟨c', hc', rfl⟩ := Option.map_eq_some_iff.mp hi
    rw [Array.getElem?_toList, hc] at hc'
    cases hc'; rfl

-- calls by name
structure Tops (w : World) (g : Heap) (mg mb : Str → Option Value) : Prop where
  gns : g.Ns mainGlobals mg
  bns : g.Ns builtinsNs mb
  nolimit : g.NoLimit
  book : NoneBooked g
noncomputable def Callee (g : Heap) (fv : Value) : Prop := (∃ id, fv = .builtin id) ∨ (∃ T, fv = .type T) ∨ ∃ a o fd, fv = .ref a ∧ g.get? a = some o ∧ o.data = .func fd
theorem Ev.call {f : Str} {fv : Value} {p pos : Pos} {e : Expr} {args : List Expr} {ps : List PV} {c : PV} (T : Tops w g mg mb) (hk : sc.names.lookup f = some .globalImplicit)
    (hv : mg f = some fv ∨ (mg f = none ∧ mb f = some fv)) (hc : Callee g fv) (ha : EvArgs w g A sc ρ (e :: args) ps) (op : CallG w g A fv ps c) (hd : (f == ("__debug__" : Str)) = false := by decide) :
    Ev w g A sc ρ (.Call (.Name f p) (e :: args) [] pos) c := .mk fun env s Q E I hk1 k => by
  have hkd : env.scope.kind = .function := I.scp ▸ I.kind
  have hx : env.kindOf f = some .globalImplicit := by show env.scope.names.lookup f = _; rw [I.scp]; exact hk
  have hg : s.heap.Ns env.globals mg := I.glob ▸ T.gns.keeps I.keep
  have hb : s.heap.Ns env.builtins mb := I.blt ▸ T.bns.keeps I.keep
  refine wpAny_Call_NameR (PySem.Calls.Name_function_global hkd hx ?_ hd)
  have main : wpAny (model pw w) A (spliced (backTo pos (starEach (e :: args) env))) (fun vs s₁ => (∀ b o, s.heap.get? b = some o → s₁.heap.get? b = some o) ∧ wpAny (model pw w) A (PySem.call fv vs) Q E s₁) E s :=
    ha.spliced I hk1 fun vs h' t' j G R => ⟨G.keep, op env.locals { s with heap := h', toks := t' } vs Q E (I.grow G).keep I.off (I.grow G).ns R j fun r h'' t'' j' G' R' n => k r h'' t'' j' (G.trans G') R' n⟩
  have hpl := ha.plain (pos := pos) (env := env)
  obtain ⟨p0, ps', rfl⟩ : ∃ p0 ps', ps = p0 :: ps' := by cases ps with | nil => exact ha.elim | cons a b => exact ⟨a, b, rfl⟩
  have hs := ha.1.2
  rw [hs] at main hpl
  have fin : wpAny (model pw w) A (callWith pos fv [] (backTo pos (starEach (e :: args) env)) []) Q E s := by
    rw [hs]
    rcases hc with ⟨id, rfl⟩ | ⟨Tn, rfl⟩ | ⟨a, o, fd, rfl, ho, hd⟩
    · exact PySem.Calls.callWith_builtin hpl (PySem.Calls.evalArgs_plain (wpAny_mono main (fun vs s' h => h.2) fun _ _ x => x))
    · exact PySem.callWith_type hpl (PySem.Calls.evalArgs_plain (wpAny_mono main (fun vs s' h => h.2) fun _ _ x => x))
    · refine PySem.Calls.callWith_function (o := o) (fd := fd) (PySem.Calls.evalArgs_plain (wpAny_mono main (fun vs s' h => ⟨⟨h.1 a o (I.keep a o ho), hd⟩, h.2⟩) fun _ _ x => x))
  rcases hv with hv | ⟨h1, h2⟩
  · exact PySem.Calls.loadGlobal_global hg hv fin
  · exact PySem.Calls.loadGlobal_builtin hg h1 hb h2 fin

-- methods of texts
theorem Ev.methS {o : Expr} {x : Str} {name : Str} {id : String} {apos pos : Pos} {args : List Expr} {ps : List PV} {c : PV} (ho : Ev w g A sc ρ o (.sc (.str x))) (ha : EvArgs w g A sc ρ args ps)
    (slot : Slot "str" name id) (ty : typeOf (.builtin id) = pure (.type "method_descriptor")) (op : CallOp w A (.builtin id) (.sc (.str x) :: ps) c)
    (hbase : ∀ env, attributeBase o name env (eval o env) = eval o env := by intros; rfl) (hlen : args.length < 20 := by decide) (hline : (apos.endLine == pos.line) = true := by rfl) :
    Ev w g A sc ρ (.Call (.Attribute o name apos) args [] pos) c := .mk fun env s Q E I hk1 k => by
  refine wpAny_Call_method_lateS (hbase env) ?_ hline (ho.run env s _ E I hk1 fun v h₁ t₁ j₁ G₁ R₁ n₁ => ?_)
  · have hp := ha.plain (pos := pos) (env := env)
    have : (backTo pos (starEach args env)).all (fun x => !x.1) = true := by
      rw [List.all_eq_not_any_not]; simpa using hp
    rw [this]
    simp [backToKw, keywordEach]
    omega
  obtain ⟨t, rfl⟩ := R₁
  refine ⟨"str", id, F.plainAttrs_str, slot, ty, typeIs_str _ _ _, (fun _ e => nomatch e), ?_⟩
  have hpl := ha.plain (pos := pos) (env := env)
  cases args with
  | nil =>
    cases ps with
    | cons _ _ => exact ha.elim
    | nil => exact callWith_method0 (op env.locals { s with heap := h₁, toks := t₁ } [.str x t] Q E (I.grow G₁).ns ⟨⟨⟨t, rfl⟩, by nofun⟩, trivial⟩ j₁ fun r h'' t'' j' G' R' n => k r h'' t'' j' (G₁.trans G') R' n)
  | cons e args =>
    have main : wpAny (model pw w) A (spliced (backTo pos (starEach (e :: args) env))) (fun vs s₁ => wpAny (model pw w) A (PySem.call (.builtin id) (.str x t :: vs)) Q E s₁) E { s with heap := h₁, toks := t₁ } :=
      ha.spliced (s := { s with heap := h₁, toks := t₁ }) (I.grow G₁) j₁ fun vs h' t' j G R => op env.locals { s with heap := h', toks := t' } (.str x t :: vs) Q E ((I.grow G₁).grow G).ns ⟨⟨⟨t, rfl⟩, by nofun⟩, R⟩ j fun r h'' t'' j' G' R' n => k r h'' t'' j' ((G₁.trans G).trans G') R' n
    obtain ⟨p0, ps', rfl⟩ : ∃ p0 ps', ps = p0 :: ps' := by cases ps with | nil => exact ha.elim | cons a b => exact ⟨a, b, rfl⟩
    have hs := ha.1.2
    rw [hs] at main hpl ⊢
    exact PySem.Calls.callWith_builtin (first := [.str x t]) hpl (PySem.Calls.evalArgs_plain main)
end
end Mine
end
section
open PySem PySem.W PyProof.Rows
set_option maxRecDepth 100000
set_option Elab.async false
namespace Mine
section
variable {w : World} {g : Heap} {A : Around} {sc : Scope} {ρ : List (Str × PV)} {mean : ExcName → Option Value} {mg mb : Str → Option Value}

-- slices
noncomputable def EvPart (w : World) (g : Heap) (A : Around) (sc : Scope) (ρ : List (Str × PV)) : Option Expr → Option Int → Prop
  | none, none => True
  | some e, some i => Ev w g A sc ρ e (.sc (.int i))
  | _, _ => False
noncomputable def PartIs : Option Int → Value → Prop
  | none, v => v = .none
  | some i, v => ∃ t, v = .int i t
theorem PartIs.part {i : Option Int} {v : Value} (h : PartIs i v) : IsPart v i := by
  cases i with
  | none => cases h; exact .none
  | some i => obtain ⟨t, rfl⟩ := h; exact .int i t
theorem EvPart.run {o : Option Expr} {i : Option Int} (h : EvPart w g A sc ρ o i) {env : Env} {s : Shared} {Q : Value → Shared → Prop} {E : Value → Shared → Prop} (I : Inv w g sc env s.heap ρ) (hk1 : 1 ≤ s.toks)
    (k : ∀ v h' t', 1 ≤ t' → GrowX env.locals s.heap h' → PartIs i v → Q v { s with heap := h', toks := t' }) : wpAny (model pw w) A (evalPart o env) Q E s := by
  match o, i, h with
  | none, none, _ => exact wpAny_pure (k .none s.heap s.toks hk1 (.refl _ _) rfl)
  | some e, some i, h => exact Ev.run h env s Q E I hk1 fun v h' t' j G R _ => k v h' t' j G R
/-- a slice of a value -/
noncomputable def SlOp (w : World) (A : Around) (value slice : Expr) (lo hi st : Option Int) (a c : PV) : Prop :=
  ∀ (L : Addr) (s : Shared) (u v1 v2 v3 : Value) (Q E : Value → Shared → Prop), (∃ m, s.heap.Ns L m) → Rep w s.heap a u → u ≠ .ref L → PartIs lo v1 → PartIs hi v2 → PartIs st v3 → 1 ≤ s.toks →
    (∀ r h' t', 1 ≤ t' → GrowX L s.heap h' → Rep w h' c r → r ≠ .ref L → Q r { s with heap := h', toks := t' }) →
    wpAny (model pw w) A (subscriptTail value slice u (.ref s.heap.objs.size)) Q E { s with heap := s.heap.push { cls := .type "slice", data := .fields #[v1, v2, v3] } }
theorem Ev.slice {value : Expr} {lo hi st : Option Expr} {p p' : Pos} {a c : PV} {l h t : Option Int} (hv : Ev w g A sc ρ value a) (hl : EvPart w g A sc ρ lo l) (hh : EvPart w g A sc ρ hi h) (ht : EvPart w g A sc ρ st t)
    (ho : SlOp w A value (.Slice lo hi st p) l h t a c) : Ev w g A sc ρ (.Subscript value (.Slice lo hi st p) p') c := .mk fun env s Q E I hk1 k => by
  refine Subscript_ (hv.run env s _ E I hk1 fun u h₁ t₁ j₁ G₁ R₁ n₁ => ?_)
  refine wpAny_Slice (hl.run (s := { s with heap := h₁, toks := t₁ }) (I.grow G₁) j₁ fun v1 h₂ t₂ j₂ G₂ P₂ => ?_)
  refine hh.run (s := { s with heap := h₂, toks := t₂ }) ((I.grow G₁).grow G₂) j₂ fun v2 h₃ t₃ j₃ G₃ P₃ => ?_
  refine ht.run (s := { s with heap := h₃, toks := t₃ }) (((I.grow G₁).grow G₂).grow G₃) j₃ fun v3 h₄ t₄ j₄ G₄ P₄ => ?_
  have G := (G₂.trans G₃).trans G₄
  exact ho env.locals { s with heap := h₄, toks := t₄ } u v1 v2 v3 Q E ((I.grow (G₁.trans G)).ns) (R₁.grow G n₁) n₁ P₂ P₃ P₄ j₄ fun r h' t' j G' R n => k r h' t' j ((G₁.trans G).trans G') R n

theorem SlOp.str {x : Str} {n : Str} {p : Pos} {slice : Expr} {i j : Int} (hx : x.length ≤ 100000)
    (hs : ∀ t r, subscripted slice false (.str x t) (.ref r) = operate [.ref r, .str x t] (getItem (.str x t) (.ref r)) := by intros; with_unfolding_all rfl) :
    SlOp w A (.Name n p) slice (some i) (some j) none (.sc (.str x)) (.sc (.str (Txt.slice x (some i) (some j)))) := fun L s u v1 v2 v3 Q E hn ⟨t, hu⟩ _ ⟨t1, h1⟩ ⟨t2, h2⟩ h3 hk1 k => by
  cases h3
  subst hu h1 h2
  exact tk (s := { s with heap := s.heap.push _ }) hk1 (tail_of_ItemOn (SBH.sliceItem_ss (P := fun h' => ∀ b o, s.heap.get? b = some o → h'.get? b = some o) (fun h ob k b o e => Heap.get?_push_of_some _ (k b o e)) (fun _ _ e => e)
    (fun h' t' k' G j => k (.str _ _) h' k' j ⟨G⟩ ⟨_, rfl⟩ (by nofun)) (by rw [sizeLine_eq]; omega)) (hs _ _) (fun _ => rfl))
theorem SlOp.rev {x : Str} {n : Str} {p : Pos} {slice : Expr} (hx : x.length ≤ 100000)
    (hs : ∀ t r, subscripted slice false (.str x t) (.ref r) = operate [.ref r, .str x t] (getItem (.str x t) (.ref r)) := by intros; with_unfolding_all rfl) :
    SlOp w A (.Name n p) slice none none (some (-1)) (.sc (.str x)) (.sc (.str (Txt.sliceBy x none none (-1, 0)))) := fun L s u v1 v2 v3 Q E hn ⟨t, hu⟩ _ h1 h2 ⟨t3, h3⟩ hk1 k => by
  cases h1; cases h2
  subst hu h3
  exact tk (s := { s with heap := s.heap.push _ }) hk1 (tail_of_ItemOn ⟨"str", _, F.slot_str_getitem.lookup, typeIs_str _ _ _, wpAny_getItem_str_slice (l := none) (u := none) (st := some (-1, t3)) ⟨_, Heap.get?_push_size _ rfl, rfl, rfl⟩ rfl
    (post_val_or_str ⟨Nat.le_trans (Txt.sliceBy_le x _ _ (-1, t3) (by show (-1 : Int) ≠ 0; decide)) (by rw [sizeLine_eq]; omega), fun t' c j => k (.str _ _) _ c j (.push _) ⟨_, rfl⟩ (by nofun)⟩)⟩ (hs _ _) (fun _ => rfl))
noncomputable def scPick (xs : List Sc) (lo hi st : Option Int) : List Sc := (sliceRange (sliceBounds lo hi st xs.length).1 (sliceBounds lo hi st xs.length).2.1 (sliceBounds lo hi st xs.length).2.2).filterMap (xs[·]?)
theorem AllIs.pick {xs : List Sc} {vs : List Value} (h : AllIs xs vs) : ∀ (ix : List Nat), AllIs (ix.filterMap (xs[·]?)) (ix.filterMap (vs[·]?))
  | [] => trivial
  | i :: ix => by
    cases hx : xs[i]? with
    | none => rw [List.filterMap_cons_none hx, List.filterMap_cons_none (h.none hx)]; exact AllIs.pick h ix
    | some a =>
      obtain ⟨v, hv, hi⟩ := h.get hx
      rw [List.filterMap_cons_some hx, List.filterMap_cons_some hv]
      exact ⟨hi, AllIs.pick h ix⟩
theorem SlOp.list {xs : List Sc} {n : Str} {p : Pos} {slice : Expr} {i j st : Option Int} (hx : xs.length ≤ 100000) (h0 : st ≠ some 0)
    (hs : ∀ r r', subscripted slice false (.ref r) (.ref r') = operate [.ref r', .ref r] (getItem (.ref r) (.ref r')) := by intros; with_unfolding_all rfl) :
    SlOp w A (.Name n p) slice i j st (.list xs) (.list (scPick xs i j st)) := fun L s u v1 v2 v3 Q E hn ⟨a, vs, hu, ho, hr⟩ _ h1 h2 h3 hk1 k => by
  subst hu
  have hl := hr.length
  refine subscriptTail_ops (Heap.IsList.typeIs (s := { s with heap := s.heap.push { cls := .type "slice", data := .fields #[v1, v2, v3] } }) (ho.push _)) list_getitem_lookup
    (wpAny_getItem_list_slice (ho.push _) (Heap.IsSliceOf.new ..) h1.part h2.part h3.part h0 ?_ (by rw [sizeLine_eq]; simp; omega)) (hs _ _) (fun _ => rfl)
  refine k (.ref _) _ s.toks hk1 ((GrowX.push _).trans (.push _)) ⟨_, (sliceRange (sliceBounds i j st vs.length).1 (sliceBounds i j st vs.length).2.1 (sliceBounds i j st vs.length).2.2).filterMap (vs[·]?), rfl, ⟨_, Heap.get?_push_size _ rfl, rfl, 0, ?_⟩, ?_⟩ ?_
  · simp [slicePick]
  · unfold scPick
    rw [← hl]
    exact hr.pick _
  · have := ne_new hn 1
    rw [Heap.size_push]
    exact this

-- lists, tuples
theorem Op2.addL {xs ys : List Sc} (hx : xs.length + ys.length ≤ 100000) : Op2 w A (binaryOp .Add) (.list xs) (.list ys) (.list (xs ++ ys)) := fun L s u v Q E hn ⟨a, vs, hu, ho, hr⟩ ⟨b, us, hv, ho', hr'⟩ _ _ hk1 k => by
  subst hu hv
  have hl := hr.length
  have hl' := hr'.length
  obtain ⟨⟨cls, dd, data, sl⟩, ho, hc, n, hd⟩ := id ho
  obtain ⟨⟨cls2, dd2, data2, sl2⟩, ho2, hc2, n2, hd2⟩ := id ho'
  simp only at hc hd hc2 hd2
  subst hc hd hc2 hd2
  have e : vs.toArray ++ us.toArray = (vs ++ us).toArray := by simp
  refine concat_meets ⟨_, ho, rfl⟩ ⟨_, ho2, rfl⟩ noFill_list_add seq_list_add PySem.F.slot_list_add PySem.F.entry_list_add (PySem.F.args_list_add_2 _ _) (list_addW a b vs.toArray us.toArray n n2 dd dd2 sl sl2 (by rw [sizeLine_eq]; simp; omega)) ⟨ho, ho2, ?_⟩
  rw [e]
  exact k (.ref _) _ s.toks hk1 (.push _) ⟨_, vs ++ us, rfl, ⟨_, Heap.get?_push_size _ rfl, rfl, 0, rfl⟩, hr.append hr'⟩ (ne_new hn 0)
theorem RepAll.scs {h : Heap} {L : Addr} : ∀ {xs : List Sc} {vs : List Value}, RepAll w h L (xs.map .sc) vs → AllIs xs vs
  | [], [], _ => trivial
  | _ :: _, _ :: _, R => ⟨R.1.1, RepAll.scs R.2⟩
  | [], _ :: _, R => R.elim
  | _ :: _, [], R => R.elim
theorem EvArgs.listE {es : List Expr} {xs : List Sc} {p : Pos} (h : EvArgs w g A sc ρ es (xs.map .sc)) (hx : xs.length ≤ 100000) : Ev w g A sc ρ (.List es p) (.list xs) := .mk fun env s Q E I hk1 k => by
  rw [arm_eval_List]
  refine wpAny_bind (wpAny_standAt (wpAny_bind (h.spliced I hk1 fun vs h' t' j G R => ?_)))
  have hr : AllIs xs vs := R.scs
  have hl := hr.length
  refine wpAny_newList (k (.ref _) _ t' j (G.trans (.push _)) ⟨_, vs, rfl, ⟨_, Heap.get?_push_size _ rfl, rfl, 0, rfl⟩, hr⟩ (ne_new (I.grow G).ns 0)) (by rw [sizeLine_eq]; omega)
theorem EvArgs.tupleE {es : List Expr} {xs : List Sc} {c : Nat} {p : Pos} (h : EvArgs w g A sc ρ es (xs.map .sc)) (hx : xs.length ≤ 100000) : Ev w g A sc ρ (.Tuple es c p) (.tuple xs) := .mk fun env s Q E I hk1 k => by
  rw [arm_eval_Tuple]
  refine wpAny_bind (wpAny_standAt (wpAny_bind (h.spliced I hk1 fun vs h' t' j G R => ?_)))
  have hr : AllIs xs vs := R.scs
  have hl := hr.length
  refine wpAny_newTuple (k (.ref _) _ t' j (G.trans (.push _)) ⟨_, vs, rfl, ⟨_, Heap.get?_push_size _ rfl, rfl, 0, rfl⟩, hr⟩ (ne_new (I.grow G).ns 0)) (by rw [sizeLine_eq]; omega)

-- dicts keyed by texts
theorem DVals.value : ∀ {kvs : List (Str × Sc)} {vs : List (Str × Value)} {x : Str}, DVals kvs vs → (∀ a, kvs.lookup x = some a → ∃ v, valueAt vs x = some v ∧ a.Is v) ∧ (kvs.lookup x = none → valueAt vs x = none)
  | [], [], _, _ => ⟨fun _ h => by simp at h, fun _ => rfl⟩
  | (k, a) :: r, (k', v) :: r', x, ⟨e, ha, h⟩ => by
    subst e
    obtain ⟨i1, i2⟩ := DVals.value (x := x) h
    by_cases hx : x = k
    · subst hx
      constructor
      · intro b hb
        simp [List.lookup_cons] at hb
        subst hb
        exact ⟨v, by simp [valueAt], ha⟩
      · intro hb; simp [List.lookup_cons] at hb
    · have hx1 : (x == k) = false := beq_eq_false_iff_ne.mpr hx
      have hx2 : decide (k = x) = false := decide_eq_false (Ne.symm hx)
      have ev : valueAt ((k, v) :: r') x = valueAt r' x := by simp [valueAt, List.find?_cons, hx2]
      have el : ((k, a) :: r).lookup x = r.lookup x := by simp [List.lookup_cons, hx1]
      rw [ev, el]
      exact ⟨i1, i2⟩
  | [], _ :: _, _, h => h.elim
  | _ :: _, [], _, h => h.elim
theorem Op2.inD {x : Str} {kvs : List (Str × Sc)} : Op2 w A (compareOp .In) (.sc (.str x)) (.dict kvs) (.sc (.bool (kvs.lookup x).isSome)) := fun L s u v Q E _ ⟨t, hu⟩ ⟨a, vs, hv, hd, hr, hne⟩ _ _ hk1 k => by
  subst hu hv
  refine wpAny_in_of (strKind_is pw w x t) (beq_eq_false_iff_ne.mpr hne) hd.mapOf (k (.bool _) s.heap (s.toks + 1) (by omega) (.refl _ _) ?_ (by nofun))
  obtain ⟨h1, h2⟩ := hr.value (x := x)
  show _ = Value.bool _
  cases h : kvs.lookup x with
  | none => rw [h2 h]; rfl
  | some a => obtain ⟨v, hv, _⟩ := h1 a h; rw [hv]; rfl
theorem SubOp.dictI {x : Str} {kvs : List (Str × Sc)} {b : Sc} {value slice : Expr} (hx : kvs.lookup x = some b)
    (hs : ∀ (r : Addr) (u : Tok), subscripted slice false (.ref r) (.str x u) = operate [.ref r, .str x u] (getItem (.ref r) (.str x u)) := by intros; with_unfolding_all rfl) :
    SubOp w A value slice (.dict kvs) (.sc (.str x)) (.sc b) := fun L s u v Q E _ ⟨a, vs, hu, hd, hr, hne⟩ ⟨t, hv⟩ _ _ hk1 k => by
  subst hu hv
  obtain ⟨y, hy, hb⟩ := (hr.value (x := x)).1 b hx
  have hm := hd.mapOf
  refine tail_any hm.typeIs slot_dict_getitem.lookup (wpAny_getItem_of (strKind_is pw w x t) hm hy (k y s.heap (s.toks + 1) (by omega) (.refl _ _) hb ?_)) (hs _ _)
  intro e; subst e
  cases b <;> first | (cases hb; done) | (obtain ⟨_, q⟩ := hb; cases q)
end
end Mine
end
section
open PySem PySem.W PyProof.Rows
set_option maxRecDepth 100000
set_option Elab.async false
namespace Mine
section
variable {w : World} {g : Heap} {A : Around} {sc : Scope} {ρ : List (Str × PV)} {mean : ExcName → Option Value} {mg mb : Str → Option Value}

/-- the objects that a walk leans on: iterators, or (lst) a list that it only reads -/
noncomputable def FpK (lst : Bool) (inwr : Prop) (o : Obj) : Prop := ((∃ vs, o.data = .fields vs) ∧ o.cls ≠ .type "range") ∨ (lst = true ∧ ¬ inwr ∧ o.cls = .type "list" ∧ ∃ items n, o.data = .seq items n)

/-- what is walked: its items are scalars -/
noncomputable def Src (lst : Bool) (w : World) (g : Heap) (A : Around) (sc : Scope) (ρ : List (Str × PV)) (iter : Expr) (xs : List Sc) : Prop :=
  ∀ (env : Env) (s : Shared) (K E : Value → Shared → Prop), Inv w g sc env s.heap ρ → 1 ≤ s.toks →
    (∀ I fp wr St h' t', 1 ≤ t' → GrowX env.locals s.heap h' → Walks pw w A I fp wr xs.length (fun i v => ∃ a, xs[i]? = some a ∧ a.Is v) St → St 0 h' → (∀ b ∈ fp, b < h'.objs.size) → (∀ b ∈ wr, s.heap.get? b = none) →
      (∀ i h, St i h → ∀ b ∈ fp, ∃ o, h.get? b = some o ∧ FpK lst (b ∈ wr) o) → K (.ref I) { s with heap := h', toks := t' }) →
    wpAny (model pw w) A (eval iter env) (fun x s₁ => wpAny (model pw w) A (pyIter x) K E s₁) E s

theorem Walks.weak {I : Addr} {fp wr : List Addr} {n n' : Nat} {P P' : Nat → Value → Prop} {St : Nat → Heap → Prop} (W : Walks pw w A I fp wr n P St) (hn : n = n') (hP : ∀ i v, i < n → P i v → P' i v) : Walks pw w A I fp wr n' P' St := by
  subst hn
  exact ⟨W.sub, W.frame, fun i s Q E hi st hQ => W.item i s Q E hi st fun v h' tk hp => hQ v h' tk (hP i v hi hp), W.done, W.self⟩

theorem new_none {h : Heap} {k : Nat} : h.get? (h.objs.size + k) = none := by
  cases e : h.get? (h.objs.size + k) with
  | none => rfl
  | some o => exact absurd (show h.objs.size + k < h.objs.size from Heap.lt_size e) (Nat.not_lt.mpr (Nat.le_add_right _ _))
theorem Src.list {iter : Expr} {xs : List Sc} (hA : A.handled = none) (h : Ev w g A sc ρ iter (.list xs)) : Src true w g A sc ρ iter xs := fun env s K E I hk1 k => by
  refine h.run env s _ E I hk1 fun v h₁ t₁ j G R n => ?_
  obtain ⟨a, vs, rfl, ho, hr⟩ := R
  have hlt : a < h₁.objs.size := by obtain ⟨_, e, _⟩ := ho; exact Heap.lt_size e
  refine wpAny_pyIter_list (s := { s with heap := h₁, toks := t₁ }) ho ?_
  have hW := Walks.list (prog := pw) (w := w) (A := A) hA h₁.objs.size a (Nat.ne_of_lt hlt) vs.toArray
  refine k h₁.objs.size _ _ _ _ t₁ j (G.trans (.push _)) (Walks.weak hW (by simp [hr.length]) fun i v _ hv => ?_) ⟨⟨_, Heap.get?_push_size _ rfl, rfl, rfl⟩, ho.push _⟩ ?_ ?_ ?_
  · have hv' : vs[i]? = some v := by simpa using hv
    cases hx : xs[i]? with
    | none => rw [hr.none hx] at hv'; cases hv'
    | some a' => obtain ⟨u, h1, h2⟩ := hr.get hx; rw [hv'] at h1; cases h1; exact ⟨a', rfl, h2⟩
  · intro b hb
    rw [Heap.size_push]
    rcases List.mem_cons.mp hb with rfl | hb
    · exact Nat.lt_succ_self _
    · rcases List.mem_cons.mp hb with rfl | hb
      · exact Nat.lt_succ_of_lt hlt
      · cases hb
  · intro b hb
    obtain rfl : b = h₁.objs.size := by simpa using hb
    cases e : s.heap.get? h₁.objs.size with
    | none => rfl
    | some o => have := G.keep _ _ e; exact absurd (Heap.lt_size this) (Nat.lt_irrefl _)
  · rintro i h ⟨⟨o1, e1, c1, d1⟩, ⟨o2, e2, c2, n2, d2⟩⟩ b hb
    rcases List.mem_cons.mp hb with rfl | hb
    · exact ⟨o1, e1, .inl ⟨⟨_, d1⟩, by rw [c1]; nofun⟩⟩
    · obtain rfl : b = a := by simpa using hb
      exact ⟨o2, e2, .inr ⟨rfl, by simpa using Nat.ne_of_lt hlt, c2, _, _, d2⟩⟩
theorem Src.str {iter : Expr} {x : Str} (hA : A.handled = none) (h : Ev w g A sc ρ iter (.sc (.str x))) : Src false w g A sc ρ iter ((signs x).map .str) := fun env s K E I hk1 k => by
  refine h.run env s _ E I hk1 fun v h₁ t₁ j G R n => ?_
  obtain ⟨t, rfl⟩ := R
  have hP : ∀ i v, i < x.cps.size → SignAt x i v → ∃ a, ((signs x).map Sc.str)[i]? = some a ∧ a.Is v := by
    rintro i v _ ⟨c, u, hc, rfl⟩
    have : x.cps.toList[i]? = some c := by rw [Array.getElem?_toList]; exact hc
    exact ⟨.str ⟨#[c]⟩, by simp [signs, this], u, rfl⟩
  have hl : x.cps.size = ((signs x).map Sc.str).length := by simp [signs]
  have new : s.heap.get? h₁.objs.size = none := by
    cases e : s.heap.get? h₁.objs.size with
    | none => rfl
    | some o => have := G.keep _ _ e; exact absurd (Heap.lt_size this) (Nat.lt_irrefl _)
  cases ha : x.cps.all (· < 128)
  · refine wpAny_pyIter_wide (s := { s with heap := h₁, toks := t₁ }) ha ?_
    refine k h₁.objs.size _ _ _ _ t₁ j (G.trans (.push _)) (Walks.weak (Walks.strWide (prog := pw) (w := w) (A := A) hA h₁.objs.size x t) hl hP) ⟨_, Heap.get?_push_size _ rfl, rfl, rfl⟩ ?_ ?_ ?_
    · intro b hb; obtain rfl : b = h₁.objs.size := by simpa using hb
      rw [Heap.size_push]; exact Nat.lt_succ_self _
    · intro b hb; obtain rfl : b = h₁.objs.size := by simpa using hb
      exact new
    · rintro i h ⟨o1, e1, c1, d1⟩ b hb
      obtain rfl : b = h₁.objs.size := by simpa using hb
      exact ⟨o1, e1, .inl ⟨⟨_, d1⟩, by rw [c1]; nofun⟩⟩
  · refine wpAny_pyIter_ascii (s := { s with heap := h₁, toks := t₁ }) ha ?_
    refine k h₁.objs.size _ _ _ _ t₁ j (G.trans (.push _)) (Walks.weak (Walks.strAscii (prog := pw) (w := w) (A := A) hA h₁.objs.size x t) hl hP) ⟨_, Heap.get?_push_size _ rfl, rfl, rfl⟩ ?_ ?_ ?_
    · intro b hb; obtain rfl : b = h₁.objs.size := by simpa using hb
      rw [Heap.size_push]; exact Nat.lt_succ_self _
    · intro b hb; obtain rfl : b = h₁.objs.size := by simpa using hb
      exact new
    · rintro i h ⟨o1, e1, c1, d1⟩ b hb
      obtain rfl : b = h₁.objs.size := by simpa using hb
      exact ⟨o1, e1, .inl ⟨⟨_, d1⟩, by rw [c1]; nofun⟩⟩
theorem Src.range {iter : Expr} {a b : Int} {n : Nat} (hA : A.handled = none) (h : Ev w g A sc ρ iter (.range a b 1)) (hsmall : Builtin.Range.small a b 1 = true) (hn : Builtin.Range.rangeSize a b 1 = n) : Src false w g A sc ρ iter ((List.range n).map fun (i : Nat) => .int (a + i)) := fun env s K E I hk1 k => by
  refine h.run env s _ E I hk1 fun v h₁ t₁ j G R nn => ?_
  obtain ⟨r, t, u, x, rfl, ho⟩ := R
  have new : s.heap.get? h₁.objs.size = none := by
    cases e : s.heap.get? h₁.objs.size with
    | none => rfl
    | some o => have := G.keep _ _ e; exact absurd (Heap.lt_size this) (Nat.lt_irrefl _)
  refine wpAny_pyIter_range (s := { s with heap := h₁, toks := t₁ }) ho hsmall ?_
  refine k h₁.objs.size _ _ _ _ t₁ j (G.trans (.push _)) (Walks.weak (Walks.range (prog := pw) (w := w) (A := A) hA h₁.objs.size a 1 n) (by simp) ?_) ?_ ?_ ?_ ?_
  · rintro i v hi ⟨t', rfl⟩
    exact ⟨.int (a + i), by simp [hi], t', by simp⟩
  · show IsRangeIter _ _ _ _ _
    rw [hn]
    have e1 : a + ((0 : Nat) : Int) * 1 = a := by simp
    have e2 : (n : Int) - ((0 : Nat) : Int) = n := by simp
    rw [e1, e2]
    exact Heap.get?_push_size _ rfl
  · intro b hb; obtain rfl : b = h₁.objs.size := by simpa using hb
    rw [Heap.size_push]; exact Nat.lt_succ_self _
  · intro b hb; obtain rfl : b = h₁.objs.size := by simpa using hb
    exact new
  · intro i h e1 b hb
    obtain rfl : b = h₁.objs.size := by simpa using hb
    exact ⟨_, e1, .inl ⟨⟨_, rfl⟩, by show Value.type "range_iterator" ≠ _; nofun⟩⟩

-- comprehensions
noncomputable def relabelS (scope sc : Scope) : Scope :=
  { scope with names := scope.names.map fun (n, k) => if (k == .free && sc.kind == .function && sc.names.lookup n == some .cell) then (n, .cell) else (n, k) }
theorem relabel_eq (scope : Scope) (env : Env) : relabel scope env = relabelS scope env.scope := rfl

/-- the names of a scope that come from around -/
noncomputable def freeOf (scope : Scope) (ρ : List (Str × PV)) : List (Str × PV) := ρ.filter fun q => scope.names.lookup q.1 == some .free
theorem lookup_freeOf {scope : Scope} : ∀ {ρ : List (Str × PV)} {x : Str} {pv : PV}, (freeOf scope ρ).lookup x = some pv → ρ.lookup x = some pv ∧ scope.names.lookup x = some .free
  | [], _, _, h => by simp [freeOf] at h
  | (y, p) :: r, x, pv, h => by
    unfold freeOf at h
    rw [List.filter_cons] at h
    by_cases hy : (scope.names.lookup y == some NameKind.free) = true
    · simp only [hy, if_true] at h
      by_cases hx : (x == y) = true
      · simp only [List.lookup_cons, hx] at h ⊢
        exact ⟨h, (eq_of_beq hx) ▸ eq_of_beq hy⟩
      · have hx' : (x == y) = false := by simpa using hx
        simp only [List.lookup_cons, hx'] at h ⊢
        exact lookup_freeOf h
    · simp only [hy] at h
      obtain ⟨h1, h2⟩ := lookup_freeOf (scope := scope) (ρ := r) h
      refine ⟨?_, h2⟩
      have hx' : (x == y) = false := by
        cases q : x == y with
        | false => rfl
        | true => rw [eq_of_beq q] at h2; rw [h2] at hy; exact absurd rfl hy
      simp only [List.lookup_cons, hx']
      exact h1
theorem closure_of {env : Env} : ∀ (names : List (Str × NameKind)) (cs : List (Str × Addr)), (∀ n, (n, NameKind.free) ∈ names → ∃ c, env.cells.lookup n = some c) →
    ∃ cl, (forIn names cs fun (x : Str × NameKind) (r : List (Str × Addr)) => if (x.2 == NameKind.free) = true then (do let c ← cellOf env x.1; pure (ForInStep.yield ((x.1, c) :: r))) else (pure (ForInStep.yield r) : Sem _)) = (pure cl : Sem (List (Str × Addr))) ∧
      ∀ y, ((y, NameKind.free) ∈ names ∨ (cs.lookup y = env.cells.lookup y ∧ (cs.lookup y).isSome)) → cl.lookup y = env.cells.lookup y
  | [], cs, _ => ⟨cs, by rw [List.forIn_nil], fun y h => by rcases h with h | h; exact absurd h List.not_mem_nil; exact h.1⟩
  | (n, k) :: r, cs, h => by
    rw [List.forIn_cons]
    by_cases hk : k = .free
    · subst hk
      obtain ⟨c, hc⟩ := h n List.mem_cons_self
      obtain ⟨cl, e, q⟩ := closure_of r ((n, c) :: cs) fun m hm => h m (List.mem_cons_of_mem _ hm)
      refine ⟨cl, ?_, fun y hy => q y ?_⟩
      · simp only [beq_self_eq_true, if_true, cellOf, hc, pure_bind]
        exact e
      · by_cases hyn : y = n
        · subst hyn
          exact .inr ⟨by simp [hc], by simp⟩
        · have hb : (y == n) = false := beq_eq_false_iff_ne.mpr hyn
          rcases hy with hy | hy
          · rcases List.mem_cons.mp hy with e | e
            · cases e; exact absurd rfl hyn
            · exact .inl e
          · refine .inr ?_
            simp only [List.lookup_cons, hb]
            exact hy
    · obtain ⟨cl, e, q⟩ := closure_of r cs fun m hm => h m (List.mem_cons_of_mem _ hm)
      have hb : (k == NameKind.free) = false := beq_eq_false_iff_ne.mpr hk
      refine ⟨cl, ?_, fun y hy => q y ?_⟩
      · simp only [hb, Bool.false_eq_true, if_false, pure_bind]
        exact e
      · rcases hy with hy | hy
        · rcases List.mem_cons.mp hy with e | e
          · cases e; exact absurd rfl hk
          · exact .inl e
        · exact .inr hy
theorem closureFor_of {scope : Scope} {env : Env} (h : ∀ n, (n, NameKind.free) ∈ scope.names → ∃ c, env.cells.lookup n = some c) :
    ∃ cl, closureFor scope env = pure cl ∧ ∀ y, (y, NameKind.free) ∈ scope.names → cl.lookup y = env.cells.lookup y := by
  obtain ⟨cl, e, q⟩ := closure_of scope.names [] h
  refine ⟨cl, ?_, fun y hy => q y (.inl hy)⟩
  simp only [closureFor]
  exact Eq.trans (congrArg (fun m => m >>= fun s => pure s) e) rfl

theorem cellsFrom_none : ∀ (names : List (Str × NameKind)) (n : Nat) (acc : List (Str × Addr)) (h : Heap), (∀ y ∈ names, y.2 ≠ .cell) → cellsFrom n names acc = acc ∧ pushCells h names = h
  | [], _, _, _, _ => ⟨rfl, rfl⟩
  | (y, k) :: r, n, acc, h, hn => by
    have hk : (k == NameKind.cell) = false := beq_eq_false_iff_ne.mpr (hn (y, k) List.mem_cons_self)
    obtain ⟨a, b⟩ := cellsFrom_none r n acc h fun z hz => hn z (List.mem_cons_of_mem _ hz)
    refine ⟨?_, ?_⟩
    · rw [cellsFrom]; simp only [hk, Bool.false_eq_true, if_false]; exact a
    · rw [pushCells]; simp only [hk, Bool.false_eq_true, if_false]; exact b
noncomputable def OneCell (names : List (Str × NameKind)) (x : Str) : Prop := ∃ pre post, names = pre ++ (x, NameKind.cell) :: post ∧ (∀ y ∈ pre, y.2 ≠ .cell) ∧ ∀ y ∈ post, y.2 ≠ .cell
theorem cellsFrom_one {names : List (Str × NameKind)} {x : Str} (hc : OneCell names x) (n : Nat) (acc : List (Str × Addr)) (h : Heap) :
    cellsFrom n names acc = (x, n) :: acc ∧ pushCells h names = h.push { cls := .type "cell", data := .cell none } := by
  obtain ⟨pre, post, rfl, h1, h2⟩ := hc
  induction pre with
  | nil =>
    obtain ⟨a, b⟩ := cellsFrom_none post (n + 1) ((x, n) :: acc) (h.push { cls := .type "cell", data := .cell none }) h2
    refine ⟨?_, ?_⟩
    · rw [List.nil_append, cellsFrom]; exact a
    · rw [List.nil_append, pushCells]; exact b
  | cons y pre ih =>
    obtain ⟨y, k⟩ := y
    have hk : (k == NameKind.cell) = false := beq_eq_false_iff_ne.mpr (h1 (y, k) List.mem_cons_self)
    obtain ⟨a, b⟩ := ih fun z hz => h1 z (List.mem_cons_of_mem _ hz)
    refine ⟨?_, ?_⟩
    · rw [List.cons_append, cellsFrom]; simp only [hk, Bool.false_eq_true, if_false]; exact a
    · rw [List.cons_append, pushCells]; simp only [hk, Bool.false_eq_true, if_false]; exact b

theorem newEnvComp {M : Model} {E : Value → Shared → Prop} {scope : Scope} {globals : Addr} {cl : List (Str × Addr)} {qual : Str} {env : Env} {s : Shared} {Q : Env → Shared → Prop}
    (h : Q (newEnv scope s.heap.objs.size globals (cellsFrom (s.heap.objs.size + 1) scope.names cl) qual none .none (some env) builtinsNs) { s with heap := pushCells (s.heap.push { cls := .type "dict", data := .dict #[] }) scope.names }) :
    wpAny M A (newFunctionEnv scope globals cl [] qual none .none (some env)) Q E s := by
  simp only [newFunctionEnv, Option.isSome_some, if_true]
  refine wpAny_bind (wpAny_alloc ?_)
  refine wpAny_bind (wpAny_layCells _ (fun name kind cells => by cases hkc : kind == NameKind.cell <;> simp [hkc]) _ _ _ _ ?_)
  rw [show ({ s with heap := s.heap.push { cls := .type "dict", data := .dict #[] } } : Shared).heap.objs.size = s.heap.objs.size + 1 from Heap.size_push ..]
  simp only [List.forIn_nil]
  exact wpAny_bind (wpAny_pure (wpAny_pure h))

noncomputable def Tests (w : World) (g : Heap) (A : Around) (sc : Scope) (ρ : List (Str × PV)) : List Expr → Bool → Prop
  | [], b => b = true
  | [c], b => Tr w g A sc ρ c b
  | _, _ => False
theorem Tests.run {ifs : List Expr} {b : Bool} (h : Tests w g A sc ρ ifs b) {env : Env} {s : Shared} {Q : Bool → Shared → Prop} {E : Value → Shared → Prop} (I : Inv w g sc env s.heap ρ) (hk1 : 1 ≤ s.toks)
    (k : ∀ h' t', 1 ≤ t' → GrowX env.locals s.heap h' → Q b { s with heap := h', toks := t' }) :
    wpAny (model pw w) A (forIn ifs true fun c r => if r = true then do let ok ← PySem.isTrue c env (eval c env); pure (ForInStep.yield ok) else pure (ForInStep.yield r)) Q E s := by
  match ifs, h with
  | [], h => cases h; exact wpAny_tests_nil (k s.heap s.toks hk1 (.refl _ _))
  | [c], h => exact wpAny_tests_one (Tr.run h env s Q E I hk1 k)
end
end Mine
end
section
open PySem PySem.W PyProof.Rows
set_option maxRecDepth 100000
set_option Elab.async false
namespace Mine
section
variable {w : World} {g : Heap} {A : Around} {sc : Scope} {ρ : List (Str × PV)} {mean : ExcName → Option Value} {mg mb : Str → Option Value}

theorem relabelS_lookup {scope sc : Scope} {x : Str} {k : NameKind} (h : scope.names.lookup x = some k) :
    (relabelS scope sc).names.lookup x = some (if (k == .free && sc.kind == .function && sc.names.lookup x == some .cell) = true then .cell else k) := by
  unfold relabelS
  dsimp only
  generalize scope.names = names at h
  induction names with
  | nil => simp at h
  | cons y r ih =>
    obtain ⟨n, k'⟩ := y
    rw [List.map_cons]
    by_cases hx : (x == n) = true
    · have e := eq_of_beq hx
      subst e
      simp at h
      subst h
      dsimp only
      split <;> simp
    · have hx' : (x == n) = false := by simpa using hx
      simp only [List.lookup_cons, hx'] at h
      have := ih h
      dsimp only
      split <;> (simp only [List.lookup_cons, hx']; exact this)

/-- the target of a comprehension: a plain local, or its one cell -/
inductive TargetOk (scope : Scope) (x : Str) : Prop
  | loc (h : scope.names.lookup x = some .local) (hn : ∀ y ∈ scope.names, y.2 ≠ .cell)
  | cell (h : scope.names.lookup x = some .cell) (hc : OneCell scope.names x)

noncomputable def compEnvM (scope : Scope) (cl : List (Str × Addr)) (C : Addr) (env : Env) : Env :=
  { newEnv scope C env.globals (cellsFrom (C + 1) scope.names cl) env.qual none .none (some env) builtinsNs with scope := relabel scope env }

/-- where the target's value lies -/
noncomputable def Slot (scope : Scope) (x : Str) (C : Addr) (h : Heap) (v : Option Value) : Prop :=
  ∃ m, h.Ns C m ∧ ((scope.names.lookup x = some .local ∧ ∀ u, v = some u → m x = some u) ∨ (scope.names.lookup x = some .cell ∧ ∃ u, h.IsCell (C + 1) u ∧ ∀ u', v = some u' → u = some u'))

theorem cell_inj {h : Heap} {a : Addr} {u v : Option Value} (x : h.IsCell a u) (y : h.IsCell a v) : u = v := by
  obtain ⟨o, h1, h2⟩ := x
  obtain ⟨o', h3, h4⟩ := y
  rw [h1] at h3; cases h3
  rw [h2] at h4; cases h4; rfl

theorem isCell_keep {h h' : Heap} {a : Addr} {u : Option Value} (x : h.IsCell a u) (k : ∀ b o, h.get? b = some o → h'.get? b = some o) : h'.IsCell a u := by
  obtain ⟨o, h1, h2⟩ := x
  exact ⟨o, k _ _ h1, h2⟩
theorem compInv {scope : Scope} {x : Str} {cl : List (Str × Addr)} {C : Addr} {env : Env} {h₀ h : Heap} {a : Sc} {v : Value} (I : Inv w g sc env h₀ ρ) (hsc : scope.kind = .function)
    (hfree : ∀ n, (n, NameKind.free) ∈ scope.names → sc.names.lookup n = some .cell ∨ sc.names.lookup n = some .free) (hcl : ∀ y, (y, NameKind.free) ∈ scope.names → cl.lookup y = env.cells.lookup y)
    (hx : TargetOk scope x) (keep : ∀ b o, h₀.get? b = some o → h.get? b = some o) (hC : h₀.get? C = none) (S : Slot scope x C h (some v)) (hv : a.Is v) :
    Inv w g (relabelS scope sc) (compEnvM scope cl C env) h ((x, .sc a) :: freeOf scope ρ) := by
  have hlk : (compEnvM scope cl C env).cells = cellsFrom (C + 1) scope.names cl := rfl
  have hsc2 : (compEnvM scope cl C env).scope = relabelS scope sc := by rw [← I.scp]; rfl
  have hk : ∀ y, (compEnvM scope cl C env).kindOf y = (relabelS scope sc).names.lookup y := fun y => by show (compEnvM scope cl C env).scope.names.lookup y = _; rw [hsc2]
  obtain ⟨m, hm, S⟩ := S
  have hCg : g.get? C = none := by
    cases e : g.get? C with
    | none => rfl
    | some o => rw [I.keep _ _ e] at hC; cases hC
  refine ⟨hsc2, hsc, I.glob, I.blt, fun b o e => keep b o (I.keep b o e), hCg, ⟨m, hm⟩, fun y pv e => ?_⟩
  by_cases hy : (y == x) = true
  · have e' := eq_of_beq hy
    subst e'
    simp at e
    subst e
    have hne : v ≠ .ref (compEnvM scope cl C env).locals := by
      intro q; subst q
      cases a <;> first | (cases hv; done) | (obtain ⟨_, q⟩ := hv; cases q)
    refine ⟨v, ?_, hv, hne⟩
    rcases S with ⟨S1, S2⟩ | ⟨S1, u, S2, S3⟩
    · refine .inl ⟨?_, m, hm, S2 v rfl⟩
      rw [hk, relabelS_lookup S1]; rfl
    · have := S3 v rfl
      subst this
      refine .inr ⟨.inl ?_, C + 1, ?_, S2⟩
      · rw [hk, relabelS_lookup S1]; rfl
      · cases hx with
        | loc h' _ => rw [h'] at S1; cases S1
        | cell _ hc => rw [hlk, (cellsFrom_one hc _ _ h).1]; simp
  · have hy' : (y == x) = false := by simpa using hy
    simp only [List.lookup_cons, hy'] at e
    obtain ⟨e1, e2⟩ := lookup_freeOf e
    have hmem := mem_lookup e2
    obtain ⟨v', V, R, ne⟩ := I.vars y pv e1
    have hkind := hfree y hmem
    have hkE : env.kindOf y = sc.names.lookup y := by show env.scope.names.lookup y = _; rw [I.scp]
    rcases V with ⟨q, _⟩ | ⟨q, c, hc, hcell⟩
    · rw [hkE] at q; rw [q] at hkind; rcases hkind with z | z <;> cases z
    · have hne : v' ≠ .ref (compEnvM scope cl C env).locals := by
        intro q; subst q
        have : ∃ o, h₀.get? C = some o := by
          cases pv with
          | sc a => cases a <;> first | (cases R; done) | (obtain ⟨_, q⟩ := R; cases q)
          | list xs => obtain ⟨a', vs, q, ⟨o, ho, _⟩, _⟩ := R; cases q; exact ⟨o, ho⟩
          | tuple xs => obtain ⟨a', vs, q, ⟨o, ho, _⟩, _⟩ := R; cases q; exact ⟨o, ho⟩
          | dict xs => obtain ⟨a', vs, q, ⟨o, es, ep, ho, _⟩, _⟩ := R; cases q; exact ⟨o, ho⟩
          | range _ _ _ => obtain ⟨a', _, _, _, q, ho⟩ := R; cases q; exact ⟨_, ho⟩
        obtain ⟨o, ho⟩ := this
        rw [hC] at ho; cases ho
      refine ⟨v', .inr ⟨?_, c, ?_, isCell_keep hcell keep⟩, R.grow (L := env.locals) ⟨keep⟩ ne, hne⟩
      · rw [hk, relabelS_lookup e2]
        split
        · exact .inl rfl
        · exact .inr rfl
      · cases hx with
        | loc _ hn => rw [hlk, (cellsFrom_none _ _ _ h hn).1, hcl y hmem]; exact hc
        | cell _ hcc => rw [hlk, (cellsFrom_one hcc _ _ h).1]; simp only [List.lookup_cons, hy']; rw [hcl y hmem]; exact hc

theorem Sc.ne_ref {a : Sc} {v : Value} (h : a.Is v) (b : Addr) : v ≠ .ref b := by
  intro q; subst q
  cases a <;> first | (cases h; done) | (obtain ⟨_, q⟩ := h; cases q)

/-- storing the target -/
theorem store_target {E : Value → Shared → Prop} {scope : Scope} {x : Str} {px : Pos} {cl : List (Str × Addr)} {C : Addr} {env : Env} {s : Shared} {u : Option Value} {v : Value} {Q : Unit → Shared → Prop} (hsc : scope.kind = .function)
    (hx : TargetOk scope x) (S : Slot scope x C s.heap u) (hk1 : 1 ≤ s.toks)
    (k : ∀ h' t', 1 ≤ t' → (∀ b o, b ≠ C → (b = C + 1 → scope.names.lookup x ≠ some .cell) → s.heap.get? b = some o → h'.get? b = some o) → Slot scope x C h' (some v) → Q () { s with heap := h', toks := t' }) :
    wpAny (model pw w) A (assign (.Name x px) (compEnvM scope cl C env) v) Q E s := by
  have hk : ∀ y k, scope.names.lookup y = some k → k ≠ .free → (compEnvM scope cl C env).kindOf y = some k := fun y k hy hne => by
    show (relabelS scope env.scope).names.lookup y = _
    rw [relabelS_lookup hy]
    have : (k == NameKind.free) = false := beq_eq_false_iff_ne.mpr hne
    simp [this]
  have hkf : (compEnvM scope cl C env).scope.kind = .function := hsc
  obtain ⟨m, hm, S⟩ := S
  rcases S with ⟨S1, S2⟩ | ⟨S1, u', S2, S3⟩
  · refine wpAny_assign_Name (wpAny_storeName_local (hk x _ S1 (by decide)) hm (fun h' hn hs => ?_) (by rw [hkf]; rfl))
    refine k h' _ (by show 1 ≤ s.toks + 1; omega) (fun b o hb _ e => hs.extBut b o hb e) ⟨_, hn, .inl ⟨S1, fun u e => ?_⟩⟩
    cases e; simp
  · have hc : (compEnvM scope cl C env).cells.lookup x = some (C + 1) := by
      show (cellsFrom (C + 1) scope.names cl).lookup x = _
      cases hx with
      | loc h' _ => rw [h'] at S1; cases S1
      | cell _ hc => rw [(cellsFrom_one hc _ _ s.heap).1]; simp
    refine wpAny_assign_Name (wpAny_storeName_cell hkf (hk x _ S1 (by decide)) hc S2 fun h' hcell hs => ?_)
    refine k h' _ hk1 (fun b o _ hb e => hs.extBut b o (fun q => hb q S1) e) ⟨m, hm.extBut hs.extBut (Nat.ne_of_lt (Nat.lt_succ_self C)), .inr ⟨S1, some v, hcell, fun u' e => e⟩⟩

theorem comp_core {elt iter : Expr} {x : Str} {px pos pos' : Pos} {ifs : List Expr} {scope : Scope} {xs : List Sc} {use : Option (Value → Sem Unit)} (p : Sc → Bool) (f : Sc → Sc)
    (hA : A.handled = none) {lst : Bool} (hsrc : Src lst w g A sc ρ iter xs) (hsc : scope.kind = .function) (hnames : ∀ y ∈ scope.names, y.2 = .local → scope.names.lookup y.1 = some .local)
    (hfree : ∀ n, (n, NameKind.free) ∈ scope.names → (ρ.lookup n).isSome = true ∧ (sc.names.lookup n = some .cell ∨ sc.names.lookup n = some .free))
    (hx : TargetOk scope x) (hlen : xs.length ≤ 100000)
    (htest : ∀ a ∈ xs, Tests w g A (relabelS scope sc) ((x, .sc a) :: freeOf scope ρ) ifs (p a))
    (helt : ∀ a ∈ xs, p a = true → Ev w g A (relabelS scope sc) ((x, .sc a) :: freeOf scope ρ) elt (.sc (f a)))
    {env : Env} {s : Shared} {Q E : Value → Shared → Prop} (I : Inv w g sc env s.heap ρ) (hk1 : 1 ≤ s.toks)
    (hQ : ∀ D C h' t' vs, 1 ≤ t' → (∀ b o, s.heap.get? b = some o → h'.get? b = some o) → h'.IsList D (List.toArray vs) → AllIs ((xs.filter p).map f) vs → s.heap.get? D = none → s.heap.get? C = none → D ≠ C → (∃ m, h'.Ns C m) →
      compPost (model pw w) A E use Q (.ref D) C (.ok .next) { s with heap := h', toks := t' })
    (hs : ∀ x, foldedSetIterable iter env x = pure x := by intro _; rfl) :
    wpAny (model pw w) A (comprehension (.ListComp elt [⟨.Name x px, iter, ifs, 0⟩] scope pos) scope env pos' (newList []) false (eval iter env) use) Q E s := by
  obtain ⟨cl, hclo, hclk⟩ := closureFor_of (scope := scope) (env := env) fun n hn => by
    obtain ⟨h1, h2⟩ := hfree n hn
    obtain ⟨pv, h1⟩ := Option.isSome_iff_exists.mp h1
    obtain ⟨v, V, _⟩ := I.vars n pv h1
    have hkE : env.kindOf n = sc.names.lookup n := by show env.scope.names.lookup n = _; rw [I.scp]
    rcases V with ⟨q, _⟩ | ⟨_, c, hc, _⟩
    · rw [hkE] at q; rw [q] at h2; rcases h2 with z | z <;> cases z
    · exact ⟨c, hc⟩
  have hfree' : ∀ n, (n, NameKind.free) ∈ scope.names → sc.names.lookup n = some .cell ∨ sc.names.lookup n = some .free := fun n hn => (hfree n hn).2
  refine wpAny_comprehension_free (use := use) (g := ⟨.Name x px, iter, ifs, 0⟩) (gs := []) rfl hs hclo hsc hnames ?_
  refine hsrc env s _ E I hk1 fun II fp wr St h₂ t₂ j₂ G₂ W hst hfp hwr _ => ?_
  refine wpAny_newList (newEnvComp ?_) (by rw [sizeLine_eq]; simp)
  have hD0 : ∀ k, s.heap.get? (h₂.objs.size + k) = none := fun k => by
    cases e : s.heap.get? (h₂.objs.size + k) with
    | none => rfl
    | some o => have := G₂.keep _ _ e; rw [new_none] at this; cases this
  generalize hH3 : (h₂.push { cls := .type "list", data := .seq ([] : List Value).toArray }) = H3
  have hC : H3.objs.size = h₂.objs.size + 1 := by rw [← hH3, Heap.size_push]
  dsimp only
  generalize hH4 : pushCells (H3.push { cls := .type "dict", data := .dict #[] }) scope.names = H4
  show codeAny (model pw w) A (.compStart (.ListComp elt [⟨.Name x px, iter, ifs, 0⟩] scope pos) 0 (.ref II) (.ref h₂.objs.size) (compEnvM scope cl H3.objs.size env)) (compPost (model pw w) A E use Q (.ref h₂.objs.size) H3.objs.size) { s with heap := H4, toks := t₂ }
  have k23 : ∀ b o, h₂.get? b = some o → H3.get? b = some o := fun b o e => hH3 ▸ Heap.get?_push_of_some _ e
  have k24 : ∀ b o, h₂.get? b = some o → H4.get? b = some o := fun b o e => hH4 ▸ pushCells_keeps _ _ _ _ (Heap.get?_push_of_some _ (k23 b o e))
  have k34 : ∀ b o, H3.get? b = some o → H4.get? b = some o := fun b o e => hH4 ▸ pushCells_keeps _ _ _ _ (Heap.get?_push_of_some _ e)
  have hDL : H4.IsList h₂.objs.size (List.toArray []) := ⟨_, k34 _ _ (hH3 ▸ Heap.get?_push_size _ rfl), rfl, 0, rfl⟩
  have hCn : H4.Ns H3.objs.size fun _ => none := by
    rw [← hH4]
    exact (Heap.Ns.new H3 (.type "dict")).keeps (pushCells_keeps _ _)
  have hS0 : Slot scope x H3.objs.size H4 none := by
    refine ⟨_, hCn, ?_⟩
    cases hx with
    | loc h _ => exact .inl ⟨h, fun _ e => nomatch e⟩
    | cell h hc =>
      refine .inr ⟨h, none, ?_, fun _ e => nomatch e⟩
      rw [← hH4, (cellsFrom_one hc 0 [] _).2]
      refine ⟨{ cls := .type "cell", data := .cell none }, ?_, rfl⟩
      have := Heap.get?_push_size (H3.push { cls := .type "dict", data := .dict #[] }) (o := { cls := .type "cell", data := .cell none }) rfl
      rw [Heap.size_push] at this
      exact this
  have hfD : ∀ b ∈ fp, b ≠ h₂.objs.size ∧ b ≠ H3.objs.size ∧ b ≠ H3.objs.size + 1 := fun b hb => by
    have := hfp b hb
    refine ⟨Nat.ne_of_lt this, ?_, ?_⟩
    · rw [hC]; exact Nat.ne_of_lt (Nat.lt_succ_of_lt this)
    · rw [hC]; exact Nat.ne_of_lt (Nat.lt_succ_of_lt (Nat.lt_succ_of_lt this))
  have hwD : ∀ b ∈ wr, b ≠ h₂.objs.size ∧ b ≠ H3.objs.size ∧ b ≠ H3.objs.size + 1 := fun b hb => hfD b (W.sub b hb)
  have hnD : s.heap.get? h₂.objs.size = none := hD0 0
  have hnC : s.heap.get? H3.objs.size = none := by rw [hC]; exact hD0 1
  have hnc : s.heap.get? (H3.objs.size + 1) = none := by rw [hC]; exact hD0 2
  have loop : ∀ (h : Heap), (h = H4) → codeAny (model pw w) A (.compLoop (.ListComp elt [⟨.Name x px, iter, ifs, 0⟩] scope pos) 0 (.ref II) (.ref h₂.objs.size) (compEnvM scope cl H3.objs.size env)) (compPost (model pw w) A E use Q (.ref h₂.objs.size) H3.objs.size) { s with heap := h, toks := t₂ } := by
    rintro h rfl
    refine codeAny_compLoop_tests
      (fun n s' => ∃ h tk i vs u, s' = { s with heap := h, toks := tk } ∧ 1 ≤ tk ∧ i ≤ xs.length ∧ n = xs.length - i ∧ St i h ∧ h.IsList h₂.objs.size (List.toArray vs) ∧ AllIs (((xs.take i).filter p).map f) vs ∧ Slot scope x H3.objs.size h u ∧
        (∀ b o, s.heap.get? b = some o → h.get? b = some o)) ?_ xs.length
      ⟨h, t₂, 0, [], none, rfl, j₂, Nat.zero_le _, rfl, W.frame _ _ _ hst fun b _ o e => k24 b o e, hDL, by simp [AllIs], hS0, fun b o e => k24 _ _ (G₂.keep _ _ e)⟩
    rintro n s' ⟨h, tk0, i, vs, u, rfl, j0, hi, rfl, hSt, hL, hAll, hSl, hk⟩
    have hlenvs : vs.length ≤ xs.length := by
      rw [hAll.length, List.length_map]
      exact Nat.le_trans (List.length_filter_le _ _) (by simp; omega)
    rcases Nat.lt_or_eq_of_le hi with hlt | rfl
    · refine tk (s := { s with heap := h, toks := tk0 }) j0 (W.item i { s with heap := h, toks := tk0 } _ _ hlt hSt fun v h' tk' hP hSt' hk' j' => ?_)
      obtain ⟨a, hxa, hva⟩ := hP
      have hmem : a ∈ xs := List.mem_of_getElem? hxa
      have keep1 : ∀ b o, s.heap.get? b = some o → h'.get? b = some o := fun b o e => hk' b o (fun hb => by have := hwr b hb; rw [e] at this; cases this) (hk b o e)
      have hL1 : h'.IsList h₂.objs.size (List.toArray vs) := isList_keep hL fun o e => hk' _ o (fun hb => (hwD _ hb).1 rfl) e
      have hSl1 : Slot scope x H3.objs.size h' u := by
        obtain ⟨m, hm, S⟩ := hSl
        refine ⟨m, hm.at' fun o e => hk' _ o (fun hb => (hwD _ hb).2.1 rfl) e, S.imp id fun ⟨S1, u', S2, S3⟩ => ⟨S1, u', ?_, S3⟩⟩
        obtain ⟨o, e1, e2⟩ := S2
        exact ⟨o, hk' _ o (fun hb => (hwD _ hb).2.2 rfl) e1, e2⟩
      refine store_target (s := { s with heap := h', toks := tk' }) hsc hx hSl1 j' fun h3 t3 j3 hk3 hSl3 => ?_
      have keep3 : ∀ b o, s.heap.get? b = some o → h3.get? b = some o := fun b o e => hk3 b o (fun q => by rw [q, hnC] at e; cases e) (fun q => by rw [q, hnc] at e; cases e) (keep1 b o e)
      have hSt3 : St (i + 1) h3 := W.frame _ _ _ hSt' fun b hb o e => hk3 b o (hfD b hb).2.1 (fun q => absurd q (hfD b hb).2.2) e
      have hDC : h₂.objs.size ≠ H3.objs.size := by rw [hC]; exact Nat.ne_of_lt (Nat.lt_succ_self _)
      have hDc : h₂.objs.size ≠ H3.objs.size + 1 := by rw [hC]; apply Nat.ne_of_lt; omega
      have hL3 : h3.IsList h₂.objs.size (List.toArray vs) := isList_keep hL1 fun o e => hk3 _ o hDC (fun q => absurd q hDc) e
      have I3 : Inv w g (relabelS scope sc) (compEnvM scope cl H3.objs.size env) h3 ((x, .sc a) :: freeOf scope ρ) := compInv I hsc hfree' hclk hx keep3 hnC hSl3 hva
      refine (htest a hmem).run (s := { s with heap := h3, toks := t3 }) I3 j3 fun h4 t4 j4 G4 => ?_
      have hSlG : ∀ {h h' : Heap} {v : Option Value}, (∀ b o, h.get? b = some o → h'.get? b = some o) → Slot scope x H3.objs.size h v → Slot scope x H3.objs.size h' v := fun kk ⟨m, hm, S⟩ => ⟨m, hm.keeps kk, S.imp id fun ⟨S1, u', S2, S3⟩ => ⟨S1, u', isCell_keep S2 kk, S3⟩⟩
      have htake : xs.take (i + 1) = xs.take i ++ [a] := by rw [List.take_add_one, hxa]; rfl
      split
      · rename_i hpa
        refine (helt a hmem hpa).run _ { s with heap := h4, toks := t4 } _ _ (I3.grow G4) j4 fun y h5 t5 j5 G5 R5 n5 => ?_
        have hL5 : h5.IsList h₂.objs.size (List.toArray vs) := isList_keep hL3 fun o e => G5.keep _ _ (G4.keep _ _ e)
        refine wpAny_list_append (s := { s with heap := h5, toks := t5 }) hL5 (fun h6 hL6 hs6 => ?_) (by rw [sizeLine_eq]; simp; omega)
        refine ⟨xs.length - (i + 1), by omega, h6, t5, i + 1, vs ++ [y], some v, rfl, j5, hlt, rfl, ?_, by simpa using hL6, ?_, ?_, ?_⟩
        · exact W.frame _ _ _ hSt3 fun b hb o e => hs6.extBut b o (hfD b hb).1 (G5.keep _ _ (G4.keep _ _ e))
        · rw [htake, List.filter_append, List.map_append]
          have : ([a].filter p).map f = [f a] := by simp [hpa]
          rw [this]
          exact hAll.append ⟨R5, trivial⟩
        · obtain ⟨m, hm, S⟩ := hSlG (fun b o e => G5.keep _ _ (G4.keep _ _ e)) hSl3
          refine ⟨m, hm.extBut hs6.extBut (Ne.symm hDC), S.imp id fun ⟨S1, u', ⟨o, e1, e2⟩, S3⟩ => ⟨S1, u', ⟨o, hs6.extBut _ o (Ne.symm hDc) e1, e2⟩, S3⟩⟩
        · exact fun b o e => hs6.extBut b o (fun q => by rw [q, hnD] at e; cases e) (G5.keep _ _ (G4.keep _ _ (keep3 b o e)))
      · rename_i hpa
        refine ⟨xs.length - (i + 1), by omega, h4, t4, i + 1, vs, some v, rfl, j4, hlt, rfl, W.frame _ _ _ hSt3 fun b _ o e => G4.keep _ _ e, isList_keep hL3 fun o e => G4.keep _ _ e, ?_, hSlG G4.keep hSl3, fun b o e => G4.keep _ _ (keep3 b o e)⟩
        rw [htake, List.filter_append]
        have : [a].filter p = [] := by simp [hpa]
        rw [this, List.append_nil]
        exact hAll
    · refine tk (s := { s with heap := h, toks := tk0 }) j0 (W.done { s with heap := h, toks := tk0 } _ _ hSt fun h' tk' hk' j' => ?_)
      obtain ⟨m, hm, _⟩ := hSl
      rw [List.take_length] at hAll
      exact hQ _ _ h' tk' vs j' (fun b o e => hk' b o (fun hb => by have := hwr b hb; rw [e] at this; cases this) (hk b o e)) (isList_keep hL fun o e => hk' _ o (fun hb => (hwD _ hb).1 rfl) e) hAll hnD hnC (by rw [hC]; exact Nat.ne_of_lt (Nat.lt_succ_self _)) ⟨m, hm.at' fun o e => hk' _ o (fun hb => (hwD _ hb).2.1 rfl) e⟩
  exact codeAny_compStart_list (loop _ rfl) (W.self 0 _ _ _ (W.frame _ _ _ hst fun b _ o e => k24 b o e) (loop _ rfl))
end
end Mine
end
section
open PySem PySem.W PyProof.Rows
set_option maxRecDepth 100000
set_option Elab.async false
namespace Mine
section
variable {w : World} {g : Heap} {A : Around} {sc : Scope} {ρ : List (Str × PV)} {mean : ExcName → Option Value} {mg mb : Str → Option Value}

theorem Ev.listComp {elt iter : Expr} {x : Str} {px pos : Pos} {ifs : List Expr} {scope : Scope} {xs : List Sc} (p : Sc → Bool) (f : Sc → Sc)
    (hA : A.handled = none) {lst : Bool} (hsrc : Src lst w g A sc ρ iter xs) (hsc : scope.kind = .function) (hnames : ∀ y ∈ scope.names, y.2 = .local → scope.names.lookup y.1 = some .local)
    (hfree : ∀ n, (n, NameKind.free) ∈ scope.names → (ρ.lookup n).isSome = true ∧ (sc.names.lookup n = some .cell ∨ sc.names.lookup n = some .free))
    (hx : TargetOk scope x) (hlen : xs.length ≤ 100000)
    (htest : ∀ a ∈ xs, Tests w g A (relabelS scope sc) ((x, .sc a) :: freeOf scope ρ) ifs (p a))
    (helt : ∀ a ∈ xs, p a = true → Ev w g A (relabelS scope sc) ((x, .sc a) :: freeOf scope ρ) elt (.sc (f a)))
    (hs : ∀ env x, foldedSetIterable iter env x = pure x := by intros; rfl) :
    Ev w g A sc ρ (.ListComp elt [⟨.Name x px, iter, ifs, 0⟩] scope pos) (.list ((xs.filter p).map f)) := .mk fun env s Q E I hk1 k => by
  rw [eval_ListComp]
  refine comp_core p f hA hsrc hsc hnames hfree hx hlen htest helt I hk1 (fun D C h' t' vs j hk hL hAll hD hC hDC hn => ?_) (hs env)
  obtain ⟨m, hm⟩ := hn
  refine ⟨m, hm, fun h'' hs => ?_⟩
  have kk : ∀ b o, s.heap.get? b = some o → h''.get? b = some o := fun b o e => hs.extBut b o (fun q => by rw [q, hC] at e; cases e) (hk b o e)
  have hL' : h''.IsList D (List.toArray vs) := isList_keep hL fun o e => hs.extBut D o hDC e
  exact k (.ref D) h'' t' j ⟨kk⟩ ⟨D, vs, rfl, hL', hAll⟩ (ne_list hL' (I.ns.imp fun m e => e.keeps kk))

/-- a def's own frame: B is what stands and stays (the heap at the call, and the iterators of the loops around) -/
structure FInv (w : World) (g : Heap) (B : Addr → Obj → Prop) (sc : Scope) (env : Env) (h : Heap) (ρ : List (Str × PV)) : Prop where
  inv : Inv w g sc env h ρ
  gB : ∀ b o, g.get? b = some o → B b o
  base : ∀ b o, B b o → h.get? b = some o
  offL : ∀ o, ¬ B env.locals o
  cell : ∀ n c, env.cells.lookup n = some c → (∀ o, ¬ B c o) ∧ ∃ v, h.IsCell c v
  apart : ∀ n n' c, env.cells.lookup n = some c → env.cells.lookup n' = some c → n = n'
  hasCell : ∀ n, sc.names.lookup n = some .cell → ∃ c, env.cells.lookup n = some c
theorem FInv.grow {B : Addr → Obj → Prop} {env : Env} {h h' : Heap} (F : FInv w g B sc env h ρ) (G : GrowX env.locals h h') : FInv w g B sc env h' ρ :=
  ⟨F.inv.grow G, F.gB, fun b o e => G.keep b o (F.base b o e), F.offL, fun n c e => ⟨(F.cell n c e).1, (F.cell n c e).2.imp fun _ q => isCell_keep q G.keep⟩, F.apart, F.hasCell⟩
theorem FInv.weaken {B : Addr → Obj → Prop} {env : Env} {h : Heap} {ρ' : List (Str × PV)} (F : FInv w g B sc env h ρ) (k : ∀ x pv, ρ'.lookup x = some pv → ρ.lookup x = some pv) : FInv w g B sc env h ρ' :=
  ⟨F.inv.weaken k, F.gB, F.base, F.offL, F.cell, F.apart, F.hasCell⟩

theorem Rep.at_ {h h' : Heap} {c : Addr} {o : Obj} (ho : h.get? c = some o) (hd : (∃ v, o.data = .cell v) ∨ False) (k : ∀ b o, b ≠ c → h.get? b = some o → h'.get? b = some o) : ∀ {pv : PV} {v : Value}, Rep w h pv v → Rep w h' pv v := by
  have hne : ∀ {a : Addr} {o' : Obj}, h.get? a = some o' → (∀ v, o'.data ≠ .cell v) → a ≠ c := fun e q z => by
    subst z; rw [ho] at e; cases e
    rcases hd with ⟨v, hv⟩ | f
    · exact q v hv
    · exact f
  intro pv v R
  cases pv with
  | sc a => exact R
  | list xs =>
    obtain ⟨a, vs, e, ⟨o', h1, h2, n, h3⟩, r⟩ := R
    exact ⟨a, vs, e, ⟨o', k a o' (hne h1 fun v q => by rw [h3] at q; cases q) h1, h2, n, h3⟩, r⟩
  | tuple xs =>
    obtain ⟨a, vs, e, ⟨o', h1, h2, n, h3⟩, r⟩ := R
    exact ⟨a, vs, e, ⟨o', k a o' (hne h1 fun v q => by rw [h3] at q; cases q) h1, h2, n, h3⟩, r⟩
  | dict kvs =>
    obtain ⟨a, vs, e, ⟨o', es, ep, h1, h2, h3, h4⟩, r⟩ := R
    exact ⟨a, vs, e, ⟨o', es, ep, k a o' (hne h1 fun v q => by rw [h3] at q; cases q) h1, h2, h3, h4⟩, r⟩
  | range _ _ _ =>
    obtain ⟨a, t, u, x, e, h1⟩ := R
    exact ⟨a, t, u, x, e, k a _ (hne h1 fun v q => by cases q) h1⟩
theorem Rep.but {h h' : Heap} {L : Addr} (k : ∀ b o, b ≠ L → h.get? b = some o → h'.get? b = some o) : ∀ {pv : PV} {v : Value}, Rep w h pv v → v ≠ .ref L → Rep w h' pv v := by
  intro pv v R hne
  cases pv with
  | sc a => exact R
  | list xs => obtain ⟨a, vs, e, ho, r⟩ := R; exact ⟨a, vs, e, isList_keep ho fun o q => k a o (fun z => hne (by rw [e, z])) q, r⟩
  | tuple xs => obtain ⟨a, vs, e, ho, r⟩ := R; exact ⟨a, vs, e, isTup_keep ho fun o q => k a o (fun z => hne (by rw [e, z])) q, r⟩
  | dict kvs => obtain ⟨a, vs, e, ho, r⟩ := R; exact ⟨a, vs, e, dictOf_keep ho fun o q => k a o (fun z => hne (by rw [e, z])) q, r⟩
  | range _ _ _ => obtain ⟨a, t, u, x, e, h1⟩ := R; exact ⟨a, t, u, x, e, k a _ (fun z => hne (by rw [e, z])) h1⟩

/-- storing a name of the frame -/
theorem FInv.store {B : Addr → Obj → Prop} {env : Env} {s : Shared} {x : Str} {pv : PV} {v : Value} {Q : Unit → Shared → Prop} {E : Value → Shared → Prop} (F : FInv w g B sc env s.heap ρ) (hk1 : 1 ≤ s.toks)
    (hx : sc.names.lookup x = some .local ∨ sc.names.lookup x = some .cell) (R : Rep w s.heap pv v) (hv : v ≠ .ref env.locals)
    (k : ∀ h' t', 1 ≤ t' → FInv w g B sc env h' ((x, pv) :: ρ) → (∀ b o, b ≠ env.locals → (∀ c, env.cells.lookup x = some c → b ≠ c) → s.heap.get? b = some o → h'.get? b = some o) →
      (∀ y u, y ≠ x → VarIs env s.heap y u → VarIs env h' y u) → VarIs env h' x v → Q () { s with heap := h', toks := t' }) : wpAny (model pw w) A (storeName env x v) Q E s := by
  have hkE : ∀ n, env.kindOf n = sc.names.lookup n := fun n => by show env.scope.names.lookup n = _; rw [F.inv.scp]
  have hkf : env.scope.kind = .function := F.inv.scp ▸ F.inv.kind
  obtain ⟨m, hm⟩ := F.inv.ns
  rcases hx with hx | hx
  · refine wpAny_storeName_local (by rw [hkE]; exact hx) hm (fun h' hn hs => ?_) (by rw [hkf]; rfl)
    have kb : ∀ b o, b ≠ env.locals → s.heap.get? b = some o → h'.get? b = some o := fun b o hb e => hs.extBut b o hb e
    have kbB : ∀ b o, B b o → h'.get? b = some o := fun b o e => kb b o (fun q => F.offL o (q ▸ e)) (F.base b o e)
    have cne : ∀ n c v, env.cells.lookup n = some c → s.heap.IsCell c v → c ≠ env.locals := fun n c v e ⟨o, h1, h2⟩ q => by
      subst q; obtain ⟨_, _, z⟩ := ns_dict hm h1; rw [h2] at z; cases z
    have vk : ∀ y u, y ≠ x → VarIs env s.heap y u → VarIs env h' y u := by
      intro y v' hy V
      rcases V with ⟨q, m', h1, h2⟩ | ⟨q, c, h1, o, h2, h3⟩
      · refine .inl ⟨q, _, hn, ?_⟩
        have : m' = m := by
          obtain ⟨o, es, ep, a1, a2, _, a3⟩ := hm
          obtain ⟨o', es', ep', b1, b2, _, b3⟩ := h1
          rw [a1] at b1; cases b1
          rw [a2] at b2; cases b2
          funext z; rw [← a3, ← b3]
        subst this
        simp [hy, h2]
      · exact .inr ⟨q, c, h1, o, kb c o (cne y c _ h1 ⟨o, h2, h3⟩) h2, h3⟩
    have vx : VarIs env h' x v := .inl ⟨by rw [hkE]; exact hx, _, hn, by simp⟩
    refine k h' _ (by show 1 ≤ s.toks + 1; omega) ?_ (fun b o hb _ e => kb b o hb e) vk vx
    refine ⟨⟨F.inv.scp, F.inv.kind, F.inv.glob, F.inv.blt, fun b o e => kbB b o (F.gB b o e), F.inv.off, ⟨_, hn⟩, fun y pv' e => ?_⟩, F.gB, kbB, F.offL, fun n c e => ⟨(F.cell n c e).1, ?_⟩, F.apart, F.hasCell⟩
    · by_cases hy : (y == x) = true
      · have := eq_of_beq hy
        subst this
        simp at e
        subst e
        exact ⟨v, vx, R.but kb hv, hv⟩
      · have hy' : (y == x) = false := by simpa using hy
        simp only [List.lookup_cons, hy'] at e
        obtain ⟨v', V, R', ne⟩ := F.inv.vars y pv' e
        exact ⟨v', vk y v' (fun z => hy (by rw [z]; simp)) V, R'.but kb ne, ne⟩
    · obtain ⟨u, o, h1, h2⟩ := (F.cell n c e).2
      exact ⟨u, o, kb c o (cne n c _ e ⟨o, h1, h2⟩) h1, h2⟩
  · obtain ⟨c, hc⟩ := F.hasCell x hx
    obtain ⟨hcB, u0, hcu⟩ := F.cell x c hc
    refine wpAny_storeName_cell hkf (by rw [hkE]; exact hx) hc hcu fun h' hcell hs => ?_
    obtain ⟨oc, hoc, hdc⟩ := hcu
    have kb : ∀ b o, b ≠ c → s.heap.get? b = some o → h'.get? b = some o := fun b o hb e => hs.extBut b o hb e
    have kbB : ∀ b o, B b o → h'.get? b = some o := fun b o e => kb b o (fun q => hcB o (q ▸ e)) (F.base b o e)
    have Lne : env.locals ≠ c := fun q => by
      subst q; obtain ⟨_, _, z⟩ := ns_dict hm hoc; rw [hdc] at z; cases z
    have vk : ∀ y u, y ≠ x → VarIs env s.heap y u → VarIs env h' y u := by
      intro y v' hy V
      rcases V with ⟨q, m', h1, h2⟩ | ⟨q, c', h1, o, h2, h3⟩
      · exact .inl ⟨q, m', h1.at' fun o e => kb _ o Lne e, h2⟩
      · exact .inr ⟨q, c', h1, o, kb c' o (fun z => hy (F.apart y x c (z ▸ h1) hc)) h2, h3⟩
    have vx : VarIs env h' x v := .inr ⟨.inl (by rw [hkE]; exact hx), c, hc, hcell⟩
    refine k h' s.toks hk1 ?_ (fun b o _ hb e => kb b o (hb c hc) e) vk vx
    refine ⟨⟨F.inv.scp, F.inv.kind, F.inv.glob, F.inv.blt, fun b o e => kbB b o (F.gB b o e), F.inv.off, ⟨m, hm.at' fun o e => kb _ o Lne e⟩, fun y pv' e => ?_⟩, F.gB, kbB, F.offL, fun n c' e => ⟨(F.cell n c' e).1, ?_⟩, F.apart, F.hasCell⟩
    · by_cases hy : (y == x) = true
      · have := eq_of_beq hy
        subst this
        simp at e
        subst e
        exact ⟨v, vx, R.at_ hoc (.inl ⟨_, hdc⟩) kb, hv⟩
      · have hy' : (y == x) = false := by simpa using hy
        simp only [List.lookup_cons, hy'] at e
        obtain ⟨v', V, R', ne⟩ := F.inv.vars y pv' e
        exact ⟨v', vk y v' (fun z => hy (by rw [z]; simp)) V, R'.at_ hoc (.inl ⟨_, hdc⟩) kb, ne⟩
    · by_cases hcc : c' = c
      · subst hcc; exact ⟨_, hcell⟩
      · obtain ⟨u, o, h1, h2⟩ := (F.cell n c' e).2
        exact ⟨u, o, kb c' o hcc h1, h2⟩
end
end Mine
end
section
open PySem PySem.W PyProof.Rows
set_option maxRecDepth 100000
set_option Elab.async false
namespace Mine
section
variable {w : World} {g : Heap} {A : Around} {sc : Scope} {ρ ρ' : List (Str × PV)} {ow ow' : Option (Str × List Sc)} {mean : ExcName → Option Value} {mg mb : Str → Option Value} {B : Addr → Obj → Prop} {env : Env}

noncomputable abbrev Ow := Option (Str × List Sc)
/-- a list that one name holds and nothing else -/
noncomputable def Own (B : Addr → Obj → Prop) (env : Env) (h : Heap) (ρ : List (Str × PV)) (x : Str) (xs : List Sc) : Prop :=
  ∃ a vs, (∀ o, ¬ B a o) ∧ VarIs env h x (.ref a) ∧ PlainL h a (List.toArray vs) ∧ AllIs xs vs ∧ ∀ y pv, ρ.lookup y = some pv → y ≠ x ∧ ∀ v, VarIs env h y v → v ≠ .ref a
structure OInv (w : World) (g : Heap) (B : Addr → Obj → Prop) (sc : Scope) (env : Env) (h : Heap) (ρ : List (Str × PV)) (ow : Ow) : Prop where
  f : FInv w g B sc env h ρ
  o : ∀ x xs, ow = some (x, xs) → Own B env h ρ x xs

theorem ns_inj {h : Heap} {a : Addr} {m m' : Str → Option Value} (x : h.Ns a m) (y : h.Ns a m') : m = m' := by
  obtain ⟨o, es, ep, a1, a2, _, a3⟩ := x
  obtain ⟨o', es', ep', b1, b2, _, b3⟩ := y
  rw [a1] at b1; cases b1
  rw [a2] at b2; cases b2
  funext z; rw [← a3, ← b3]
theorem VarIs.inj {h : Heap} {x : Str} {u v : Value} (a : VarIs env h x u) (b : VarIs env h x v) : u = v := by
  rcases a with ⟨k, m, h1, h2⟩ | ⟨k, c, h1, h2⟩ <;> rcases b with ⟨k', m', h1', h2'⟩ | ⟨k', c', h1', h2'⟩
  · have := ns_inj h1 h1'; subst this; rw [h2] at h2'; cases h2'; rfl
  · rw [k] at k'; rcases k' with z | z <;> cases z
  · rw [k'] at k; rcases k with z | z <;> cases z
  · rw [h1] at h1'; cases h1'
    have := cell_inj h2 h2'; cases this; rfl
theorem VarIs.back {h h' : Heap} {x : Str} {u v : Value} (k : ∀ b o, h.get? b = some o → h'.get? b = some o) (a : VarIs env h x u) (b : VarIs env h' x v) : v = u := by
  have : VarIs env h' x u := by
    rcases a with ⟨q, m, h1, h2⟩ | ⟨q, c, h1, h2⟩
    · exact .inl ⟨q, m, h1.keeps k, h2⟩
    · exact .inr ⟨q, c, h1, isCell_keep h2 k⟩
  exact b.inj this
theorem OInv.grow {h h' : Heap} (O : OInv w g B sc env h ρ ow) (G : GrowX env.locals h h') : OInv w g B sc env h' ρ ow :=
  ⟨O.f.grow G, fun x xs e => by
    obtain ⟨a, vs, h1, h2, h3, h4, h5⟩ := O.o x xs e
    refine ⟨a, vs, h1, h2.grow G, h3.keeps G.keep, h4, fun y pv hy => ⟨(h5 y pv hy).1, fun v hv => ?_⟩⟩
    obtain ⟨u, V, _⟩ := O.f.inv.vars y pv hy
    rw [VarIs.back G.keep V hv]
    exact (h5 y pv hy).2 u V⟩
theorem OInv.weaken {h : Heap} (O : OInv w g B sc env h ρ ow) (k : ∀ x pv, ρ'.lookup x = some pv → ρ.lookup x = some pv) : OInv w g B sc env h ρ' ow :=
  ⟨O.f.weaken k, fun x xs e => by
    obtain ⟨a, vs, h1, h2, h3, h4, h5⟩ := O.o x xs e
    exact ⟨a, vs, h1, h2, h3, h4, fun y pv hy => h5 y pv (k y pv hy)⟩⟩
theorem OInv.less {B' : Addr → Obj → Prop} {h : Heap} (O : OInv w g B' sc env h ρ ow) (k : ∀ b o, B b o → B' b o) (hg : ∀ b o, g.get? b = some o → B b o) : OInv w g B sc env h ρ ow :=
  ⟨⟨O.f.inv, hg, fun b o e => O.f.base b o (k b o e), fun o e => O.f.offL o (k _ _ e), fun n c e => ⟨fun o q => (O.f.cell n c e).1 o (k _ _ q), (O.f.cell n c e).2⟩, O.f.apart, O.f.hasCell⟩, fun x xs e => by
    obtain ⟨a, vs, h1, r⟩ := O.o x xs e
    exact ⟨a, vs, fun o q => h1 o (k _ _ q), r⟩⟩
theorem OInv.disown {h : Heap} {x : Str} {xs : List Sc} (O : OInv w g B sc env h ρ (some (x, xs))) : OInv w g B sc env h ((x, .list xs) :: ρ) none := by
  obtain ⟨a, vs, h1, h2, h3, h4, h5⟩ := O.o x xs rfl
  refine ⟨⟨{ O.f.inv with vars := fun y pv e => ?_ }, O.f.gB, O.f.base, O.f.offL, O.f.cell, O.f.apart, O.f.hasCell⟩, fun _ _ e => nomatch e⟩
  by_cases hy : (y == x) = true
  · have := eq_of_beq hy
    subst this
    simp at e
    subst e
    exact ⟨.ref a, h2, ⟨a, vs, rfl, h3.isList, h4⟩, ne_list h3.isList O.f.inv.ns⟩
  · have hy' : (y == x) = false := by simpa using hy
    simp only [List.lookup_cons, hy'] at e
    exact O.f.inv.vars y pv e

/-- what a body comes to -/
inductive Out where
  | next (ρ : List (Str × PV)) (ow : Ow)
  | brk (ρ : List (Str × PV)) (ow : Ow)
  | ret (pv : PV)
  | retP (P : Heap → Value → Prop)
  | retN (pv : PV)
noncomputable def OutOk (w : World) (g : Heap) (B : Addr → Obj → Prop) (sc : Scope) (env : Env) (s : Shared) (Q : Flow → Shared → Prop) : Out → Prop
  | .next ρ ow => ∀ h' t', 1 ≤ t' → OInv w g B sc env h' ρ ow → Q .next { s with heap := h', toks := t' }
  | .brk ρ ow => ∀ h' t', 1 ≤ t' → OInv w g B sc env h' ρ ow → Q .brk { s with heap := h', toks := t' }
  | .ret pv => ∀ v h' t', 1 ≤ t' → (∀ b o, B b o → h'.get? b = some o) → Rep w h' pv v → v ≠ .ref env.locals → Q (.ret v) { s with heap := h', toks := t' }
  | .retP P => ∀ v h' t', 1 ≤ t' → (∀ b o, B b o → h'.get? b = some o) → P h' v → Q (.ret v) { s with heap := h', toks := t' }
  | .retN pv => ∀ v h' t', 1 ≤ t' → (∀ b o, B b o → h'.get? b = some o) → Rep w h' pv v → (∀ a, v = .ref a → ∀ o, ¬ B a o) → Q (.ret v) { s with heap := h', toks := t' }
theorem OutOk.at {s : Shared} {h : Heap} {t : Nat} {Q : Flow → Shared → Prop} {out : Out} (k : OutOk w g B sc env s Q out) : OutOk w g B sc env { s with heap := h, toks := t } Q out := by
  cases out <;> exact k
structure Ex (w : World) (g : Heap) (A : Around) (sc : Scope) (ρ : List (Str × PV)) (ow : Ow) (body : List Stmt) (out : Out) : Prop where
  run : ∀ (B : Addr → Obj → Prop) (env : Env) (s : Shared) (Q : Flow → Shared → Prop) (E : Value → Shared → Prop), OInv w g B sc env s.heap ρ ow → 1 ≤ s.toks → OutOk w g B sc env s Q out → wpAny (model pw w) A (execs body env) Q E s
structure ExS (w : World) (g : Heap) (A : Around) (sc : Scope) (ρ : List (Str × PV)) (ow : Ow) (st : Stmt) (out : Out) : Prop where
  run : ∀ (B : Addr → Obj → Prop) (env : Env) (s : Shared) (Q : Flow → Shared → Prop) (E : Value → Shared → Prop), OInv w g B sc env s.heap ρ ow → 1 ≤ s.toks → OutOk w g B sc env s Q out → wpAny (model pw w) A (exec st env) Q E s

theorem Ex.nil : Ex w g A sc ρ ow [] (.next ρ ow) := .mk fun B env s Q E O hk k => wpAny_execs_nil (k s.heap s.toks hk O)
theorem Ex.cons {st : Stmt} {rest : List Stmt} {out : Out} (h : ExS w g A sc ρ ow st (.next ρ' ow')) (r : Ex w g A sc ρ' ow' rest out) : Ex w g A sc ρ ow (st :: rest) out := .mk fun B env s Q E O hk k =>
  wpAny_execs_cons (h.run B env s _ E O hk fun h' t' j O' => r.run B env { s with heap := h', toks := t' } Q E O' j k.at)
theorem Ex.ret {st : Stmt} {rest : List Stmt} {pv : PV} (h : ExS w g A sc ρ ow st (.ret pv)) : Ex w g A sc ρ ow (st :: rest) (.ret pv) := .mk fun B env s Q E O hk k =>
  wpAny_execs_cons (h.run B env s _ E O hk fun v h' t' j b R n => k v h' t' j b R n)
theorem Ex.retP {st : Stmt} {rest : List Stmt} {P : Heap → Value → Prop} (h : ExS w g A sc ρ ow st (.retP P)) : Ex w g A sc ρ ow (st :: rest) (.retP P) := .mk fun B env s Q E O hk k =>
  wpAny_execs_cons (h.run B env s _ E O hk fun v h' t' j b R => k v h' t' j b R)
theorem Ex.retN {st : Stmt} {rest : List Stmt} {pv : PV} (h : ExS w g A sc ρ ow st (.retN pv)) : Ex w g A sc ρ ow (st :: rest) (.retN pv) := .mk fun B env s Q E O hk k =>
  wpAny_execs_cons (h.run B env s _ E O hk fun v h' t' j b R n => k v h' t' j b R n)
theorem Ex.brk {st : Stmt} {rest : List Stmt} (h : ExS w g A sc ρ ow st (.brk ρ' ow')) : Ex w g A sc ρ ow (st :: rest) (.brk ρ' ow') := .mk fun B env s Q E O hk k =>
  wpAny_execs_cons (h.run B env s _ E O hk fun h' t' j O' => k h' t' j O')
theorem Ex.weaken {body : List Stmt} {out : Out} (h : Ex w g A sc ρ' ow body out) (k : ∀ x pv, ρ'.lookup x = some pv → ρ.lookup x = some pv) : Ex w g A sc ρ ow body out := .mk fun B env s Q E O hk q =>
  h.run B env s Q E (O.weaken k) hk q
theorem Ex.less {body : List Stmt} {ρ'' : List (Str × PV)} (h : Ex w g A sc ρ ow body (.next ρ' ow')) (k : ∀ x pv, ρ''.lookup x = some pv → ρ'.lookup x = some pv) : Ex w g A sc ρ ow body (.next ρ'' ow') := .mk fun B env s Q E O hk q =>
  h.run B env s Q E O hk fun h' t' j O' => q h' t' j (O'.weaken k)
theorem Ex.disown {body : List Stmt} {out : Out} {x : Str} {xs : List Sc} (h : Ex w g A sc ((x, .list xs) :: ρ) none body out) : Ex w g A sc ρ (some (x, xs)) body out := .mk fun B env s Q E O hk q =>
  h.run B env s Q E O.disown hk q

noncomputable def MayStore (x : Str) (pv : PV) : Ow → Prop
  | none => True
  | some (y, _) => x ≠ y ∧ ∃ a, pv = .sc a
theorem OInv.store {s : Shared} {x : Str} {pv : PV} {v : Value} {Q : Unit → Shared → Prop} {E : Value → Shared → Prop} (O : OInv w g B sc env s.heap ρ ow) (hk1 : 1 ≤ s.toks)
    (hx : sc.names.lookup x = some .local ∨ sc.names.lookup x = some .cell) (hm : MayStore x pv ow) (R : Rep w s.heap pv v) (hv : v ≠ .ref env.locals)
    (k : ∀ h' t', 1 ≤ t' → OInv w g B sc env h' ((x, pv) :: ρ) ow → (∀ b o, b ≠ env.locals → (∀ c, env.cells.lookup x = some c → b ≠ c) → s.heap.get? b = some o → h'.get? b = some o) → Q () { s with heap := h', toks := t' }) : wpAny (model pw w) A (storeName env x v) Q E s := by
  refine O.f.store hk1 hx R hv fun h' t' j F kb vk vx => k h' t' j ⟨F, fun y xs e => ?_⟩ kb
  subst e
  obtain ⟨hne, a0, rfl⟩ := hm
  obtain ⟨a, vs, h1, h2, h3, h4, h5⟩ := O.o y xs rfl
  refine ⟨a, vs, h1, vk y _ hne.symm h2, ?_, h4, fun z pv hz => ?_⟩
  · obtain ⟨o, n, e1, e2, ed, e3⟩ := h3
    refine ⟨o, n, kb a o ?_ ?_ e1, e2, ed, e3⟩
    · intro q; subst q; obtain ⟨_, _, z⟩ := ns_dict O.f.inv.ns.choose_spec e1; rw [e3] at z; cases z
    · intro c hc q; subst q
      obtain ⟨u, o', q1, q2⟩ := (O.f.cell x a hc).2
      rw [e1] at q1; cases q1; rw [e3] at q2; cases q2
  · by_cases hzx : (z == x) = true
    · have := eq_of_beq hzx
      subst this
      simp at hz
      subst hz
      refine ⟨hne, fun u hu q => ?_⟩
      have := vx.inj hu
      subst this
      subst q
      cases a0 <;> first | (cases R; done) | (obtain ⟨_, q⟩ := R; cases q)
    · have hzx' : (z == x) = false := by simpa using hzx
      simp only [List.lookup_cons, hzx'] at hz
      refine ⟨(h5 z pv hz).1, fun u hu => ?_⟩
      obtain ⟨u', V, _⟩ := O.f.inv.vars z pv hz
      have := (vk z u' (fun q => hzx (by rw [q]; simp)) V).inj hu
      subst this
      exact (h5 z pv hz).2 u' V

theorem ExS.assign {x : Str} {p pos : Pos} {value : Expr} {pv : PV} (h : Ev w g A sc ρ value pv) (hx : sc.names.lookup x = some .local ∨ sc.names.lookup x = some .cell := by decide) (hm : MayStore x pv ow := by trivial)
    (hs : ∀ env, swapsWith value (some (.Name x p)) pos.line env = pure false := by intros; rfl) :
    ExS w g A sc ρ ow (.Assign [.Name x p] value pos) (.next ((x, pv) :: ρ) ow) := .mk fun B env s Q E O hk k =>
  wpAny_Assign_Name (h.run env s _ E O.f.inv hk fun v h' t' j G R n => (O.grow G).store (s := { s with heap := h', toks := t' }) j hx hm R n fun h'' t'' j' O' _ => k h'' t'' j' O') (hs env)
theorem load_var {s : Shared} {x : Str} {pv : PV} {Q E : Value → Shared → Prop} (I : Inv w g sc env s.heap ρ) (hx : ρ.lookup x = some pv) (hc : (x == ("__classdict__" : Str)) = false)
    (k : ∀ v, Rep w s.heap pv v → v ≠ .ref env.locals → Q v s) : wpAny (model pw w) A (loadName env x) Q E s := by
  obtain ⟨v, V, R, ne⟩ := I.vars x pv hx
  have hk : env.scope.kind = .function := I.scp ▸ I.kind
  rcases V with ⟨a, m, b, c⟩ | ⟨a | a, c, b, d⟩
  · exact wpAny_loadName_local hk a b c (k v R ne)
  · exact wpAny_loadName_cell hk a b d (k v R ne)
  · exact wpAny_loadName_free hk a b d (k v R ne) hc
theorem ExS.aug {x : Str} {p pos : Pos} {op : Operator} {value : Expr} {a b c : PV} (hv : ρ.lookup x = some a) (h : Ev w g A sc ρ value b) (ho : Op2 w A (inplaceOp op) a b c) (hx : sc.names.lookup x = some .local ∨ sc.names.lookup x = some .cell := by decide)
    (hm : MayStore x c ow := by trivial) (hc : (x == ("__classdict__" : Str)) = false := by decide) : ExS w g A sc ρ ow (.AugAssign (.Name x p) op value pos) (.next ((x, c) :: ρ) ow) := .mk fun B env s Q E O hk k => by
  refine wpAny_AugAssign_Name (load_var O.f.inv hv hc fun u R₁ n₁ => ?_)
  refine h.run env s _ E O.f.inv hk fun v h₂ t₂ j₂ G₂ R₂ n₂ => ?_
  refine ho env.locals { s with heap := h₂, toks := t₂ } u v _ E ((O.f.inv.grow G₂).ns) (R₁.grow G₂ n₁) R₂ n₁ n₂ j₂ fun r h' t' j G R n => ?_
  exact ((O.grow G₂).grow G).store (s := { s with heap := h', toks := t' }) j hx hm R n fun h'' t'' j' O' _ => k h'' t'' j' O'

theorem ExS.ite {test : Expr} {body orelse : List Stmt} {pos : Pos} {c : Bool} {out : Out} (ht : Tr w g A sc ρ test c) (h1 : c = true → Ex w g A sc ρ ow body out) (h2 : c = false → Ex w g A sc ρ ow orelse out) :
    ExS w g A sc ρ ow (.If test body orelse pos) out := .mk fun B env s Q E O hk k => by
  refine wpAny_If (ht.run env s _ E O.f.inv hk fun h' t' j G => ?_)
  cases c with
  | true => exact (h1 rfl).run B env { s with heap := h', toks := t' } Q E (O.grow G) j k.at
  | false => exact (h2 rfl).run B env { s with heap := h', toks := t' } Q E (O.grow G) j k.at
theorem ExS.ret {e : Expr} {pos : Pos} {pv : PV} (h : Ev w g A sc ρ e pv) : ExS w g A sc ρ ow (.Return (some e) pos) (.ret pv) := .mk fun B env s Q E O hk k =>
  wpAny_Return_some (h.run env s _ E O.f.inv hk fun v h' t' j G R n => k v h' t' j (fun b o e => G.keep b o (O.f.base b o e)) R n)
/-- a value of a new object -/
structure EvNew (w : World) (g : Heap) (A : Around) (sc : Scope) (ρ : List (Str × PV)) (e : Expr) (pv : PV) : Prop where
  run : ∀ (env : Env) (s : Shared) (Q : Value → Shared → Prop) (E : Value → Shared → Prop), Inv w g sc env s.heap ρ → 1 ≤ s.toks →
    (∀ v h' t', 1 ≤ t' → GrowX env.locals s.heap h' → Rep w h' pv v → (∀ a, v = .ref a → s.heap.get? a = none) → Q v { s with heap := h', toks := t' }) → wpAny (model pw w) A (eval e env) Q E s
theorem ExS.retNew {e : Expr} {pos : Pos} {pv : PV} (h : EvNew w g A sc ρ e pv) : ExS w g A sc ρ ow (.Return (some e) pos) (.retN pv) := .mk fun B env s Q E O hk k =>
  wpAny_Return_some (h.run env s _ E O.f.inv hk fun v h' t' j G R n => k v h' t' j (fun b o e => G.keep b o (O.f.base b o e)) R fun a e o hB => by
    have := O.f.base a o hB; rw [n a e] at this; cases this)
theorem ExS.brk {pos : Pos} : ExS w g A sc ρ ow (.Break pos) (.brk ρ ow) := .mk fun B env s Q E O hk k => wpAny_Break (k s.heap s.toks hk O)

-- an empty list of one's own
theorem ExS.own {x : Str} {p pl pos : Pos} (hx : sc.names.lookup x = some .local := by decide) (hn : ρ.lookup x = none)
    (hs : ∀ env, swapsWith (.List [] pl) (some (.Name x p)) pos.line env = pure false := by intros; rfl) :
    ExS w g A sc ρ none (.Assign [.Name x p] (.List [] pl) pos) (.next ρ (some (x, []))) := .mk fun B env s Q E O hk k => by
  refine wpAny_Assign_Name ?_ (hs env)
  rw [arm_eval_List]
  refine wpAny_bind (wpAny_standAt (wpAny_bind (PySem.Calls.spliced_nil (wpAny_newList ?_ (by rw [sizeLine_eq]; simp)))))
  have G : GrowX env.locals s.heap (s.heap.push { cls := .type "list", data := .seq #[] }) := .push _
  have hP : PlainL (s.heap.push { cls := .type "list", data := .seq #[] }) s.heap.objs.size (List.toArray []) := ⟨_, 0, Heap.get?_push_size _ rfl, rfl, rfl, rfl⟩
  have hL := hP.isList
  refine (O.grow G).f.store (s := { s with heap := s.heap.push { cls := .type "list", data := .seq #[] } }) (pv := .list []) hk (.inl hx) ⟨_, [], rfl, hL, trivial⟩ (ne_list hL (O.grow G).f.inv.ns) fun h' t' j F kb vk vx => ?_
  have nn : ∀ o, s.heap.get? s.heap.objs.size ≠ some o := fun o e => absurd (Heap.lt_size e) (Nat.lt_irrefl _)
  refine k h' t' j ⟨F.weaken fun y pv hy => ?_, fun y xs e => ?_⟩
  · have : (y == x) = false := by
      cases q : y == x with
      | false => rfl
      | true => rw [eq_of_beq q, hn] at hy; cases hy
    simp [List.lookup_cons, this, hy]
  · cases e
    have Lne : s.heap.objs.size ≠ env.locals := fun q => by
      obtain ⟨m, o, es, ep, h1, _⟩ := O.f.inv.ns
      exact nn o (q ▸ h1)
    refine ⟨s.heap.objs.size, [], fun o e => nn o (O.f.base _ _ e), vx, ?_, trivial, fun y pv hy => ?_⟩
    · obtain ⟨o, n, e1, r⟩ := hP
      refine ⟨o, n, kb _ o Lne ?_ e1, r⟩
      intro c hc q
      obtain ⟨_, v, o, h1, _⟩ := O.f.cell x c hc
      exact nn o (q ▸ h1)
    · have hyx : y ≠ x := fun q => by rw [q, hn] at hy; cases hy
      refine ⟨hyx, fun u hu q => ?_⟩
      obtain ⟨u', V, R, _⟩ := O.f.inv.vars y pv hy
      have := (vk y u' hyx (V.grow G)).inj hu
      subst this
      subst q
      cases pv with
      | sc a => cases a <;> first | (cases R; done) | (obtain ⟨_, q⟩ := R; cases q)
      | list xs => obtain ⟨a', vs, q, ⟨o, ho, _⟩, _⟩ := R; cases q; exact nn o ho
      | tuple xs => obtain ⟨a', vs, q, ⟨o, ho, _⟩, _⟩ := R; cases q; exact nn o ho
      | dict xs => obtain ⟨a', vs, q, ⟨o, _, _, ho, _⟩, _⟩ := R; cases q; exact nn o ho
      | range _ _ _ => obtain ⟨a', _, _, _, q, ho⟩ := R; cases q; exact nn _ ho
theorem ExS.append {x : Str} {px apos pos ppos : Pos} {e : Expr} {xs : List Sc} {a : Sc} (h : Ev w g A sc ρ e (.sc a)) (hlen : xs.length ≤ 100000)
    (hline : (apos.endLine == pos.line) = true := by rfl) (hbase : ∀ env, attributeBase (.Name x px) "append" env (eval (.Name x px) env) = eval (.Name x px) env := by intros; rfl)
    (hst : ∀ env, starEach [e] env = [(false, eval e env)] := by intros; rfl) (hs : ∀ env, swapsWith (.Call (.Attribute (.Name x px) "append" apos) [e] [] pos) none ppos.line env = pure false := by intros; rfl)
    (hd : (x == ("__debug__" : Str)) = false := by decide) (hc : (x == ("__classdict__" : Str)) = false := by decide) :
    ExS w g A sc ρ (some (x, xs)) (.Expr (.Call (.Attribute (.Name x px) "append" apos) [e] [] pos) ppos) (.next ρ (some (x, xs ++ [a]))) := .mk fun B env s Q E O hk k => by
  have hkf : env.scope.kind = .function := O.f.inv.scp ▸ O.f.inv.kind
  have hi : interactive env = false := by unfold interactive; rw [hkf]; rfl
  refine wpAny_Expr ?_ hi (hs env)
  have htrees : backTo pos (starEach [e] env) = [(false, eval e env)] := by rw [hst]; rfl
  refine wpAny_Call_append (hbase env) (by rw [htrees]; rfl) hline htrees ?_
  obtain ⟨l, vs, h1, h2, h3, h4, h5⟩ := O.o x xs rfl
  have ld : ∀ (Q' : Value → Shared → Prop), Q' (.ref l) s → wpAny (model pw w) A (loadName env x) Q' E s := fun Q' q => by
    rcases h2 with ⟨a, m, b, c⟩ | ⟨a | a, c, b, d⟩
    · exact wpAny_loadName_local hkf a b c q
    · exact wpAny_loadName_cell hkf a b d q
    · exact wpAny_loadName_free hkf a b d q hc
  refine wpAny_Name (ld _ ⟨l, _, rfl, h3, ?_⟩) hd
  refine h.run env s _ E O.f.inv hk fun v h' t' j G R n => ?_
  have O1 := O.grow G
  obtain ⟨l', vs', g1, g2, g3, g4, g5⟩ := O1.o x xs rfl
  obtain rfl : l' = l := by have := g2.inj (h2.grow G); cases this; rfl
  have hl := g4.length
  refine list_append_plainL (s := { s with heap := h', toks := t' }) g3 (fun h'' hP hS => ?_) (by rw [sizeLine_eq]; simp; omega)
  have kb : ∀ b o, b ≠ l' → h'.get? b = some o → h''.get? b = some o := fun b o hb e => hS.extBut b o hb e
  have hLl : env.locals ≠ l' := fun q => ne_list g3.isList O1.f.inv.ns (by rw [q])
  have hcl : ∀ n c, env.cells.lookup n = some c → c ≠ l' := fun n c hc q => by
    obtain ⟨_, u, o, q1, q2⟩ := O1.f.cell n c hc
    obtain ⟨o', n', e1, _, _, e3⟩ := g3
    rw [q] at q1; rw [e1] at q1; cases q1; rw [e3] at q2; cases q2
  obtain ⟨m, hm⟩ := O1.f.inv.ns
  have hcell : ∀ {c u}, h'.IsCell c u → c ≠ l' → h''.IsCell c u := fun ⟨o, q1, q2⟩ hne => ⟨o, kb _ o hne q1, q2⟩
  have hvar : ∀ {y u}, VarIs env h' y u → VarIs env h'' y u := fun V => by
    rcases V with ⟨q, m', q1, q2⟩ | ⟨q, c, q1, q2⟩
    · exact .inl ⟨q, m', q1.at' fun o e => kb _ o hLl e, q2⟩
    · exact .inr ⟨q, c, q1, hcell q2 (hcl _ c q1)⟩
  have kB : ∀ b o, B b o → h''.get? b = some o := fun b o e => kb b o (fun q => g1 o (q ▸ e)) (O1.f.base b o e)
  refine k h'' t' j ⟨⟨⟨O1.f.inv.scp, O1.f.inv.kind, O1.f.inv.glob, O1.f.inv.blt, fun b o e => kB b o (O1.f.gB b o e), O1.f.inv.off, ⟨m, hm.at' fun o e => kb _ o hLl e⟩, fun y pv hy => ?_⟩,
    O1.f.gB, kB, O1.f.offL, fun n c hc => ⟨(O1.f.cell n c hc).1, (O1.f.cell n c hc).2.imp fun _ q => hcell q (hcl n c hc)⟩, O1.f.apart, O1.f.hasCell⟩, fun y ys e => ?_⟩
  · obtain ⟨u, V, Ru, ne⟩ := O1.f.inv.vars y pv hy
    exact ⟨u, hvar V, Ru.but kb ((g5 y pv hy).2 u V), ne⟩
  · cases e
    refine ⟨l', vs' ++ [v], g1, hvar g2, by simpa using hP, g4.append ⟨R, trivial⟩, fun y pv hy => ⟨(g5 y pv hy).1, fun u hu => ?_⟩⟩
    obtain ⟨u', V, _⟩ := O1.f.inv.vars y pv hy
    have := hu.inj (hvar V)
    subst this
    exact (g5 y pv hy).2 u V
end
end Mine
end
section
open PySem PySem.W PyProof.Rows
set_option maxRecDepth 100000
set_option Elab.async false
namespace Mine
section
variable {w : World} {g : Heap} {A : Around} {sc : Scope} {ρ ρ' : List (Str × PV)} {ow ow' : Option (Str × List Sc)} {mean : ExcName → Option Value} {mg mb : Str → Option Value} {B : Addr → Obj → Prop} {env : Env}

theorem FpK.nd {lst : Bool} {p : Prop} {o : Obj} (h : FpK lst p o) : (∀ es n, o.data ≠ .dict es n) ∧ ∀ v, o.data ≠ .cell v := by
  rcases h with ⟨⟨vs, e⟩, _⟩ | ⟨_, _, _, vs, n, e⟩
  · exact ⟨fun _ _ q => (by rw [e] at q; cases q), fun _ q => (by rw [e] at q; cases q)⟩
  · exact ⟨fun _ _ q => (by rw [e] at q; cases q), fun _ q => (by rw [e] at q; cases q)⟩
/-- the iterators move on: nothing that a name holds is touched -/
theorem OInv.but {h h' : Heap} {wr : List Addr} {lst : Bool} (O : OInv w g B sc env h ρ ow) (hk : ∀ b ∈ wr, ∃ o, h.get? b = some o ∧ FpK lst True o) (hB : ∀ b ∈ wr, ∀ o, ¬ B b o)
    (k : ∀ b o, b ∉ wr → h.get? b = some o → h'.get? b = some o) : OInv w g B sc env h' ρ ow := by
  have nin : ∀ {b : Addr} {o : Obj}, h.get? b = some o → ((∃ es n, o.data = .dict es n) ∨ (∃ v, o.data = .cell v) ∨ (∃ vs n, o.data = .seq vs n) ∨ o.cls = .type "range") → h'.get? b = some o := fun {b o} e q => by
    refine k b o (fun hb => ?_) e
    obtain ⟨o', e', z⟩ := hk b hb
    rw [e] at e'; cases e'
    rcases z with ⟨⟨vs, z⟩, z2⟩ | ⟨_, z, _⟩
    · rcases q with ⟨es, n, q⟩ | ⟨v, q⟩ | ⟨vs', n, q⟩ | q
      · rw [z] at q; cases q
      · rw [z] at q; cases q
      · rw [z] at q; cases q
      · exact z2 q
    · exact z trivial
  have kB : ∀ b o, B b o → h'.get? b = some o := fun b o e => k b o (fun hb => hB b hb o e) (O.f.base b o e)
  have kc : ∀ {c u}, h.IsCell c u → h'.IsCell c u := fun ⟨o, e1, e2⟩ => ⟨o, nin e1 (.inr (.inl ⟨_, e2⟩)), e2⟩
  have kn : ∀ {m}, h.Ns env.locals m → h'.Ns env.locals m := fun {m} hm => by
    obtain ⟨o, es, ep, e1, e2, r⟩ := hm
    exact ⟨o, es, ep, nin e1 (.inl ⟨_, _, e2⟩), e2, r⟩
  have kv : ∀ {y u}, VarIs env h y u → VarIs env h' y u := fun V => by
    rcases V with ⟨q, m', q1, q2⟩ | ⟨q, c, q1, q2⟩
    · exact .inl ⟨q, m', kn q1, q2⟩
    · exact .inr ⟨q, c, q1, kc q2⟩
  have kr : ∀ {pv v}, Rep w h pv v → Rep w h' pv v := fun {pv v} R => by
    cases pv with
    | sc a => exact R
    | list xs => obtain ⟨a, vs, e, ⟨o, e1, e2, n, e3⟩, r⟩ := R; exact ⟨a, vs, e, ⟨o, nin e1 (.inr (.inr (.inl ⟨_, _, e3⟩))), e2, n, e3⟩, r⟩
    | tuple xs => obtain ⟨a, vs, e, ⟨o, e1, e2, n, e3⟩, r⟩ := R; exact ⟨a, vs, e, ⟨o, nin e1 (.inr (.inr (.inl ⟨_, _, e3⟩))), e2, n, e3⟩, r⟩
    | dict xs => obtain ⟨a, vs, e, ⟨o, es, ep, e1, e2, e3, e4⟩, r⟩ := R; exact ⟨a, vs, e, ⟨o, es, ep, nin e1 (.inl ⟨_, _, e3⟩), e2, e3, e4⟩, r⟩
    | range _ _ _ => obtain ⟨a, t, u, x, e, e1⟩ := R; exact ⟨a, t, u, x, e, nin e1 (.inr (.inr (.inr rfl)))⟩
  obtain ⟨m, hm⟩ := O.f.inv.ns
  refine ⟨⟨⟨O.f.inv.scp, O.f.inv.kind, O.f.inv.glob, O.f.inv.blt, fun b o e => kB b o (O.f.gB b o e), O.f.inv.off, ⟨m, kn hm⟩, fun y pv hy => ?_⟩,
    O.f.gB, kB, O.f.offL, fun n c hc => ⟨(O.f.cell n c hc).1, (O.f.cell n c hc).2.imp fun _ q => kc q⟩, O.f.apart, O.f.hasCell⟩, fun y ys e => ?_⟩
  · obtain ⟨u, V, Ru, ne⟩ := O.f.inv.vars y pv hy
    exact ⟨u, kv V, kr Ru, ne⟩
  · obtain ⟨l, vs, h1, h2, ⟨o, n, e1, e2, e3, e4⟩, h4, h5⟩ := O.o y ys e
    refine ⟨l, vs, h1, kv h2, ⟨o, n, nin e1 (.inr (.inr (.inl ⟨_, _, e4⟩))), e2, e3, e4⟩, h4, fun z pv hz => ⟨(h5 z pv hz).1, fun u hu => ?_⟩⟩
    obtain ⟨u', V, _⟩ := O.f.inv.vars z pv hz
    have := hu.inj (kv V)
    subst this
    exact (h5 z pv hz).2 u V

/-- the body's base: the iterators stand too -/
theorem OInv.more {h : Heap} {fp : List Addr} {lst : Bool} (O : OInv w g B sc env h ρ ow) (hk : ∀ b ∈ fp, ∃ o p, h.get? b = some o ∧ FpK lst p o) (hl : lst = true → ow = none) :
    OInv w g (fun b o => B b o ∨ (b ∈ fp ∧ h.get? b = some o)) sc env h ρ ow := by
  obtain ⟨m, hm⟩ := O.f.inv.ns
  refine ⟨⟨O.f.inv, fun b o e => .inl (O.f.gB b o e), fun b o e => ?_, fun o e => ?_, fun n c hc => ⟨fun o e => ?_, (O.f.cell n c hc).2⟩, O.f.apart, O.f.hasCell⟩, fun y ys e => ?_⟩
  · rcases e with e | ⟨_, e⟩
    · exact O.f.base b o e
    · exact e
  · rcases e with e | ⟨hf, e⟩
    · exact O.f.offL o e
    · obtain ⟨o', p, e', z⟩ := hk _ hf
      obtain ⟨es, n, q⟩ := ns_dict hm e'
      exact z.nd.1 _ _ q
  · rcases e with e | ⟨hf, e⟩
    · exact (O.f.cell n c hc).1 o e
    · obtain ⟨u, o2, q1, q2⟩ := (O.f.cell n c hc).2
      obtain ⟨o', p, e', z⟩ := hk _ hf
      rw [q1] at e'; cases e'
      exact z.nd.2 _ q2
  · obtain ⟨l, vs, h1, h2, h3, r⟩ := O.o y ys e
    refine ⟨l, vs, fun o e' => ?_, h2, h3, r⟩
    rcases e' with e' | ⟨hf, e'⟩
    · exact h1 o e'
    · obtain ⟨o', p, e2, z⟩ := hk _ hf
      obtain ⟨o3, n, q1, q2, _, q3⟩ := h3
      rw [q1] at e2; cases e2
      rcases z with ⟨⟨_, z⟩, _⟩ | ⟨z, _⟩
      · rw [q3] at z; cases z
      · have := hl z; rw [e] at this; cases this

/-- how a loop over n turns may end -/
inductive Ends (w : World) (g : Heap) (A : Around) (sc : Scope) (x : Str) (body : List Stmt) (xs : List Sc) (R : Nat → List (Str × PV)) (W : Nat → Ow) (n : Nat) : Out → Prop
  | full (h : n = xs.length) : Ends w g A sc x body xs R W n (.next (R n) (W n))
  | ret {a : Sc} {pv : PV} (h : xs[n]? = some a) (e : Ex w g A sc ((x, .sc a) :: R n) (W n) body (.ret pv)) : Ends w g A sc x body xs R W n (.ret pv)
  | brk {a : Sc} {ρ' : List (Str × PV)} {ow' : Ow} (h : xs[n]? = some a) (e : Ex w g A sc ((x, .sc a) :: R n) (W n) body (.brk ρ' ow')) : Ends w g A sc x body xs R W n (.next ρ' ow')

theorem ExS.for_ {x : Str} {px pos : Pos} {iter : Expr} {body : List Stmt} {lst : Bool} {xs : List Sc} (R : Nat → List (Str × PV)) (W : Nat → Ow) {n : Nat} {out : Out} (hn : n ≤ xs.length)
    (hsrc : Src lst w g A sc (R 0) iter xs) (hl : lst = true → ∀ i, W i = none) (hx : sc.names.lookup x = some .local ∨ sc.names.lookup x = some .cell) (hm : ∀ i a, MayStore x (.sc a) (W i))
    (turn : ∀ i < n, ∀ a, xs[i]? = some a → Ex w g A sc ((x, .sc a) :: R i) (W i) body (.next (R (i + 1)) (W (i + 1))))
    (fin : Ends w g A sc x body xs R W n out)
    (hs : ∀ env x, foldedSetIterable iter env x = pure x := by intros; rfl) (ht : ∀ it v, letOwnedTupleGo (Expr.Name x px) it v = pure () := by intros; rfl) :
    ExS w g A sc (R 0) (W 0) (.For (.Name x px) iter body [] pos) out := .mk fun B env s Q E O hk k => by
  refine wpAny_For (hsrc env s _ E O.f.inv hk fun I fp wr St h₀ t₀ j₀ G₀ Wk hst hfp hwr hkind => ?_) (hs env)
  have hwB : ∀ b ∈ wr, ∀ o, ¬ B b o := fun b hb o e => by have := O.f.base b o e; rw [hwr b hb] at this; cases this
  refine codeAny_forLoop (fun m s' => ∃ i h t, s' = { s with heap := h, toks := t } ∧ 1 ≤ t ∧ i ≤ n ∧ m = n - i ∧ St i h ∧ OInv w g B sc env h (R i) (W i)) ?_ n ⟨0, h₀, t₀, rfl, j₀, Nat.zero_le _, rfl, hst, O.grow G₀⟩ (ht _)
  rintro m s' ⟨i, h, t, rfl, j, hi, rfl, hSt, Oi⟩
  have turnOf : ∀ (out' : Out) (a : Sc) (Q' : Flow → Shared → Prop) (E' : Value → Shared → Prop) (v : Value) (h1 : Heap) (t1 : Tok), xs[i]? = some a → a.Is v → 1 ≤ t1 → St (i + 1) h1 → (∀ b o, b ∉ wr → h.get? b = some o → h1.get? b = some o) →
      Ex w g A sc ((x, .sc a) :: R i) (W i) body out' →
      (∀ h2, (∀ b ∈ fp, ∃ o, h2.get? b = some o) → St (i + 1) h2 → OutOk w g (fun b o => B b o ∨ (b ∈ fp ∧ h2.get? b = some o)) sc env s Q' out') →
      wpAny (model pw w) A (PySem.assign (.Name x px) env v) (fun _ s₂ => wpAny (model pw w) A (execs body env) Q' E' s₂) E' { s with heap := h1, toks := t1 } := by
    intro out' a Q' E' v h1 t1 hxa hva j1 hSt1 hk1 hE hQ
    have hkw : ∀ b ∈ wr, ∃ o, h.get? b = some o ∧ FpK lst True o := fun b hb => by
      obtain ⟨o, e, z⟩ := hkind i h hSt b (Wk.sub b hb)
      refine ⟨o, e, ?_⟩
      rcases z with z | ⟨_, z, _⟩
      · exact .inl z
      · exact absurd hb z
    have O1 : OInv w g B sc env h1 (R i) (W i) := Oi.but hkw hwB hk1
    have hv : v ≠ .ref env.locals := by
      intro q; subst q
      cases a <;> first | (cases hva; done) | (obtain ⟨_, q⟩ := hva; cases q)
    refine wpAny_assign_Name (O1.store (s := { s with heap := h1, toks := t1 }) j1 hx (hm i a) hva hv fun h2 t2 j2 O2 k2 => ?_)
    have hf1 : ∀ b ∈ fp, ∀ o, h1.get? b = some o → h2.get? b = some o := fun b hb o e => by
      obtain ⟨o', e', z⟩ := hkind (i + 1) h1 hSt1 b hb
      rw [e] at e'; cases e'
      refine k2 b o (fun q => ?_) (fun c hc q => ?_) e
      · subst q; obtain ⟨es, nn, q⟩ := ns_dict O1.f.inv.ns.choose_spec e; exact z.nd.1 _ _ q
      · subst q; obtain ⟨u, o2, q1, q2⟩ := (O1.f.cell x b hc).2; rw [e] at q1; cases q1; exact z.nd.2 _ q2
    have hSt2 : St (i + 1) h2 := Wk.frame _ _ _ hSt1 hf1
    have hk2 : ∀ b ∈ fp, ∃ o p, h2.get? b = some o ∧ FpK lst p o := fun b hb => by
      obtain ⟨o, e, z⟩ := hkind (i + 1) h2 hSt2 b hb
      exact ⟨o, _, e, z⟩
    exact hE.run _ env { s with heap := h2, toks := t2 } Q' E' (O2.more hk2 fun q => hl q i) j2 (hQ h2 (fun b hb => by obtain ⟨o, _, e, _⟩ := hk2 b hb; exact ⟨o, e⟩) hSt2).at
  have sub : ∀ {h2 : Heap} b o, B b o → B b o ∨ (b ∈ fp ∧ h2.get? b = some o) := fun b o e => .inl e
  rcases Nat.lt_or_ge i xs.length with hlt | hge
  · refine tk (s := { s with heap := h, toks := t }) j (Wk.item i { s with heap := h, toks := t } _ _ hlt hSt fun v h1 t1 hP hSt1 hk1 j1 => ?_)
    obtain ⟨a, hxa, hva⟩ := hP
    rcases Nat.lt_or_eq_of_le hi with hin | hin
    · refine turnOf (.next (R (i + 1)) (W (i + 1))) a _ _ v h1 t1 hxa hva j1 hSt1 hk1 (turn i hin a hxa) fun h2 hex hSt2 => ?_
      intro h3 t3 j3 O3
      refine ⟨n - (i + 1), by omega, i + 1, h3, t3, rfl, j3, hin, rfl, ?_, O3.less sub O.f.gB⟩
      refine Wk.frame _ _ _ hSt2 fun b hb o e => O3.f.base b o (.inr ⟨hb, e⟩)
    · subst hin
      cases fin with
      | full h => omega
      | ret ha e =>
        rw [hxa] at ha; cases ha
        refine turnOf _ a _ _ v h1 t1 hxa hva j1 hSt1 hk1 e fun h2 hex hSt2 => ?_
        intro v' h3 t3 j3 b3 R3 n3
        exact k v' h3 t3 j3 (fun b o e => b3 b o (.inl e)) R3 n3
      | brk ha e =>
        rw [hxa] at ha; cases ha
        refine turnOf _ a _ _ v h1 t1 hxa hva j1 hSt1 hk1 e fun h2 hex hSt2 => ?_
        intro h3 t3 j3 O3
        exact k h3 t3 j3 (O3.less sub O.f.gB)
  · have hin : i = n := by omega
    subst hin
    have hlen : i = xs.length := by omega
    have hSt' : St xs.length h := hlen ▸ hSt
    refine tk (s := { s with heap := h, toks := t }) j (Wk.done { s with heap := h, toks := t } _ _ hSt' fun h1 t1 hk1 j1 => ?_)
    have hkw : ∀ b ∈ wr, ∃ o, h.get? b = some o ∧ FpK lst True o := fun b hb => by
      obtain ⟨o, e, z⟩ := hkind i h hSt b (Wk.sub b hb)
      refine ⟨o, e, ?_⟩
      rcases z with z | ⟨_, z, _⟩
      · exact .inl z
      · exact absurd hb z
    refine wpAny_execs_nil ?_
    cases fin with
    | full _ => exact k h1 t1 j1 (Oi.but hkw hwB hk1)
    | ret ha _ => have := (List.getElem?_eq_some_iff.mp ha).1; omega
    | brk ha _ => have := (List.getElem?_eq_some_iff.mp ha).1; omega
end
end Mine
end
section
open PySem PySem.W PyProof.Rows
set_option maxRecDepth 100000
set_option Elab.async false
namespace Mine
section
variable {w : World} {g : Heap} {A : Around} {sc : Scope} {ρ ρ' : List (Str × PV)} {ow ow' : Option (Str × List Sc)} {mean : ExcName → Option Value} {mg mb : Str → Option Value} {B : Addr → Obj → Prop} {env : Env}

theorem RepAll.length {h : Heap} {L : Addr} : ∀ {ps : List PV} {vs : List Value}, RepAll w h L ps vs → vs.length = ps.length
  | [], [], _ => rfl
  | _ :: _, _ :: _, r => by simp [RepAll.length r.2]
  | [], _ :: _, r => r.elim
  | _ :: _, [], r => r.elim
theorem tuple_eval {es : List Expr} {ps : List PV} {c : Nat} {p : Pos} {s : Shared} {Q E : Value → Shared → Prop} (h : EvArgs w g A sc ρ es ps) (hl : ps.length ≤ 100000) (I : Inv w g sc env s.heap ρ) (hk1 : 1 ≤ s.toks)
    (k : ∀ T vs h' t', 1 ≤ t' → GrowX env.locals s.heap h' → IsTup h' T (List.toArray vs) → RepAll w h' env.locals ps vs → Q (.ref T) { s with heap := h', toks := t' }) : wpAny (model pw w) A (eval (.Tuple es c p) env) Q E s := by
  rw [arm_eval_Tuple]
  refine wpAny_bind (wpAny_standAt (wpAny_bind (h.spliced I hk1 fun vs h' t' j G R => ?_)))
  have hl' := R.length
  exact wpAny_newTuple (k _ vs _ t' j (G.trans (.push _)) ⟨_, Heap.get?_push_size _ rfl, rfl, 0, rfl⟩ (R.grow (.push _))) (by rw [sizeLine_eq]; omega)

theorem Rep.keepAt {h h' : Heap} {v : Value} (k : ∀ a o, v = .ref a → h.get? a = some o → (∀ u, o.data ≠ .cell u) → h'.get? a = some o) : ∀ {pv : PV}, Rep w h pv v → Rep w h' pv v := by
  intro pv R
  cases pv with
  | sc a => exact R
  | list xs => obtain ⟨a, vs, e, ⟨o, e1, e2, n, e3⟩, r⟩ := R; exact ⟨a, vs, e, ⟨o, k a o e e1 (fun u q => by rw [e3] at q; cases q), e2, n, e3⟩, r⟩
  | tuple xs => obtain ⟨a, vs, e, ⟨o, e1, e2, n, e3⟩, r⟩ := R; exact ⟨a, vs, e, ⟨o, k a o e e1 (fun u q => by rw [e3] at q; cases q), e2, n, e3⟩, r⟩
  | dict xs => obtain ⟨a, vs, e, ⟨o, es, ep, e1, e2, e3, e4⟩, r⟩ := R; exact ⟨a, vs, e, ⟨o, es, ep, k a o e e1 (fun u q => by rw [e3] at q; cases q), e2, e3, e4⟩, r⟩
  | range _ _ _ => obtain ⟨a, t, u, x, e, e1⟩ := R; exact ⟨a, t, u, x, e, k a _ e e1 (fun u q => by cases q)⟩
theorem rep_store {h h' : Heap} {x : Str} {pv : PV} {v : Value} (F : FInv w g B sc env h ρ) (k : ∀ b o, b ≠ env.locals → (∀ c, env.cells.lookup x = some c → b ≠ c) → h.get? b = some o → h'.get? b = some o)
    (R : Rep w h pv v) (n : v ≠ .ref env.locals) : Rep w h' pv v :=
  R.keepAt fun a o e ho hd => k a o (fun q => n (by rw [e, q])) (fun c hc q => by
    subst q
    obtain ⟨_, u, o', e1, e2⟩ := F.cell x a hc
    rw [ho] at e1; cases e1; exact hd u e2) ho

theorem ExS.tupS {x y : Str} {px py tp pos p2 : Pos} {k0 c : Nat} {e1 e2 : Expr} {p q : PV} (hA : A.handled = none) (h : EvArgs w g A sc ρ [e1, e2] [p, q]) (hx : sc.names.lookup x = some .local) (hy : sc.names.lookup y = some .local)
    (hw : ∀ env : Env, env.scope = sc → swappedStores [.Tuple [.Name x px, .Name y py] k0 tp] (.Tuple [e1, e2] c p2) env = pure (some [x, y]))
    (hs : ∀ env, swapsWithSole [.Tuple [.Name x px, .Name y py] k0 tp] (.Tuple [e1, e2] c p2) pos.line env = pure false := by intros; rfl) :
    ExS w g A sc ρ none (.Assign [.Tuple [.Name x px, .Name y py] k0 tp] (.Tuple [e1, e2] c p2) pos) (.next ((x, p) :: (y, q) :: ρ) none) := .mk fun B env s Q E O hk k => by
  refine Assign_Tuple_swapped (names := [x, y]) ?_ (hs env) (hw env O.f.inv.scp)
  refine tuple_eval h (by simp) O.f.inv hk fun T vs h1 t1 j1 G1 hT R => ?_
  obtain ⟨u, v, rfl, ⟨Ru, nu⟩, Rv, nv⟩ := R.two
  have O1 := O.grow G1
  rw [show ([x, y] : List Str).length = (List.toArray [u, v]).size from rfl]
  refine unpackItems_tuple (s := { s with heap := h1, toks := t1 }) hA hT fun h2 he => ?_
  have G2 : GrowX env.locals h1 h2 := .of fun b o e => he b o (Nat.ne_of_lt (Heap.lt_size e)) e
  have e0 : (List.map (fun n => bindName env n) [x, y].reverse) = [bindName env y, bindName env x] := rfl
  have e1 : (List.toArray [u, v]).toList.reverse = [v, u] := rfl
  rw [e0, e1]
  refine assignInOrder_cons (wpAny_bindName ((O1.grow G2).store (s := { s with heap := h2, toks := t1 }) j1 (.inl hy) trivial (Rv.grow G2 nv) nv fun h3 t3 j3 O3 k3 => ?_))
  have Ru3 : Rep w h3 p u := rep_store (O1.grow G2).f k3 (Ru.grow G2 nu) nu
  refine assignInOrder_cons (wpAny_bindName (O3.store (s := { s with heap := h3, toks := t3 }) j3 (.inl hx) trivial Ru3 nu fun h4 t4 j4 O4 _ => ?_))
  exact assignInOrder_nil (k h4 t4 j4 O4)
/-- two names, stored in their order -/
theorem ExS.tupO {x y : Str} {px py tp pos p2 : Pos} {k0 c : Nat} {e1 e2 : Expr} {p q : PV} (hA : A.handled = none) (h : EvArgs w g A sc ρ [e1, e2] [p, q]) (hx : sc.names.lookup x = some .local ∨ sc.names.lookup x = some .cell) (hy : sc.names.lookup y = some .local ∨ sc.names.lookup y = some .cell)
    (hw : ∀ env : Env, env.scope = sc → swappedStores [.Tuple [.Name x px, .Name y py] k0 tp] (.Tuple [e1, e2] c p2) env = pure none)
    (hs : ∀ env, swapsWithSole [.Tuple [.Name x px, .Name y py] k0 tp] (.Tuple [e1, e2] c p2) pos.line env = pure false := by intros; rfl) :
    ExS w g A sc ρ none (.Assign [.Tuple [.Name x px, .Name y py] k0 tp] (.Tuple [e1, e2] c p2) pos) (.next ((y, q) :: (x, p) :: ρ) none) := .mk fun B env s Q E O hk k => by
  refine Assign_Tuple ?_ (hs env) (hw env O.f.inv.scp)
  refine tuple_eval h (by simp) O.f.inv hk fun T vs h1 t1 j1 G1 hT R => ?_
  obtain ⟨u, v, rfl, ⟨Ru, nu⟩, Rv, nv⟩ := R.two
  have O1 := O.grow G1
  refine assign_Tuple_tuple (s := { s with heap := h1, toks := t1 }) hA hT rfl rfl fun h2 he => ?_
  have G2 : GrowX env.locals h1 h2 := .of fun b o e => he b o (Nat.ne_of_lt (Heap.lt_size e)) e
  show wpAny _ _ (assignInOrder [PySem.assign (.Name x px) env, PySem.assign (.Name y py) env] [u, v]) _ _ _
  refine assignInOrder_cons (wpAny_assign_Name ((O1.grow G2).store (s := { s with heap := h2, toks := t1 }) j1 hx trivial (Ru.grow G2 nu) nu fun h3 t3 j3 O3 k3 => ?_))
  have Rv3 : Rep w h3 q v := rep_store (O1.grow G2).f k3 (Rv.grow G2 nv) nv
  refine assignInOrder_cons (wpAny_assign_Name (O3.store (s := { s with heap := h3, toks := t3 }) j3 hy trivial Rv3 nv fun h4 t4 j4 O4 _ => ?_))
  exact assignInOrder_nil (k h4 t4 j4 O4)
theorem RepAll.three {h : Heap} {L : Addr} {p q r : PV} {vs : List Value} (R : RepAll w h L [p, q, r] vs) : ∃ u v z, vs = [u, v, z] ∧ (Rep w h p u ∧ u ≠ .ref L) ∧ (Rep w h q v ∧ v ≠ .ref L) ∧ Rep w h r z ∧ z ≠ .ref L := by
  cases vs with
  | nil => exact R.elim
  | cons u vs =>
    obtain ⟨v, z, rfl, r1, r2⟩ := RepAll.two R.2
    exact ⟨u, v, z, rfl, R.1, r1, r2⟩
theorem ExS.tupO3 {x y z : Str} {px py pz tp pos p2 : Pos} {k0 c : Nat} {e1 e2 e3 : Expr} {p q r : PV} (hA : A.handled = none) (h : EvArgs w g A sc ρ [e1, e2, e3] [p, q, r]) (hx : sc.names.lookup x = some .local ∨ sc.names.lookup x = some .cell) (hy : sc.names.lookup y = some .local ∨ sc.names.lookup y = some .cell)
    (hz : sc.names.lookup z = some .local ∨ sc.names.lookup z = some .cell)
    (hw : ∀ env : Env, env.scope = sc → swappedStores [.Tuple [.Name x px, .Name y py, .Name z pz] k0 tp] (.Tuple [e1, e2, e3] c p2) env = pure none)
    (hs : ∀ env, swapsWithSole [.Tuple [.Name x px, .Name y py, .Name z pz] k0 tp] (.Tuple [e1, e2, e3] c p2) pos.line env = pure false := by intros; rfl) :
    ExS w g A sc ρ none (.Assign [.Tuple [.Name x px, .Name y py, .Name z pz] k0 tp] (.Tuple [e1, e2, e3] c p2) pos) (.next ((z, r) :: (y, q) :: (x, p) :: ρ) none) := .mk fun B env s Q E O hk k => by
  refine Assign_Tuple ?_ (hs env) (hw env O.f.inv.scp)
  refine tuple_eval h (by simp) O.f.inv hk fun T vs h1 t1 j1 G1 hT R => ?_
  obtain ⟨u, v, z', rfl, ⟨Ru, nu⟩, ⟨Rv, nv⟩, Rz, nz⟩ := R.three
  have O1 := O.grow G1
  refine assign_Tuple_tuple (s := { s with heap := h1, toks := t1 }) hA hT rfl rfl fun h2 he => ?_
  have G2 : GrowX env.locals h1 h2 := .of fun b o e => he b o (Nat.ne_of_lt (Heap.lt_size e)) e
  show wpAny _ _ (assignInOrder [PySem.assign (.Name x px) env, PySem.assign (.Name y py) env, PySem.assign (.Name z pz) env] [u, v, z']) _ _ _
  refine assignInOrder_cons (wpAny_assign_Name ((O1.grow G2).store (s := { s with heap := h2, toks := t1 }) j1 hx trivial (Ru.grow G2 nu) nu fun h3 t3 j3 O3 k3 => ?_))
  have Rv3 : Rep w h3 q v := rep_store (O1.grow G2).f k3 (Rv.grow G2 nv) nv
  have Rz3 : Rep w h3 r z' := rep_store (O1.grow G2).f k3 (Rz.grow G2 nz) nz
  refine assignInOrder_cons (wpAny_assign_Name (O3.store (s := { s with heap := h3, toks := t3 }) j3 hy trivial Rv3 nv fun h4 t4 j4 O4 k4 => ?_))
  have Rz4 : Rep w h4 r z' := rep_store O3.f k4 Rz3 nz
  refine assignInOrder_cons (wpAny_assign_Name (O4.store (s := { s with heap := h4, toks := t4 }) j4 hz trivial Rz4 nz fun h5 t5 j5 O5 _ => ?_))
  exact assignInOrder_nil (k h5 t5 j5 O5)
/-- two lists in a tuple -/
noncomputable def Pair (w : World) (xs ys : List Sc) (h : Heap) (v : Value) : Prop := ∃ T vs L, v = .ref T ∧ IsTup h T (List.toArray vs) ∧ RepAll w h L [.list xs, .list ys] vs
theorem ExS.retPair {e1 e2 : Expr} {c : Nat} {p pos : Pos} {xs ys : List Sc} (h : EvArgs w g A sc ρ [e1, e2] [.list xs, .list ys]) : ExS w g A sc ρ ow (.Return (some (.Tuple [e1, e2] c p)) pos) (.retP (Pair w xs ys)) := .mk fun B env s Q E O hk k =>
  wpAny_Return_some (tuple_eval h (by simp) O.f.inv hk fun T vs h' t' j G hT R => k (.ref T) h' t' j (fun b o e => G.keep b o (O.f.base b o e)) ⟨T, vs, _, rfl, hT, R⟩)
end
end Mine
end
section
open PySem PySem.W PyProof.Rows
set_option maxRecDepth 100000
set_option Elab.async false
namespace Mine
section
variable {w : World} {g : Heap} {A : Around} {sc : Scope} {ρ ρ' : List (Str × PV)} {ow ow' : Option (Str × List Sc)} {mean : ExcName → Option Value} {mg mb : Str → Option Value} {B : Addr → Obj → Prop} {env : Env}

theorem cellsFrom_has : ∀ (names : List (Str × NameKind)) (k : Nat) (acc : List (Str × Addr)) (n : Str), ((n, NameKind.cell) ∈ names ∨ (acc.lookup n).isSome = true) → ((cellsFrom k names acc).lookup n).isSome = true
  | [], _, _, _, h => by rcases h with h | h; exact absurd h List.not_mem_nil; exact h
  | (y, kd) :: r, k, acc, n, h => by
    rw [cellsFrom]
    by_cases hk : kd = .cell
    · subst hk
      simp only [beq_self_eq_true, if_true]
      refine cellsFrom_has r (k + 1) _ n ?_
      by_cases hn : (n == y) = true
      · right; simp [List.lookup_cons, hn]
      · have hn' : (n == y) = false := by simpa using hn
        rcases h with h | h
        · rcases List.mem_cons.mp h with e | e
          · cases e; simp at hn
          · exact .inl e
        · right; simp [List.lookup_cons, hn', h]
    · have hb : (kd == NameKind.cell) = false := beq_eq_false_iff_ne.mpr hk
      simp only [hb, Bool.false_eq_true, if_false]
      refine cellsFrom_has r k acc n ?_
      rcases h with h | h
      · rcases List.mem_cons.mp h with e | e
        · cases e; exact absurd rfl hk
        · exact .inl e
      · exact .inr h
theorem bindL_out {k : Str → Option NameKind} : ∀ (binds : List (Str × Value)) (m : Str → Option Value) (y : Str), (∀ b ∈ binds, b.1 ≠ y) → bindL k binds m y = m y
  | [], _, _, _ => rfl
  | (n, v) :: r, m, y, h => by
    rw [bindL, bindL_out r _ y fun b hb => h b (List.mem_cons_of_mem _ hb)]
    have : n ≠ y := h (n, v) List.mem_cons_self
    split
    · simp [this.symm]
    · rfl
theorem bindC_out {k : Str → Option NameKind} : ∀ (binds : List (Str × Value)) (m : Str → Option Value) (y : Str), (∀ b ∈ binds, b.1 ≠ y) → bindC k binds m y = m y
  | [], _, _, _ => rfl
  | (n, v) :: r, m, y, h => by
    rw [bindC, bindC_out r _ y fun b hb => h b (List.mem_cons_of_mem _ hb)]
    have : n ≠ y := h (n, v) List.mem_cons_self
    split
    · rfl
    · simp [this.symm]
theorem bind_at {k : Str → Option NameKind} : ∀ (binds : List (Str × Value)) (m cm : Str → Option Value) (y : Str) (v : Value), (binds.map (·.1)).Nodup → binds.lookup y = some v →
    (k y = some .local → bindL k binds m y = some v) ∧ (k y ≠ some .local → bindC k binds cm y = some v)
  | [], _, _, _, _, _, h => by simp at h
  | (n, u) :: r, m, cm, y, v, hd, h => by
    rw [List.map_cons, List.nodup_cons] at hd
    by_cases hy : (y == n) = true
    · have e := eq_of_beq hy
      subst e
      simp at h
      subst h
      have out : ∀ b ∈ r, b.1 ≠ y := fun b hb q => hd.1 (by rw [← q]; exact List.mem_map.mpr ⟨b, hb, rfl⟩)
      rw [bindL, bindC, bindL_out r _ y out, bindC_out r _ y out]
      refine ⟨fun q => ?_, fun q => ?_⟩
      · rw [if_pos q]; simp
      · rw [if_neg q]; simp
    · have hy' : (y == n) = false := by simpa using hy
      simp only [List.lookup_cons, hy'] at h
      rw [bindL, bindC]
      exact bind_at r _ _ y v hd.2 h
theorem zip_at {h : Heap} {L : Addr} : ∀ (names : List Str) (ps : List PV) (vs : List Value) (y : Str) (pv : PV), RepAll w h L ps vs → (names.zip ps).lookup y = some pv → ∃ v, (names.zip vs).lookup y = some v ∧ Rep w h pv v
  | [], _, _, _, _, _, h => by simp at h
  | n :: names, [], _, _, _, _, h => by simp at h
  | n :: names, p :: ps, [], _, _, R, _ => R.elim
  | n :: names, p :: ps, v :: vs, y, pv, R, h => by
    rw [List.zip_cons_cons] at h ⊢
    by_cases hy : (y == n) = true
    · simp only [List.lookup_cons, hy] at h ⊢
      cases h
      exact ⟨v, rfl, R.1.1⟩
    · have hy' : (y == n) = false := by simpa using hy
      simp only [List.lookup_cons, hy'] at h ⊢
      exact zip_at names ps vs y pv R.2 h
theorem zip_names : ∀ {names : List Str} {vs : List Value}, names.length = vs.length → (names.zip vs).map (·.1) = names
  | [], [], _ => rfl
  | n :: names, v :: vs, h => by rw [List.zip_cons_cons, List.map_cons, zip_names (by simpa using h)]
  | [], _ :: _, h => by simp at h
  | _ :: _, [], h => by simp at h

/-- a function of the program, by its body -/
theorem call_fn {a : Addr} {o : Obj} {fd : FuncData} {body : List Stmt} {ps : List PV} {names : List Str} {out : Out} (T : Tops w g mg mb) (hroom : A.depth < recursionLimit) (ho : g.get? a = some o) (hd : o.data = .func fd) (hcode : g.CodeRec fd.code fd.qualname)
    (hbody : fd.body = .stmts body) (hglob : fd.globals = mainGlobals) (hblt : fd.builtins = builtinsNs) (hclo : fd.closure = []) (hk : fd.scope.kind = .function) (hco : fd.scope.isCoroutine = false) (hgen : fd.scope.isGenerator = false)
    (hbind : ∀ vals : List Value, vals.length = names.length → bindArgs fd ⟨vals, []⟩ = pure (names.zip vals)) (hlen : names.length = ps.length) (hnd : names.Nodup)
    (hkind : ∀ n ∈ names, fd.scope.names.lookup n = some .local ∨ fd.scope.names.lookup n = some .cell)
    (hb : ∀ env, Ex w g (A.deeper env) fd.scope (names.zip ps) none body out) {L : Addr} {s : Shared} {vs : List Value} {Q E : Value → Shared → Prop} (hg : ∀ b o, g.get? b = some o → s.heap.get? b = some o) (hr : RepAll w s.heap L ps vs) (hk1 : 1 ≤ s.toks)
    (k : ∀ env, OutOk w g (fun b o => s.heap.get? b = some o) fd.scope env s (fun f s' => Q (match f with | .ret v => v | _ => .none) s') out) : wpAny (model pw w) A (call (.ref a) vs) Q E s := by
  have hvl : vs.length = names.length := by rw [hr.length, hlen]
  have hzn := zip_names (names := names) (vs := vs) hvl.symm
  have hbk : ∀ x ∈ names.zip vs, fd.scope.names.lookup x.1 = some .local ∨ (fd.scope.names.lookup x.1 = some .cell ∧ ((cellsFrom (s.heap.objs.size + 1) fd.scope.names []).lookup x.1).isSome = true) := fun x hx => by
    have : x.1 ∈ names := by rw [← hzn]; exact List.mem_map.mpr ⟨x, hx, rfl⟩
    exact (hkind _ this).imp id fun q => ⟨q, cellsFrom_has _ _ _ _ (.inl (mem_lookup q))⟩
  refine wpAny_call (codeAny_call_function hroom (hg a o ho) hd hco hgen hbody (hcode.keeps hg) ?_)
  rw [hbind vs hvl, hclo]
  refine wpAny_pure (tk hk1 (wpAny_newFunctionEnv_cells hk hbk fun env he s' x j => ?_))
  refine ⟨(T.nolimit.keeps hg).keeps x.toInCall.keep, codeAny_func ?_⟩
  obtain ⟨h1, t1, rfl⟩ := x.toInCall.same
  have hsc : env.scope = fd.scope := by rw [he]; rfl
  have hkE : ∀ n, env.kindOf n = fd.scope.names.lookup n := fun n => by show env.scope.names.lookup n = _; rw [hsc]
  have hloc : env.locals = s.heap.objs.size := by rw [he]; rfl
  have hcs : env.cells = cellsFrom (s.heap.objs.size + 1) fd.scope.names [] := by rw [he]; rfl
  have none_of : ∀ {b : Addr}, s.heap.objs.size ≤ b → ∀ o, ¬ s.heap.get? b = some o := fun {b} hb o e => absurd (Heap.lt_size e) (Nat.not_lt.mpr hb)
  have F : FInv w g (fun b o => s.heap.get? b = some o) fd.scope env h1 (names.zip ps) := by
    refine ⟨⟨hsc, hk, by rw [he]; exact hglob, by rw [he]; exact hblt, fun b o e => x.toInCall.keep b o (hg b o e), ?_, ⟨_, x.toInCall.ns⟩, fun y pv' hy => ?_⟩, hg, x.toInCall.keep, fun o => none_of (by rw [hloc]; exact Nat.le_refl _) o,
      fun n c hc => ⟨fun o => none_of (by have := x.above n c (mem_of_lookup hc); rw [hloc] at this; exact Nat.le_of_lt this) o, _, x.cell n c hc⟩,
      fun n n' c h1 h2 => name_of_addr x.apart (mem_of_lookup h1) (mem_of_lookup h2), fun n hn => ?_⟩
    · rw [hloc]
      cases e : g.get? s.heap.objs.size with
      | none => rfl
      | some o => exact absurd (hg _ _ e) (none_of (Nat.le_refl _) o)
    · obtain ⟨v, hv, Rv⟩ := zip_at names ps vs y pv' hr hy
      obtain ⟨b1, b2⟩ := bind_at (k := env.kindOf) (names.zip vs) (fun _ => none) (fun _ => none) y v (by rw [hzn]; exact hnd) hv
      have hyn : y ∈ names := by rw [← hzn]; exact List.mem_map.mpr ⟨(y, v), mem_of_lookup hv, rfl⟩
      have Rg : Rep w h1 pv' v := by
        refine Rv.keepAt fun a o e h _ => x.toInCall.keep a o h
      have nv : v ≠ .ref env.locals := by
        intro q; subst q
        rw [hloc] at Rv
        cases pv' with
        | sc a => cases a <;> first | (cases Rv; done) | (obtain ⟨_, q⟩ := Rv; cases q)
        | list xs => obtain ⟨a', vs, q, ⟨o, ho, _⟩, _⟩ := Rv; cases q; exact none_of (Nat.le_refl _) o ho
        | tuple xs => obtain ⟨a', vs, q, ⟨o, ho, _⟩, _⟩ := Rv; cases q; exact none_of (Nat.le_refl _) o ho
        | dict xs => obtain ⟨a', vs, q, ⟨o, _, _, ho, _⟩, _⟩ := Rv; cases q; exact none_of (Nat.le_refl _) o ho
        | range _ _ _ => obtain ⟨a', _, _, _, q, ho⟩ := Rv; cases q; exact none_of (Nat.le_refl _) _ ho
      refine ⟨v, ?_, Rg, nv⟩
      rcases hkind y hyn with q | q
      · exact .inl ⟨by rw [hkE]; exact q, _, x.toInCall.ns, b1 (by rw [hkE]; exact q)⟩
      · have hcell := cellsFrom_has _ (s.heap.objs.size + 1) ([] : List (Str × Addr)) _ (.inl (mem_lookup q))
        obtain ⟨c, hc⟩ := Option.isSome_iff_exists.mp hcell
        have hc' : env.cells.lookup y = some c := by rw [hcs]; exact hc
        have := x.cell y c hc'
        rw [b2 (by rw [hkE, q]; nofun)] at this
        exact .inr ⟨.inl (by rw [hkE]; exact q), c, hc', this⟩
    · have hcell := cellsFrom_has _ (s.heap.objs.size + 1) ([] : List (Str × Addr)) _ (.inl (mem_lookup hn))
      obtain ⟨c, hc⟩ := Option.isSome_iff_exists.mp hcell
      exact ⟨c, by rw [hcs]; exact hc⟩
  refine (hb env).run _ env { s with heap := h1, toks := t1 } _ _ ⟨F, fun _ _ e => nomatch e⟩ j ?_
  have k' := k env
  cases out with
  | next ρ ow => exact fun h' t' j O => k' h' t' j O
  | brk ρ ow => exact fun h' t' j O => k' h' t' j O
  | ret pv => exact fun v h' t' j b R n => k' v h' t' j b R n
  | retP P => exact fun v h' t' j b R => k' v h' t' j b R
  | retN pv => exact fun v h' t' j b R n => k' v h' t' j b R n
theorem CallG.fn {a : Addr} {o : Obj} {fd : FuncData} {body : List Stmt} {ps : List PV} {names : List Str} {pv : PV} (T : Tops w g mg mb) (hroom : A.depth < recursionLimit) (ho : g.get? a = some o) (hd : o.data = .func fd) (hcode : g.CodeRec fd.code fd.qualname)
    (hbody : fd.body = .stmts body) (hglob : fd.globals = mainGlobals) (hblt : fd.builtins = builtinsNs) (hclo : fd.closure = []) (hk : fd.scope.kind = .function) (hco : fd.scope.isCoroutine = false) (hgen : fd.scope.isGenerator = false)
    (hbind : ∀ vals : List Value, vals.length = names.length → bindArgs fd ⟨vals, []⟩ = pure (names.zip vals)) (hlen : names.length = ps.length) (hnd : names.Nodup)
    (hkind : ∀ n ∈ names, fd.scope.names.lookup n = some .local ∨ fd.scope.names.lookup n = some .cell) (hpv : ∀ kvs, pv ≠ .dict kvs)
    (hb : ∀ env, Ex w g (A.deeper env) fd.scope (names.zip ps) none body (.ret pv)) : CallG w g A (.ref a) ps pv := fun L s vs Q E hg hgL hns hr hk1 k => by
  refine call_fn T hroom ho hd hcode hbody hglob hblt hclo hk hco hgen hbind hlen hnd hkind hb hg hr hk1 fun env => ?_
  intro v h2 t2 j2 k2 R2 n2
  refine k v h2 t2 j2 ⟨k2⟩ R2 ?_
  obtain ⟨m, hm⟩ := hns
  have hm2 : h2.Ns L m := hm.keeps k2
  intro q; subst q
  cases pv with
  | sc a => cases a <;> first | (cases R2; done) | (obtain ⟨_, q⟩ := R2; cases q)
  | list xs => obtain ⟨a', vs, q, ho, _⟩ := R2; cases q; exact ne_list ho ⟨m, hm2⟩ rfl
  | tuple xs =>
    obtain ⟨a', vs, q, ⟨o, ho, _, n, hd⟩, _⟩ := R2; cases q
    obtain ⟨_, _, z⟩ := ns_dict hm2 ho; rw [hd] at z; cases z
  | dict xs => exact hpv _ rfl
  | range _ _ _ =>
    obtain ⟨a', _, _, _, q, ho⟩ := R2; cases q
    obtain ⟨_, _, z⟩ := ns_dict hm2 ho; cases z
theorem CallG.fnN {a : Addr} {o : Obj} {fd : FuncData} {body : List Stmt} {ps : List PV} {names : List Str} {pv : PV} (T : Tops w g mg mb) (hroom : A.depth < recursionLimit) (ho : g.get? a = some o) (hd : o.data = .func fd) (hcode : g.CodeRec fd.code fd.qualname)
    (hbody : fd.body = .stmts body) (hglob : fd.globals = mainGlobals) (hblt : fd.builtins = builtinsNs) (hclo : fd.closure = []) (hk : fd.scope.kind = .function) (hco : fd.scope.isCoroutine = false) (hgen : fd.scope.isGenerator = false)
    (hbind : ∀ vals : List Value, vals.length = names.length → bindArgs fd ⟨vals, []⟩ = pure (names.zip vals)) (hlen : names.length = ps.length) (hnd : names.Nodup)
    (hkind : ∀ n ∈ names, fd.scope.names.lookup n = some .local ∨ fd.scope.names.lookup n = some .cell)
    (hb : ∀ env, Ex w g (A.deeper env) fd.scope (names.zip ps) none body (.retN pv)) : CallG w g A (.ref a) ps pv := fun L s vs Q E hg hgL hns hr hk1 k => by
  refine call_fn T hroom ho hd hcode hbody hglob hblt hclo hk hco hgen hbind hlen hnd hkind hb hg hr hk1 fun env => ?_
  intro v h2 t2 j2 k2 R2 n2
  refine k v h2 t2 j2 ⟨k2⟩ R2 ?_
  obtain ⟨m, o, es, ep, e, _⟩ := hns
  intro q
  exact n2 L q o e
/-- a call, by what its result is -/
noncomputable def CallGP (w : World) (g : Heap) (A : Around) (f : Value) (ps : List PV) (P : Heap → Value → Prop) : Prop :=
  ∀ (L : Addr) (s : Shared) (vs : List Value) (Q E : Value → Shared → Prop), (∀ b o, g.get? b = some o → s.heap.get? b = some o) → RepAll w s.heap L ps vs → 1 ≤ s.toks →
    (∀ r h' t', 1 ≤ t' → GrowX L s.heap h' → P h' r → Q r { s with heap := h', toks := t' }) → wpAny (model pw w) A (call f vs) Q E s
theorem CallGP.fn {a : Addr} {o : Obj} {fd : FuncData} {body : List Stmt} {ps : List PV} {names : List Str} {P : Heap → Value → Prop} (T : Tops w g mg mb) (hroom : A.depth < recursionLimit) (ho : g.get? a = some o) (hd : o.data = .func fd) (hcode : g.CodeRec fd.code fd.qualname)
    (hbody : fd.body = .stmts body) (hglob : fd.globals = mainGlobals) (hblt : fd.builtins = builtinsNs) (hclo : fd.closure = []) (hk : fd.scope.kind = .function) (hco : fd.scope.isCoroutine = false) (hgen : fd.scope.isGenerator = false)
    (hbind : ∀ vals : List Value, vals.length = names.length → bindArgs fd ⟨vals, []⟩ = pure (names.zip vals)) (hlen : names.length = ps.length) (hnd : names.Nodup)
    (hkind : ∀ n ∈ names, fd.scope.names.lookup n = some .local ∨ fd.scope.names.lookup n = some .cell)
    (hb : ∀ env, Ex w g (A.deeper env) fd.scope (names.zip ps) none body (.retP P)) : CallGP w g A (.ref a) ps P := fun L s vs Q E hg hr hk1 k =>
  call_fn T hroom ho hd hcode hbody hglob hblt hclo hk hco hgen hbind hlen hnd hkind hb hg hr hk1 fun env => fun v h' t' j b R => k v h' t' j ⟨b⟩ R
end
end Mine
end
section
open PySem PySem.W PyProof.Rows
set_option maxRecDepth 100000
set_option Elab.async false
namespace Mine

noncomputable def nthS : Nat → List Stmt → Stmt
  | 0, s :: _ => s
  | n + 1, _ :: r => nthS n r
  | _, [] => .Pass default
noncomputable def bodyOf : Stmt → List Stmt
  | .FunctionDef _ _ b _ _ _ _ _ _ _ => b
  | _ => []
noncomputable def scopeOf : Stmt → Scope → Scope
  | .FunctionDef _ _ _ _ _ _ sc _ _ _, _ => sc
  | _, d => d
section
variable {w : World} {g : Heap} {A : Around} {sc : Scope} {ρ ρ' : List (Str × PV)} {mg mb : Str → Option Value}

theorem Ev.listCompM {α β : Type} (ι : α → Sc) (κ : β → Sc) (ys : List α) (p : α → Bool) (F : α → β) (inj : ∀ a b, ι a = ι b → a = b) {elt iter : Expr} {x : Str} {px pos : Pos} {ifs : List Expr} {scope : Scope}
    (hA : A.handled = none) {lst : Bool} (hsrc : Src lst w g A sc ρ iter (ys.map ι)) (hsc : scope.kind = .function) (hnames : ∀ y ∈ scope.names, y.2 = .local → scope.names.lookup y.1 = some .local)
    (hfree : ∀ n, (n, NameKind.free) ∈ scope.names → (ρ.lookup n).isSome = true ∧ (sc.names.lookup n = some .cell ∨ sc.names.lookup n = some .free))
    (hx : TargetOk scope x) (hlen : ys.length ≤ 100000)
    (htest : ∀ a ∈ ys, Tests w g A (relabelS scope sc) ((x, .sc (ι a)) :: freeOf scope ρ) ifs (p a))
    (helt : ∀ a ∈ ys, p a = true → Ev w g A (relabelS scope sc) ((x, .sc (ι a)) :: freeOf scope ρ) elt (.sc (κ (F a))))
    (hs : ∀ env x, foldedSetIterable iter env x = pure x := by intros; rfl) :
    Ev w g A sc ρ (.ListComp elt [⟨.Name x px, iter, ifs, 0⟩] scope pos) (.list (((ys.filter p).map F).map κ)) := by
  classical
  let inv : Sc → Option α := fun s => if h : ∃ a, ι a = s then some h.choose else none
  have hinv : ∀ a, inv (ι a) = some a := fun a => by
    have h : ∃ b, ι b = ι a := ⟨a, rfl⟩
    simp only [inv, dif_pos h]
    exact congrArg some (inj _ _ h.choose_spec)
  have e : (((ys.map ι).filter fun s => (inv s).elim false p).map fun s => (inv s).elim .none fun a => κ (F a)) = ((ys.filter p).map F).map κ := by
    clear hsrc hlen htest helt
    induction ys with
    | nil => rfl
    | cons y r ih =>
      rw [List.map_cons, List.filter_cons, List.filter_cons, hinv]
      cases hp : p y <;> simp [hinv, hp, ih]
  rw [← e]
  refine Ev.listComp (fun s => (inv s).elim false p) (fun s => (inv s).elim .none fun a => κ (F a)) hA hsrc hsc hnames hfree hx (by simpa using hlen) (fun a ha => ?_) (fun a ha hp => ?_) hs
  · obtain ⟨b, hb, rfl⟩ := List.mem_map.mp ha
    rw [hinv]; exact htest b hb
  · obtain ⟨b, hb, rfl⟩ := List.mem_map.mp ha
    rw [hinv] at hp ⊢; exact helt b hb hp
theorem Ev.cast {e : Expr} {a b : PV} (h : Ev w g A sc ρ e a) (q : a = b) : Ev w g A sc ρ e b := q ▸ h
theorem strInj : ∀ a b : Str, Sc.str a = Sc.str b → a = b := fun _ _ h => by cases h; rfl
theorem intInj : ∀ a b : Int, Sc.int a = Sc.int b → a = b := fun _ _ h => by cases h; rfl

noncomputable def oneCell (x : Str) : List (Str × NameKind) → Bool
  | [] => false
  | (n, k) :: r => if k == .cell then (n == x && r.all fun y => y.2 != .cell) else oneCell x r
theorem oneCell_of {x : Str} : ∀ {l : List (Str × NameKind)}, oneCell x l = true → OneCell l x
  | [], h => by cases h
  | (n, k) :: r, h => by
    rw [oneCell] at h
    by_cases hk : k = .cell
    · subst hk
      simp only [beq_self_eq_true, if_true, Bool.and_eq_true, List.all_eq_true] at h
      refine ⟨[], r, by rw [eq_of_beq h.1]; rfl, fun _ q => absurd q List.not_mem_nil, fun y hy => by have := h.2 y hy; simpa using this⟩
    · have hb : (k == NameKind.cell) = false := beq_eq_false_iff_ne.mpr hk
      simp only [hb, Bool.false_eq_true, if_false] at h
      obtain ⟨pre, post, e, h1, h2⟩ := oneCell_of h
      refine ⟨(n, k) :: pre, post, by rw [e]; rfl, fun y hy => ?_, h2⟩
      rcases List.mem_cons.mp hy with e | e
      · subst e; exact hk
      · exact h1 y e
/-- what a comprehension asks of its scope -/
noncomputable def compOk (scope sc : Scope) (names : List Str) (x : Str) : Bool :=
  scope.kind == .function && (scope.names.all fun y => y.2 != .local || scope.names.lookup y.1 == some .local)
    && (scope.names.all fun y => y.2 != .free || (names.contains y.1 && (sc.names.lookup y.1 == some .cell || sc.names.lookup y.1 == some .free)))
    && ((scope.names.lookup x == some .local && scope.names.all fun y => y.2 != .cell) || (scope.names.lookup x == some .cell && oneCell x scope.names))
theorem lookup_isSome : ∀ {ρ : List (Str × PV)} {n : Str}, (ρ.map (·.1)).contains n = true → (ρ.lookup n).isSome = true
  | [], _, h => by simp at h
  | (y, p) :: r, n, h => by
    by_cases hn : (n == y) = true
    · simp [List.lookup_cons, hn]
    · have hn' : (n == y) = false := by simpa using hn
      simp only [List.map_cons, List.contains_cons, hn', Bool.false_or] at h
      simp only [List.lookup_cons, hn']
      exact lookup_isSome h
theorem compOk_use {scope : Scope} {x : Str} (h : compOk scope sc (ρ.map (·.1)) x = true) : scope.kind = .function ∧ (∀ y ∈ scope.names, y.2 = .local → scope.names.lookup y.1 = some .local) ∧
    (∀ n, (n, NameKind.free) ∈ scope.names → (ρ.lookup n).isSome = true ∧ (sc.names.lookup n = some .cell ∨ sc.names.lookup n = some .free)) ∧ TargetOk scope x := by
  unfold compOk at h
  simp only [Bool.and_eq_true, List.all_eq_true, Bool.or_eq_true, bne_iff_ne, beq_iff_eq] at h
  obtain ⟨⟨⟨h1, h2⟩, h3⟩, h4⟩ := h
  refine ⟨h1, fun y hy e => ?_, fun n hn => ?_, ?_⟩
  · rcases h2 y hy with q | q
    · exact absurd e q
    · exact q
  · rcases h3 _ hn with q | ⟨q, r⟩
    · exact absurd rfl q
    · exact ⟨lookup_isSome q, r⟩
  · rcases h4 with ⟨a, b⟩ | ⟨a, b⟩
    · exact .loc a b
    · exact .cell a (oneCell_of b)
theorem Ev.mapC {α β : Type} (ι : α → Sc) (κ : β → Sc) (ys : List α) (F : α → β) (inj : ∀ a b, ι a = ι b → a = b) {elt iter : Expr} {x : Str} {px pos : Pos} {scope : Scope}
    (hA : A.handled = none) {lst : Bool} (hsrc : Src lst w g A sc ρ iter (ys.map ι)) (ok : compOk scope sc (ρ.map (·.1)) x = true) (hlen : ys.length ≤ 100000)
    (helt : ∀ a ∈ ys, Ev w g A (relabelS scope sc) ((x, .sc (ι a)) :: freeOf scope ρ) elt (.sc (κ (F a))))
    (hs : ∀ env x, foldedSetIterable iter env x = pure x := by intros; rfl) :
    Ev w g A sc ρ (.ListComp elt [⟨.Name x px, iter, [], 0⟩] scope pos) (.list ((ys.map F).map κ)) := by
  obtain ⟨h1, h2, h3, h4⟩ := compOk_use ok
  have := Ev.listCompM (px := px) (pos := pos) (ifs := []) (elt := elt) ι κ ys (fun _ => true) F inj hA hsrc h1 h2 h3 h4 hlen (fun a _ => (rfl : true = true)) (fun a ha _ => helt a ha) hs
  rw [List.filter_eq_self.mpr (fun _ _ => rfl)] at this
  exact this
theorem Ev.filtC {α β : Type} (ι : α → Sc) (κ : β → Sc) (ys : List α) (p : α → Bool) (F : α → β) (inj : ∀ a b, ι a = ι b → a = b) {elt iter test : Expr} {x : Str} {px pos : Pos} {scope : Scope}
    (hA : A.handled = none) {lst : Bool} (hsrc : Src lst w g A sc ρ iter (ys.map ι)) (ok : compOk scope sc (ρ.map (·.1)) x = true) (hlen : ys.length ≤ 100000)
    (htest : ∀ a ∈ ys, Tr w g A (relabelS scope sc) ((x, .sc (ι a)) :: freeOf scope ρ) test (p a))
    (helt : ∀ a ∈ ys, p a = true → Ev w g A (relabelS scope sc) ((x, .sc (ι a)) :: freeOf scope ρ) elt (.sc (κ (F a))))
    (hs : ∀ env x, foldedSetIterable iter env x = pure x := by intros; rfl) :
    Ev w g A sc ρ (.ListComp elt [⟨.Name x px, iter, [test], 0⟩] scope pos) (.list (((ys.filter p).map F).map κ)) := by
  obtain ⟨h1, h2, h3, h4⟩ := compOk_use ok
  exact Ev.listCompM (px := px) (pos := pos) ι κ ys p F inj hA hsrc h1 h2 h3 h4 hlen htest helt hs
theorem Ev.slice2 {n : Str} {p p' p1 : Pos} {lo hi : Expr} {x : Str} {i j : Int} (hv : Ev w g A sc ρ (.Name n p1) (.sc (.str x))) (hl : Ev w g A sc ρ lo (.sc (.int i))) (hh : Ev w g A sc ρ hi (.sc (.int j))) (hx : x.length ≤ 100000)
    (hs : ∀ t r, subscripted (.Slice (some lo) (some hi) none p) false (.str x t) (.ref r) = operate [.ref r, .str x t] (getItem (.str x t) (.ref r)) := by intros; with_unfolding_all rfl) :
    Ev w g A sc ρ (.Subscript (.Name n p1) (.Slice (some lo) (some hi) none p) p') (.sc (.str (Txt.slice x (some i) (some j)))) :=
  Ev.slice hv (l := some i) (h := some j) (t := none) hl hh trivial (SlOp.str hx hs)
theorem Ev.neg {x : Expr} {p : Pos} {i : Int} (h : Ev w g A sc ρ x (.sc (.int i))) : Ev w g A sc ρ (.UnaryOp .USub x p) (.sc (.int (-i))) := .mk fun env s Q E I hk1 k => by
  refine wpAny_UnaryOp (h.run env s _ E I hk1 fun v h' t' j G R n => ?_)
  obtain ⟨t, rfl⟩ := R
  exact neg_int (s := { s with heap := h', toks := t' }) (k (.int _ _) h' _ (by omega) G ⟨_, rfl⟩ (by nofun))
theorem Ev.flip {n : Str} {p p' p1 p2 p3 : Pos} {x : Str} {k : Nat} (hv : Ev w g A sc ρ (.Name n p1) (.sc (.str x))) (hx : x.length ≤ 100000)
    (hs : ∀ t r, subscripted (.Slice none none (some (.UnaryOp .USub (.Constant (.int 1) k p2) p3)) p) false (.str x t) (.ref r) = operate [.ref r, .str x t] (getItem (.str x t) (.ref r)) := by intros; with_unfolding_all rfl) :
    Ev w g A sc ρ (.Subscript (.Name n p1) (.Slice none none (some (.UnaryOp .USub (.Constant (.int 1) k p2) p3)) p) p') (.sc (.str (Txt.sliceBy x none none (-1, 0)))) :=
  Ev.slice hv (l := none) (h := none) (t := some (-1)) trivial trivial (Ev.neg Ev.int) (SlOp.rev hx hs)
end
end Mine
end
section
open PySem PySem.W PyProof.Rows
set_option maxRecDepth 100000
set_option Elab.async false
namespace Mine
noncomputable abbrev sDoubled : Stmt := nthS 17 pw.main.body
noncomputable abbrev scDoubled : Scope := scopeOf sDoubled pw.main.scope
noncomputable def flip2 (p : Str) : Str := Txt.sliceBy p none none (-1, 0)
noncomputable def doubled (word pair : Str) : Str := Txt.join ⟨#[]⟩ ((signs word).map fun l => if l == Txt.item pair 0 then pair else flip2 pair)
section
variable {w : World} {g : Heap} {A : Around} {sc : Scope} {ρ ρ' : List (Str × PV)} {mg mb : Str → Option Value}

theorem doubled_body (hA : A.handled = none) {word pair : Str} (hw : word.length ≤ 100) (hp : pair.length = 2) (hj : JoinOk ⟨#[]⟩ ((signs word).map fun l => if l == Txt.item pair 0 then pair else flip2 pair) = true) :
    Ex w g A scDoubled [("word", .sc (.str word)), ("pair", .sc (.str pair))] none (bodyOf sDoubled) (.ret (.sc (.str (doubled word pair)))) := by
  refine Ex.ret (ExS.ret ?_)
  refine Ev.methS (x := ⟨#[]⟩) (Ev.str (x := ⟨#[]⟩)) (EvArgs.cons ?_ EvArgs.nil) PySem.F.slot_str_join PySem.F.type_str_join (CallOp.join hj)
  refine Ev.mapC Sc.str Sc.str (signs word) (fun l => if l == Txt.item pair 0 then pair else flip2 pair) strInj hA (Src.str hA (Ev.var rfl)) rfl (by simp [signs]; exact Nat.le_trans hw (by decide)) fun a ha => ?_
  refine Ev.ifExp (c := a == Txt.item pair 0) (Tr.cmp (Ev.var rfl) (Ev.sub (Ev.var rfl) Ev.int (SubOp.strI (by omega) (by omega) (by omega))) Op2.eqS) ?_ ?_
  · intro h
    rw [if_pos h]
    exact Ev.var rfl
  · intro h
    rw [if_neg (by simp [h])]
    exact Ev.flip (Ev.var rfl) (by omega)
end
end Mine
end
section
open PySem PySem.W PyProof.Rows
set_option maxRecDepth 100000
set_option Elab.async false
namespace Mine
section
variable {w : World} {g : Heap} {A : Around} {sc : Scope} {ρ ρ' : List (Str × PV)} {ow ow' : Option (Str × List Sc)} {mg mb : Str → Option Value} {env : Env}

noncomputable def bltNames : List Str := ["len", "ord", "chr", "sum", "range", "list", "enumerate", "sorted", "zip"]
structure Gd (w : World) (g : Heap) (mg mb : Str → Option Value) : Prop where
  T : Tops w g mg mb
  free : ∀ x ∈ bltNames, mg x = none
  bb : ∀ x ∈ bltNames, mb x = bootBuiltins x
/-- a call by a global name, with its value left open -/
theorem call_raw {f : Str} {fv : Value} {p pos : Pos} {e : Expr} {args : List Expr} {ps : List PV} {s : Shared} {Q E : Value → Shared → Prop} (T : Tops w g mg mb) (hk : sc.names.lookup f = some .globalImplicit)
    (hv : mg f = some fv ∨ (mg f = none ∧ mb f = some fv)) (hc : Callee g fv) (ha : EvArgs w g A sc ρ (e :: args) ps) (hd : (f == ("__debug__" : Str)) = false) (I : Inv w g sc env s.heap ρ) (hk1 : 1 ≤ s.toks)
    (k : ∀ vs h' t', 1 ≤ t' → GrowX env.locals s.heap h' → RepAll w h' env.locals ps vs → wpAny (model pw w) A (PySem.call fv vs) Q E { s with heap := h', toks := t' }) : wpAny (model pw w) A (eval (.Call (.Name f p) (e :: args) [] pos) env) Q E s := by
  have hkd : env.scope.kind = .function := I.scp ▸ I.kind
  have hx : env.kindOf f = some .globalImplicit := by show env.scope.names.lookup f = _; rw [I.scp]; exact hk
  have hg : s.heap.Ns env.globals mg := I.glob ▸ T.gns.keeps I.keep
  have hb : s.heap.Ns env.builtins mb := I.blt ▸ T.bns.keeps I.keep
  refine wpAny_Call_NameR (PySem.Calls.Name_function_global hkd hx ?_ hd)
  have main : wpAny (model pw w) A (spliced (backTo pos (starEach (e :: args) env))) (fun vs s₁ => (∀ b o, s.heap.get? b = some o → s₁.heap.get? b = some o) ∧ wpAny (model pw w) A (PySem.call fv vs) Q E s₁) E s :=
    ha.spliced I hk1 fun vs h' t' j G R => ⟨G.keep, k vs h' t' j G R⟩
  have hpl := ha.plain (pos := pos) (env := env)
  obtain ⟨p0, ps', rfl⟩ : ∃ p0 ps', ps = p0 :: ps' := by cases ps with | nil => exact ha.elim | cons a b => exact ⟨a, b, rfl⟩
  have hs := ha.1.2
  rw [hs] at main hpl
  have fin : wpAny (model pw w) A (callWith pos fv [] (backTo pos (starEach (e :: args) env)) []) Q E s := by
    rw [hs]
    rcases hc with ⟨id, rfl⟩ | ⟨Tn, rfl⟩ | ⟨a, o, fd, rfl, ho, hd⟩
    · exact PySem.Calls.callWith_builtin hpl (PySem.Calls.evalArgs_plain (wpAny_mono main (fun vs s' h => h.2) fun _ _ x => x))
    · exact PySem.callWith_type hpl (PySem.Calls.evalArgs_plain (wpAny_mono main (fun vs s' h => h.2) fun _ _ x => x))
    · refine PySem.Calls.callWith_function (o := o) (fd := fd) (PySem.Calls.evalArgs_plain (wpAny_mono main (fun vs s' h => ⟨⟨h.1 a o (I.keep a o ho), hd⟩, h.2⟩) fun _ _ x => x))
  rcases hv with hv | ⟨h1, h2⟩
  · exact PySem.Calls.loadGlobal_global hg hv fin
  · exact PySem.Calls.loadGlobal_builtin hg h1 hb h2 fin
theorem Ev.callB {f : Str} {fv : Value} {p pos : Pos} {e : Expr} {args : List Expr} {ps : List PV} {c : PV} (G : Gd w g mg mb) (hb : bootBuiltins f = some fv) (ha : EvArgs w g A sc ρ (e :: args) ps) (op : CallOp w A fv ps c)
    (hk : sc.names.lookup f = some .globalImplicit := by rfl) (hf : f ∈ bltNames := by decide) (hc : Callee g fv := by first | exact .inl ⟨_, rfl⟩ | exact .inr (.inl ⟨_, rfl⟩)) (hd : (f == ("__debug__" : Str)) = false := by decide) :
    Ev w g A sc ρ (.Call (.Name f p) (e :: args) [] pos) c :=
  Ev.call G.T hk (.inr ⟨G.free f hf, (G.bb f hf).trans hb⟩) hc ha op.toG hd

/-- a def of the program, by what it computes; d: how deep its calls go -/
noncomputable def Fn (w : World) (g : Heap) (mg : Str → Option Value) (name : Str) (d : Nat) (P : List PV → PV → Prop) : Prop :=
  ∃ a, mg name = some (.ref a) ∧ Callee g (.ref a) ∧ ∀ (A : Around), A.handled = none → A.depth + d < recursionLimit → ∀ ps c, P ps c → CallG w g A (.ref a) ps c
theorem Ev.callF {f : Str} {d : Nat} {P : List PV → PV → Prop} {p pos : Pos} {e : Expr} {args : List Expr} {ps : List PV} {c : PV} (G : Gd w g mg mb) (F : Fn w g mg f d P) (hA : A.handled = none) (hd : A.depth + d < recursionLimit)
    (ha : EvArgs w g A sc ρ (e :: args) ps) (hP : P ps c) (hk : sc.names.lookup f = some .globalImplicit := by rfl) (hn : (f == ("__debug__" : Str)) = false := by decide) : Ev w g A sc ρ (.Call (.Name f p) (e :: args) [] pos) c := by
  obtain ⟨a, h1, h2, h3⟩ := F
  exact Ev.call G.T hk (.inl h1) h2 ha (h3 A hA hd ps c hP) hn

theorem ExS.tryRet {body orelse : List Stmt} {h₀ : ExceptHandler} {hs : List ExceptHandler} {pos : Pos} {pv : PV} (h : Ex w g A sc ρ ow body (.ret pv)) : ExS w g A sc ρ ow (.Try body (h₀ :: hs) orelse [] pos) (.ret pv) := .mk fun B env s Q E O hk k =>
  wpAny_Try_except (h.run B env s _ _ O hk fun v h' t' j b R n => k v h' t' j b R n)

/-- pairs that are walked -/
noncomputable def SrcT (w : World) (g : Heap) (A : Around) (sc : Scope) (ρ : List (Str × PV)) (iter : Expr) (prs : List (Sc × Sc)) : Prop :=
  ∀ (env : Env) (s : Shared) (K E : Value → Shared → Prop), Inv w g sc env s.heap ρ → 1 ≤ s.toks →
    (∀ I fp wr St Mid h' t', 1 ≤ t' → GrowX env.locals s.heap h' → WalksT pw w A I fp wr prs.length (fun i vals => ∃ a b u v, prs[i]? = some (a, b) ∧ vals = #[u, v] ∧ a.Is u ∧ b.Is v) St Mid → St 0 h' → (∀ b ∈ fp, b < h'.objs.size) → (∀ b ∈ wr, s.heap.get? b = none) →
      (∀ i h, St i h → ∀ b ∈ fp, ∃ o, h.get? b = some o ∧ FpK false (b ∈ wr) o) → (∀ i T h, Mid i T h → ∀ b ∈ fp, ∃ o, h.get? b = some o ∧ FpK false (b ∈ wr) o) → K (.ref I) { s with heap := h', toks := t' }) →
    wpAny (model pw w) A (eval iter env) (fun x s₁ => wpAny (model pw w) A (pyIter x) K E s₁) E s
end
end Mine
end
section
open PySem PySem.W PyProof.Rows
set_option maxRecDepth 100000
set_option Elab.async false
namespace Mine
section
variable {w : World} {g : Heap} {A : Around} {sc : Scope} {ρ ρ' : List (Str × PV)} {ow ow' : Option (Str × List Sc)} {mg mb : Str → Option Value} {env : Env}

noncomputable def numbered (x : Str) : List (Sc × Sc) := (signs x).zipIdx.map fun q => (.int q.2, .str q.1)
theorem WalksT.weak {I : Addr} {fp wr : List Addr} {n n' : Nat} {P P' : Nat → Array Value → Prop} {St : Nat → Heap → Prop} {Mid : Nat → Addr → Heap → Prop} (W : WalksT pw w A I fp wr n P St Mid) (hn : n = n') (hP : ∀ i v, i < n → P i v → P' i v) : WalksT pw w A I fp wr n' P' St Mid := by
  subst hn
  exact ⟨W.sub, W.frame, fun i s Q E hi st hQ => W.item i s Q E hi st fun T v h' tk hp => hQ T v h' tk (hP i v hi hp), W.go, W.apart, W.done, W.self⟩
theorem SrcT.enumStr {p pos : Pos} {e : Expr} {x : Str} (G : Gd w g mg mb) (hA : A.handled = none) (he : Ev w g A sc ρ e (.sc (.str x))) (hk : sc.names.lookup ("enumerate" : Str) = some .globalImplicit := by rfl)
    (hs : ∀ es env, starEach (e :: es) env = (false, eval e env) :: starEach es env := by intros; rfl) :
    SrcT w g A sc ρ (.Call (.Name "enumerate" p) [e] [] pos) (numbered x) := fun env s K E I hk1 k => by
  refine call_raw (fv := .type "enumerate") (ps := [.sc (.str x)]) G.T hk (.inr ⟨G.free _ (by decide), (G.bb _ (by decide)).trans rfl⟩) (.inr (.inl ⟨_, rfl⟩)) (EvArgs.cons he EvArgs.nil hs) (by decide) I hk1 fun vs h1 t1 j1 G1 R => ?_
  obtain ⟨_, rfl, ⟨t, rfl⟩, _⟩ := R.one
  refine call_enumerate_str (s := { s with heap := h1, toks := t1 }) fun h2 hE hI hsz hk2 => ?_
  refine wpAny_pyIter_enum hE ?_
  have hnew : ∀ n, s.heap.get? (h1.objs.size + n) = none := fun n => by
    cases e : s.heap.get? (h1.objs.size + n) with
    | none => rfl
    | some o => have := G1.keep _ _ e; rw [new_none] at this; cases this
  have hP : ∀ i (v : Array Value), i < x.cps.size → (∃ t y, (∃ c u, x.cps[i]? = some c ∧ y = Value.str ⟨#[c]⟩ u) ∧ v = #[.int i t, y]) → ∃ a b u v', (numbered x)[i]? = some (a, b) ∧ v = #[u, v'] ∧ a.Is u ∧ b.Is v' := by
    rintro i v _ ⟨t', y, ⟨c, u, hc, rfl⟩, rfl⟩
    have : x.cps.toList[i]? = some c := by rw [Array.getElem?_toList]; exact hc
    refine ⟨.int i, .str ⟨#[c]⟩, _, _, ?_, rfl, ⟨t', rfl⟩, ⟨u, rfl⟩⟩
    simp [numbered, signs, List.getElem?_zipIdx, this]
  have hl : x.cps.size = (numbered x).length := by simp [numbered, signs]
  have fin : ∀ {ty : String} (D : Draws pw w A.in1 h1.objs.size [h1.objs.size] x.cps.size (fun i v => ∃ c u, x.cps[i]? = some c ∧ v = .str ⟨#[c]⟩ u) (fun i h => h.IsStrIter h1.objs.size ty x t i)) (hi : h2.IsStrIter h1.objs.size ty x t 0) (hty : ty ≠ "range"),
      K (.ref (h1.objs.size + 1)) { s with heap := h2, toks := t1 } := fun {ty} D hi hty => by
    have W := WalksT.enumerateD D (h1.objs.size + 1) (Nat.succ_ne_self _) (by simp) (by simp)
    refine k (h1.objs.size + 1) _ _ _ _ h2 t1 j1 (G1.trans (.of hk2)) (WalksT.weak W hl fun i v hi hp => hP i v hi ?_) ⟨⟨_, hE⟩, hi⟩ ?_ ?_ ?_ ?_
    · obtain ⟨t', y, h3, h4⟩ := hp; exact ⟨t', y, h3, h4⟩
    · intro b hb
      have hb : b = h1.objs.size + 1 ∨ b = h1.objs.size := by simpa using hb
      have hsz : h2.objs.size = h1.objs.size + 2 := hsz
      rw [hsz]
      rcases hb with rfl | rfl
      · exact Nat.lt_succ_self _
      · exact Nat.lt_add_of_pos_right (by decide)
    · intro b hb
      have hb : b = h1.objs.size + 1 ∨ b = h1.objs.size := by simpa using hb
      rcases hb with rfl | rfl
      · exact hnew 1
      · exact hnew 0
    · rintro i h ⟨⟨old, e1⟩, o, e2, e3, e4⟩ b hb
      have hb : b = h1.objs.size + 1 ∨ b = h1.objs.size := by simpa using hb
      rcases hb with rfl | rfl
      · exact ⟨_, e1, .inl ⟨⟨_, rfl⟩, by show Value.type "enumerate" ≠ _; nofun⟩⟩
      · exact ⟨o, e2, .inl ⟨⟨_, e4⟩, by rw [e3]; intro q; cases q; exact hty rfl⟩⟩
    · rintro i T h ⟨⟨old, e1⟩, ⟨o, e2, e3, e4⟩, _⟩ b hb
      have hb : b = h1.objs.size + 1 ∨ b = h1.objs.size := by simpa using hb
      rcases hb with rfl | rfl
      · exact ⟨_, e1, .inl ⟨⟨_, rfl⟩, by show Value.type "enumerate" ≠ _; nofun⟩⟩
      · exact ⟨o, e2, .inl ⟨⟨_, e4⟩, by rw [e3]; intro q; cases q; exact hty rfl⟩⟩
  cases ha : x.cps.all (· < 128)
  · have ety : strIterType x = "str_iterator" := by unfold strIterType; rw [ha]; rfl
    rw [ety] at hI
    exact fin (Draws.strWide (by exact hA) _ x t) hI (by decide)
  · have ety : strIterType x = "str_ascii_iterator" := by unfold strIterType; rw [ha]; rfl
    rw [ety] at hI
    exact fin (Draws.strAscii (by exact hA) _ x t) hI (by decide)
end
end Mine
end
section
open PySem PySem.W PyProof.Rows
set_option maxRecDepth 100000
set_option Elab.async false
namespace Mine
section
variable {w : World} {g : Heap} {A : Around} {sc : Scope} {ρ ρ' : List (Str × PV)} {ow ow' : Option (Str × List Sc)} {mg mb : Str → Option Value} {env : Env}

theorem sc_ne {a : Sc} {v : Value} {L : Addr} (h : a.Is v) : v ≠ .ref L := by
  intro q; subst q
  cases a <;> first | (cases h; done) | (obtain ⟨_, q⟩ := h; cases q)
theorem ExS.forT {x y : Str} {px py tp pos : Pos} {k0 : Nat} {iter : Expr} {body : List Stmt} {prs : List (Sc × Sc)} (R : Nat → List (Str × PV)) (hA : A.handled = none)
    (hsrc : SrcT w g A sc (R 0) iter prs) (hx : sc.names.lookup x = some .local ∨ sc.names.lookup x = some .cell) (hy : sc.names.lookup y = some .local ∨ sc.names.lookup y = some .cell)
    (turn : ∀ i a b, prs[i]? = some (a, b) → Ex w g A sc ((y, .sc b) :: (x, .sc a) :: R i) none body (.next (R (i + 1)) none))
    (hs : ∀ env x, foldedSetIterable iter env x = pure x := by intros; rfl) :
    ExS w g A sc (R 0) none (.For (.Tuple [.Name x px, .Name y py] k0 tp) iter body [] pos) (.next (R prs.length) none) := .mk fun B env s Q E O hk k => by
  refine wpAny_For (hsrc env s _ E O.f.inv hk fun I fp wr St Mid h₀ t₀ j₀ G₀ Wk hst hfp hwr hkind hkindM => ?_) (hs env)
  have hwB : ∀ b ∈ wr, ∀ o, ¬ B b o := fun b hb o e => by have := O.f.base b o e; rw [hwr b hb] at this; cases this
  have kw : ∀ {h : Heap}, (∀ b ∈ fp, ∃ o, h.get? b = some o ∧ FpK false (b ∈ wr) o) → ∀ b ∈ wr, ∃ o, h.get? b = some o ∧ FpK false True o := fun {h} q b hb => by
    obtain ⟨o, e, z⟩ := q b (Wk.sub b hb)
    refine ⟨o, e, ?_⟩
    rcases z with z | ⟨z, _⟩
    · exact .inl z
    · cases z
  refine codeAny_forLoop_any (fun m s' => ∃ i h t, s' = { s with heap := h, toks := t } ∧ 1 ≤ t ∧ i ≤ prs.length ∧ m = prs.length - i ∧ St i h ∧ OInv w g B sc env h (R i) none) ?_ prs.length ⟨0, h₀, t₀, rfl, j₀, Nat.zero_le _, rfl, hst, O.grow G₀⟩
  rintro m s' ⟨i, h, t, rfl, j, hi, rfl, hSt, Oi⟩
  rcases Nat.lt_or_eq_of_le hi with hlt | hin
  · refine tk (s := { s with heap := h, toks := t }) j (Wk.item i { s with heap := h, toks := t } _ _ hlt hSt fun T vals h1 t1 hP hTs hT hM hk1 j1 => ?_)
    obtain ⟨a, b, u, v, hab, rfl, hau, hbv⟩ := hP
    have O1 : OInv w g B sc env h1 (R i) none := Oi.but (kw (hkind i h hSt)) hwB hk1
    refine Wk.go _ _ _ i T { s with heap := h1, toks := t1 } _ _ hM fun h2 hSt2 hk2 => ?_
    have O2 : OInv w g B sc env h2 (R i) none := O1.but (kw (hkindM i T h1 hM)) hwB hk2
    have hT2 : IsTup h2 T #[u, v] := by
      obtain ⟨o, e1, e2⟩ := hT
      exact ⟨o, hk2 T o (Wk.apart i T h1 hM) e1, e2⟩
    refine assign_Tuple_tuple (s := { s with heap := h2, toks := t1 }) hA hT2 rfl rfl fun h3 he => ?_
    have G3 : GrowX env.locals h2 h3 := .of fun b o e => he b o (Nat.ne_of_lt (Heap.lt_size e)) e
    have hSt3 : St (i + 1) h3 := Wk.frame _ _ _ hSt2 fun b _ o e => G3.keep b o e
    have O3 := O2.grow G3
    show wpAny _ _ (assignInOrder [PySem.assign (.Name x px) env, PySem.assign (.Name y py) env] [u, v]) _ _ _
    have stf : ∀ {z : Str} {h h' : Heap} {ρ : List (Str × PV)} , St (i + 1) h → OInv w g B sc env h ρ none → (∀ b o, b ≠ env.locals → (∀ c, env.cells.lookup z = some c → b ≠ c) → h.get? b = some o → h'.get? b = some o) → St (i + 1) h' := by
      intro z h h' ρ hS Oz kz
      refine Wk.frame _ _ _ hS fun b hb o e => ?_
      obtain ⟨o', e', z'⟩ := hkind (i + 1) h hS b hb
      rw [e] at e'; cases e'
      refine kz b o (fun q => ?_) (fun c hc q => ?_) e
      · subst q; obtain ⟨es, nn, q⟩ := ns_dict Oz.f.inv.ns.choose_spec e; exact z'.nd.1 _ _ q
      · subst q; obtain ⟨u, o2, q1, q2⟩ := (Oz.f.cell z b hc).2; rw [e] at q1; cases q1; exact z'.nd.2 _ q2
    refine assignInOrder_cons (wpAny_assign_Name (O3.store (s := { s with heap := h3, toks := t1 }) j1 hx trivial (pv := .sc a) hau (sc_ne hau) fun h4 t4 j4 O4 k4 => ?_))
    have hSt4 := stf hSt3 O3 k4
    refine assignInOrder_cons (wpAny_assign_Name (O4.store (s := { s with heap := h4, toks := t4 }) j4 hy trivial (pv := .sc b) hbv (sc_ne hbv) fun h5 t5 j5 O5 k5 => ?_))
    have hSt5 := stf hSt4 O4 k5
    refine assignInOrder_nil ?_
    have hk5 : ∀ b ∈ fp, ∃ o p, h5.get? b = some o ∧ FpK false p o := fun b hb => by
      obtain ⟨o, e, z⟩ := hkind (i + 1) h5 hSt5 b hb
      exact ⟨o, _, e, z⟩
    refine (turn i a b hab).run _ env { s with heap := h5, toks := t5 } _ _ (O5.more hk5 fun q => nomatch q) j5 ?_
    intro h6 t6 j6 O6
    refine ⟨prs.length - (i + 1), by omega, i + 1, h6, t6, rfl, j6, hlt, rfl, ?_, O6.less (fun b o e => .inl e) O.f.gB⟩
    refine Wk.frame _ _ _ hSt5 fun b hb o e => O6.f.base b o (.inr ⟨hb, e⟩)
  · subst hin
    refine tk (s := { s with heap := h, toks := t }) j (Wk.done { s with heap := h, toks := t } _ _ hSt fun h1 t1 hk1 j1 => ?_)
    exact wpAny_execs_nil (k h1 t1 j1 (Oi.but (kw (hkind _ h hSt)) hwB hk1))
end
end Mine
end
section
open PySem PySem.W PyProof.Rows
set_option maxRecDepth 100000
set_option Elab.async false
namespace Mine
section
variable {w : World} {g : Heap} {A : Around} {sc : Scope} {ρ ρ' : List (Str × PV)} {ow ow' : Option (Str × List Sc)} {mg mb : Str → Option Value} {B : Addr → Obj → Prop} {env : Env}

theorem FInv.sameBut {h h' : Heap} {C : Addr} (F : FInv w g B sc env h ρ) (hC : ∀ o, ¬ B C o) (hL : env.locals ≠ C) (hcell : ∀ n c, env.cells.lookup n = some c → c ≠ C)
    (hval : ∀ x pv, ρ.lookup x = some pv → ∀ v, VarIs env h x v → v ≠ .ref C) (k : ∀ b o, b ≠ C → h.get? b = some o → h'.get? b = some o) : FInv w g B sc env h' ρ := by
  have kB : ∀ b o, B b o → h'.get? b = some o := fun b o e => k b o (fun q => hC o (q ▸ e)) (F.base b o e)
  obtain ⟨m, hm⟩ := F.inv.ns
  refine ⟨⟨F.inv.scp, F.inv.kind, F.inv.glob, F.inv.blt, fun b o e => kB b o (F.gB b o e), F.inv.off, ⟨m, hm.at' fun o e => k _ o hL e⟩, fun y pv hy => ?_⟩, F.gB, kB, F.offL, fun n c hc => ⟨(F.cell n c hc).1, ?_⟩, F.apart, F.hasCell⟩
  · obtain ⟨u, V, R, ne⟩ := F.inv.vars y pv hy
    refine ⟨u, ?_, R.but k (hval y pv hy u V), ne⟩
    rcases V with ⟨q, m', q1, q2⟩ | ⟨q, c, q1, ⟨o, q2, q3⟩⟩
    · exact .inl ⟨q, m', q1.at' fun o e => k _ o hL e, q2⟩
    · exact .inr ⟨q, c, q1, o, k c o (hcell y c q1) q2, q3⟩
  · obtain ⟨u, o, q1, q2⟩ := (F.cell n c hc).2
    exact ⟨u, o, k c o (hcell n c hc) q1, q2⟩
theorem rep_none {h : Heap} {pv : PV} {v : Value} {C : Addr} (R : Rep w h pv v) (hC : h.get? C = none) : v ≠ .ref C := by
  intro q; subst q
  cases pv with
  | sc a => exact sc_ne R rfl
  | list xs => obtain ⟨a', vs, q, ⟨o, ho, _⟩, _⟩ := R; cases q; rw [hC] at ho; cases ho
  | tuple xs => obtain ⟨a', vs, q, ⟨o, ho, _⟩, _⟩ := R; cases q; rw [hC] at ho; cases ho
  | dict xs => obtain ⟨a', vs, q, ⟨o, _, _, ho, _⟩, _⟩ := R; cases q; rw [hC] at ho; cases ho
  | range _ _ _ => obtain ⟨a', _, _, _, q, ho⟩ := R; cases q; have := hC.symm.trans ho; cases this

/-- a comprehension kept by a name: the name is stored before the comprehension's own names go -/
theorem ExS.assignComp {elt iter : Expr} {x y : Str} {px py pos spos : Pos} {ifs : List Expr} {scope : Scope} {xs : List Sc} (p : Sc → Bool) (f : Sc → Sc)
    (hA : A.handled = none) {lst : Bool} (hsrc : Src lst w g A sc ρ iter xs) (ok : compOk scope sc (ρ.map (·.1)) x = true) (hlen : xs.length ≤ 100000)
    (htest : ∀ a ∈ xs, Tests w g A (relabelS scope sc) ((x, .sc a) :: freeOf scope ρ) ifs (p a))
    (helt : ∀ a ∈ xs, p a = true → Ev w g A (relabelS scope sc) ((x, .sc a) :: freeOf scope ρ) elt (.sc (f a)))
    (hy : sc.names.lookup y = some .local)
    (hsw : ∀ env : Env, env.scope = sc → swapsWith (.ListComp elt [⟨.Name x px, iter, ifs, 0⟩] scope pos) (some (.Name y py)) spos.line env = pure true)
    (hs : ∀ env x, foldedSetIterable iter env x = pure x := by intros; rfl) :
    ExS w g A sc ρ none (.Assign [.Name y py] (.ListComp elt [⟨.Name x px, iter, ifs, 0⟩] scope pos) spos) (.next ((y, .list ((xs.filter p).map f)) :: ρ) none) := .mk fun B env s Q E O hk1 k => by
  obtain ⟨h1, h2, h3, h4⟩ := compOk_use ok
  rw [exec_Assign_Name_used _ _ _ _ (hsw env O.f.inv.scp)]
  refine wpAny_bind (wpAny_standAt (wpAny_bind ?_))
  show wpAny _ A (do let _ ← comprehension (.ListComp elt [⟨.Name x px, iter, ifs, 0⟩] scope pos) scope env _ (newList []) false (eval iter env) (some (PySem.assign (.Name y py) env))) _ _ s
  refine wpAny_bind (wpAny_mono (comp_core (use := some (PySem.assign (.Name y py) env)) (Q := fun _ s' => Q .next s') p f hA hsrc h1 h2 h3 h4 hlen htest helt O.f.inv hk1 (fun D C h' t' vs j hk hL hAll hD hC hDC hn => ?_) (hs env)) (fun _ s' hq => wpAny_pure (wpAny_pure hq)) fun _ _ e => e)
  have O1 := O.grow (h' := h') ⟨hk⟩
  show wpAny _ A (PySem.assign (.Name y py) env (.ref D)) _ _ _
  have nL : env.locals ≠ C := fun q => by obtain ⟨m, o, es, ep, e, _⟩ := O.f.inv.ns; rw [q, hC] at e; cases e
  have nc : ∀ n c, env.cells.lookup n = some c → c ≠ C := fun n c hc q => by obtain ⟨_, u, o, e, _⟩ := O.f.cell n c hc; rw [q, hC] at e; cases e
  refine wpAny_assign_Name (O1.f.store (s := { s with heap := h', toks := t' }) (pv := .list ((xs.filter p).map f)) j (.inl hy) ⟨D, vs, rfl, hL, hAll⟩ (ne_list hL O1.f.inv.ns) fun h3' t3 j3 F3 k3 vk vx => ?_)
  obtain ⟨m, hm⟩ := hn
  refine ⟨m, hm.at' fun o e => k3 C o nL.symm (fun c hc => (nc y c hc).symm) e, fun h4' hsb => ?_⟩
  refine k h4' t3 j3 ⟨F3.sameBut (fun o e => by have := O.f.base C o e; rw [hC] at this; cases this) nL nc (fun z pv hz v hv => ?_) hsb.extBut, fun _ _ e => nomatch e⟩
  by_cases hzy : (z == y) = true
  · have := eq_of_beq hzy
    subst this
    have := hv.inj vx
    subst this
    intro q; cases q; exact hDC rfl
  · have hzy' : (z == y) = false := by simpa using hzy
    simp only [List.lookup_cons, hzy'] at hz
    obtain ⟨u, V, R, _⟩ := O.f.inv.vars z pv hz
    have := hv.inj (vk z u (fun q => hzy (by rw [q]; simp)) (V.grow ⟨hk⟩))
    subst this
    exact rep_none R hC
theorem ExS.mapC {α β : Type} (ι : α → Sc) (κ : β → Sc) (ys : List α) (F : α → β) (inj : ∀ a b, ι a = ι b → a = b) {elt iter : Expr} {x y : Str} {px py pos spos : Pos} {scope : Scope}
    (hA : A.handled = none) {lst : Bool} (hsrc : Src lst w g A sc ρ iter (ys.map ι)) (ok : compOk scope sc (ρ.map (·.1)) x = true) (hlen : ys.length ≤ 100000) (hy : sc.names.lookup y = some .local)
    (hsw : ∀ env : Env, env.scope = sc → swapsWith (.ListComp elt [⟨.Name x px, iter, [], 0⟩] scope pos) (some (.Name y py)) spos.line env = pure true)
    (helt : ∀ a ∈ ys, Ev w g A (relabelS scope sc) ((x, .sc (ι a)) :: freeOf scope ρ) elt (.sc (κ (F a))))
    (hs : ∀ env x, foldedSetIterable iter env x = pure x := by intros; rfl) :
    ExS w g A sc ρ none (.Assign [.Name y py] (.ListComp elt [⟨.Name x px, iter, [], 0⟩] scope pos) spos) (.next ((y, .list ((ys.map F).map κ)) :: ρ) none) := by
  classical
  let inv : Sc → Option α := fun s => if h : ∃ a, ι a = s then some h.choose else none
  have hinv : ∀ a, inv (ι a) = some a := fun a => by
    have h : ∃ b, ι b = ι a := ⟨a, rfl⟩
    simp only [inv, dif_pos h]
    exact congrArg some (inj _ _ h.choose_spec)
  have e : (((ys.map ι).filter fun _ => true).map fun s => (inv s).elim Sc.none fun a => κ (F a)) = (ys.map F).map κ := by
    rw [List.filter_eq_self.mpr (fun _ _ => rfl), List.map_map, List.map_map]
    refine List.map_congr_left fun a _ => ?_
    simp [hinv]
  rw [← e]
  refine ExS.assignComp (fun _ => true) (fun s => (inv s).elim .none fun a => κ (F a)) hA hsrc ok (by simpa using hlen) (fun a _ => (show Tests w g A _ _ [] true from rfl)) (fun a ha _ => ?_) hy hsw hs
  obtain ⟨b, hb, rfl⟩ := List.mem_map.mp ha
  rw [hinv]; exact helt b hb
theorem ExS.filtC {α β : Type} (ι : α → Sc) (κ : β → Sc) (ys : List α) (p : α → Bool) (F : α → β) (inj : ∀ a b, ι a = ι b → a = b) {elt iter test : Expr} {x y : Str} {px py pos spos : Pos} {scope : Scope}
    (hA : A.handled = none) {lst : Bool} (hsrc : Src lst w g A sc ρ iter (ys.map ι)) (ok : compOk scope sc (ρ.map (·.1)) x = true) (hlen : ys.length ≤ 100000) (hy : sc.names.lookup y = some .local)
    (hsw : ∀ env : Env, env.scope = sc → swapsWith (.ListComp elt [⟨.Name x px, iter, [test], 0⟩] scope pos) (some (.Name y py)) spos.line env = pure true)
    (htest : ∀ a ∈ ys, Tr w g A (relabelS scope sc) ((x, .sc (ι a)) :: freeOf scope ρ) test (p a))
    (helt : ∀ a ∈ ys, p a = true → Ev w g A (relabelS scope sc) ((x, .sc (ι a)) :: freeOf scope ρ) elt (.sc (κ (F a))))
    (hs : ∀ env x, foldedSetIterable iter env x = pure x := by intros; rfl) :
    ExS w g A sc ρ none (.Assign [.Name y py] (.ListComp elt [⟨.Name x px, iter, [test], 0⟩] scope pos) spos) (.next ((y, .list (((ys.filter p).map F).map κ)) :: ρ) none) := by
  classical
  let inv : Sc → Option α := fun s => if h : ∃ a, ι a = s then some h.choose else none
  have hinv : ∀ a, inv (ι a) = some a := fun a => by
    have h : ∃ b, ι b = ι a := ⟨a, rfl⟩
    simp only [inv, dif_pos h]
    exact congrArg some (inj _ _ h.choose_spec)
  have e : (((ys.map ι).filter fun s => (inv s).elim false p).map fun s => (inv s).elim Sc.none fun a => κ (F a)) = ((ys.filter p).map F).map κ := by
    clear hsrc hlen htest helt
    induction ys with
    | nil => rfl
    | cons y r ih =>
      rw [List.map_cons, List.filter_cons, List.filter_cons, hinv]
      cases hp : p y <;> simp [hinv, hp, ih]
  rw [← e]
  refine ExS.assignComp (fun s => (inv s).elim false p) (fun s => (inv s).elim .none fun a => κ (F a)) hA hsrc ok (by simpa using hlen) (fun a ha => ?_) (fun a ha hp => ?_) hy hsw hs
  · obtain ⟨b, hb, rfl⟩ := List.mem_map.mp ha
    rw [hinv]; exact htest b hb
  · obtain ⟨b, hb, rfl⟩ := List.mem_map.mp ha
    rw [hinv] at hp ⊢; exact helt b hb hp
end
end Mine
end
section
open PySem PySem.W PyProof.Rows
set_option maxRecDepth 100000
set_option Elab.async false
namespace Mine
section
variable {w : World} {g : Heap} {A : Around} {sc : Scope} {ρ ρ' : List (Str × PV)} {ow ow' : Option (Str × List Sc)} {mg mb : Str → Option Value} {B : Addr → Obj → Prop} {env : Env}

-- sorted, over ints
noncomputable def ins (x : Int) : List Int → List Int
  | [] => [x]
  | y :: r => if x ≤ y then x :: y :: r else y :: ins x r
noncomputable def isort : List Int → List Int
  | [] => []
  | x :: r => ins x (isort r)
theorem ins_perm (x : Int) : ∀ l : List Int, (ins x l).Perm (x :: l)
  | [] => .refl _
  | y :: r => by
    unfold ins
    split
    · exact .refl _
    · exact (List.Perm.cons y (ins_perm x r)).trans (.swap x y r)
theorem isort_perm : ∀ l : List Int, (isort l).Perm l
  | [] => .refl _
  | x :: r => (ins_perm x _).trans (.cons x (isort_perm r))
theorem ins_sorted (x : Int) : ∀ l : List Int, l.Pairwise (· ≤ ·) → (ins x l).Pairwise (· ≤ ·)
  | [], _ => by simp [ins]
  | y :: r, h => by
    obtain ⟨h1, h2⟩ := List.pairwise_cons.mp h
    unfold ins
    split
    · rename_i hxy
      exact List.pairwise_cons.mpr ⟨fun z hz => by
        rcases List.mem_cons.mp hz with rfl | hz
        · exact hxy
        · exact Int.le_trans hxy (h1 z hz), h⟩
    · rename_i hxy
      refine List.pairwise_cons.mpr ⟨fun z hz => ?_, ins_sorted x r h2⟩
      rcases List.mem_cons.mp ((ins_perm x r).mem_iff.mp hz) with rfl | hz
      · omega
      · exact h1 z hz
theorem isort_sorted : ∀ l : List Int, (isort l).Pairwise (· ≤ ·)
  | [] => .nil
  | x :: r => ins_sorted x _ (isort_sorted r)
theorem sorted_eq : ∀ {a b : List Int}, a.Perm b → a.Pairwise (· ≤ ·) → b.Pairwise (· ≤ ·) → a = b
  | [], b, p, _, _ => (List.nil_perm.mp p).symm
  | x :: r, [], p, _, _ => absurd p.length_eq (by simp)
  | x :: r, y :: q, p, ha, hb => by
    obtain ⟨a1, a2⟩ := List.pairwise_cons.mp ha
    obtain ⟨b1, b2⟩ := List.pairwise_cons.mp hb
    have e : x = y := by
      rcases List.mem_cons.mp (p.mem_iff.mp List.mem_cons_self) with e | e
      · exact e
      · rcases List.mem_cons.mp (p.symm.mem_iff.mp List.mem_cons_self) with e' | e'
        · exact e'.symm
        · have := b1 x e; have := a1 y e'; omega
    subst e
    rw [sorted_eq ((List.perm_cons x).mp p) a2 b2]
theorem CallOp.sorted {ns : List Int} (h64 : ns.length < 64) : CallOp w A (.builtin "sorted") [.list (ns.map .int)] (.list ((isort ns).map .int)) := fun L s vs Q E hn hr hk1 k => by
  obtain ⟨_, rfl, ⟨a, us, rfl, ho, hr⟩, _⟩ := hr.one
  have hi := hr.ints
  refine tk hk1 (sorted_ints ho hi (by have := hr.length; simp at this; omega) fun out ns' h1 h2 h3 j => ?_)
  have e : ns' = isort ns := sorted_eq (h2.trans (isort_perm ns).symm) h3 (isort_sorted ns)
  subst e
  obtain ⟨e, he⟩ := sortedAll_at s.heap us out
  exact k (.ref _) _ s.toks j (.of fun b o q => sortedAll_old q) ⟨_, out.toList, rfl, ⟨_, he, rfl, e, by simp [seqObj]⟩, AllIs.ofInts h1⟩ (ne_new hn 1)

-- find, between two places
noncomputable def findIn (x y : Str) (lo hi : Nat) : Int := match Builtin.Str.occurrences x y lo hi 1 with
  | i :: _ => i
  | [] => -1
theorem searchRange_ints {n : Nat} {a b : Int} {t u : Tok} {s : Shared} {Q : Nat × Nat → Shared → Prop} {E : Value → Shared → Prop} (ha : 0 ≤ a) (hb : 0 ≤ b) (h : Q (a.toNat, min b.toNat n) s) :
    wpAny (model pw w) A (Builtin.Str.searchRange n [.int a t, .int b u]) Q E s := by
  unfold Builtin.Str.searchRange
  refine wpAny_bind (wpAny_bind (wpAny_specialOf (name := Str.ofString "__index__") (typeIs_int s a t) PySem.F.slot_int_index.lookup ?_))
  refine wpAny_bind (m := asIndex (.int a t)) (wpAny_pure (wpAny_pure ?_))
  refine wpAny_bind (wpAny_bind (wpAny_specialOf (name := Str.ofString "__index__") (typeIs_int s b u) PySem.F.slot_int_index.lookup ?_))
  refine wpAny_bind (m := asIndex (.int b u)) (wpAny_pure (wpAny_pure (wpAny_pure ?_)))
  have e1 : max 0 (if a < 0 then a + n else a) = a := by rw [if_neg (by omega)]; omega
  have e2 : max 0 (if b < 0 then b + n else b) = b := by rw [if_neg (by omega)]; omega
  rw [e1, e2]
  exact h
theorem CallOp.find4 {x y : Str} {a b : Int} (ha : 0 ≤ a) (hb : 0 ≤ b) : CallOp w A (.builtin "str.find") [.sc (.str x), .sc (.str y), .sc (.int a), .sc (.int b)] (.sc (.int (findIn x y a.toNat (min b.toNat x.length)))) := fun L s vs Q E hn hr hk1 k => by
  match vs, hr with
  | [_, _, _, _], ⟨⟨⟨t, rfl⟩, _⟩, ⟨⟨t', rfl⟩, _⟩, ⟨⟨u, rfl⟩, _⟩, ⟨⟨u', rfl⟩, _⟩, _⟩ =>
    refine wpAny_call_entry PySem.F.slot_str_find (typeIs_str _ _ _) PySem.F.entry_str_find ?_ (PySem.F.args_str_find_4 _ _ _ _)
    show wpAny _ _ ((Builtin.Str.searchRange x.length [Value.int a u, Value.int b u'] >>= fun p => pure (x, y, p.1, p.2)) >>= fun q => match Builtin.Str.occurrences q.1 q.2.1 q.2.2.1 q.2.2.2 1 with
      | i :: _ => retInt i
      | [] => (do rule "str.find.not-found"; retInt (-1))) _ _ s
    refine wpAny_bind (wpAny_bind (searchRange_ints ha hb (wpAny_pure ?_)))
    have key : ∀ i : Int, i = findIn x y a.toNat (min b.toNat x.length) → wpAny (model pw w) A.in1 (retInt i) (fun fin s' => ∃ v, fin = .done (.ret v) ∧ Q v s') E s := by
      rintro i rfl
      unfold retInt
      exact wpAny_bind (wpAny_mkInt (wpAny_pure ⟨_, rfl, k (.int _ _) s.heap _ (by omega) (.refl _ _) ⟨_, rfl⟩ (by nofun)⟩))
    dsimp only
    unfold findIn at key
    cases ho : Builtin.Str.occurrences x y a.toNat (min b.toNat x.length) 1 with
    | nil => rw [ho] at key; exact wpAny_bind (wpAny_rule (key _ rfl))
    | cons i r => rw [ho] at key; exact key _ rfl

theorem Tr.cast {e : Expr} {a b : Bool} (h : Tr w g A sc ρ e a) (q : a = b) : Tr w g A sc ρ e b := q ▸ h
theorem ExS.assert {test : Expr} {pos : Pos} (hA : A.handled = none) (ht : Tr w g A sc ρ test true) : ExS w g A sc ρ ow (.Assert test none pos) (.next ρ ow) := .mk fun B env s Q E O hk k =>
  wpAny_Assert hA (ht.run env s _ E O.f.inv hk fun h' t' j G => k h' t' j (O.grow G))
/-- a text that the top keeps by a name -/
theorem Ev.globS {f : Str} {x : Str} {p : Pos} (G : Gd w g mg mb) (hv : ∃ t, mg f = some (.str x t)) (hk : sc.names.lookup f = some .globalImplicit := by rfl) (hd : (f == ("__debug__" : Str)) = false := by decide) : Ev w g A sc ρ (.Name f p) (.sc (.str x)) := .mk fun env s Q E I hk1 k => by
  have hkd : env.scope.kind = .function := I.scp ▸ I.kind
  have hx : env.kindOf f = some .globalImplicit := by show env.scope.names.lookup f = _; rw [I.scp]; exact hk
  have hg : s.heap.Ns env.globals mg := I.glob ▸ G.T.gns.keeps I.keep
  obtain ⟨t, hv⟩ := hv
  exact PySem.Calls.Name_function_global hkd hx (PySem.Calls.loadGlobal_global hg hv (k (.str x t) s.heap s.toks hk1 (.refl _ _) ⟨t, rfl⟩ (by nofun))) hd
theorem Op2.iaddI {a b : Int} : Op2 w A (inplaceOp .Add) (.sc (.int a)) (.sc (.int b)) (.sc (.int (a + b))) := fun L s u v Q E _ ⟨t, hu⟩ ⟨t', hv⟩ _ _ hk1 k => by
  subst hu hv
  refine tk hk1 ?_
  exact iadd_int (fun j => k (.int _ _) s.heap _ j (.refl _ _) ⟨_, rfl⟩ (by nofun))
theorem SubOp.listN {xs : List Sc} {i : Int} {a : Sc} {value slice : Expr} (h0 : i < 0) (hi : -(xs.length : Int) ≤ i) (h1 : -2 ^ 63 ≤ i) (hx : xs[(i + xs.length).toNat]? = some a)
    (hs : ∀ (r : Addr) (u : Tok), subscripted slice false (.ref r) (.int i u) = operate [.ref r, .int i u] (getItem (.ref r) (.int i u)) := by intros; with_unfolding_all rfl) :
    SubOp w A value slice (.list xs) (.sc (.int i)) (.sc a) := fun L s u v Q E hns ⟨r, vs, hu, ho, hr⟩ ⟨t', hv⟩ nu _ hk1 k => by
  subst hu hv
  obtain ⟨y, hy, hya⟩ := hr.get hx
  have hL : s.heap.IsList r vs.toArray := ho
  have hl := hr.length
  refine tail_any hL.typeIs slot_list_getitem.lookup (wpAny_getItem_list_neg hL h0 (by simp [hl]; omega) h1 (by simpa [hl] using hy) (k y s.heap s.toks hk1 (.refl _ _) hya (sc_ne hya))) (hs _ _)
theorem Ev.boolC {b : Bool} {k : Nat} {p : Pos} : Ev w g A sc ρ (.Constant (.bool b) k p) (.sc (.bool b)) := .mk fun env s Q E I hk1 q => wpAny_Constant_bool (q (.bool b) s.heap s.toks hk1 (.refl _ _) rfl (by nofun))
theorem Ev.noneC {k : Nat} {p : Pos} : Ev w g A sc ρ (.Constant .none k p) (.sc .none) := .mk fun env s Q E I hk1 q => wpAny_Constant_none (q .none s.heap s.toks hk1 (.refl _ _) rfl (by nofun))
/-- every name of the second list stands so in the first -/
noncomputable def SubR (ρ : List (Str × PV)) : List (Str × PV) → Prop
  | [] => True
  | q :: r => ρ.lookup q.1 = some q.2 ∧ SubR ρ r
theorem SubR.use : ∀ {ρ' : List (Str × PV)}, SubR ρ ρ' → ∀ x pv, ρ'.lookup x = some pv → ρ.lookup x = some pv
  | [], _, x, pv, h => by simp at h
  | (y, p) :: r, s, x, pv, h => by
    by_cases hx : (x == y) = true
    · simp only [List.lookup_cons, hx] at h
      cases h
      rw [eq_of_beq hx]; exact s.1
    · have hx' : (x == y) = false := by simpa using hx
      simp only [List.lookup_cons, hx'] at h
      exact SubR.use s.2 x pv h
theorem Ex.from {body : List Stmt} {out : Out} (h : Ex w g A sc ρ' ow body out) (k : SubR ρ ρ') : Ex w g A sc ρ ow body out := h.weaken k.use
theorem Ex.to {body : List Stmt} {ρ'' : List (Str × PV)} (h : Ex w g A sc ρ ow body (.next ρ' ow')) (k : SubR ρ' ρ'') : Ex w g A sc ρ ow body (.next ρ'' ow') := h.less k.use
end
end Mine
end
section
open PySem PySem.W PyProof.Rows
set_option maxRecDepth 100000
set_option Elab.async false
namespace Mine
noncomputable abbrev sEll : Stmt := nthS 7 pw.main.body
noncomputable abbrev scEll : Scope := scopeOf sEll pw.main.scope
noncomputable def dots : Str := "..."
/-- the text holds m -/
noncomputable def hasIn (page m : Str) : Bool := decide (0 ≤ findIn page m 0 page.length)
section
variable {w : World} {g : Heap} {A : Around} {sc : Scope} {ρ ρ' : List (Str × PV)} {ow ow' : Option (Str × List Sc)} {mg mb : Str → Option Value} {B : Addr → Obj → Prop} {env : Env}

noncomputable def loopBody : Stmt → List Stmt
  | .For _ _ b _ _ => b
  | _ => []
noncomputable abbrev ellLoop : List Stmt := loopBody (nthS 9 (bodyOf sEll))
theorem ell_turn (G : Gd w g mg mb) (got y : Str) (ws : List Str) (a : Int) (hg : got.length ≤ 10000) (hy : y.length ≤ 10000) (ha : 0 ≤ a) (wv : List (Str × PV)) :
    (∀ r, 0 ≤ r → findIn got y a.toNat got.length = r → Ex w g A scEll (("w", .sc (.str y)) :: [("startpos", .sc (.int a)), ("endpos", .sc (.int got.length)), ("got", .sc (.str got)), ("ws", .list (ws.map .str))]) none ellLoop
      (.next [("startpos", .sc (.int (r + y.length))), ("endpos", .sc (.int got.length)), ("got", .sc (.str got)), ("ws", .list (ws.map .str))] none)) ∧
    (findIn got y a.toNat got.length < 0 → Ex w g A scEll (("w", .sc (.str y)) :: [("startpos", .sc (.int a)), ("endpos", .sc (.int got.length)), ("got", .sc (.str got)), ("ws", .list (ws.map .str))]) none ellLoop (.ret (.sc (.bool false)))) := by
  have hmin : (min (got.length : Int).toNat got.length) = got.length := by simp
  constructor
  · intro r hr hf
    apply Ex.to
    · refine Ex.cons (ExS.assign (pv := .sc (.int r)) (Ev.cast (Ev.methS (x := got) (Ev.var rfl) (EvArgs.cons (Ev.var rfl) (EvArgs.cons (Ev.var rfl) (EvArgs.cons (Ev.var rfl) EvArgs.nil))) PySem.F.slot_str_find PySem.F.type_str_find (CallOp.find4 ha (by omega))) (by rw [hmin, hf])) (.inl rfl)) ?_
      refine Ex.cons (ExS.ite (c := false) (Tr.cast (Tr.cmp (Ev.var rfl) Ev.int Op2.ltI) (decide_eq_false (by omega))) (fun h => nomatch h) fun _ => Ex.nil) ?_
      exact Ex.cons (ExS.aug rfl (Ev.callB G rfl (EvArgs.cons (Ev.var rfl) EvArgs.nil) (CallOp.lenS (by omega))) Op2.iaddI (.inl rfl)) Ex.nil
    · exact ⟨rfl, rfl, rfl, rfl, trivial⟩
  · intro hf
    refine Ex.cons (ExS.assign (pv := .sc (.int (findIn got y a.toNat got.length))) (Ev.cast (Ev.methS (x := got) (Ev.var rfl) (EvArgs.cons (Ev.var rfl) (EvArgs.cons (Ev.var rfl) (EvArgs.cons (Ev.var rfl) EvArgs.nil))) PySem.F.slot_str_find PySem.F.type_str_find (CallOp.find4 ha (by omega))) (by rw [hmin])) (.inl rfl)) ?_
    refine Ex.ret (ExS.ite (c := true) (Tr.cast (Tr.cmp (Ev.var rfl) Ev.int Op2.ltI) (decide_eq_true (by omega))) (fun _ => ?_) fun h => nomatch h)
    exact Ex.ret (ExS.ret Ev.boolC)
theorem ell_body (G : Gd w g mg mb) (hell : ∃ t, mg "ELLIPSIS_MARKER" = some (.str dots t)) (hA : A.handled = none) {want got m : Str} (hw : want.length ≤ 10000) (hg : got.length ≤ 10000) (hm : m.length ≤ 10000)
    (hin : (Builtin.Str.occurrences want dots 0 want.length 1).isEmpty = false) (hsp : Txt.split want dots = [⟨#[]⟩, m, ⟨#[]⟩])
    (h0 : findIn got ⟨#[]⟩ 0 got.length = 0) (h1 : ∀ p : Int, 0 ≤ p → findIn got m 0 got.length = p → findIn got ⟨#[]⟩ (p + m.length).toNat got.length = p + m.length) :
    Ex w g A scEll [("want", .sc (.str want)), ("got", .sc (.str got))] none (bodyOf sEll) (.ret (.sc (.bool (hasIn got m)))) := by
  refine Ex.cons (ρ' := [("want", .sc (.str want)), ("got", .sc (.str got))]) (ow' := none) (ExS.ite (c := false) (Tr.cast (Tr.cmp (Ev.globS G hell) (Ev.var rfl) Op2.notInS) (by rw [hin]; rfl)) (fun h => nomatch h) fun _ => Ex.nil) ?_
  refine Ex.cons (ExS.assign (pv := .list ([⟨#[]⟩, m, ⟨#[]⟩].map .str)) (Ev.cast (Ev.methS (Ev.var rfl) (EvArgs.cons (Ev.globS G hell) EvArgs.nil) PySem.F.slot_str_split PySem.F.type_str_split (CallOp.split (by omega) (by rfl))) (by rw [hsp])) (.inl rfl)) ?_
  refine Ex.cons (ExS.assert hA (Tr.cast (Tr.cmp (Ev.callB G rfl (EvArgs.cons (Ev.var rfl) EvArgs.nil) (CallOp.lenL (by simp))) Ev.int Op2.geI) (by rfl))) ?_
  refine Ex.cons (ExS.tupS hA (EvArgs.cons Ev.int (EvArgs.cons (Ev.callB G rfl (EvArgs.cons (Ev.var rfl) EvArgs.nil) (CallOp.lenS (by omega))) EvArgs.nil)) rfl rfl (by intro env he; cases env; cases he; rfl)) ?_
  refine Ex.cons (ExS.assign (Ev.sub (Ev.var rfl) Ev.int (SubOp.listI (by decide) (by decide) rfl (fun _ => rfl))) (.inl rfl)) ?_
  refine Ex.cons (ExS.ite (c := false) (Tr.cast (Tr.str (Ev.var rfl) (by decide)) (by rfl)) (fun h => nomatch h) fun _ => Ex.nil) ?_
  refine Ex.cons (ExS.assign (Ev.sub (Ev.var rfl) (Ev.neg Ev.int) (SubOp.listN (by decide) (by simp) (by decide) rfl)) (.inl rfl)) ?_
  refine Ex.cons (ExS.ite (c := false) (Tr.cast (Tr.str (Ev.var rfl) (by decide)) (by rfl)) (fun h => nomatch h) fun _ => Ex.nil) ?_
  refine Ex.cons (ExS.ite (c := false) (Tr.cast (Tr.cmp (Ev.var rfl) (Ev.var rfl) Op2.gtI) (decide_eq_false (by omega))) (fun h => nomatch h) fun _ => Ex.nil) ?_
  have small : (⟨#[]⟩ : Str).length ≤ 10000 := by decide
  let rl : Int → List (Str × PV) := fun a => [("startpos", .sc (.int a)), ("endpos", .sc (.int got.length)), ("got", .sc (.str got)), ("ws", .list ([⟨#[]⟩, m, ⟨#[]⟩].map .str))]
  refine Ex.from (ρ' := rl 0) ?_ ⟨rfl, rfl, rfl, rfl, trivial⟩
  · obtain ⟨p, hp⟩ : ∃ p, findIn got m 0 got.length = p := ⟨_, rfl⟩
    have t0 := (ell_turn (A := A) (w := w) (g := g) G got ⟨#[]⟩ [⟨#[]⟩, m, ⟨#[]⟩] 0 hg small (by decide) []).1 0 (by decide) h0
    by_cases hpos : 0 ≤ p
    · have hh : hasIn got m = true := decide_eq_true (by rw [hp]; exact hpos)
      rw [hh]
      have t1 := (ell_turn (A := A) (w := w) (g := g) G got m [⟨#[]⟩, m, ⟨#[]⟩] 0 hg hm (by decide) []).1 p hpos hp
      have t2 := (ell_turn (A := A) (w := w) (g := g) G got ⟨#[]⟩ [⟨#[]⟩, m, ⟨#[]⟩] (p + m.length) hg small (by omega) []).1 (p + m.length) (by omega) (h1 p hpos hp)
      refine Ex.cons (ExS.for_ (lst := true) (xs := [⟨#[]⟩, m, ⟨#[]⟩].map .str) (fun i => rl (match i with | 0 => 0 | 1 => 0 | _ => p + m.length)) (fun _ => none) (n := 3) (by simp) (Src.list hA (Ev.var rfl)) (fun _ _ => rfl) (.inl rfl) (fun _ _ => trivial) (fun i hi a ha => ?_) (.full rfl)) ?_
      · match i, hi with
        | 0, _ =>
          cases ha
          exact t0
        | 1, _ =>
          cases ha
          exact Ex.less t1 fun x pv h => by simpa [rl] using h
        | 2, _ =>
          cases ha
          refine Ex.less t2 fun x pv h => ?_
          have e : (p + m.length + ((⟨#[]⟩ : Str).length : Int)) = p + m.length := by show p + m.length + ((0 : Nat) : Int) = _; omega
          rw [e]; exact h
      · exact Ex.ret (ExS.ret Ev.boolC)
    · have hh : hasIn got m = false := decide_eq_false (by rw [hp]; exact hpos)
      rw [hh]
      have t1 := (ell_turn (A := A) (w := w) (g := g) G got m [⟨#[]⟩, m, ⟨#[]⟩] 0 hg hm (by decide) []).2 (by show findIn got m 0 got.length < 0; omega)
      refine Ex.ret (ExS.for_ (lst := true) (xs := [⟨#[]⟩, m, ⟨#[]⟩].map .str) (fun _ => rl 0) (fun _ => none) (n := 1) (by simp) (Src.list hA (Ev.var rfl)) (fun _ _ => rfl) (.inl rfl) (fun _ _ => trivial) (fun i hi a ha => ?_) (.ret rfl t1))
      match i, hi with
      | 0, _ =>
        cases ha
        exact t0
end
end Mine
end
section
open PySem PySem.W PyProof.Rows
set_option maxRecDepth 100000
set_option Elab.async false
namespace Mine

/-- every c is written as z -/
noncomputable def esc1 (c : Nat) (z : List Nat) (l : List Nat) : List Nat := l.flatMap fun d => if d == c then z else [d]
theorem esc1_append (c : Nat) (z a b : List Nat) : esc1 c z (a ++ b) = esc1 c z a ++ esc1 c z b := by simp [esc1]
theorem esc1_free (c : Nat) (z : List Nat) : ∀ l : List Nat, c ∉ l → esc1 c z l = l
  | [], _ => rfl
  | d :: r, h => by
    have hd : d ≠ c := fun e => h (e ▸ List.mem_cons_self)
    have : (d == c) = false := beq_eq_false_iff_ne.mpr hd
    rw [esc1, List.flatMap_cons, this]
    show [d] ++ esc1 c z r = _
    rw [esc1_free c z r fun q => h (List.mem_cons_of_mem _ q)]; rfl
theorem esc1_join (c : Nat) (z : Str) : ∀ parts : List Str, (∀ p ∈ parts, c ∉ p.cps.toList) → esc1 c z.cps.toList (Str.join ⟨#[c]⟩ parts).cps.toList = (Str.join z parts).cps.toList
  | [], _ => rfl
  | [p], h => esc1_free c _ _ (h p (List.mem_singleton.mpr rfl))
  | p :: q :: r, h => by
    have ih := esc1_join c z (q :: r) fun a ha => h a (List.mem_cons_of_mem _ ha)
    show esc1 c z.cps.toList (p ++ ⟨#[c]⟩ ++ Str.join ⟨#[c]⟩ (q :: r)).cps.toList = (p ++ z ++ Str.join z (q :: r)).cps.toList
    simp only [Str.cps_append, Array.toList_append]
    rw [esc1_append, esc1_append, ih, esc1_free c _ _ (h p List.mem_cons_self)]
    have : esc1 c z.cps.toList [c] = z.cps.toList := by simp [esc1]
    rw [this]
theorem replace_esc (x z : Str) (c : Nat) : (Txt.replace x ⟨#[c]⟩ z).cps.toList = esc1 c z.cps.toList x.cps.toList := by
  rw [StrLaws.replace_one, ← esc1_join c z _ (StrLaws.split_free x c), StrLaws.join_split]
noncomputable def escT (c : Nat) (z x : Str) : Str := ⟨(esc1 c z.cps.toList x.cps.toList).toArray⟩
theorem replace_escT (x z : Str) (c : Nat) : Txt.replace x ⟨#[c]⟩ z = escT c z x := Str.ext' (by rw [escT, ← replace_esc])
theorem escT_free {x z : Str} {c : Nat} (h : c ∉ x.cps.toList) : escT c z x = x := Str.ext' (by rw [escT, esc1_free c _ _ h])
theorem esc1_len (c : Nat) (z : List Nat) {k : Nat} (hk : 1 ≤ k) (hz : z.length ≤ k) : ∀ l : List Nat, (esc1 c z l).length ≤ k * l.length
  | [] => by simp [esc1]
  | d :: r => by
    have ih := esc1_len c z hk hz r
    rw [esc1, List.flatMap_cons, List.length_append, List.length_cons, Nat.mul_succ]
    show _ + (esc1 c z r).length ≤ _
    have : (if d == c then z else [d]).length ≤ k := by split <;> simp_all
    omega
theorem escT_len {c : Nat} {z x : Str} (hz : z.length ≤ 6) : (escT c z x).length ≤ 6 * x.length := by
  have := esc1_len c z.cps.toList (k := 6) (by decide) (by simpa [Str.length] using hz) x.cps.toList
  simpa [escT, Str.length] using this

section
variable {w : World} {g : Heap} {A : Around} {sc : Scope} {ρ ρ' : List (Str × PV)} {ow ow' : Option (Str × List Sc)} {mg mb : Str → Option Value} {B : Addr → Obj → Prop} {env : Env}
theorem noneBooked_keep {h h' : Heap} (x : NoneBooked h) (k : ∀ b o, h.get? b = some o → h'.get? b = some o) : NoneBooked h' := by
  obtain ⟨mc, h1, h2⟩ := x
  exact ⟨mc, h1.keeps k, h2⟩
theorem Ev.replaceC {o : Expr} {x y z : Str} {k1 k2 : Nat} {p1 p2 apos pos : Pos} (G : Gd w g mg mb) (ho : Ev w g A sc ρ o (.sc (.str x))) (hb : x.length + (x.length + 1) * z.length ≤ 16777216)
    (hbase : ∀ env, attributeBase o "replace" env (eval o env) = eval o env := by intros; rfl) (hline : (apos.endLine == pos.line) = true := by rfl) :
    Ev w g A sc ρ (.Call (.Attribute o "replace" apos) [.Constant (.str y) k1 p1, .Constant (.str z) k2 p2] [] pos) (.sc (.str (Txt.replace x y z))) := .mk fun env s Q E I hk1 k => by
  refine wpAny_Call_method_lateS (hbase env) (by rfl) hline (ho.run env s _ E I hk1 fun v h₁ t₁ j₁ G₁ R₁ n₁ => ?_)
  obtain ⟨t, rfl⟩ := R₁
  refine ⟨"str", "str.replace", F.plainAttrs_str, PySem.F.slot_str_replace, PySem.F.type_str_replace, typeIs_str _ _ _, (fun _ e => nomatch e), ?_⟩
  refine PySem.Calls.callWith_builtin (first := [.str x t]) rfl (PySem.Calls.evalArgs_plain ?_)
  show wpAny _ _ (spliced [(false, eval (.Constant (.str y) k1 p1) env), (false, eval (.Constant (.str z) k2 p2) env)]) _ _ _
  refine PySem.Calls.spliced_cons (PySem.Calls.Constant_str (PySem.Calls.spliced_cons (PySem.Calls.Constant_str (PySem.Calls.spliced_nil ?_))))
  have nb : NoneBooked h₁ := noneBooked_keep G.T.book (I.grow G₁).keep
  refine tk (s := { s with heap := h₁, toks := t₁ + 1 + 1 }) (by show 1 ≤ t₁ + 1 + 1; omega) ?_
  exact SC.replaceA (s := { s with heap := h₁, toks := t₁ + 1 + 1 }) (by show t₁ ≠ 0; omega) (by show t₁ + 1 ≠ 0; omega) (by show t₁ ≠ t₁ + 1; omega) hb (fun t' k' j => k (.str _ _) h₁ k' j G₁ ⟨_, rfl⟩ (by nofun)) nb
theorem ExS.esc {x z : Str} {c k1 k2 k3 : Nat} {p p1 p2 p3 p4 p5 p6 p7 p8 p9 p10 : Pos} (G : Gd w g mg mb) (hx : x.length ≤ 800000) (hz : z.length ≤ 6) (hs : sc.names.lookup ("text" : Str) = some .local)
    (hline : (p5.endLine == p8.line) = true := by rfl) :
    ExS w g A sc [("text", .sc (.str x))] none (.If (.Compare (.Constant (.str ⟨#[c]⟩) k1 p) [.In] [.Name "text" p1] p2) [.Assign [.Name "text" p3] (.Call (.Attribute (.Name "text" p4) "replace" p5) [.Constant (.str ⟨#[c]⟩) k2 p6, .Constant (.str z) k3 p7] [] p8) p9] [] p10)
      (.next [("text", .sc (.str (escT c z x)))] none) := by
  have hm : (x.length + 1) * z.length ≤ (x.length + 1) * 6 := Nat.mul_le_mul_left _ hz
  refine ExS.ite (Tr.cmp Ev.str (Ev.var rfl) Op2.inS (by rfl)) (fun h => ?_) fun h => ?_
  · apply Ex.to
    · exact Ex.cons (ExS.assign (Ev.cast (Ev.replaceC G (Ev.var rfl) (by omega) (hline := hline)) (by rw [replace_escT])) (.inl hs)) Ex.nil
    · exact ⟨rfl, trivial⟩
  · rw [StrLaws.found_one, decide_eq_false_iff_not] at h
    rw [escT_free h]
    exact Ex.nil
end
end Mine
end
section
open PySem PySem.W PyProof.Rows
set_option maxRecDepth 100000
set_option Elab.async false
namespace Mine
section
variable {w : World} {g : Heap} {A : Around} {mg mb : Str → Option Value}
noncomputable abbrev sEsc0 : Stmt := nthS 10 pw.main.body
noncomputable def escK0 (x : Str) : Str := escT 62 "&gt;" (escT 60 "&lt;" (escT 38 "&amp;" x))
theorem escK0_body (G : Gd w g mg mb) {x : Str} (hx : x.length ≤ 16) :
    Ex w g A (scopeOf sEsc0 pw.main.scope) [("text", .sc (.str x))] none (bodyOf sEsc0) (.ret (.sc (.str (escK0 x)))) := by
  have h0 : (escT 38 "&amp;" x).length ≤ 96 := Nat.le_trans (escT_len (by decide)) (by omega)
  have h1 : (escT 60 "&lt;" (escT 38 "&amp;" x)).length ≤ 576 := Nat.le_trans (escT_len (by decide)) (by omega)
  have h2 : (escT 62 "&gt;" (escT 60 "&lt;" (escT 38 "&amp;" x))).length ≤ 3456 := Nat.le_trans (escT_len (by decide)) (by omega)
  refine Ex.ret (ExS.tryRet ?_)
  refine Ex.cons (ExS.esc (c := 38) (z := "&amp;") G (by omega) (by decide) rfl) ?_
  refine Ex.cons (ExS.esc (c := 60) (z := "&lt;") G (by omega) (by decide) rfl) ?_
  refine Ex.cons (ExS.esc (c := 62) (z := "&gt;") G (by omega) (by decide) rfl) ?_
  exact Ex.ret (ExS.ret (Ev.var rfl))
noncomputable abbrev sEsc1 : Stmt := nthS 11 pw.main.body
noncomputable def escK1 (x : Str) : Str := escT 9 "&#09;" (escT 10 "&#10;" (escT 13 "&#13;" (escT 34 "&quot;" (escT 62 "&gt;" (escT 60 "&lt;" (escT 38 "&amp;" x))))))
theorem escK1_body (G : Gd w g mg mb) {x : Str} (hx : x.length ≤ 16) :
    Ex w g A (scopeOf sEsc1 pw.main.scope) [("text", .sc (.str x))] none (bodyOf sEsc1) (.ret (.sc (.str (escK1 x)))) := by
  have h0 : (escT 38 "&amp;" x).length ≤ 96 := Nat.le_trans (escT_len (by decide)) (by omega)
  have h1 : (escT 60 "&lt;" (escT 38 "&amp;" x)).length ≤ 576 := Nat.le_trans (escT_len (by decide)) (by omega)
  have h2 : (escT 62 "&gt;" (escT 60 "&lt;" (escT 38 "&amp;" x))).length ≤ 3456 := Nat.le_trans (escT_len (by decide)) (by omega)
  have h3 : (escT 34 "&quot;" (escT 62 "&gt;" (escT 60 "&lt;" (escT 38 "&amp;" x)))).length ≤ 20736 := Nat.le_trans (escT_len (by decide)) (by omega)
  have h4 : (escT 13 "&#13;" (escT 34 "&quot;" (escT 62 "&gt;" (escT 60 "&lt;" (escT 38 "&amp;" x))))).length ≤ 124416 := Nat.le_trans (escT_len (by decide)) (by omega)
  have h5 : (escT 10 "&#10;" (escT 13 "&#13;" (escT 34 "&quot;" (escT 62 "&gt;" (escT 60 "&lt;" (escT 38 "&amp;" x)))))).length ≤ 746496 := Nat.le_trans (escT_len (by decide)) (by omega)
  have h6 : (escT 9 "&#09;" (escT 10 "&#10;" (escT 13 "&#13;" (escT 34 "&quot;" (escT 62 "&gt;" (escT 60 "&lt;" (escT 38 "&amp;" x))))))).length ≤ 4478976 := Nat.le_trans (escT_len (by decide)) (by omega)
  refine Ex.ret (ExS.tryRet ?_)
  refine Ex.cons (ExS.esc (c := 38) (z := "&amp;") G (by omega) (by decide) rfl) ?_
  refine Ex.cons (ExS.esc (c := 60) (z := "&lt;") G (by omega) (by decide) rfl) ?_
  refine Ex.cons (ExS.esc (c := 62) (z := "&gt;") G (by omega) (by decide) rfl) ?_
  refine Ex.cons (ExS.esc (c := 34) (z := "&quot;") G (by omega) (by decide) rfl) ?_
  refine Ex.cons (ExS.esc (c := 13) (z := "&#13;") G (by omega) (by decide) rfl) ?_
  refine Ex.cons (ExS.esc (c := 10) (z := "&#10;") G (by omega) (by decide) rfl) ?_
  refine Ex.cons (ExS.esc (c := 9) (z := "&#09;") G (by omega) (by decide) rfl) ?_
  exact Ex.ret (ExS.ret (Ev.var rfl))
noncomputable abbrev sEsc2 : Stmt := nthS 12 pw.main.body
noncomputable def escK2 (x : Str) : Str := escT 34 "&quot;" (escT 62 "&gt;" (escT 38 "&amp;" x))
theorem escK2_body (G : Gd w g mg mb) {x : Str} (hx : x.length ≤ 16) :
    Ex w g A (scopeOf sEsc2 pw.main.scope) [("text", .sc (.str x))] none (bodyOf sEsc2) (.ret (.sc (.str (escK2 x)))) := by
  have h0 : (escT 38 "&amp;" x).length ≤ 96 := Nat.le_trans (escT_len (by decide)) (by omega)
  have h1 : (escT 62 "&gt;" (escT 38 "&amp;" x)).length ≤ 576 := Nat.le_trans (escT_len (by decide)) (by omega)
  have h2 : (escT 34 "&quot;" (escT 62 "&gt;" (escT 38 "&amp;" x))).length ≤ 3456 := Nat.le_trans (escT_len (by decide)) (by omega)
  refine Ex.ret (ExS.tryRet ?_)
  refine Ex.cons (ExS.esc (c := 38) (z := "&amp;") G (by omega) (by decide) rfl) ?_
  refine Ex.cons (ExS.esc (c := 62) (z := "&gt;") G (by omega) (by decide) rfl) ?_
  refine Ex.cons (ExS.esc (c := 34) (z := "&quot;") G (by omega) (by decide) rfl) ?_
  exact Ex.ret (ExS.ret (Ev.var rfl))
noncomputable abbrev sEsc3 : Stmt := nthS 13 pw.main.body
noncomputable def escK3 (x : Str) : Str := escT 13 "&#xD;" (escT 62 "&gt;" (escT 60 "&lt;" (escT 38 "&amp;" x)))
theorem escK3_body (G : Gd w g mg mb) {x : Str} (hx : x.length ≤ 16) :
    Ex w g A (scopeOf sEsc3 pw.main.scope) [("text", .sc (.str x))] none (bodyOf sEsc3) (.ret (.sc (.str (escK3 x)))) := by
  have h0 : (escT 38 "&amp;" x).length ≤ 96 := Nat.le_trans (escT_len (by decide)) (by omega)
  have h1 : (escT 60 "&lt;" (escT 38 "&amp;" x)).length ≤ 576 := Nat.le_trans (escT_len (by decide)) (by omega)
  have h2 : (escT 62 "&gt;" (escT 60 "&lt;" (escT 38 "&amp;" x))).length ≤ 3456 := Nat.le_trans (escT_len (by decide)) (by omega)
  have h3 : (escT 13 "&#xD;" (escT 62 "&gt;" (escT 60 "&lt;" (escT 38 "&amp;" x)))).length ≤ 20736 := Nat.le_trans (escT_len (by decide)) (by omega)
  refine Ex.ret (ExS.tryRet ?_)
  refine Ex.cons (ExS.esc (c := 38) (z := "&amp;") G (by omega) (by decide) rfl) ?_
  refine Ex.cons (ExS.esc (c := 60) (z := "&lt;") G (by omega) (by decide) rfl) ?_
  refine Ex.cons (ExS.esc (c := 62) (z := "&gt;") G (by omega) (by decide) rfl) ?_
  refine Ex.cons (ExS.esc (c := 13) (z := "&#xD;") G (by omega) (by decide) rfl) ?_
  exact Ex.ret (ExS.ret (Ev.var rfl))
noncomputable abbrev sEsc4 : Stmt := nthS 14 pw.main.body
noncomputable def escK4 (x : Str) : Str := escT 13 "&#xD;" (escT 10 "&#xA;" (escT 9 "&#x9;" (escT 34 "&quot;" (escT 60 "&lt;" (escT 38 "&amp;" x)))))
theorem escK4_body (G : Gd w g mg mb) {x : Str} (hx : x.length ≤ 16) :
    Ex w g A (scopeOf sEsc4 pw.main.scope) [("text", .sc (.str x))] none (bodyOf sEsc4) (.ret (.sc (.str (escK4 x)))) := by
  have h0 : (escT 38 "&amp;" x).length ≤ 96 := Nat.le_trans (escT_len (by decide)) (by omega)
  have h1 : (escT 60 "&lt;" (escT 38 "&amp;" x)).length ≤ 576 := Nat.le_trans (escT_len (by decide)) (by omega)
  have h2 : (escT 34 "&quot;" (escT 60 "&lt;" (escT 38 "&amp;" x))).length ≤ 3456 := Nat.le_trans (escT_len (by decide)) (by omega)
  have h3 : (escT 9 "&#x9;" (escT 34 "&quot;" (escT 60 "&lt;" (escT 38 "&amp;" x)))).length ≤ 20736 := Nat.le_trans (escT_len (by decide)) (by omega)
  have h4 : (escT 10 "&#xA;" (escT 9 "&#x9;" (escT 34 "&quot;" (escT 60 "&lt;" (escT 38 "&amp;" x))))).length ≤ 124416 := Nat.le_trans (escT_len (by decide)) (by omega)
  have h5 : (escT 13 "&#xD;" (escT 10 "&#xA;" (escT 9 "&#x9;" (escT 34 "&quot;" (escT 60 "&lt;" (escT 38 "&amp;" x)))))).length ≤ 746496 := Nat.le_trans (escT_len (by decide)) (by omega)
  refine Ex.ret (ExS.tryRet ?_)
  refine Ex.cons (ExS.esc (c := 38) (z := "&amp;") G (by omega) (by decide) rfl) ?_
  refine Ex.cons (ExS.esc (c := 60) (z := "&lt;") G (by omega) (by decide) rfl) ?_
  refine Ex.cons (ExS.esc (c := 34) (z := "&quot;") G (by omega) (by decide) rfl) ?_
  refine Ex.cons (ExS.esc (c := 9) (z := "&#x9;") G (by omega) (by decide) rfl) ?_
  refine Ex.cons (ExS.esc (c := 10) (z := "&#xA;") G (by omega) (by decide) rfl) ?_
  refine Ex.cons (ExS.esc (c := 13) (z := "&#xD;") G (by omega) (by decide) rfl) ?_
  exact Ex.ret (ExS.ret (Ev.var rfl))
end
end Mine
end
section
open PySem PySem.W PyProof.Rows
set_option maxRecDepth 100000
set_option Elab.async false
set_option maxHeartbeats 1000000
namespace Mine
/-- a list's slice, as the machine picks it -/
noncomputable def pick {α : Type} (xs : List α) (lo hi : Int) : List α := (sliceRange (sliceBounds (some lo) (some hi) none xs.length).1 (sliceBounds (some lo) (some hi) none xs.length).2.1 (sliceBounds (some lo) (some hi) none xs.length).2.2).filterMap (xs[·]?)
theorem scPick_map {α : Type} (ι : α → Sc) (xs : List α) (lo hi : Int) : scPick (xs.map ι) (some lo) (some hi) none = (pick xs lo hi).map ι := by
  unfold scPick pick
  rw [List.length_map, List.map_filterMap]
  congr 1
  funext i
  rw [List.getElem?_map]
noncomputable def pieceOf (parts : List Str) (start size : Nat) : Str := Txt.join ⟨#[]⟩ (pick parts start (start + size))
noncomputable def goal3 (parts : List Str) (start size : Nat) : Str := pieceOf parts start size ++ pieceOf parts start size ++ Txt.item (pieceOf parts start size) 0
noncomputable def hit (page : Str) (parts : List Str) (size start : Nat) : Bool := hasIn page (goal3 parts start size)
noncomputable def sizeHit (page : Str) (parts : List Str) (size : Nat) : Bool := (List.range (parts.length - 2 * size)).any fun start => hit page parts size start
noncomputable def asked (page : Str) (parts : List Str) : List Int := ((List.range (parts.length / 2)).filter fun i => sizeHit page parts (i + 1)).map fun (i : Nat) => ((i + 1 : Nat) : Int)
noncomputable abbrev sAsked : Stmt := nthS 20 pw.main.body
noncomputable abbrev scAsked : Scope := scopeOf sAsked pw.main.scope
noncomputable def PEll (ps : List PV) (c : PV) : Prop := ∃ got m : Str, ps = [.sc (.str (dots ++ m ++ dots)), .sc (.str got)] ∧ m.length ≤ 1000 ∧ got.length ≤ 10000 ∧ 46 ∉ m.cps.toList ∧ c = .sc (.bool (hasIn got m))
/-- what the pieces of a list of texts must be -/
structure PartsOk (parts : List Str) : Prop where
  len : parts.length ≤ 100
  join : ∀ start size, JoinOk ⟨#[]⟩ (pick parts start (start + size)) = true
  piece : ∀ start size : Nat, 1 ≤ size → start + size ≤ parts.length → 1 ≤ (pieceOf parts start size).length ∧ (pieceOf parts start size).length ≤ 400 ∧ 46 ∉ (goal3 parts start size).cps.toList
section
variable {w : World} {g : Heap} {A : Around} {sc : Scope} {ρ ρ' : List (Str × PV)} {ow ow' : Option (Str × List Sc)} {mg mb : Str → Option Value} {B : Addr → Obj → Prop} {env : Env}
theorem Src.rng {iter : Expr} {a b : Int} (hA : A.handled = none) (h : Ev w g A sc ρ iter (.range a b 1)) (h1 : -1000000 ≤ a) (h2 : a ≤ 1000000) (h3 : -1000000 ≤ b) (h4 : b ≤ 1000000) :
    Src false w g A sc ρ iter ((List.range (b - a).toNat).map fun (i : Nat) => .int (a + i)) :=
  Src.range hA h (small_one (by omega) (by omega) (by omega) (by omega)) (rangeSize_nat a b)
theorem Ex.toBrk {body : List Stmt} {ρ'' : List (Str × PV)} (h : Ex w g A sc ρ ow body (.brk ρ' ow')) (k : SubR ρ' ρ'') : Ex w g A sc ρ ow body (.brk ρ'' ow') := .mk fun B env s Q E O hk q =>
  h.run B env s Q E O hk fun h' t' j O' => q h' t' j (O'.weaken k.use)
theorem item_len (x : Str) (i : Int) : (Txt.item x i).length = 1 := rfl

noncomputable def testOf : Stmt → Expr
  | .If t _ _ _ => t
  | _ => .Constant .none 0 default
noncomputable abbrev askedOuter : List Stmt := loopBody (nthS 1 (bodyOf sAsked))
noncomputable abbrev askedInner : List Stmt := loopBody (nthS 0 askedOuter)
theorem asked_test (G : Gd w g mg mb) {d : Nat} (F : Fn w g mg "_ellipsis_match" d PEll) (hA : A.handled = none) (hd : A.depth + d < recursionLimit) {page : Str} {parts : List Str} (hp : page.length ≤ 10000) (hP : PartsOk parts) {size start : Nat} (h1 : 1 ≤ size) (h2 : start + 2 * size < parts.length) (acc : List Sc) (hacc : acc.length ≤ 1000) :
    (hit page parts size start = true → Ex w g A scAsked (("start", .sc (.int start)) :: [("size", .sc (.int size)), ("page", .sc (.str page)), ("parts", .list (parts.map .str))]) (some ("found", acc)) askedInner
      (.brk [("page", .sc (.str page)), ("parts", .list (parts.map .str))] (some ("found", acc ++ [.int size])))) ∧
    (hit page parts size start = false → Ex w g A scAsked (("start", .sc (.int start)) :: [("size", .sc (.int size)), ("page", .sc (.str page)), ("parts", .list (parts.map .str))]) (some ("found", acc)) askedInner
      (.next [("size", .sc (.int size)), ("page", .sc (.str page)), ("parts", .list (parts.map .str))] (some ("found", acc)))) := by
  have hlen := hP.len
  obtain ⟨q1, q2, q3⟩ := hP.piece start size h1 (by omega)
  have hg3 : (goal3 parts start size).length ≤ 1000 := by
    unfold goal3
    rw [Str.length_append, Str.length_append, item_len]; omega
  have hpiece : ExS w g A scAsked (("start", .sc (.int start)) :: [("size", .sc (.int size)), ("page", .sc (.str page)), ("parts", .list (parts.map .str))]) (some ("found", acc)) (nthS 0 askedInner)
      (.next (("piece", .sc (.str (pieceOf parts start size))) :: ("start", .sc (.int start)) :: [("size", .sc (.int size)), ("page", .sc (.str page)), ("parts", .list (parts.map .str))]) (some ("found", acc))) := by
    refine ExS.assign (Ev.methS (x := ⟨#[]⟩) (Ev.str (x := ⟨#[]⟩)) (EvArgs.cons (Ev.cast (Ev.slice (l := some (start : Int)) (h := some ((start : Int) + size)) (t := none) (Ev.var rfl) (Ev.var rfl) (Ev.bin (Ev.var rfl) (Ev.var rfl) Op2.addI) trivial (SlOp.list (by simp; omega) (by nofun))) ?_) EvArgs.nil) PySem.F.slot_str_join PySem.F.type_str_join (CallOp.join (hP.join start size))) (.inl rfl) ⟨by decide, _, rfl⟩
    rw [scPick_map]
  have htest : ∀ {b : Bool}, hit page parts size start = b → Tr w g A scAsked (("piece", .sc (.str (pieceOf parts start size))) :: ("start", .sc (.int start)) :: [("size", .sc (.int size)), ("page", .sc (.str page)), ("parts", .list (parts.map .str))])
      (testOf (nthS 1 askedInner)) b := by
    intro b hb
    refine Tr.bool (Ev.cast (Ev.callF (c := .sc (.bool (hit page parts size start))) G F hA hd (EvArgs.cons (Ev.cast (Ev.bin (Ev.bin (Ev.bin (Ev.bin Ev.str (Ev.var rfl) (Op2.addS ?_)) (Ev.var rfl) (Op2.addS ?_)) (Ev.sub (Ev.var rfl) Ev.int (SubOp.strI (by omega) (by omega) (by omega))) (Op2.addS ?_)) Ev.str (Op2.addS ?_)) ?_) (EvArgs.cons (Ev.var rfl) EvArgs.nil)) ⟨page, goal3 parts start size, rfl, hg3, hp, q3, rfl⟩) (by rw [hb]))
    · show (3 : Nat) + _ ≤ _; rw [sizeLine_eq]; omega
    · rw [Str.length_append, sizeLine_eq]; show 3 + _ + _ ≤ _; omega
    · rw [Str.length_append, Str.length_append, sizeLine_eq, item_len]; show 3 + _ + _ + _ ≤ _; omega
    · rw [Str.length_append, Str.length_append, Str.length_append, sizeLine_eq, item_len]; show 3 + _ + _ + _ + 3 ≤ _; omega
    · simp only [goal3, dots, Str.append_assoc]
  refine ⟨fun hb => ?_, fun hb => ?_⟩
  · refine Ex.cons hpiece ?_
    refine Ex.brk (ExS.ite (c := true) (htest hb) (fun _ => ?_) fun h => nomatch h)
    apply Ex.toBrk
    · refine Ex.cons (ExS.append (Ev.var rfl) (by omega)) (Ex.brk ExS.brk)
    · exact ⟨rfl, rfl, trivial⟩
  · apply Ex.to
    · exact Ex.cons hpiece (Ex.cons (ExS.ite (c := false) (htest hb) (fun h => nomatch h) fun _ => Ex.nil) Ex.nil)
    · exact ⟨rfl, rfl, rfl, trivial⟩
theorem any_false_of {p : Nat → Bool} {n : Nat} (h : (List.range n).any p = false) : ∀ i < n, p i = false := by
  intro i hi
  cases e : p i with
  | false => rfl
  | true => rw [List.any_eq_true.mpr ⟨i, List.mem_range.mpr hi, e⟩] at h; cases h
theorem first_of {p : Nat → Bool} {n : Nat} (h : (List.range n).any p = true) : ∃ k, k < n ∧ p k = true ∧ ∀ i < k, p i = false := by
  induction n with
  | zero => simp at h
  | succ n ih =>
    cases e : (List.range n).any p with
    | true =>
      obtain ⟨k, h1, h2, h3⟩ := ih e
      exact ⟨k, Nat.lt_succ_of_lt h1, h2, h3⟩
    | false =>
      rw [List.range_succ, List.any_append, e] at h
      refine ⟨n, Nat.lt_succ_self n, by simpa using h, any_false_of e⟩
theorem Src.castX {lst : Bool} {iter : Expr} {xs ys : List Sc} (h : Src lst w g A sc ρ iter xs) (e : xs = ys) : Src lst w g A sc ρ iter ys := e ▸ h
theorem mulOk {a b : Int} (h : a.natAbs < 2 ^ 62 := by decide) : IntMulOk a b := by
  refine .of_left ?_
  unfold Builtin.Int.intBits
  by_cases h0 : a.natAbs = 0
  · simp [Int.natAbs_eq_zero.mp h0]
  · have := (Nat.log2_lt h0).2 h
    first | omega | (split <;> omega)
theorem asked_inner (G : Gd w g mg mb) {d : Nat} (F : Fn w g mg "_ellipsis_match" d PEll) (hA : A.handled = none) (hd : A.depth + d < recursionLimit) {page : Str} {parts : List Str} (hp : page.length ≤ 10000) (hP : PartsOk parts) {size : Nat} (h1 : 1 ≤ size) (hs : size ≤ 100) (acc : List Sc) (hacc : acc.length ≤ 1000) :
    Ex w g A scAsked (("size", .sc (.int size)) :: [("page", .sc (.str page)), ("parts", .list (parts.map .str))]) (some ("found", acc)) askedOuter
      (.next [("page", .sc (.str page)), ("parts", .list (parts.map .str))] (some ("found", if sizeHit page parts size then acc ++ [.int size] else acc))) := by
  have hlen := hP.len
  have e : ((List.range (((parts.map Sc.str).length : Int) - 2 * size - 0).toNat).map fun (i : Nat) => Sc.int (0 + i)) = (List.range (parts.length - 2 * size)).map fun (i : Nat) => Sc.int i := by
    rw [show ((((parts.map Sc.str).length : Int) - 2 * size - 0).toNat) = parts.length - 2 * size from by rw [List.length_map]; omega]
    refine List.map_congr_left fun i _ => ?_
    rw [Int.zero_add]
  have hx : ∀ {i : Nat} {a : Sc}, ((List.range (parts.length - 2 * size)).map fun (i : Nat) => Sc.int i)[i]? = some a → i < parts.length - 2 * size ∧ a = .int i := by
    intro i a h
    rw [List.getElem?_map] at h
    obtain ⟨j, hj, rfl⟩ := Option.map_eq_some_iff.mp h
    obtain ⟨hlt, hj⟩ := List.getElem?_eq_some_iff.mp hj
    simp at hlt hj
    subst hj
    exact ⟨hlt, rfl⟩
  cases hh : sizeHit page parts size with
  | false =>
    apply Ex.to
    · refine Ex.cons (ExS.for_ (fun _ => [("size", .sc (.int size)), ("page", .sc (.str page)), ("parts", .list (parts.map .str))]) (fun _ => some ("found", acc)) (n := parts.length - 2 * size) (by simp)
        (Src.castX (Src.rng hA (Ev.callB G rfl (EvArgs.cons (Ev.bin (Ev.callB G rfl (EvArgs.cons (Ev.var rfl) EvArgs.nil) (CallOp.lenL (by simp; omega))) (Ev.bin Ev.int (Ev.var rfl) (Op2.mulI mulOk)) Op2.subI) EvArgs.nil) CallOp.range1) (by omega) (by omega) (by simp; omega) (by simp; omega)) e)
        (fun q => nomatch q) (.inl rfl) (fun _ _ => ⟨by decide, _, rfl⟩) (fun i hi a ha => ?_) (.full (by simp))) Ex.nil
      obtain ⟨_, rfl⟩ := hx ha
      exact (asked_test G F hA hd hp hP h1 (by omega) acc hacc).2 (any_false_of hh i hi)
    · exact ⟨rfl, rfl, trivial⟩
  | true =>
    obtain ⟨k, hk, hk1, hk2⟩ := first_of hh
    refine Ex.cons (ExS.for_ (fun _ => [("size", .sc (.int size)), ("page", .sc (.str page)), ("parts", .list (parts.map .str))]) (fun _ => some ("found", acc)) (n := k) (by simp; omega)
        (Src.castX (Src.rng hA (Ev.callB G rfl (EvArgs.cons (Ev.bin (Ev.callB G rfl (EvArgs.cons (Ev.var rfl) EvArgs.nil) (CallOp.lenL (by simp; omega))) (Ev.bin Ev.int (Ev.var rfl) (Op2.mulI mulOk)) Op2.subI) EvArgs.nil) CallOp.range1) (by omega) (by omega) (by simp; omega) (by simp; omega)) e)
        (fun q => nomatch q) (.inl rfl) (fun _ _ => ⟨by decide, _, rfl⟩) (fun i hi a ha => ?_) (.brk (a := .int k) (by simp [hk]) ((asked_test G F hA hd hp hP h1 (by omega) acc hacc).1 hk1))) Ex.nil
    obtain ⟨_, rfl⟩ := hx ha
    exact (asked_test G F hA hd hp hP h1 (by omega) acc hacc).2 (hk2 i hi)
theorem asked_body (G : Gd w g mg mb) {d : Nat} (F : Fn w g mg "_ellipsis_match" d PEll) (hA : A.handled = none) (hd : A.depth + d < recursionLimit) {page : Str} {parts : List Str} (hp : page.length ≤ 10000) (hP : PartsOk parts) :
    Ex w g A scAsked [("page", .sc (.str page)), ("parts", .list (parts.map .str))] none (bodyOf sAsked) (.ret (.list ((asked page parts).map .int))) := by
  have hlen := hP.len
  have hdiv : Int.fdiv (((parts.map Sc.str).length : Int)) 2 = ((parts.length / 2 : Nat) : Int) := by rw [List.length_map]; exact (Int.ofNat_fdiv parts.length 2).symm
  have e : ((List.range (Int.fdiv (((parts.map Sc.str).length : Int)) 2 + 1 - 1).toNat).map fun (i : Nat) => Sc.int (1 + i)) = (List.range (parts.length / 2)).map fun (i : Nat) => Sc.int ((i + 1 : Nat) : Int) := by
    rw [hdiv, show ((((parts.length / 2 : Nat) : Int) + 1 - 1).toNat) = parts.length / 2 from by omega]
    refine List.map_congr_left fun i _ => ?_
    rw [show (1 + (i : Int)) = ((i + 1 : Nat) : Int) from by omega]
  let acc : Nat → List Sc := fun n => ((List.range n).filter fun i => sizeHit page parts (i + 1)).map fun (i : Nat) => Sc.int ((i + 1 : Nat) : Int)
  have hacc : ∀ i, (acc i).length ≤ i := fun i => by
    show (((List.range i).filter fun i => sizeHit page parts (i + 1)).map _).length ≤ i
    rw [List.length_map]
    exact Nat.le_trans (List.length_filter_le _ _) (by simp)
  refine Ex.cons (ExS.own rfl rfl) ?_
  refine Ex.cons (ExS.for_ (fun _ => [("page", .sc (.str page)), ("parts", .list (parts.map .str))]) (fun i => some ("found", acc i)) (n := parts.length / 2) (by simp)
    (Src.castX (Src.rng hA (Ev.callB G rfl (EvArgs.cons Ev.int (EvArgs.cons (Ev.bin (Ev.bin (Ev.callB G rfl (EvArgs.cons (Ev.var rfl) EvArgs.nil) (CallOp.lenL (by simp; omega))) Ev.int (Op2.divI (by decide) ?_)) Ev.int Op2.addI) EvArgs.nil)) CallOp.range2) (by omega) (by omega) (by rw [hdiv]; omega) (by rw [hdiv]; omega)) e)
    (fun q => nomatch q) (.inl rfl) (fun _ _ => ⟨by decide, _, rfl⟩) (fun i hi a ha => ?_) (.full (by simp))) ?_
  · exact PyProof.noPylong_small (by decide)
  · have ha' : a = .int ((i + 1 : Nat) : Int) := by
      rw [List.getElem?_map, List.getElem?_range hi] at ha
      cases ha; rfl
    subst ha'
    have := asked_inner (A := A) G F hA hd hp hP (size := i + 1) (by omega) (by omega) (acc i) (Nat.le_trans (hacc i) (by omega))
    have e2 : acc (i + 1) = (if sizeHit page parts (i + 1) then acc i ++ [.int ((i + 1 : Nat) : Int)] else acc i) := by
      show ((List.range (i + 1)).filter _).map _ = _
      rw [List.range_succ, List.filter_append, List.map_append]
      cases hh : sizeHit page parts (i + 1)
      · simp [hh, acc]
      · simp [hh, acc]
    rw [e2]
    exact this
  · refine Ex.disown ?_
    refine Ex.ret (ExS.ret (Ev.cast (Ev.var rfl) ?_))
    show PV.list (acc (parts.length / 2)) = _
    unfold asked
    rw [List.map_map]; rfl
end
end Mine
end
section
open PySem PySem.W PyProof.Rows
set_option maxRecDepth 100000
set_option Elab.async false
set_option maxHeartbeats 1000000
namespace Mine
noncomputable def hasStr (x y : Str) : Bool := !(Builtin.Str.occurrences x y 0 x.length 1).isEmpty
noncomputable def cut (x : Str) (i j : Int) : Str := Txt.slice x (some i) (some j)
noncomputable def overAt (word : Str) (n : Int) : Bool := !((List.range ((word.length : Int) - 2 * n).toNat).filter fun (k : Nat) => cut word k (k + n + 1) == cut word (k + n) (k + 2 * n + 1)).isEmpty
noncomputable def squareAt (word : Str) (n : Int) : Bool := !((List.range ((word.length : Int) - 2 * n).toNat).filter fun (k : Nat) => cut word k (k + n) == cut word (k + n) (k + 2 * n)).isEmpty
noncomputable def sizesOf (word : Str) : List Int := (List.range (word.length - 1)).map fun (i : Nat) => 1 + (i : Int)
noncomputable def oddIn (word pair : Str) (n : Int) : Bool :=
  hasStr word (Txt.mul (Txt.item pair 0) n ++ Txt.mul (Txt.item pair 1) n) || hasStr word (Txt.mul (Txt.item pair 1) n ++ Txt.mul (Txt.item pair 0) n)
noncomputable def oddsOf (word pair : Str) : List Int := ((List.range (word.length / 2)).filter fun (i : Nat) => oddIn word pair ((i + 1 : Nat) : Int)).map fun (i : Nat) => 2 * ((i + 1 : Nat) : Int) - 1
noncomputable def dWord (word pair : Str) : Nat → Str
  | 0 => word
  | t + 1 => doubled (dWord word pair t) pair
noncomputable def dOvers (word : Str) : Nat → List Int
  | 0 => (sizesOf word).filter (overAt word)
  | t + 1 => (dOvers word t).map (2 * ·)
noncomputable def dSquares (word pair : Str) : Nat → List Int
  | 0 => (sizesOf word).filter (squareAt word)
  | t + 1 => isort ((dSquares word pair t).map (2 * ·) ++ oddsOf (dWord word pair t) pair)
noncomputable abbrev sDue : Stmt := nthS 21 pw.main.body
noncomputable abbrev scDue : Scope := scopeOf sDue pw.main.scope
noncomputable abbrev dueTurn : List Stmt := loopBody (nthS 3 (bodyOf sDue))
noncomputable abbrev dueOdd : List Stmt := loopBody (nthS 1 dueTurn)
noncomputable def PDbl (ps : List PV) (c : PV) : Prop := ∃ word pair : Str, ps = [.sc (.str word), .sc (.str pair)] ∧ word.length ≤ 100 ∧ pair.length = 2 ∧ c = .sc (.str (doubled word pair))
section
variable {w : World} {g : Heap} {A : Around} {sc : Scope} {ρ ρ' : List (Str × PV)} {ow ow' : Option (Str × List Sc)} {mg mb : Str → Option Value} {B : Addr → Obj → Prop} {env : Env}
theorem mulOne {x : Str} {n : Int} (hx : x.length = 1) (h0 : 0 ≤ n) (h1 : n ≤ 1000) : MulOk x n := by
  refine ⟨?_, fun h _ => ?_, fun h _ => ?_⟩
  · have h1' : decide (n < -(2 ^ 63 : Int)) = false := decide_eq_false (by omega)
    have h2' : decide (n ≥ 2 ^ 63) = false := decide_eq_false (by omega)
    rw [h1', h2']; rfl
  · rw [hx]
    have : (1 : Int) ≤ (2 ^ 63 - 1) / n := (Int.le_ediv_iff_mul_le (by omega)).mpr (by omega)
    show ¬ ((1 : Int) > _)
    omega
  · rw [hx]
    unfold Builtin.Str.tooLong
    rw [sizeLine_eq]
    exact decide_eq_false (by omega)
theorem mul_len {x : Str} {n : Int} (hx : x.length = 1) (h0 : 0 ≤ n) : (Txt.mul x n).length ≤ n.toNat := by
  unfold Txt.mul
  split
  · exact Nat.zero_le _
  · split
    · omega
    · have : ∀ (k : Nat) (a : Array Nat), ((List.replicate k x.cps).foldl (· ++ ·) a).size = a.size + k * x.cps.size := by
        intro k
        induction k with
        | zero => intro a; simp
        | succ k ih => intro a; rw [List.replicate_succ, List.foldl_cons, ih, Array.size_append, Nat.succ_mul]; omega
      have h := this n.toNat #[]
      have hx' : x.cps.size = 1 := hx
      show ((List.replicate n.toNat x.cps).foldl (· ++ ·) #[]).size ≤ n.toNat
      rw [h, hx']
      simp
theorem Op2.mulS {x : Str} {n : Int} (h : MulOk x n) : Op2 w A (binaryOp .Mult) (.sc (.str x)) (.sc (.int n)) (.sc (.str (Txt.mul x n))) := fun L s u v Q E _ ⟨t, hu⟩ ⟨t', hv⟩ _ _ hk1 k => by
  subst hu hv
  exact tk hk1 (SB.mul h fun t'' k' j => k (.str _ _) s.heap k' j (.refl _ _) ⟨_, rfl⟩ (by nofun))
noncomputable abbrev tRho (word pair : Str) (os sq : List Int) : List (Str × PV) := [("word", .sc (.str word)), ("pair", .sc (.str pair)), ("overs", .list (os.map .int)), ("squares", .list (sq.map .int))]
theorem due_odd (G : Gd w g mg mb) (hA : A.handled = none) {word pair : Str} {os sq : List Int} (hw : word.length ≤ 60) (hp : pair.length = 2) (n : Nat) (hn : n ≤ 60) (acc : List Sc) (hacc : acc.length ≤ 1000) :
    Ex w g A scDue (("n", .sc (.int n)) :: tRho word pair os sq) (some ("odd", acc)) dueOdd
      (.next (tRho word pair os sq) (some ("odd", if oddIn word pair n then acc ++ [.int (2 * (n : Int) - 1)] else acc))) := by
  have i0 : (Txt.item pair 0).length = 1 := rfl
  have i1 : (Txt.item pair 1).length = 1 := rfl
  have m0 := mul_len (n := n) i0 (by omega)
  have m1 := mul_len (n := n) i1 (by omega)
  have ev : ∀ (a b : Int), (a = 0 ∨ a = 1) → (b = 0 ∨ b = 1) → True := fun _ _ _ _ => trivial
  have ht : Tr w g A scDue (("n", .sc (.int n)) :: tRho word pair os sq) (testOf (nthS 0 dueOdd)) (oddIn word pair n) := by
    refine Tr.or (Tr.cmp (Ev.bin (Ev.bin (Ev.sub (Ev.var rfl) Ev.int (SubOp.strI (by omega) (by omega) (by omega))) (Ev.var rfl) (Op2.mulS (mulOne i0 (by omega) (by omega)))) (Ev.bin (Ev.sub (Ev.var rfl) Ev.int (SubOp.strI (by omega) (by omega) (by omega))) (Ev.var rfl) (Op2.mulS (mulOne i1 (by omega) (by omega)))) (Op2.addS (by rw [sizeLine_eq]; omega))) (Ev.var rfl) Op2.inS)
      fun _ => (Tr.cmp (Ev.bin (Ev.bin (Ev.sub (Ev.var rfl) Ev.int (SubOp.strI (by omega) (by omega) (by omega))) (Ev.var rfl) (Op2.mulS (mulOne i1 (by omega) (by omega)))) (Ev.bin (Ev.sub (Ev.var rfl) Ev.int (SubOp.strI (by omega) (by omega) (by omega))) (Ev.var rfl) (Op2.mulS (mulOne i0 (by omega) (by omega)))) (Op2.addS (by rw [sizeLine_eq]; omega))) (Ev.var rfl) Op2.inS)
  apply Ex.to
  · refine Ex.cons (ρ' := ("n", .sc (.int n)) :: tRho word pair os sq) (ExS.ite ht (fun h => ?_) fun h => ?_) Ex.nil
    · rw [h]
      exact Ex.cons (ExS.append (Ev.bin (Ev.bin Ev.int (Ev.var rfl) (Op2.mulI mulOk)) Ev.int Op2.subI) (by omega)) Ex.nil
    · rw [h]
      exact Ex.nil
  · exact ⟨rfl, rfl, rfl, rfl, trivial⟩
theorem natInj : ∀ a b : Nat, Sc.int (a : Int) = Sc.int (b : Int) → a = b := fun a b h => by
  injection h with h; omega
theorem rng0 {m : Int} : ((List.range (m - 0).toNat).map fun (i : Nat) => Sc.int (0 + i)) = (List.range m.toNat).map fun (k : Nat) => Sc.int (k : Int) := by
  rw [Int.sub_zero]
  refine List.map_congr_left fun i _ => ?_
  rw [Int.zero_add]
theorem cut_len (x : Str) (h : x.length ≤ 60) : x.length ≤ 100000 := Nat.le_trans h (by decide)
noncomputable abbrev dRho (word pair : Str) (rounds : Int) : List (Str × PV) := [("sizes", .range 1 word.length 1), ("size", .sc (.int word.length)), ("word", .sc (.str word)), ("rounds", .sc (.int rounds)), ("pair", .sc (.str pair))]
theorem ExS.castR {st : Stmt} {o o' : Out} (h : ExS w g A sc ρ ow st o) (e : o = o') : ExS w g A sc ρ ow st o' := e ▸ h
theorem due_overs (G : Gd w g mg mb) (hA : A.handled = none) {word pair : Str} {rounds : Int} (hw : word.length ≤ 60) (h1 : 1 ≤ word.length) :
    ExS w g A scDue (dRho word pair rounds) none (nthS 1 (bodyOf sDue)) (.next (("overs", .list (((sizesOf word).filter (overAt word)).map .int)) :: dRho word pair rounds) none) := by
  have e : ((List.range ((word.length : Int) - 1).toNat).map fun (i : Nat) => Sc.int (1 + i)) = (sizesOf word).map .int := by
    rw [sizesOf, List.map_map, show ((word.length : Int) - 1).toNat = word.length - 1 from by omega]; rfl
  refine ExS.castR (ExS.filtC Sc.int Sc.int (sizesOf word) (overAt word) id intInj hA (Src.castX (Src.rng hA (Ev.var rfl) (by omega) (by omega) (by omega) (by omega)) e) rfl (by simp [sizesOf]; omega) rfl (by intro env he; cases env; cases he; rfl) (fun n hn => ?_) (fun n hn _ => Ev.var rfl)) ?_
  · have hb : 1 ≤ n ∧ n ≤ 60 := by
      unfold sizesOf at hn
      obtain ⟨i, hi, rfl⟩ := List.mem_map.mp hn
      have := List.mem_range.mp hi
      omega
    refine Tr.cast (Tr.list (Ev.filtC (fun k : Nat => Sc.int (k : Int)) (fun k : Nat => Sc.int (k : Int)) (List.range ((word.length : Int) - 2 * n).toNat) (fun (k : Nat) => cut word k (k + n + 1) == cut word (k + n) (k + 2 * n + 1)) id natInj hA
      (Src.castX (Src.rng hA (Ev.callB G rfl (EvArgs.cons (Ev.bin (Ev.var rfl) (Ev.bin Ev.int (Ev.var rfl) (Op2.mulI mulOk)) Op2.subI) EvArgs.nil) CallOp.range1) (by omega) (by omega) (by omega) (by omega)) rng0) rfl (by simp; omega) (fun k hk => ?_) (fun k hk _ => Ev.var rfl)) (by
        rw [List.length_map, List.length_map]
        exact Nat.lt_of_le_of_lt (List.length_filter_le _ _) (by simp; omega))) ?_
    · exact Tr.cmp (Ev.slice2 (Ev.var rfl) (Ev.var rfl) (Ev.bin (Ev.bin (Ev.var rfl) (Ev.var rfl) Op2.addI) Ev.int Op2.addI) (cut_len word hw))
        (Ev.slice2 (Ev.var rfl) (Ev.bin (Ev.var rfl) (Ev.var rfl) Op2.addI) (Ev.bin (Ev.bin (Ev.var rfl) (Ev.bin Ev.int (Ev.var rfl) (Op2.mulI mulOk)) Op2.addI) Ev.int Op2.addI) (cut_len word hw)) Op2.eqS
    · rw [List.isEmpty_map, List.isEmpty_map]; rfl
  · rw [List.map_id]
end
end Mine
end
section
open PySem PySem.W PyProof.Rows
set_option maxRecDepth 100000
set_option Elab.async false
set_option maxHeartbeats 1000000
namespace Mine
section
variable {w : World} {g : Heap} {A : Around} {sc : Scope} {ρ ρ' : List (Str × PV)} {ow ow' : Option (Str × List Sc)} {mg mb : Str → Option Value} {B : Addr → Obj → Prop} {env : Env}
theorem due_squares (G : Gd w g mg mb) (hA : A.handled = none) {word pair : Str} {rounds : Int} {os : List Int} (hw : word.length ≤ 60) (h1 : 1 ≤ word.length) :
    ExS w g A scDue (("overs", .list (os.map .int)) :: dRho word pair rounds) none (nthS 2 (bodyOf sDue)) (.next (("squares", .list (((sizesOf word).filter (squareAt word)).map .int)) :: ("overs", .list (os.map .int)) :: dRho word pair rounds) none) := by
  have e : ((List.range ((word.length : Int) - 1).toNat).map fun (i : Nat) => Sc.int (1 + i)) = (sizesOf word).map .int := by
    rw [sizesOf, List.map_map, show ((word.length : Int) - 1).toNat = word.length - 1 from by omega]; rfl
  refine ExS.castR (ExS.filtC Sc.int Sc.int (sizesOf word) (squareAt word) id intInj hA (Src.castX (Src.rng hA (Ev.var rfl) (by omega) (by omega) (by omega) (by omega)) e) rfl (by simp [sizesOf]; omega) rfl (by intro env he; cases env; cases he; rfl) (fun n hn => ?_) (fun n hn _ => Ev.var rfl)) ?_
  · have hb : 1 ≤ n ∧ n ≤ 60 := by
      unfold sizesOf at hn
      obtain ⟨i, hi, rfl⟩ := List.mem_map.mp hn
      have := List.mem_range.mp hi
      omega
    refine Tr.cast (Tr.list (Ev.filtC (fun k : Nat => Sc.int (k : Int)) (fun k : Nat => Sc.int (k : Int)) (List.range ((word.length : Int) - 2 * n).toNat) (fun (k : Nat) => cut word k (k + n) == cut word (k + n) (k + 2 * n)) id natInj hA
      (Src.castX (Src.rng hA (Ev.callB G rfl (EvArgs.cons (Ev.bin (Ev.var rfl) (Ev.bin Ev.int (Ev.var rfl) (Op2.mulI mulOk)) Op2.subI) EvArgs.nil) CallOp.range1) (by omega) (by omega) (by omega) (by omega)) rng0) rfl (by simp; omega) (fun k hk => ?_) (fun k hk _ => Ev.var rfl)) (by
        rw [List.length_map, List.length_map]
        exact Nat.lt_of_le_of_lt (List.length_filter_le _ _) (by simp; omega))) ?_
    · exact Tr.cmp (Ev.slice2 (Ev.var rfl) (Ev.var rfl) (Ev.bin (Ev.var rfl) (Ev.var rfl) Op2.addI) (cut_len word hw))
        (Ev.slice2 (Ev.var rfl) (Ev.bin (Ev.var rfl) (Ev.var rfl) Op2.addI) (Ev.bin (Ev.var rfl) (Ev.bin Ev.int (Ev.var rfl) (Op2.mulI mulOk)) Op2.addI) (cut_len word hw)) Op2.eqS
    · rw [List.isEmpty_map, List.isEmpty_map]; rfl
  · rw [List.map_id]

theorem filter_succ {β : Type} (p : Nat → Bool) (F : Nat → β) (i : Nat) : ((List.range (i + 1)).filter p).map F = if p i then ((List.range i).filter p).map F ++ [F i] else ((List.range i).filter p).map F := by
  rw [List.range_succ, List.filter_append, List.map_append]
  cases h : p i <;> simp [h]
theorem due_oddFor (G : Gd w g mg mb) (hA : A.handled = none) {word pair : Str} {os sq : List Int} (hw : word.length ≤ 60) (hp : pair.length = 2) :
    ExS w g A scDue (tRho word pair os sq) (some ("odd", [])) (nthS 1 dueTurn) (.next (tRho word pair os sq) (some ("odd", (oddsOf word pair).map .int))) := by
  have hdiv : Int.fdiv ((word.length : Int)) 2 = ((word.length / 2 : Nat) : Int) := (Int.ofNat_fdiv word.length 2).symm
  have e : ((List.range (Int.fdiv (word.length : Int) 2 + 1 - 1).toNat).map fun (i : Nat) => Sc.int (1 + i)) = (List.range (word.length / 2)).map fun (i : Nat) => Sc.int ((i + 1 : Nat) : Int) := by
    rw [hdiv, show ((((word.length / 2 : Nat) : Int) + 1 - 1).toNat) = word.length / 2 from by omega]
    refine List.map_congr_left fun i _ => ?_
    rw [show (1 + (i : Int)) = ((i + 1 : Nat) : Int) from by omega]
  let acc : Nat → List Sc := fun n => ((List.range n).filter fun (i : Nat) => oddIn word pair ((i + 1 : Nat) : Int)).map fun (i : Nat) => Sc.int (2 * ((i + 1 : Nat) : Int) - 1)
  have hacc : ∀ i, (acc i).length ≤ i := fun i => by
    show (((List.range i).filter _).map _).length ≤ i
    rw [List.length_map]
    exact Nat.le_trans (List.length_filter_le _ _) (by simp)
  refine ExS.castR (ExS.for_ (fun _ => tRho word pair os sq) (fun i => some ("odd", acc i)) (n := word.length / 2) (by simp)
    (Src.castX (Src.rng hA (Ev.callB G rfl (EvArgs.cons Ev.int (EvArgs.cons (Ev.bin (Ev.bin (Ev.callB G rfl (EvArgs.cons (Ev.var rfl) EvArgs.nil) (CallOp.lenS (by omega))) Ev.int (Op2.divI (by decide) (PyProof.noPylong_small (by decide)))) Ev.int Op2.addI) EvArgs.nil)) CallOp.range2) (by omega) (by omega) (by rw [hdiv]; omega) (by rw [hdiv]; omega)) e)
    (fun q => nomatch q) (.inl rfl) (fun _ _ => ⟨by decide, _, rfl⟩) (fun i hi a ha => ?_) (.full (by simp))) ?_
  · have ha' : a = .int ((i + 1 : Nat) : Int) := by
      rw [List.getElem?_map, List.getElem?_range hi] at ha
      cases ha; rfl
    subst ha'
    have := due_odd (A := A) (os := os) (sq := sq) G hA hw hp (i + 1) (by omega) (acc i) (Nat.le_trans (hacc i) (by omega))
    have e2 : acc (i + 1) = (if oddIn word pair ((i + 1 : Nat) : Int) then acc i ++ [.int (2 * ((i + 1 : Nat) : Int) - 1)] else acc i) := by
      exact filter_succ _ _ i
    rw [e2]
    exact this
  · show Out.next _ (some ("odd", acc (word.length / 2))) = _
    have : acc (word.length / 2) = (oddsOf word pair).map .int := by
      unfold oddsOf
      rw [List.map_map]; rfl
    rw [this]
theorem ints_len (l : List Int) : (l.map Sc.int).length = l.length := by rw [List.length_map]
theorem due_turn (G : Gd w g mg mb) {d : Nat} (F : Fn w g mg "_law_doubled" d PDbl) (hA : A.handled = none) (hd : A.depth + d < recursionLimit) {word pair : Str} {os sq : List Int} (hw : word.length ≤ 60) (hp : pair.length = 2) (ho : os.length ≤ 1000) (hs : sq.length + (oddsOf word pair).length < 64) (i : Nat) :
    Ex w g A scDue (("turn", .sc (.int i)) :: tRho word pair os sq) none dueTurn (.next (tRho (doubled word pair) pair (os.map (2 * ·)) (isort (sq.map (2 * ·) ++ oddsOf word pair))) none) := by
  have hodd : (oddsOf word pair).length < 64 := by omega
  refine Ex.from (ρ' := tRho word pair os sq) ?_ ⟨rfl, rfl, rfl, rfl, trivial⟩
  apply Ex.to
  · refine Ex.cons (ExS.own rfl rfl) ?_
    refine Ex.cons (due_oddFor G hA hw hp) ?_
    refine Ex.disown ?_
    refine Ex.cons (ExS.mapC Sc.int Sc.int os (2 * ·) intInj hA (Src.list hA (Ev.var rfl)) rfl (by omega) rfl (by intro env he; cases env; cases he; rfl) (fun n hn => Ev.bin Ev.int (Ev.var rfl) (Op2.mulI mulOk))) ?_
    refine Ex.cons (ExS.assign (pv := .list ((isort (sq.map (2 * ·) ++ oddsOf word pair)).map .int)) (Ev.callB G rfl (EvArgs.cons (Ev.cast (Ev.bin (Ev.mapC Sc.int Sc.int sq (2 * ·) intInj hA (Src.list hA (Ev.var rfl)) rfl (by omega) (fun n hn => Ev.bin Ev.int (Ev.var rfl) (Op2.mulI mulOk))) (Ev.var rfl) (Op2.addL (by rw [ints_len, ints_len, List.length_map]; omega))) (by rw [← List.map_append])) EvArgs.nil) (CallOp.sorted (by rw [List.length_append, List.length_map]; omega))) (.inl rfl)) ?_
    exact Ex.cons (ExS.assign (pv := .sc (.str (doubled word pair))) (Ev.callF G F hA hd (EvArgs.cons (Ev.var rfl) (EvArgs.cons (Ev.var rfl) EvArgs.nil)) ⟨word, pair, rfl, by omega, hp, rfl⟩) (.inr rfl)) Ex.nil
  · exact ⟨rfl, rfl, rfl, rfl, trivial⟩
end
end Mine
end
section
open PySem PySem.W PyProof.Rows
set_option maxRecDepth 100000
set_option Elab.async false
set_option maxHeartbeats 1000000
namespace Mine
section
variable {w : World} {g : Heap} {A : Around} {sc : Scope} {ρ ρ' : List (Str × PV)} {ow ow' : Option (Str × List Sc)} {mg mb : Str → Option Value} {B : Addr → Obj → Prop} {env : Env}
theorem dOvers_len (word : Str) (h : word.length ≤ 60) : ∀ t, (dOvers word t).length ≤ 60
  | 0 => Nat.le_trans (List.length_filter_le _ _) (by simp [sizesOf]; omega)
  | t + 1 => by rw [dOvers, List.length_map]; exact dOvers_len word h t
noncomputable def dueAt (word pair : Str) (rounds : Nat) : Nat → List (Str × PV)
  | 0 => ("rounds", .sc (.int rounds)) :: tRho word pair (dOvers word 0) (dSquares word pair 0)
  | i + 1 => tRho (dWord word pair (i + 1)) pair (dOvers word (i + 1)) (dSquares word pair (i + 1))
theorem due_body (G : Gd w g mg mb) {d : Nat} (F : Fn w g mg "_law_doubled" d PDbl) (hA : A.handled = none) (hd : A.depth + d < recursionLimit) {word pair : Str} {rounds : Nat} (hr : rounds ≤ 10) (h1 : 1 ≤ word.length) (hp : pair.length = 2)
    (hw : ∀ t ≤ rounds, (dWord word pair t).length ≤ 60) (hs : ∀ t < rounds, (dSquares word pair t).length + (oddsOf (dWord word pair t) pair).length < 64) :
    Ex w g A scDue [("word", .sc (.str word)), ("rounds", .sc (.int rounds)), ("pair", .sc (.str pair))] none (bodyOf sDue) (.retP (Pair w ((dOvers word rounds).map .int) ((dSquares word pair rounds).map .int))) := by
  have hw0 : word.length ≤ 60 := hw 0 (Nat.zero_le _)
  refine Ex.cons (ExS.tupO hA (EvArgs.cons (Ev.callB G rfl (EvArgs.cons (Ev.var rfl) EvArgs.nil) (CallOp.lenS (by omega))) (EvArgs.cons (Ev.callB G rfl (EvArgs.cons Ev.int (EvArgs.cons (Ev.callB G rfl (EvArgs.cons (Ev.var rfl) EvArgs.nil) (CallOp.lenS (by omega))) EvArgs.nil)) CallOp.range2) EvArgs.nil)) (.inr rfl) (.inl rfl) (by intro env he; cases env; cases he; rfl)) ?_
  refine Ex.cons (due_overs G hA hw0 h1) ?_
  refine Ex.cons (due_squares G hA hw0 h1) ?_
  refine Ex.from (ρ' := ("rounds", .sc (.int rounds)) :: tRho word pair (dOvers word 0) (dSquares word pair 0)) ?_ ⟨rfl, rfl, rfl, rfl, rfl, trivial⟩
  have e : ((List.range ((rounds : Int) - 0).toNat).map fun (i : Nat) => Sc.int (0 + i)) = (List.range rounds).map fun (i : Nat) => Sc.int (i : Int) := by
    rw [rng0]; rfl
  refine Ex.cons (ExS.for_ (dueAt word pair rounds) (fun _ => none) (n := rounds) (by simp)
    (Src.castX (Src.rng hA (Ev.callB G rfl (EvArgs.cons (Ev.var rfl) EvArgs.nil) CallOp.range1) (by omega) (by omega) (by omega) (by omega)) e)
    (fun q => nomatch q) (.inl rfl) (fun _ _ => trivial) (fun i hi a ha => ?_) (.full (by simp))) ?_
  · have ha' : a = .int (i : Int) := by
      rw [List.getElem?_map, List.getElem?_range hi] at ha
      cases ha; rfl
    subst ha'
    have := due_turn (A := A) (os := dOvers word i) (sq := dSquares word pair i) G F hA hd (hw i (by omega)) hp (Nat.le_trans (dOvers_len word hw0 i) (by decide)) (hs i hi) i
    cases i with
    | zero => exact Ex.from this ⟨rfl, rfl, rfl, rfl, rfl, trivial⟩
    | succ i => exact this
  · refine Ex.from (ρ' := tRho (dWord word pair rounds) pair (dOvers word rounds) (dSquares word pair rounds)) ?_ (by cases rounds <;> exact ⟨rfl, rfl, rfl, rfl, trivial⟩)
    exact Ex.retP (ExS.retPair (EvArgs.cons (Ev.var rfl) (EvArgs.cons (Ev.var rfl) EvArgs.nil)))
end
end Mine
end
section
open PySem PySem.W PyProof.Rows
set_option maxRecDepth 100000
set_option Elab.async false
set_option maxHeartbeats 1000000
namespace Mine
noncomputable def kvPairs (keys : List (Option Expr)) (values : List Expr) (pos : Pos) (env : Env) : List (Sem Value × Sem Value) :=
  ((keys.filterMap id).zip values).map fun p => (eval p.1 env, do let x ← eval p.2 env; standAt pos; pure x)
section
variable {w : World} {g : Heap} {A : Around} {sc : Scope} {ρ ρ' : List (Str × PV)} {ow ow' : Option (Str × List Sc)} {mg mb : Str → Option Value} {B : Addr → Obj → Prop} {env : Env}
noncomputable def ConstPairs (w : World) (A : Around) : List (Sem Value × Sem Value) → List (Str × Str) → Prop
  | [], [] => True
  | (k, v) :: r, (a, b) :: r' => (∀ (s : Shared) (Q E : Value → Shared → Prop), Q (.str a s.toks) { s with toks := s.toks + 1 } → wpAny (model pw w) A k Q E s) ∧
      (∀ (s : Shared) (Q E : Value → Shared → Prop), Q (.str b s.toks) { s with toks := s.toks + 1 } → wpAny (model pw w) A v Q E s) ∧ ConstPairs w A r r'
  | _, _ => False
theorem constPairs_eval : ∀ {ps : List (Sem Value × Sem Value)} {kvs : List (Str × Str)} {s : Shared} {Q : List (Value × Value) → Shared → Prop} {E : Value → Shared → Prop}, ConstPairs w A ps kvs →
    (∀ vs t' (l : List (Str × Value)), s.toks ≤ t' → Carries (PySem.strKind pw w) vs l → DVals (kvs.map fun q => (q.1, Sc.str q.2)) l → Q vs { s with toks := t' }) → wpAny (model pw w) A (evalPairs ps) Q E s
  | [], [], s, Q, E, _, k => evalPairs_nil (k [] s.toks [] (Nat.le_refl _) trivial trivial)
  | (kk, vv) :: r, (a, b) :: r', s, Q, E, ⟨h1, h2, h3⟩, k => by
    refine evalPairs_cons (h1 s _ E (h2 { s with toks := s.toks + 1 } _ E ?_))
    refine constPairs_eval (s := { s with toks := s.toks + 1 + 1 }) h3 fun vs t' l ht hc hd => ?_
    exact k ((.str a s.toks, .str b (s.toks + 1)) :: vs) t' ((a, .str b (s.toks + 1)) :: l) (Nat.le_trans (Nat.le_add_right s.toks 2) ht) ⟨strKind_is pw w a _, rfl, hc⟩ ⟨rfl, ⟨_, rfl⟩, hd⟩
  | [], _ :: _, _, _, _, h, _ => h.elim
  | _ :: _, [], _, _, _, h, _ => h.elim
theorem constK {x : Str} {n : Nat} {p : Pos} (env : Env) : ∀ (s : Shared) (Q E : Value → Shared → Prop), Q (.str x s.toks) { s with toks := s.toks + 1 } → wpAny (model pw w) A (eval (.Constant (.str x) n p) env) Q E s :=
  fun _ _ _ q => PySem.Calls.Constant_str q
theorem constV {x : Str} {n : Nat} {p p' : Pos} (env : Env) : ∀ (s : Shared) (Q E : Value → Shared → Prop), Q (.str x s.toks) { s with toks := s.toks + 1 } → wpAny (model pw w) A (do let v ← eval (.Constant (.str x) n p) env; standAt p'; pure v) Q E s :=
  fun _ _ _ q => wpAny_bind (PySem.Calls.Constant_str (wpAny_bind (wpAny_standAt (wpAny_pure q))))
theorem stored_new {K : Type} [DecidableEq K] : ∀ (l : List (K × Value)) (k : K) (v : Value), k ∉ l.map (·.1) → stored l k v = l ++ [(k, v)] := by
  intro l k v h
  unfold stored
  rw [if_neg]
  intro q
  obtain ⟨x, hx, e⟩ := List.any_eq_true.mp q
  exact h (List.mem_map.mpr ⟨x, hx, by simpa using e⟩)
theorem merged_new : ∀ (l acc : List (Str × Value)), ((acc ++ l).map (·.1)).Nodup → merged acc l = acc ++ l
  | [], acc, _ => by simp [merged]
  | (k, v) :: r, acc, h => by
    have hk : k ∉ acc.map (·.1) := by
      intro hm
      rw [List.map_append, List.map_cons] at h
      have := (List.nodup_append.mp h).2.2 k hm k List.mem_cons_self
      exact this rfl
    show merged (stored acc k v) r = _
    rw [stored_new acc k v hk, merged_new r (acc ++ [(k, v)]) (by simpa using h)]
    simp
theorem DVals.keys : ∀ {a : List (Str × Sc)} {b : List (Str × Value)}, DVals a b → b.map (·.1) = a.map (·.1)
  | [], [], _ => rfl
  | (_, _) :: _, (_, _) :: _, ⟨e, _, r⟩ => by rw [List.map_cons, List.map_cons, DVals.keys r]; simp [e]
  | [], _ :: _, h => h.elim
  | _ :: _, [], h => h.elim
theorem Ev.dictC {keys : List (Option Expr)} {values : List Expr} {pos : Pos} (G : Gd w g mg mb) (kvs : List (Str × Str)) (h0 : kvs ≠ []) (hl : kvs.length ≤ 15) (hn : (kvs.map (·.1)).Nodup)
    (hshape : ∀ env, (evalEachOpt keys env).zip ((evalEach values env).map fun v => do let x ← v; standAt pos; pure x) = (kvPairs keys values pos env).map fun p => (some p.1, p.2))
    (hc : ∀ env, ConstPairs w A (kvPairs keys values pos env) kvs) : Ev w g A sc ρ (.Dict keys values pos) (.dict (kvs.map fun q => (q.1, Sc.str q.2))) := .mk fun env s Q E I hk1 k => by
  have hlen : ∀ {ps : List (Sem Value × Sem Value)} {l : List (Str × Str)}, ConstPairs w A ps l → ps.length = l.length := by
    intro ps
    induction ps with
    | nil => intro l h; cases l with | nil => rfl | cons _ _ => exact h.elim
    | cons p ps ih => intro l h; cases l with | nil => exact h.elim | cons q l => rw [List.length_cons, List.length_cons, ih h.2.2]
  have hl' := hlen (hc env)
  refine wpAny_Dict_pairs (knd := PySem.strKind pw w) (hshape env) (by intro q; rw [q] at hl'; cases kvs with | nil => exact h0 rfl | cons _ _ => simp at hl') (by omega) ?_
  refine constPairs_eval (hc env) fun vs t' l ht hcar hd => ⟨l, hcar, ?_, fun h' hD hS => ?_⟩
  · exact Heap.DictOf.new s.heap
  · have hm : merged [] l = l := merged_new l [] (by
      rw [List.nil_append, hd.keys, List.map_map]; exact hn)
    rw [hm] at hD
    have G1 : GrowX env.locals s.heap h' := .of fun b o e => hS.extBut b o (Nat.ne_of_lt (Heap.lt_size e)) (Heap.get?_push_of_some _ e)
    have hsz : s.heap.objs.size ≠ sysModules := by
      obtain ⟨mc, hb, _⟩ := G.T.book
      have := (hb.keeps I.keep).lt
      intro q
      rw [q] at this
      exact absurd this (by decide)
    refine k (.ref _) h' _ ?_ G1 ⟨_, l, rfl, hD, hd, hsz⟩ ?_
    · have : s.toks ≤ t' := ht
      show 1 ≤ t' + vs.length
      omega
    · exact ne_new I.ns 0
noncomputable def constInts : List Expr → Option (List Int)
  | [] => some []
  | .Constant (.int i) _ _ :: es => (constInts es).map (i :: ·)
  | _ => none
theorem EvArgs.ints : ∀ {es : List Expr} {ns : List Int}, constInts es = some ns → EvArgs w g A sc ρ es ((ns.map Sc.int).map PV.sc)
  | [], ns, h => by
    simp [constInts] at h; subst h; exact EvArgs.nil
  | .Constant (.int i) k p :: es, ns, h => by
    simp only [constInts] at h
    obtain ⟨r, hr, rfl⟩ := Option.map_eq_some_iff.mp h
    exact EvArgs.cons Ev.int (EvArgs.ints hr) (fun _ _ => rfl)
theorem Ev.listInts {es : List Expr} {ns : List Int} {p : Pos} (h : constInts es = some ns) (hl : ns.length ≤ 100000) : Ev w g A sc ρ (.List es p) (.list (ns.map .int)) :=
  EvArgs.listE (EvArgs.ints h) (by rw [List.length_map]; exact hl)
theorem Ev.tupInts {es : List Expr} {ns : List Int} {c : Nat} {p : Pos} (h : constInts es = some ns) (hl : ns.length ≤ 100000) : Ev w g A sc ρ (.Tuple es c p) (.tuple (ns.map .int)) :=
  EvArgs.tupleE (EvArgs.ints h) (by rw [List.length_map]; exact hl)
end
end Mine
end
section
open PySem PySem.W PyProof.Rows
set_option maxRecDepth 100000
set_option Elab.async false
set_option maxHeartbeats 1000000
namespace Mine
noncomputable abbrev sSpelled : Stmt := nthS 16 pw.main.body
noncomputable abbrev scSpelled : Scope := scopeOf sSpelled pw.main.scope
noncomputable abbrev spTurn : List Stmt := loopBody (nthS 4 (bodyOf sSpelled))
noncomputable def signsT : List (Str × Str) := [("hp", "㏋"), ("ph", "㏗"), ("rs", "₨"), ("st", "ﬆ"), ("fi", "ﬁ")]
noncomputable def signsD : List (Str × Sc) := signsT.map fun q => (q.1, Sc.str q.2)
noncomputable def codesA : List Int := [173, 847, 6150, 6155, 6156, 6157, 8203, 8204, 8205, 8288, 65279]
noncomputable def codesL : List Int := codesA ++ (List.range 16).map fun (i : Nat) => 65024 + (i : Int)
theorem codes_eq : PV.list (codesA.map .int ++ (List.range 16).map fun (i : Nat) => Sc.int (65024 + (i : Int))) = .list (codesL.map .int) := by
  rw [codesL, List.map_append, List.map_map]; rfl
noncomputable def firstsL : List Int := [119808, 119860, 119912, 120016, 120172, 120224, 120276, 120328, 120380, 120432]
noncomputable def charOf (i : Int) : Str := ⟨#[i.toNat]⟩
noncomputable def codeAt (n : Int) : Str := charOf (codesL[((n.fdiv 3).fmod 27).toNat]?.getD 0)
noncomputable def firstAt (n : Int) : Int := firstsL[((n.fdiv 81).fmod 10).toNat]?.getD 0
noncomputable def signOf (two : Str) : Option Str := signsT.lookup two
noncomputable def ordOf (x : Str) : Int := ((x.cps[0]?.getD 0 : Nat) : Int)
noncomputable def tailOf (n : Int) (two : Str) : Str :=
  if n.fmod 3 == 0 && (signOf two).isSome then (signOf two).getD ⟨#[]⟩
  else if n.fmod 3 == 1 then Txt.upper two
  else Txt.join ⟨#[]⟩ ((signs two).map fun one => charOf (firstAt n + ordOf one - 97))
noncomputable def twoOf (pair letter : Str) : Str := if letter == Txt.item pair 0 then pair else flip2 pair
noncomputable def numAt (cells : List Int) (i : Nat) : Int := cells[((i : Int).fmod cells.length).toNat]?.getD 0
noncomputable def spellUpto (word pair : Str) (cells : List Int) : Nat → Str
  | 0 => ⟨#[]⟩
  | i + 1 => (spellUpto word pair cells i ++ codeAt (numAt cells i)) ++ tailOf (numAt cells i) (twoOf pair ((signs word)[i]?.getD ⟨#[]⟩))
noncomputable def valOf : Stmt → Expr
  | .Assign _ v _ => v
  | _ => .Constant .none 0 default
noncomputable def spelled (word pair : Str) (cells : List Int) : Str := spellUpto word pair cells word.length
section
variable {w : World} {g : Heap} {A : Around} {sc : Scope} {ρ ρ' : List (Str × PV)} {ow ow' : Option (Str × List Sc)} {mg mb : Str → Option Value} {B : Addr → Obj → Prop} {env : Env}
noncomputable abbrev spRho (word pair : Str) (cells : List Int) (text : Str) : List (Str × PV) :=
  [("text", .sc (.str text)), ("firsts", .tuple (firstsL.map .int)), ("codes", .list (codesL.map .int)), ("signs", .dict signsD), ("word", .sc (.str word)), ("pair", .sc (.str pair)), ("cells", .list (cells.map .int))]
theorem joinOk_small {ys : List Str} (B : Nat) (h : ∀ y ∈ ys, y.length ≤ B) (hl : ys.length * B ≤ 16777216) : JoinOk ⟨#[]⟩ ys = true := by
  unfold JoinOk
  have := StrLaws.joinFits (sep := ⟨#[]⟩) h (by show ys.length * B + ys.length * 0 ≤ 16777216; omega)
  rw [this]; rfl
theorem numbered_at {word : Str} {i : Nat} {a b : Sc} (h : (numbered word)[i]? = some (a, b)) : a = .int i ∧ ∃ l, b = .str l ∧ (signs word)[i]? = some l := by
  unfold numbered at h
  rw [List.getElem?_map] at h
  obtain ⟨q, hq, e⟩ := Option.map_eq_some_iff.mp h
  rw [List.getElem?_zipIdx] at hq
  obtain ⟨l, hl, rfl⟩ := Option.map_eq_some_iff.mp hq
  cases e
  exact ⟨by simp, l, rfl, hl⟩
theorem spell_len {word pair : Str} {cells : List Int} (hT : ∀ (i : Nat) (l : Str), (signs word)[i]? = some l → (tailOf (numAt cells i) (twoOf pair l)).length ≤ 6) : ∀ i ≤ (signs word).length, (spellUpto word pair cells i).length ≤ 7 * i
  | 0, _ => Nat.le_refl _
  | i + 1, h => by
    have ih := spell_len hT i (by omega)
    obtain ⟨l, hl⟩ : ∃ l, (signs word)[i]? = some l := ⟨_, List.getElem?_eq_getElem (by omega)⟩
    have := hT i l hl
    rw [spellUpto, hl]
    rw [Str.length_append, Str.length_append]
    have e : (codeAt (numAt cells i)).length = 1 := rfl
    simp only [Option.getD_some]
    omega
theorem signs_lookup (x : Str) : signsD.lookup x = (signOf x).map Sc.str := by
  have : ∀ l : List (Str × Str), (l.map fun q => (q.1, Sc.str q.2)).lookup x = (l.lookup x).map Sc.str := by
    intro l
    induction l with
    | nil => rfl
    | cons q r ih =>
      obtain ⟨k, v⟩ := q
      rw [List.map_cons]
      by_cases h : (x == k) = true
      · simp only [List.lookup_cons, h]; rfl
      · have h' : (x == k) = false := by simpa using h
        simp only [List.lookup_cons, h', ih]
  exact this signsT
theorem spelled_body (G : Gd w g mg mb) (hA : A.handled = none) {word pair : Str} {cells : List Int} (hw : word.length ≤ 60) (hp : pair.length = 2) (hc : 1 ≤ cells.length) (hc2 : cells.length ≤ 100) (hT : ∀ (i : Nat) (l : Str), (signs word)[i]? = some l → (tailOf (numAt cells i) (twoOf pair l)).length ≤ 6) (hP : ∀ (l : Str), l ∈ signs word → ∀ c ∈ (twoOf pair l).cps.toList, 97 ≤ c ∧ c ≤ 122) :
    Ex w g A scSpelled [("word", .sc (.str word)), ("pair", .sc (.str pair)), ("cells", .list (cells.map .int))] none (bodyOf sSpelled) (.ret (.sc (.str (spelled word pair cells)))) := by
  refine Ex.cons (ExS.assign (pv := .dict signsD) (Ev.dictC G signsT (by decide) (by decide) (by decide) (by intro env; rfl) (by intro env; exact ⟨constK env, constV env, constK env, constV env, constK env, constV env, constK env, constV env, constK env, constV env, trivial⟩)) (.inl rfl)) ?_
  refine Ex.cons (ExS.assign (pv := .list (codesL.map .int)) (Ev.cast (Ev.bin (Ev.listInts (ns := codesA) (by rfl) (by simp [codesA])) (Ev.callB G rfl (EvArgs.cons (Ev.callB G rfl (EvArgs.cons Ev.int (EvArgs.cons Ev.int EvArgs.nil)) CallOp.range2) EvArgs.nil) (CallOp.listRange (n := 16) hA (small_one (by decide) (by decide) (by decide) (by decide)) (by decide +kernel) (by decide))) (Op2.addL (by simp [codesA]))) codes_eq) (.inl rfl)) ?_
  refine Ex.cons (ExS.assign (pv := .tuple (firstsL.map .int)) (Ev.tupInts (ns := firstsL) (by rfl) (by simp [firstsL])) (.inl rfl)) ?_
  refine Ex.cons (ExS.assign (Ev.str (x := ⟨#[]⟩)) (.inl rfl)) ?_
  refine Ex.from (ρ' := spRho word pair cells (spellUpto word pair cells 0)) ?_ ⟨rfl, rfl, rfl, rfl, rfl, rfl, rfl, trivial⟩
  refine Ex.cons (ExS.forT (fun i => spRho word pair cells (spellUpto word pair cells i)) hA (SrcT.enumStr G hA (Ev.var rfl)) (.inl rfl) (.inl rfl) (fun i a b hab => ?_)) ?_
  · obtain ⟨rfl, l, rfl, hl⟩ := numbered_at hab
    have hcl : ((cells.map Sc.int).length : Int) = cells.length := by rw [List.length_map]
    have hf0 : 0 ≤ (i : Int).fmod ((cells.map Sc.int).length : Int) := Int.fmod_nonneg (by omega) (by omega)
    have hf1 : (i : Int).fmod ((cells.map Sc.int).length : Int) < cells.length := by rw [hcl]; exact Int.fmod_lt_of_pos _ (by omega)
    have hnum : (cells.map Sc.int)[((i : Int).fmod ((cells.map Sc.int).length : Int)).toNat]? = some (.int (numAt cells i)) := by
      rw [List.getElem?_map, hcl]
      rw [hcl] at hf0 hf1
      have : ((i : Int).fmod cells.length).toNat < cells.length := by omega
      unfold numAt
      rw [List.getElem?_eq_getElem this]; rfl
    have hf2 : (i : Int).fmod ((cells.map Sc.int).length : Int) < 2 ^ 63 := by omega
    apply Ex.to
    · refine Ex.cons (ExS.assign (Ev.sub (Ev.var rfl) (Ev.bin (Ev.var rfl) (Ev.callB G rfl (EvArgs.cons (Ev.var rfl) EvArgs.nil) (CallOp.lenL (by simp; omega))) (Op2.modI (by omega))) (SubOp.listI hf0 hf2 hnum (fun _ => rfl))) (.inl rfl)) ?_
      refine Ex.cons (ExS.assign (pv := .sc (.str (twoOf pair l))) (Ev.ifExp (c := l == Txt.item pair 0) (Tr.cmp (Ev.var rfl) (Ev.sub (Ev.var rfl) Ev.int (SubOp.strI (by omega) (by omega) (by omega))) Op2.eqS) (fun h => ?_) (fun h => ?_)) (.inl rfl)) ?_
      · unfold twoOf; rw [if_pos h]; exact Ev.var rfl
      · unfold twoOf; rw [if_neg (by simp [h])]; exact Ev.flip (Ev.var rfl) (by omega)
      have codeok : ∀ k : Nat, k < 27 → ∃ c, codesL[k]? = some c ∧ 0 ≤ c ∧ c ≤ 1114111 := by decide
      have hi0 : 0 ≤ ((numAt cells i).fdiv 3).fmod 27 := Int.fmod_nonneg_of_pos _ (by decide)
      have hi1 : ((numAt cells i).fdiv 3).fmod 27 < 27 := Int.fmod_lt_of_pos _ (by decide)
      obtain ⟨c, hc1, hc2, hc3⟩ := codeok (((numAt cells i).fdiv 3).fmod 27).toNat (by omega)
      have hcode : codeAt (numAt cells i) = ⟨#[c.toNat]⟩ := by unfold codeAt charOf; rw [hc1]; rfl
      refine Ex.cons (ExS.aug (c := .sc (.str (spellUpto word pair cells i ++ codeAt (numAt cells i)))) rfl (Ev.callB G rfl (EvArgs.cons (Ev.sub (Ev.var rfl) (Ev.bin (Ev.bin (Ev.var rfl) Ev.int (Op2.divI (by decide) (PyProof.noPylong_small (by decide)))) Ev.int (Op2.modI (by decide))) (SubOp.listI (a := .int c) hi0 (by omega) (by rw [List.getElem?_map, hc1]; rfl) (fun _ => rfl))) EvArgs.nil) (CallOp.chr hc2 hc3)) (by rw [hcode]; exact Op2.iaddS (by
        have h7 := (List.getElem?_eq_some_iff.mp hl).1
        have h8 : (signs word).length = word.length := by simp [signs, Str.length]
        have h9 := spell_len hT i (by omega)
        rw [sizeLine_eq]; show _ + 1 ≤ _; omega)) (.inl rfl)) ?_
      have hnext : spellUpto word pair cells (i + 1) = (spellUpto word pair cells i ++ codeAt (numAt cells i)) ++ tailOf (numAt cells i) (twoOf pair l) := by rw [spellUpto, hl]; rfl
      have hT1 := hT i l hl
      have hilt : i < (signs word).length := (List.getElem?_eq_some_iff.mp hl).1
      have hsl : (signs word).length = word.length := by simp [signs, Str.length]
      have hlen := spell_len hT i (by omega)
      have hsz2 : (spellUpto word pair cells i ++ codeAt (numAt cells i)).length + (tailOf (numAt cells i) (twoOf pair l)).length ≤ sizeLine := by
        rw [Str.length_append, sizeLine_eq, show (codeAt (numAt cells i)).length = 1 from rfl]; omega
      refine Ex.cons (ρ' := spRho word pair cells (spellUpto word pair cells (i + 1))) (ow' := none) (ExS.ite (c := (numAt cells i).fmod 3 == 0 && (signsD.lookup (twoOf pair l)).isSome) (Tr.and (Tr.cmp (Ev.bin (Ev.var rfl) Ev.int (Op2.modI (by decide))) Ev.int Op2.eqI) fun _ => Tr.cmp (Ev.var rfl) (Ev.var rfl) Op2.inD) (fun h => ?_) fun h => ?_) Ex.nil
      · obtain ⟨h1, h2⟩ := Bool.and_eq_true_iff.mp h
        rw [signs_lookup, Option.isSome_map] at h2
        obtain ⟨x, hx⟩ := Option.isSome_iff_exists.mp h2
        have htail : tailOf (numAt cells i) (twoOf pair l) = x := by
          unfold tailOf; rw [if_pos (by rw [h1, h2]; rfl), hx]; rfl
        apply Ex.to
        · exact Ex.cons (ExS.aug (c := .sc (.str (spellUpto word pair cells (i + 1)))) rfl (Ev.sub (Ev.var rfl) (Ev.var rfl) (SubOp.dictI (b := .str x) (by rw [signs_lookup, hx]; rfl))) (by rw [hnext, htail]; exact Op2.iaddS (by rw [← htail]; exact hsz2)) (.inl rfl)) Ex.nil
        · exact ⟨rfl, rfl, rfl, rfl, rfl, rfl, rfl, trivial⟩
      · have hno : ((numAt cells i).fmod 3 == 0 && (signOf (twoOf pair l)).isSome) = false := by
          rw [signs_lookup, Option.isSome_map] at h; exact h
        have htl : (twoOf pair l).length ≤ 100 := by
          unfold twoOf
          split
          · omega
          · exact Nat.le_trans (Txt.sliceBy_le pair none none (-1, 0) (by show (-1 : Int) ≠ 0; decide)) (by omega)
        refine Ex.cons (ρ' := spRho word pair cells (spellUpto word pair cells (i + 1))) (ow' := none) (ExS.ite (c := (numAt cells i).fmod 3 == 1) (Tr.cmp (Ev.bin (Ev.var rfl) Ev.int (Op2.modI (by decide))) Ev.int Op2.eqI) (fun h1 => ?_) fun h1 => ?_) Ex.nil
        · have htail : tailOf (numAt cells i) (twoOf pair l) = Txt.upper (twoOf pair l) := by
            unfold tailOf; rw [hno, if_neg Bool.false_ne_true, if_pos h1]
          apply Ex.to
          · exact Ex.cons (ExS.aug (c := .sc (.str (spellUpto word pair cells (i + 1)))) rfl (Ev.methS (x := twoOf pair l) (Ev.var rfl) EvArgs.nil PySem.F.slot_str_upper PySem.F.type_str_upper (CallOp.upper (by omega))) (by rw [hnext, htail]; exact Op2.iaddS (by rw [← htail]; exact hsz2)) (.inl rfl)) Ex.nil
          · exact ⟨rfl, rfl, rfl, rfl, rfl, rfl, rfl, trivial⟩
        · have htail : tailOf (numAt cells i) (twoOf pair l) = Txt.join ⟨#[]⟩ ((signs (twoOf pair l)).map fun one => charOf (firstAt (numAt cells i) + ordOf one - 97)) := by
            unfold tailOf; rw [hno, if_neg Bool.false_ne_true, if_neg (by rw [h1]; exact Bool.false_ne_true)]
          have firstok : ∀ k : Nat, k < 10 → ∃ c, firstsL[k]? = some c ∧ 119808 ≤ c ∧ c ≤ 120432 := by decide
          have hk0 : 0 ≤ ((numAt cells i).fdiv 81).fmod 10 := Int.fmod_nonneg_of_pos _ (by decide)
          have hk1 : ((numAt cells i).fdiv 81).fmod 10 < 10 := Int.fmod_lt_of_pos _ (by decide)
          obtain ⟨f, hf1, hf2, hf3⟩ := firstok (((numAt cells i).fdiv 81).fmod 10).toNat (by omega)
          have hfa : firstAt (numAt cells i) = f := by unfold firstAt; rw [hf1]; rfl
          have hjoin : JoinOk ⟨#[]⟩ ((signs (twoOf pair l)).map fun one => charOf (f + ordOf one - 97)) = true := by
            refine joinOk_small 1 (fun y hy => ?_) (by simp [signs]; have : (twoOf pair l).cps.size ≤ 100 := htl; omega)
            obtain ⟨o, _, rfl⟩ := List.mem_map.mp hy
            exact Nat.le_refl 1
          apply Ex.to
          · refine Ex.cons (ExS.assign (pv := .sc (.int f)) (Ev.sub (Ev.var rfl) (Ev.bin (Ev.bin (Ev.var rfl) Ev.int (Op2.divI (by decide) (PyProof.noPylong_small (by decide)))) Ev.int (Op2.modI (by decide))) (SubOp.tupI (j := (((numAt cells i).fdiv 81).fmod 10).toNat) (by omega) (by omega) (StrLaws.seqIndex_nonneg hk0 (by simpa [firstsL] using hk1)) (by rw [List.getElem?_map, hf1]; rfl))) (.inr rfl)) ?_
            exact Ex.cons (ExS.aug (c := .sc (.str (spellUpto word pair cells (i + 1)))) rfl (Ev.methS (x := ⟨#[]⟩) (Ev.str (x := ⟨#[]⟩)) (EvArgs.cons (Ev.mapC Sc.str Sc.str (signs (twoOf pair l)) (fun one => charOf (f + ordOf one - 97)) strInj hA (Src.str hA (Ev.var rfl)) rfl (by simp [signs]; have : (twoOf pair l).cps.size ≤ 100 := htl; omega) (fun one hone => by
              obtain ⟨c, hcm, rfl⟩ := List.mem_map.mp hone
              have hcc := hP l (List.mem_of_getElem? hl) c hcm
              have ho : ordOf ⟨#[c]⟩ = c := rfl
              exact Ev.callB G rfl (EvArgs.cons (Ev.bin (Ev.bin (Ev.var rfl) (Ev.callB G rfl (EvArgs.cons (Ev.var rfl) EvArgs.nil) CallOp.ord) Op2.addI) Ev.int Op2.subI) EvArgs.nil) (CallOp.chr (by omega) (by omega)))) EvArgs.nil) PySem.F.slot_str_join PySem.F.type_str_join (CallOp.join hjoin)) (by rw [hnext, htail, hfa]; exact Op2.iaddS (by rw [← hfa, ← htail]; exact hsz2)) (.inl rfl)) Ex.nil
          · exact ⟨rfl, rfl, rfl, rfl, rfl, rfl, rfl, trivial⟩
    · exact ⟨rfl, rfl, rfl, rfl, rfl, rfl, rfl, trivial⟩
  · refine Ex.ret (ExS.ret (Ev.cast (Ev.var rfl) ?_))
    have : (numbered word).length = word.length := by simp [numbered, signs, Str.length]
    rw [this]; rfl
end
end Mine
end
section
open PySem PySem.W PyProof.Rows
set_option maxRecDepth 100000
set_option Elab.async false
set_option maxHeartbeats 1000000
namespace Mine
noncomputable abbrev sWritten : Stmt := nthS 19 pw.main.body
noncomputable abbrev scWritten : Scope := scopeOf sWritten pw.main.scope
noncomputable def PEsc (f : Str → Str) (ps : List PV) (c : PV) : Prop := ∃ x : Str, ps = [.sc (.str x)] ∧ x.length ≤ 16 ∧ c = .sc (.str (f x))
noncomputable def escOf (k : Nat) : Str → Str := match k with
  | 0 => escK0
  | 1 => escK1
  | 2 => escK2
  | 3 => escK3
  | _ => escK4
section
variable {w : World} {g : Heap} {A : Around} {mg mb : Str → Option Value}
theorem written_body (G : Gd w g mg mb) {d : Nat} (F0 : Fn w g mg "_escape_cdata" d (PEsc escK0)) (F1 : Fn w g mg "_escape_attrib" d (PEsc escK1)) (F2 : Fn w g mg "_escape_attrib_html" d (PEsc escK2)) (F3 : Fn w g mg "_escape_cdata_c14n" d (PEsc escK3)) (F4 : Fn w g mg "_escape_attrib_c14n" d (PEsc escK4))
    (hA : A.handled = none) (hd : A.depth + d < recursionLimit) {k : Nat} (hk : k < 5) {page : Str} (hp : page.length ≤ 16) :
    Ex w g A scWritten [("kind", .sc (.int k)), ("page", .sc (.str page))] none (bodyOf sWritten) (.ret (.sc (.str (escOf k page)))) := by
  have hit : ∀ {i : Int} {c : Bool} {n : Nat} {p p1 p2 : Pos}, ((k : Int) == i) = c → Tr w g A scWritten [("kind", .sc (.int k)), ("page", .sc (.str page))] (.Compare (.Name "kind" p) [.Eq] [.Constant (.int i) n p1] p2) c := fun h => Tr.cast (Tr.cmp (Ev.var rfl) Ev.int Op2.eqI) h
  match k, hk with
  | 0, _ => exact Ex.ret (ExS.ite (c := true) (hit rfl) (fun _ => Ex.ret (ExS.ret (Ev.callF G F0 hA hd (EvArgs.cons (Ev.var rfl) EvArgs.nil) ⟨page, rfl, hp, rfl⟩))) fun h => nomatch h)
  | 1, _ => exact Ex.cons (ExS.ite (c := false) (hit rfl) (fun h => nomatch h) fun _ => Ex.nil) (Ex.ret (ExS.ite (c := true) (hit rfl) (fun _ => Ex.ret (ExS.ret (Ev.callF G F1 hA hd (EvArgs.cons (Ev.var rfl) EvArgs.nil) ⟨page, rfl, hp, rfl⟩))) fun h => nomatch h))
  | 2, _ => exact Ex.cons (ExS.ite (c := false) (hit rfl) (fun h => nomatch h) fun _ => Ex.nil) (Ex.cons (ExS.ite (c := false) (hit rfl) (fun h => nomatch h) fun _ => Ex.nil) (Ex.ret (ExS.ite (c := true) (hit rfl) (fun _ => Ex.ret (ExS.ret (Ev.callF G F2 hA hd (EvArgs.cons (Ev.var rfl) EvArgs.nil) ⟨page, rfl, hp, rfl⟩))) fun h => nomatch h)))
  | 3, _ => exact Ex.cons (ExS.ite (c := false) (hit rfl) (fun h => nomatch h) fun _ => Ex.nil) (Ex.cons (ExS.ite (c := false) (hit rfl) (fun h => nomatch h) fun _ => Ex.nil) (Ex.cons (ExS.ite (c := false) (hit rfl) (fun h => nomatch h) fun _ => Ex.nil) (Ex.ret (ExS.ite (c := true) (hit rfl) (fun _ => Ex.ret (ExS.ret (Ev.callF G F3 hA hd (EvArgs.cons (Ev.var rfl) EvArgs.nil) ⟨page, rfl, hp, rfl⟩))) fun h => nomatch h))))
  | 4, _ => exact Ex.cons (ExS.ite (c := false) (hit rfl) (fun h => nomatch h) fun _ => Ex.nil) (Ex.cons (ExS.ite (c := false) (hit rfl) (fun h => nomatch h) fun _ => Ex.nil) (Ex.cons (ExS.ite (c := false) (hit rfl) (fun h => nomatch h) fun _ => Ex.nil) (Ex.cons (ExS.ite (c := false) (hit rfl) (fun h => nomatch h) fun _ => Ex.nil) (Ex.ret (ExS.ret (Ev.callF G F4 hA hd (EvArgs.cons (Ev.var rfl) EvArgs.nil) ⟨page, rfl, hp, rfl⟩))))))
end
end Mine
end
section
open PySem PySem.W PyProof.Rows
set_option maxRecDepth 100000
set_option Elab.async false
set_option maxHeartbeats 1000000
namespace Mine
noncomputable abbrev sB1 : Stmt := nthS 2 pw.main.body
noncomputable abbrev scB1 : Scope := scopeOf sB1 pw.main.scope
section
variable {w : World} {g : Heap} {A : Around} {mg mb : Str → Option Value}
theorem setOf_keep {h h' : Heap} {a : Addr} {S : Int → Bool} {n : Nat} (x : h.SetOf (PySem.intKind pw w) a S n) (k : ∀ b o, h.get? b = some o → h'.get? b = some o) : h'.SetOf (PySem.intKind pw w) a S n := by
  obtain ⟨o, es, ep, t, h1, r⟩ := x
  exact ⟨o, es, ep, t, k _ _ h1, r⟩
theorem b1_body (G : Gd w g mg mb) {a : Addr} {S : Int → Bool} {n : Nat} (hv : mg "b1_set" = some (.ref a)) (hS : g.SetOf (PySem.intKind pw w) a S n) {c : Nat} :
    Ex w g A scB1 [("code", .sc (.str ⟨#[c]⟩))] none (bodyOf sB1) (.ret (.sc (.bool (S c)))) := by
  refine Ex.ret (ExS.ret (.mk fun env s Q E I hk1 k => ?_))
  refine wpAny_Compare1 ((Ev.callB (ρ := [("code", .sc (.str ⟨#[c]⟩))]) (sc := scB1) G rfl (EvArgs.cons (Ev.var rfl) EvArgs.nil) (CallOp.ord (c := c))).run env s _ E I hk1 fun u h1 t1 j1 G1 R1 n1 => ?_) (by rfl)
  obtain ⟨t, rfl⟩ := R1
  have I1 := I.grow G1
  have hkd : env.scope.kind = .function := I.scp ▸ I.kind
  have hx : env.kindOf "b1_set" = some .globalImplicit := by show env.scope.names.lookup _ = _; rw [I.scp]; rfl
  have hg : h1.Ns env.globals mg := I.glob ▸ G.T.gns.keeps I1.keep
  refine PySem.Calls.Name_function_global hkd hx (PySem.Calls.loadGlobal_global (s := { s with heap := h1, toks := t1 }) hg hv ?_) (by decide)
  refine wpAny_inSet_of (s := { s with heap := h1, toks := t1 }) (knd := PySem.intKind pw w) (k := (c : Int)) (by first | exact intKind_is pw w _ _ | (show Value.isInt _ _ = true; simp [Value.isInt])) (by rfl) (setOf_keep hS I1.keep) ?_
  exact k (.bool _) h1 (t1 + 1) (by omega) G1 rfl (by nofun)
end
end Mine
end
section
open PySem PySem.W PyProof.Rows
set_option maxRecDepth 100000
set_option Elab.async false
set_option maxHeartbeats 1000000
namespace Mine
noncomputable abbrev sB3 : Stmt := nthS 4 pw.main.body
noncomputable abbrev scB3 : Scope := scopeOf sB3 pw.main.scope
/-- what the dict at a holds: texts, by the table b3 -/
structure B3At (w : World) (g : Heap) (a : Addr) (b3 : Nat → Option Str) : Prop where
  at_ : ∃ kvs : List (Int × Value), g.DictOf (PySem.intKind pw w) a kvs ∧ ∀ c : Nat, (∀ x, b3 c = some x → ∃ t, valueAt kvs (c : Int) = some (.str x t)) ∧ (b3 c = none → valueAt kvs (c : Int) = none)
  plain : ∃ ob, g.get? a = some ob ∧ ob.dict = none
  ne : (a == sysModules) = false
section
variable {w : World} {g : Heap} {A : Around} {mg mb : Str → Option Value}
theorem dictOf_keepI {h h' : Heap} {a : Addr} {kvs : List (Int × Value)} (hd : h.DictOf (PySem.intKind pw w) a kvs) (k : ∀ b o, h.get? b = some o → h'.get? b = some o) : h'.DictOf (PySem.intKind pw w) a kvs := by
  obtain ⟨o, es, ep, h1, h2⟩ := hd
  exact ⟨o, es, ep, k _ _ h1, h2⟩
theorem b3_get (G : Gd w g mg mb) {a : Addr} {b3 : Nat → Option Str} (hv : mg "b3_exceptions" = some (.ref a)) (hB : B3At w g a b3) {c : Nat} {p1 p2 p3 p4 p5 p6 : Pos} (hline : (p2.endLine == p6.line) = true) :
    Ev w g A scB3 [("code", .sc (.str ⟨#[c]⟩))] (.Call (.Attribute (.Name "b3_exceptions" p1) "get" p2) [.Call (.Name "ord" p3) [.Name "code" p4] [] p5] [] p6) (.sc (match b3 c with | some x => .str x | none => .none)) := .mk fun env s Q E I hk1 k => by
  have hkd : env.scope.kind = .function := I.scp ▸ I.kind
  have hx : env.kindOf "b3_exceptions" = some .globalImplicit := by show env.scope.names.lookup _ = _; rw [I.scp]; rfl
  have hg : s.heap.Ns env.globals mg := I.glob ▸ G.T.gns.keeps I.keep
  refine wpAny_Call_method_lateS (by rfl) (by rfl) hline (PySem.Calls.Name_function_global hkd hx (PySem.Calls.loadGlobal_global hg hv ?_) (by decide))
  obtain ⟨kvs, hD, hkv⟩ := hB.at_
  refine ⟨"dict", "dict.get", F.plainAttrs_dict, PySem.F.slot_dict_get, PySem.F.type_dict_get, (dictOf_keepI hD I.keep).mapOf.typeIs, (fun b e => by cases e; obtain ⟨ob, h1, h2⟩ := hB.plain; exact ⟨ob, I.keep _ _ h1, h2⟩), ?_⟩
  refine wpAny_dict_get1 (knd := PySem.intKind pw w) hB.ne ?_
  refine (Ev.callB (ρ := [("code", .sc (.str ⟨#[c]⟩))]) (sc := scB3) G rfl (EvArgs.cons (Ev.var rfl) EvArgs.nil) (CallOp.ord (c := c))).run env s _ E I hk1 fun u h1 t1 j1 G1 R1 n1 => ?_
  obtain ⟨t, rfl⟩ := R1
  refine ⟨(c : Int), valueAt kvs, intKind_is pw w _ _, (dictOf_keepI (dictOf_keepI hD I.keep) G1.keep).mapOf, ?_⟩
  obtain ⟨h2, h3⟩ := hkv c
  refine k _ h1 (t1 + 1) (by omega) G1 ?_ ?_
  · cases hb : b3 c with
    | none => rw [h3 hb]; rfl
    | some x => obtain ⟨t', e⟩ := h2 x hb; rw [e]; exact ⟨t', rfl⟩
  · cases hb : b3 c with
    | none => rw [h3 hb]; nofun
    | some x => obtain ⟨t', e⟩ := h2 x hb; rw [e]; nofun
theorem Op2.isNotNoneS {x : Str} : Op2 w A (compareOp .IsNot) (.sc (.str x)) (.sc .none) (.sc (.bool true)) := fun L s u v Q E _ ⟨t, hu⟩ hv _ _ hk1 k => by
  cases hv; subst hu
  exact isNot_none (k (.bool true) s.heap s.toks hk1 (.refl _ _) rfl (by nofun))
theorem Op2.isNotNoneN : Op2 w A (compareOp .IsNot) (.sc .none) (.sc .none) (.sc (.bool false)) := fun L s u v Q E _ hu hv _ _ hk1 k => by
  cases hv; cases hu
  exact isNot_none (k (.bool false) s.heap s.toks hk1 (.refl _ _) rfl (by nofun))
noncomputable def folded (b3 : Nat → Option Str) (c : Nat) : Str := (b3 c).getD (Txt.lower ⟨#[c]⟩)
theorem b3_body (G : Gd w g mg mb) {a : Addr} {b3 : Nat → Option Str} (hv : mg "b3_exceptions" = some (.ref a)) (hB : B3At w g a b3) {c : Nat} :
    Ex w g A scB3 [("code", .sc (.str ⟨#[c]⟩))] none (bodyOf sB3) (.ret (.sc (.str (folded b3 c)))) := by
  cases hb : b3 c with
  | some x =>
    refine Ex.cons (ExS.assign (pv := .sc (.str x)) (Ev.cast (b3_get G hv hB rfl) (by rw [hb])) (.inl rfl)) ?_
    refine Ex.ret (ExS.ite (c := true) (Tr.cmp (Ev.var rfl) Ev.noneC Op2.isNotNoneS) (fun _ => Ex.ret (ExS.ret (Ev.cast (Ev.var rfl) (by unfold folded; rw [hb]; rfl)))) fun h => nomatch h)
  | none =>
    refine Ex.cons (ExS.assign (pv := .sc .none) (Ev.cast (b3_get G hv hB rfl) (by rw [hb])) (.inl rfl)) ?_
    refine Ex.cons (ExS.ite (c := false) (Tr.cmp (Ev.var rfl) Ev.noneC Op2.isNotNoneN) (fun h => nomatch h) fun _ => Ex.nil) ?_
    exact Ex.ret (ExS.ret (Ev.cast (Ev.methS (x := ⟨#[c]⟩) (Ev.var rfl) EvArgs.nil PySem.F.slot_str_lower PySem.F.type_str_lower (CallOp.lower (by show 1 ≤ _; decide))) (by unfold folded; rw [hb]; rfl)))
end
end Mine
end
section
open PySem PySem.W PyProof.Rows
set_option maxRecDepth 100000
set_option Elab.async false
namespace Mine
section
variable {prog : Program} {w : World} {A : Around} {E : Value → Shared → Prop} {s : Shared}

theorem nextOf_tuple_item {it t : Addr} {i : Nat} {items : Array Value} {x : Value} {Q : Value → Shared → Prop} (hit : s.heap.IsTupleIter it t i)
    (ht : s.heap.IsTuple t items) (hx : items[i]? = some x)
    (hQ : ∀ h', h'.IsTupleIter it t (i + 1) → Heap.SameBut it s.heap h' → Q x { s with heap := h' }) :
    wpAny (model prog w) A (Builtin.SmallTypes.nextOf (.ref it)) Q E s := by
  obtain ⟨o, ho, hc, hd⟩ := id hit
  obtain ⟨ol, hol, _, nl, hdl⟩ := ht
  unfold Builtin.SmallTypes.nextOf
  refine wpAny_bind (wpAny_callSpecial?_slot (name := Str.ofString "__next__") hit.typeIs PySem.F.slot_tuple_iterator_next
    (wpAny_call_entry PySem.F.slot_tuple_iterator_next hit.typeIs PySem.F.entry_tuple_iterator_next ?_ (PySem.F.args_tuple_iterator_next_1 _)))
  show wpAny _ _ (field (.ref it) 0 >>= _) _ _ s
  refine wpAny_bind (wpAny_field ho hd (x := .ref t) rfl ?_)
  show wpAny _ _ (if (Value.ref t == Value.none) = true then _ else _) _ _ s
  rw [if_neg (show ¬ ((Value.ref t == Value.none) = true) from Bool.false_ne_true)]
  show wpAny _ _ (field (.ref it) 1 >>= _) _ _ s
  refine wpAny_bind (wpAny_field ho hd (x := .int i 0) rfl ?_)
  show wpAny _ _ (seqItems? (.ref t) >>= _) _ _ s
  refine wpAny_bind (wpAny_seqItems hol hdl ?_)
  simp only [Int.toNat_natCast, hx]
  refine wpAny_bind (wpAny_setField ho hd (by simp) (wpAny_pure ⟨x, rfl, wpAny_pure (hQ _ ?_ (Heap.SameBut.update ..))⟩))
  exact ⟨_, Heap.get?_update_self _ ho (Obj.isFreed_of_fields (Obj.data_mapFields hd _)), (Obj.cls_mapFields ..).trans hc, by
    rw [Obj.data_mapFields hd]; simp [rawInt]⟩

theorem nextOf_tuple_end {it t : Addr} {i : Nat} {items : Array Value} {Q : Value → Shared → Prop} (hh : A.handled = none)
    (hit : s.heap.IsTupleIter it t i) (ht : s.heap.IsTuple t items) (hx : items[i]? = none)
    (hE : ∀ h' e, Heap.ExtBut it s.heap h' → (∃ o, h'.get? e = some o ∧ o.cls = .type "StopIteration") → E (.ref e) { s with heap := h' }) :
    wpAny (model prog w) A (Builtin.SmallTypes.nextOf (.ref it)) Q E s := by
  obtain ⟨o, ho, hc, hd⟩ := id hit
  obtain ⟨ol, hol, _, nl, hdl⟩ := ht
  unfold Builtin.SmallTypes.nextOf
  refine wpAny_bind (wpAny_callSpecial?_slot (name := Str.ofString "__next__") hit.typeIs PySem.F.slot_tuple_iterator_next
    (wpAny_call_entry PySem.F.slot_tuple_iterator_next hit.typeIs PySem.F.entry_tuple_iterator_next ?_ (PySem.F.args_tuple_iterator_next_1 _)))
  show wpAny _ _ (field (.ref it) 0 >>= _) _ _ s
  refine wpAny_bind (wpAny_field ho hd (x := .ref t) rfl ?_)
  show wpAny _ _ (if (Value.ref t == Value.none) = true then _ else _) _ _ s
  rw [if_neg (show ¬ ((Value.ref t == Value.none) = true) from Bool.false_ne_true)]
  show wpAny _ _ (field (.ref it) 1 >>= _) _ _ s
  refine wpAny_bind (wpAny_field ho hd (x := .int i 0) rfl ?_)
  show wpAny _ _ (seqItems? (.ref t) >>= _) _ _ s
  refine wpAny_bind (wpAny_seqItems hol hdl ?_)
  simp only [Int.toNat_natCast, hx]
  refine wpAny_bind (wpAny_rule (wpAny_bind (wpAny_setField ho hd (by simp) ?_)))
  show wpAny _ _ (newExc (.type "StopIteration") [] >>= _) _ _ _
  refine wpAny_bind ?_
  simp only [newExc, newTuple]
  refine wpAny_bind (wpAny_newObj_type ?_ (by size_fits))
  refine wpAny_bind (m := firstArgMember _ _) (wpAny_of_eq (a := Value.none) (by first | rfl | (simp only [firstArgMember]; rfl)) ?_)
  refine wpAny_newObj_type ?_ (by size_fits)
  simp only [raiseNew]
  refine wpAny_bind (wpAny_handled ?_)
  first | rw [show A.in1.handled = none from hh] | rw [hh]
  refine wpAny_bind (wpAny_pure (wpAny_throw ?_))
  exact hE _ _ (((Heap.SameBut.update ..).extBut.push _).push _) ⟨_, Heap.get?_push_size _ rfl, rfl⟩
end
theorem tuple_at {h h' : Heap} {a : Addr} {items : Array Value} (x : h.IsTuple a items) (k : ∀ o, h.get? a = some o → h'.get? a = some o) : h'.IsTuple a items :=
  let ⟨o, ho, r⟩ := x; ⟨o, k o ho, r⟩
theorem tupIter_at {h h' : Heap} {a t : Addr} {i : Nat} (x : h.IsTupleIter a t i) (k : ∀ o, h.get? a = some o → h'.get? a = some o) : h'.IsTupleIter a t i :=
  let ⟨o, ho, r⟩ := x; ⟨o, k o ho, r⟩
theorem Draws.tuple {prog : Program} {w : World} {A : Around} (hh : A.handled = none) (it l : Addr) (hne : l ≠ it) (items : Array Value) :
    Draws prog w A it [it, l] items.size (fun i v => items[i]? = some v) (fun i h => h.IsTupleIter it l i ∧ h.IsTuple l items) where
  live := fun _ _ st => let ⟨o, ho, _⟩ := st.1; ⟨o, ho⟩
  frame := fun _ _ _ st hk => ⟨tupIter_at st.1 fun o e => hk it (by simp) o e, tuple_at st.2 fun o e => hk l (by simp) o e⟩
  item := fun i s Q E hi st hQ => by
    refine nextOf_tuple_item st.1 st.2 (x := items[i]) (by simp [hi]) fun h' hit' hs' => ?_
    exact hQ _ h' s.toks (by simp [hi]) ⟨hit', st.2.extBut hs'.extBut hne⟩ hs'
  done := fun s Q E st hE => nextOf_tuple_end hh st.1 st.2 (by simp) hE
end Mine
end
section
open PySem PySem.W PyProof.Rows
set_option maxRecDepth 100000
set_option Elab.async false
namespace Mine

structure ZApart (z TI TO i1 i2 : Addr) (fp1 fp2 : List Addr) : Prop where
  TIz : TI ≠ z
  TOz : TO ≠ z
  i1z : i1 ≠ z
  i2z : i2 ≠ z
  TITO : TI ≠ TO
  TIi1 : TI ≠ i1
  TIi2 : TI ≠ i2
  TOi1 : TO ≠ i1
  TOi2 : TO ≠ i2
  zf1 : z ∉ fp1
  zf2 : z ∉ fp2
  Tf1 : TO ∉ fp1
  Tf2 : TO ∉ fp2
  i1f2 : i1 ∉ fp2
  i2f1 : i2 ∉ fp1
section
variable {prog : Program} {w : World} {A : Around} {E : Value → Shared → Prop} {s : Shared}

theorem zip_next_itemD {z TI TO i1 i2 : Addr} {fp1 fp2 : List Addr} {n1 n2 i : Nat} {P1 P2 : Nat → Value → Prop} {St1 St2 : Nat → Heap → Prop} {a b : Value} {Q : Value → Shared → Prop} (Z : ZApart z TI TO i1 i2 fp1 fp2)
    (D1 : Draws prog w A i1 fp1 n1 P1 St1) (D2 : Draws prog w A i2 fp2 n2 P2 St2)
    (hz : IsZip s.heap z TI TO .none) (hTI : IsPair s.heap TI (.ref i1) (.ref i2)) (hTO : IsPair s.heap TO a b)
    (h1 : St1 i s.heap) (h2 : St2 i s.heap) (hx : i < n1) (hy : i < n2)
    (hQ : ∀ x y h' tk, P1 i x → P2 i y → IsZip h' z TI TO (rawInt s.heap.objs.size) → IsPair h' TO x y → St1 (i + 1) h' → St2 (i + 1) h' → IsPair h' s.heap.objs.size x y → h'.objs.size = s.heap.objs.size + 1 →
      (∀ c o, c ≠ z → c ≠ TO → c ≠ i1 → c ≠ i2 → s.heap.get? c = some o → h'.get? c = some o) → Q (.ref s.heap.objs.size) { s with heap := h', toks := tk }) :
    wpAny (model prog w) A (Builtin.«zip.__next__» ⟨[.ref z], []⟩) (fun fin s' => ∃ v, fin = .done (.ret v) ∧ Q v s') E s := by
  show wpAny _ _ (field (.ref z) 2 >>= _) _ _ _
  refine wpAny_bind (wpAny_field hz rfl (x := .bool false) rfl ?_)
  show wpAny _ _ (field (.ref z) 3 >>= _) _ _ _
  refine wpAny_bind (wpAny_field hz rfl (x := .ref TI) rfl ?_)
  refine wpAny_bind (wpAny_seqItems hTI rfl ?_)
  show wpAny _ _ (Builtin.SmallTypes.ownedTupleIsFree (.ref z) >>= _) _ _ _
  refine wpAny_bind ?_
  unfold Builtin.SmallTypes.ownedTupleIsFree
  refine wpAny_bind (wpAny_field hz rfl (x := .none) rfl (wpAny_pure ?_))
  simp only [if_true]
  refine wpAny_bind (wpAny_rule ?_)
  refine wpAny_bind (wpAny_field hz rfl (x := .ref TO) rfl ?_)
  refine wpAny_bind (wpAny_setField_rec hz (by simp) fun h₁ hz₁ hs₁ => ?_)
  replace hz₁ : IsZip h₁ z TI TO .ellipsis := hz₁
  refine wpAny_bind ?_
  simp only [List.zipIdx_cons, List.zipIdx_nil, List.forIn_cons, List.forIn_nil]
  refine wpAny_bind (wpAny_bind (wpAny_onRaise ?_))
  show wpAny _ _ (Builtin.SmallTypes.nextOf (.ref i1) >>= _) _ _ _
  refine wpAny_bind (D1.item i _ _ _ hx (D1.frame _ _ _ h1 fun c hc o e => hs₁.extBut _ _ (fun q => Z.zf1 (q ▸ hc)) e) fun x h₂ tk₂ hPx h1₂ hs₂ => wpAny_pure ?_)
  replace hs₂ : Heap.SameBut i1 h₁ h₂ := hs₂
  have hTO₂ : IsPair h₂ TO a b := hs₂.extBut _ _ Z.TOi1 (hs₁.extBut _ _ Z.TOz hTO)
  refine wpAny_bind (wpAny_seqItems hTO₂ rfl ?_)
  refine wpAny_bind (wpAny_updateSeq_pair hTO₂ fun h₃ hTO₃ hs₃ => ?_)
  replace hTO₃ : IsPair h₃ TO x b := hTO₃
  replace hs₃ : Heap.SameBut TO h₂ h₃ := hs₃
  refine wpAny_bind (wpAny_letGo (wpAny_pure ?_))
  refine wpAny_bind (wpAny_bind (wpAny_onRaise ?_))
  show wpAny _ _ (Builtin.SmallTypes.nextOf (.ref i2) >>= _) _ _ _
  refine wpAny_bind (D2.item i _ _ _ hy (D2.frame _ _ _ h2 fun c hc o e => hs₃.extBut _ _ (fun q => Z.Tf2 (q ▸ hc)) (hs₂.extBut _ _ (fun q => Z.i1f2 (q ▸ hc)) (hs₁.extBut _ _ (fun q => Z.zf2 (q ▸ hc)) e))) fun y h₄ tk₄ hPy h2₄ hs₄ => wpAny_pure ?_)
  replace hs₄ : Heap.SameBut i2 h₃ h₄ := hs₄
  have hTO₄ : IsPair h₄ TO x b := hs₄.extBut _ _ Z.TOi2 hTO₃
  refine wpAny_bind (wpAny_seqItems hTO₄ rfl ?_)
  refine wpAny_bind (wpAny_updateSeq_pair hTO₄ fun h₅ hTO₅ hs₅ => ?_)
  replace hTO₅ : IsPair h₅ TO x y := hTO₅
  replace hs₅ : Heap.SameBut TO h₄ h₅ := hs₅
  refine wpAny_bind (wpAny_letGo (wpAny_pure (wpAny_pure ?_)))
  refine wpAny_bind (wpAny_seqItems hTO₅ rfl ?_)
  refine wpAny_bind (wpAny_newTuple ?_)
  have hsz : h₅.objs.size = s.heap.objs.size := by rw [hs₅.1, hs₄.1, hs₃.1, hs₂.1, hs₁.1]
  have hz₅ : IsZip h₅ z TI TO .ellipsis := hs₅.extBut _ _ Z.TOz.symm (hs₄.extBut _ _ Z.i2z.symm (hs₃.extBut _ _ Z.TOz.symm (hs₂.extBut _ _ Z.i1z.symm hz₁)))
  have hk₅ : ∀ c o, c ≠ z → c ≠ TO → c ≠ i1 → c ≠ i2 → s.heap.get? c = some o → h₅.get? c = some o := fun c o c1 c2 c3 c4 e =>
    hs₅.extBut _ _ c2 (hs₄.extBut _ _ c4 (hs₃.extBut _ _ c2 (hs₂.extBut _ _ c3 (hs₁.extBut _ _ c1 e))))
  have h1₅ : St1 (i + 1) h₅ := D1.frame _ _ _ h1₂ fun c hc o e => hs₅.extBut _ _ (fun q => Z.Tf1 (q ▸ hc)) (hs₄.extBut _ _ (fun q => Z.i2f1 (q ▸ hc)) (hs₃.extBut _ _ (fun q => Z.Tf1 (q ▸ hc)) e))
  have h2₅ : St2 (i + 1) h₅ := D2.frame _ _ _ h2₄ fun c hc o e => hs₅.extBut _ _ (fun q => Z.Tf2 (q ▸ hc)) e
  have hzlt : z < h₅.objs.size := Heap.lt_size hz₅
  show wpAny _ _ (Builtin.SmallTypes.ownedTupleHandOut (.ref z) (.ref h₅.objs.size) >>= _) _ _ _
  refine wpAny_bind ?_
  unfold Builtin.SmallTypes.ownedTupleHandOut
  have hz₆ : IsZip (h₅.push { cls := .type "tuple", data := .seq #[x, y] }) z TI TO .ellipsis := Heap.get?_push_of_some _ hz₅
  refine wpAny_bind (wpAny_setField_rec hz₆ (by simp) fun h₇ hz₇ hs₇ => ?_)
  replace hz₇ : IsZip h₇ z TI TO (rawInt h₅.objs.size) := hz₇
  refine wpAny_setField_rec hz₇ (by simp) fun h₈ hz₈ hs₈ => ?_
  replace hz₈ : IsZip h₈ z TI TO (rawInt h₅.objs.size) := hz₈
  have up : ∀ c o, c ≠ z → h₅.get? c = some o → h₈.get? c = some o := fun c o c1 e => hs₈.extBut _ _ c1 (hs₇.extBut _ _ c1 (Heap.get?_push_of_some _ e))
  have hT₈ : IsPair h₈ h₅.objs.size x y := hs₈.extBut _ _ (Nat.ne_of_gt hzlt) (hs₇.extBut _ _ (Nat.ne_of_gt hzlt) (Heap.get?_push_size _ rfl))
  have hz8 : h₈.objs.size = h₅.objs.size + 1 := by rw [hs₈.1, hs₇.1, Heap.size_push]
  rw [hsz] at hz₈ hT₈ hz8
  refine wpAny_pure ⟨_, rfl, ?_⟩
  show Q (.ref h₅.objs.size) _
  rw [hsz]
  exact hQ x y h₈ tk₄ hPx hPy hz₈ (up _ _ Z.TOz hTO₅) (D1.frame _ _ _ h1₅ fun c hc o e => up c o (fun q => Z.zf1 (q ▸ hc)) e) (D2.frame _ _ _ h2₅ fun c hc o e => up c o (fun q => Z.zf2 (q ▸ hc)) e) hT₈ hz8 fun c o c1 c2 c3 c4 e => up c o c1 (hk₅ c o c1 c2 c3 c4 e)

theorem zip_next_endD {z TI TO i1 i2 : Addr} {fp1 fp2 : List Addr} {n : Nat} {P1 : Nat → Value → Prop} {St1 : Nat → Heap → Prop} {a b : Value} {Q : Fin → Shared → Prop} (Z : ZApart z TI TO i1 i2 fp1 fp2)
    (D1 : Draws prog w A i1 fp1 n P1 St1)
    (hz : IsZip s.heap z TI TO .none) (hTI : IsPair s.heap TI (.ref i1) (.ref i2)) (hTO : IsPair s.heap TO a b)
    (h1 : St1 n s.heap)
    (hE : ∀ h' e, (∀ c o, c ≠ z → c ≠ TO → c ≠ i1 → c ≠ i2 → s.heap.get? c = some o → h'.get? c = some o) → (∃ o, h'.get? e = some o ∧ o.cls = .type "StopIteration") → E (.ref e) { s with heap := h' }) :
    wpAny (model prog w) A (Builtin.«zip.__next__» ⟨[.ref z], []⟩) Q E s := by
  show wpAny _ _ (field (.ref z) 2 >>= _) _ _ _
  refine wpAny_bind (wpAny_field hz rfl (x := .bool false) rfl ?_)
  show wpAny _ _ (field (.ref z) 3 >>= _) _ _ _
  refine wpAny_bind (wpAny_field hz rfl (x := .ref TI) rfl ?_)
  refine wpAny_bind (wpAny_seqItems hTI rfl ?_)
  show wpAny _ _ (Builtin.SmallTypes.ownedTupleIsFree (.ref z) >>= _) _ _ _
  refine wpAny_bind ?_
  unfold Builtin.SmallTypes.ownedTupleIsFree
  refine wpAny_bind (wpAny_field hz rfl (x := .none) rfl (wpAny_pure ?_))
  simp only [if_true]
  refine wpAny_bind (wpAny_rule ?_)
  refine wpAny_bind (wpAny_field hz rfl (x := .ref TO) rfl ?_)
  refine wpAny_bind (wpAny_setField_rec hz (by simp) fun h₁ hz₁ hs₁ => ?_)
  replace hz₁ : IsZip h₁ z TI TO .ellipsis := hz₁
  refine wpAny_bind ?_
  simp only [List.zipIdx_cons, List.zipIdx_nil, List.forIn_cons, List.forIn_nil]
  refine wpAny_bind (wpAny_bind (wpAny_onRaise ?_))
  show wpAny _ _ (Builtin.SmallTypes.nextOf (.ref i1) >>= _) _ _ _
  refine wpAny_bind (D1.done _ _ _ (D1.frame _ _ _ h1 fun c hc o e => hs₁.extBut _ _ (fun q => Z.zf1 (q ▸ hc)) e) fun h₂ e hs₂ he => ?_)
  replace hs₂ : Heap.ExtBut i1 h₁ h₂ := hs₂
  obtain ⟨oe, hoe, hce⟩ := he
  have hz₂ : IsZip h₂ z TI TO .ellipsis := hs₂ _ _ Z.i1z.symm hz₁
  have hez : e ≠ z := fun x => by subst x; rw [hz₂] at hoe; cases hoe; simp at hce
  exact wpAny_setField_rec hz₂ (by simp) fun h₃ _ hs₃ => hE h₃ e (fun c o c1 _ c3 _ x => hs₃.extBut _ _ c1 (hs₂ _ _ c3 (hs₁.extBut _ _ c1 x))) ⟨oe, hs₃.extBut _ _ hez hoe, hce⟩

theorem pyNext_zip_itemD {z TI TO i1 i2 : Addr} {fp1 fp2 : List Addr} {n1 n2 i : Nat} {P1 P2 : Nat → Value → Prop} {St1 St2 : Nat → Heap → Prop} {a b : Value} {Q : Option Value → Shared → Prop} (Z : ZApart z TI TO i1 i2 fp1 fp2)
    (D1 : Draws prog w A.in1 i1 fp1 n1 P1 St1) (D2 : Draws prog w A.in1 i2 fp2 n2 P2 St2)
    (hz : IsZip s.heap z TI TO .none) (hTI : IsPair s.heap TI (.ref i1) (.ref i2)) (hTO : IsPair s.heap TO a b)
    (h1 : St1 i s.heap) (h2 : St2 i s.heap) (hx : i < n1) (hy : i < n2)
    (hQ : ∀ x y h' tk, P1 i x → P2 i y → IsZip h' z TI TO (rawInt s.heap.objs.size) → IsPair h' TO x y → St1 (i + 1) h' → St2 (i + 1) h' → IsPair h' s.heap.objs.size x y → h'.objs.size = s.heap.objs.size + 1 →
      (∀ c o, c ≠ z → c ≠ TO → c ≠ i1 → c ≠ i2 → s.heap.get? c = some o → h'.get? c = some o) → Q (some (.ref s.heap.objs.size)) { s with heap := h', toks := tk }) :
    wpAny (model prog w) A (pyNext (.ref z)) Q E s := by
  have hT : s.TypeIs (.ref z) "zip" := ⟨_, hz, rfl⟩
  unfold pyNext
  exact wpAny_bind (wpAny_attempt (wpAny_callSpecial?_slot (name := Str.ofString "__next__") hT PySem.F.slot_zip_next
    (wpAny_call_entry PySem.F.slot_zip_next hT PySem.F.entry_zip_next
      (zip_next_itemD Z D1 D2 hz hTI hTO h1 h2 hx hy fun x y h' tk p1 p2 a1 a2 a3 a4 a5 a6 a7 => wpAny_pure (hQ x y h' tk p1 p2 a1 a2 a3 a4 a5 a6 a7)) (PySem.F.args_zip_next_1 _))))
theorem pyNext_zip_endD {z TI TO i1 i2 : Addr} {fp1 fp2 : List Addr} {n : Nat} {P1 : Nat → Value → Prop} {St1 : Nat → Heap → Prop} {a b : Value} {Q : Option Value → Shared → Prop} (Z : ZApart z TI TO i1 i2 fp1 fp2)
    (D1 : Draws prog w A.in1 i1 fp1 n P1 St1)
    (hz : IsZip s.heap z TI TO .none) (hTI : IsPair s.heap TI (.ref i1) (.ref i2)) (hTO : IsPair s.heap TO a b)
    (h1 : St1 n s.heap)
    (hQ : ∀ h', (∀ c o, c ≠ z → c ≠ TO → c ≠ i1 → c ≠ i2 → s.heap.get? c = some o → h'.get? c = some o) → Q none { s with heap := h' }) : wpAny (model prog w) A (pyNext (.ref z)) Q E s := by
  have hT : s.TypeIs (.ref z) "zip" := ⟨_, hz, rfl⟩
  unfold pyNext
  refine wpAny_bind (wpAny_attempt (wpAny_callSpecial?_slot (name := Str.ofString "__next__") hT PySem.F.slot_zip_next
    (wpAny_call_entry PySem.F.slot_zip_next hT PySem.F.entry_zip_next (zip_next_endD Z D1 hz hTI hTO h1 fun h' e hk he => ?_) (PySem.F.args_zip_next_1 _))))
  obtain ⟨o, ho, hc⟩ := he
  refine wpAny_bind (wpAny_isInstance (T := "StopIteration") (b := true) ⟨o, ho, hc⟩ isSubtype_stop ?_)
  exact wpAny_pure (hQ _ hk)

theorem WalksT.zipD {z TI TO i1 i2 : Addr} {fp1 fp2 : List Addr} {n : Nat} {P1 P2 : Nat → Value → Prop} {St1 St2 : Nat → Heap → Prop} (Z : ZApart z TI TO i1 i2 fp1 fp2)
    (D1 : Draws prog w A.in1 i1 fp1 n P1 St1) (D2 : Draws prog w A.in1 i2 fp2 n P2 St2) (hf1 : i1 ∈ fp1) (hf2 : i2 ∈ fp2) :
    WalksT prog w A z (z :: TI :: TO :: (fp1 ++ fp2)) [z, TO, i1, i2] n
      (fun i vals => ∃ x y, P1 i x ∧ P2 i y ∧ vals = #[x, y])
      (fun i h => IsZip h z TI TO .none ∧ IsPair h TI (.ref i1) (.ref i2) ∧ (∃ a b, IsPair h TO a b) ∧ St1 i h ∧ St2 i h)
      (fun i T h => IsZip h z TI TO (rawInt T) ∧ IsPair h TI (.ref i1) (.ref i2) ∧ (∃ a b, IsPair h TO a b) ∧ St1 (i + 1) h ∧ St2 (i + 1) h ∧
        T ≠ z ∧ T ≠ TO ∧ T ≠ i1 ∧ T ≠ i2) where
  sub := fun c hc => by simp at hc ⊢; rcases hc with rfl | rfl | rfl | rfl <;> simp [hf1, hf2]
  frame := fun i h h' hst hk => by
    obtain ⟨hz, hTI, ⟨a, b, hTO⟩, h1, h2⟩ := hst
    exact ⟨hk z (by simp) _ hz, hk TI (by simp) _ hTI, ⟨a, b, hk TO (by simp) _ hTO⟩, D1.frame _ _ _ h1 fun c hc o e => hk c (by simp [hc]) o e, D2.frame _ _ _ h2 fun c hc o e => hk c (by simp [hc]) o e⟩
  item := fun i s Q E hi hst hQ => by
    obtain ⟨hz, hTI, ⟨a, b, hTO⟩, h1, h2⟩ := hst
    refine pyNext_zip_itemD Z D1 D2 hz hTI hTO h1 h2 hi hi fun x y h' tk p1 p2 a1 a2 a3 a4 a5 a6 hk => ?_
    have lt : ∀ {c o}, s.heap.get? c = some o → s.heap.objs.size ≠ c := fun e => Nat.ne_of_gt (Heap.lt_size e)
    exact hQ s.heap.objs.size #[x, y] h' tk ⟨_, _, p1, p2, rfl⟩ (Nat.le_refl _) ⟨_, a5, rfl, _, rfl⟩
      ⟨a1, hk _ _ Z.TIz Z.TITO Z.TIi1 Z.TIi2 hTI, ⟨_, _, a2⟩, a3, a4,
        lt hz, lt hTO, (by obtain ⟨_, e⟩ := D1.live _ _ h1; exact lt e), (by obtain ⟨_, e⟩ := D2.live _ _ h2; exact lt e)⟩
      fun c o hc e => hk c o (fun x => hc (by simp [x])) (fun x => hc (by simp [x])) (fun x => hc (by simp [x])) (fun x => hc (by simp [x])) e
  go := fun elts k pos i T s Q E hm hQ => by
    obtain ⟨hz, hTI, ⟨a, b, hTO⟩, h1, h2, _⟩ := hm
    refine wpAny_letOwnedTupleGo_zip hz fun h' hz' hs' => hQ h' ⟨hz', hs'.extBut _ _ Z.TIz hTI, ⟨a, b, hs'.extBut _ _ Z.TOz hTO⟩, D1.frame _ _ _ h1 fun c hc o e => hs'.extBut _ _ (fun q => Z.zf1 (q ▸ hc)) e, D2.frame _ _ _ h2 fun c hc o e => hs'.extBut _ _ (fun q => Z.zf2 (q ▸ hc)) e⟩ fun c o hc e => hs'.extBut _ _ (fun x => hc (by simp [x])) e
  apart := fun i T h hm hT => by
    obtain ⟨_, _, _, _, _, t1, t2, t3, t4⟩ := hm
    simp at hT
    rcases hT with rfl | rfl | rfl | rfl
    · exact t1 rfl
    · exact t2 rfl
    · exact t3 rfl
    · exact t4 rfl
  done := fun s Q E hst hQ => by
    obtain ⟨hz, hTI, ⟨a, b, hTO⟩, h1, h2⟩ := hst
    exact pyNext_zip_endD Z D1 hz hTI hTO h1 fun h' hk => hQ h' s.toks fun c o hc e =>
      hk c o (fun x => hc (by simp [x])) (fun x => hc (by simp [x])) (fun x => hc (by simp [x])) (fun x => hc (by simp [x])) e
  self := fun i s Q E hst hQ => wpAny_pyIter_zip hst.1 hQ
end

noncomputable abbrev zH1 (h : Heap) (x : Str) (t : Tok) : Heap := h.push { cls := .type "str_ascii_iterator", data := .fields #[.str x t, .int 0 0] }
noncomputable abbrev zH2 (h : Heap) (x : Str) (t : Tok) (l2 : Addr) : Heap := (zH1 h x t).push { cls := .type "tuple_iterator", data := .fields #[.ref l2, .int 0 0] }
noncomputable abbrev zH3 (h : Heap) (x : Str) (t : Tok) (l2 : Addr) : Heap := (zH2 h x t l2).push { cls := .type "tuple", data := .seq #[.ref h.objs.size, .ref (zH1 h x t).objs.size] }
noncomputable abbrev zH4 (h : Heap) (x : Str) (t : Tok) (l2 : Addr) : Heap := (zH3 h x t l2).push { cls := .type "tuple", data := .seq #[.none, .none] }
noncomputable abbrev zH5 (h : Heap) (x : Str) (t : Tok) (l2 : Addr) : Heap := (zH4 h x t l2).push { cls := .type "zip", data := .fields #[.none, .bool false, .bool false, .ref (zH2 h x t l2).objs.size, .ref (zH3 h x t l2).objs.size] }

set_option maxHeartbeats 4000000 in
theorem meets_zip_newST (x : Str) (t : Tok) (l2 : Addr) (ys : Array Value) (ha : x.cps.all (· < 128) = true) :
    Meets (Builtin.«zip.__new__» ⟨[.type "zip", .str x t, .ref l2], []⟩) (fun _ R s => s.heap.IsTuple l2 ys ∧
      R (.ok (.ret (.ref (zH4 s.heap x t l2).objs.size))) { s with heap := zH5 s.heap x t l2 }) :=
  .of_wp fun prog w A R s h => by
    obtain ⟨hp, g, d, tk, os⟩ := s; obtain ⟨hl2, h⟩ := h
    have hsub := sub_zip
    have hL2 : Heap.IsTuple (Shared.heap ⟨hp.push { cls := .type "str_ascii_iterator", data := .fields #[.str x t, .int 0 0] }, g, d, tk, os⟩) l2 ys := Heap.IsTuple.push hl2 _
    wp_walk using wpAny_pyIter_ascii ha, wpAny_pyIter_tuple hL2
    exact ⟨_, rfl, h⟩
section
variable {prog : Program} {w : World} {A : Around} {E : Value → Shared → Prop} {s : Shared}
theorem call_zip_ST {x : Str} {t : Tok} {l2 : Addr} {ys : Array Value} {Q : Value → Shared → Prop} (ha : x.cps.all (· < 128) = true) (hl2 : s.heap.IsTuple l2 ys)
    (h : ∀ h', IsZip h' (s.heap.objs.size + 4) (s.heap.objs.size + 2) (s.heap.objs.size + 3) .none → IsPair h' (s.heap.objs.size + 2) (.ref s.heap.objs.size) (.ref (s.heap.objs.size + 1)) →
      IsPair h' (s.heap.objs.size + 3) .none .none → h'.IsStrIter s.heap.objs.size "str_ascii_iterator" x t 0 → h'.IsTupleIter (s.heap.objs.size + 1) l2 0 → h'.objs.size = s.heap.objs.size + 5 →
      (∀ c o, s.heap.get? c = some o → h'.get? c = some o) → Q (.ref (s.heap.objs.size + 4)) { s with heap := h' }) :
    wpAny (model prog w) A (call (.type "zip") [.str x t, .ref l2]) Q E s := by
  refine callType_new PySem.F.called_zip (by decide) (PySem.F.typeCall_zip_2 _ _) (PySem.F.newCall_zip_2 _ _) (fun obj => PySem.F.args_object_init_3 obj _ _) PySem.F.entry_zip_new
    (meets_zip_newST x t l2 ys ha) ⟨hl2, ?_⟩
  have z1 : (zH1 s.heap x t).objs.size = s.heap.objs.size + 1 := Heap.size_push ..
  have z2 : (zH2 s.heap x t l2).objs.size = s.heap.objs.size + 2 := by rw [Heap.size_push, z1]
  have z3 : (zH3 s.heap x t l2).objs.size = s.heap.objs.size + 3 := by rw [Heap.size_push, z2]
  have z4 : (zH4 s.heap x t l2).objs.size = s.heap.objs.size + 4 := by rw [Heap.size_push, z3]
  have z5 : (zH5 s.heap x t l2).objs.size = s.heap.objs.size + 5 := by rw [Heap.size_push, z4]
  have g5 : (zH5 s.heap x t l2).get? (zH4 s.heap x t l2).objs.size = some _ := Heap.get?_push_size _ rfl
  have g4 : (zH5 s.heap x t l2).get? (zH3 s.heap x t l2).objs.size = some _ := Heap.get?_push_of_some _ (Heap.get?_push_size _ rfl)
  have g3 : (zH5 s.heap x t l2).get? (zH2 s.heap x t l2).objs.size = some _ := Heap.get?_push_of_some _ (Heap.get?_push_of_some _ (Heap.get?_push_size _ rfl))
  have g2 : (zH5 s.heap x t l2).get? (zH1 s.heap x t).objs.size = some _ := Heap.get?_push_of_some _ (Heap.get?_push_of_some _ (Heap.get?_push_of_some _ (Heap.get?_push_size _ rfl)))
  have g1 : (zH5 s.heap x t l2).get? s.heap.objs.size = some _ := Heap.get?_push_of_some _ (Heap.get?_push_of_some _ (Heap.get?_push_of_some _ (Heap.get?_push_of_some _ (Heap.get?_push_size _ rfl))))
  show _ ∧ _
  rw [z2, z3, z4] at g5
  rw [z1, z2] at g3
  rw [z3] at g4
  rw [z1] at g2
  rw [z4]
  exact ⟨⟨_, g5, rfl⟩, h _ g5 g3 g4 ⟨_, g1, rfl, rfl⟩ ⟨_, g2, rfl, rfl⟩ z5 fun c o x =>
    Heap.get?_push_of_some _ (Heap.get?_push_of_some _ (Heap.get?_push_of_some _ (Heap.get?_push_of_some _ (Heap.get?_push_of_some _ x))))⟩

set_option maxHeartbeats 1000000 in
theorem meets_enumerate_newT (l : Addr) (items : Array Value) :
    Meets (Builtin.«enumerate.__new__» ⟨[.type "enumerate", .ref l], []⟩) (fun _ R s => s.heap.IsTuple l items ∧
      R (.ok (.ret (.ref (s.heap.push { cls := .type "tuple_iterator", data := .fields #[.ref l, .int 0 0] }).objs.size)))
        { s with heap := (s.heap.push { cls := .type "tuple_iterator", data := .fields #[.ref l, .int 0 0] }).push { cls := .type "enumerate", data := .fields #[.none, .bool false, .ref s.heap.objs.size, rawInt 0, .none, .none] } }) :=
  .of_wp fun prog w A R s h => by
    obtain ⟨hp, g, d, tk, os⟩ := s; obtain ⟨hl, h⟩ := h
    have hsub := sub_enumerate
    have hL : Heap.IsTuple (Shared.heap ⟨hp, g, d, tk, os⟩) l items := hl
    obtain ⟨o, ho, hc, n, hd⟩ := id hl
    obtain ⟨cls, dd, data, sl⟩ := o
    simp only at hc hd
    subst hc hd
    wp_walk using AutoSeq1.wpAny_loadPart' ho
    refine wpAny_stack_any fun st => wpAny_pure ?_
    split
    · rename_i c _ _ _ _ _
      cases (c == Value.type "enumerate")
      · wp_walk using AutoSeq1.wpAny_loadPart' ho, wpAny_pyIter_tuple hL
        exact ⟨_, rfl, h⟩
      · wp_walk using AutoSeq1.wpAny_loadPart' ho, wpAny_pyIter_tuple hL
        exact ⟨_, rfl, h⟩
    · wp_walk using AutoSeq1.wpAny_loadPart' ho, wpAny_pyIter_tuple hL
      exact ⟨_, rfl, h⟩
theorem call_enumerate_T {l : Addr} {items : Array Value} {Q : Value → Shared → Prop} (hL : s.heap.IsTuple l items)
    (h : ∀ h', IsEnum h' (s.heap.objs.size + 1) s.heap.objs.size 0 .none → h'.IsTupleIter s.heap.objs.size l 0 → h'.objs.size = s.heap.objs.size + 2 →
      (∀ b o, s.heap.get? b = some o → h'.get? b = some o) → Q (.ref (s.heap.objs.size + 1)) { s with heap := h' }) :
    wpAny (model prog w) A (call (.type "enumerate") [.ref l]) Q E s := by
  refine callType_new PySem.F.called_enumerate (by decide) (PySem.F.typeCall_enumerate_1 _) (PySem.F.newCall_enumerate_1 _) (fun obj => PySem.F.args_object_init_2 obj _) PySem.F.entry_enumerate_new
    (meets_enumerate_newT l items) ⟨hL, ?_⟩
  have hz : (s.heap.push { cls := .type "tuple_iterator", data := .fields #[.ref l, .int 0 0] }).objs.size = s.heap.objs.size + 1 := Heap.size_push ..
  show _ ∧ _
  rw [hz]
  have he : IsEnum ((s.heap.push { cls := .type "tuple_iterator", data := .fields #[.ref l, .int 0 0] }).push
      { cls := .type "enumerate", data := .fields #[.none, .bool false, .ref s.heap.objs.size, rawInt 0, .none, .none] }) (s.heap.objs.size + 1) s.heap.objs.size 0 .none := by
    have := Heap.get?_push_size (s.heap.push { cls := .type "tuple_iterator", data := .fields #[.ref l, .int 0 0] })
      (o := { cls := .type "enumerate", data := .fields #[.none, .bool false, .ref s.heap.objs.size, rawInt 0, .none, .none] }) rfl
    rw [hz] at this; exact this
  refine ⟨⟨_, he, rfl⟩, h _ he ⟨_, Heap.get?_push_of_some _ (Heap.get?_push_size _ rfl), rfl, rfl⟩ (by rw [Heap.size_push, hz]) fun b o y => Heap.get?_push_of_some _ (Heap.get?_push_of_some _ y)⟩
end
end Mine
end
section
open PySem PySem.W PyProof.Rows
set_option maxRecDepth 100000
set_option Elab.async false
set_option maxHeartbeats 1000000
namespace Mine
section
variable {w : World} {g : Heap} {A : Around} {sc : Scope} {ρ ρ' : List (Str × PV)} {ow ow' : Option (Str × List Sc)} {mg mb : Str → Option Value} {env : Env}

theorem ne_tup {h : Heap} {L D : Addr} {l : Array Value} (hD : IsTup h D l) (hn : ∃ m, h.Ns L m) : Value.ref D ≠ .ref L := by
  obtain ⟨m, hn⟩ := hn
  obtain ⟨o, h1, _, n, h2⟩ := hD
  intro e; cases e
  obtain ⟨_, _, z⟩ := ns_dict hn h1
  rw [h2] at z; cases z
theorem Op2.addT {xs ys : List Sc} (h1 : xs ≠ []) (h2 : ys ≠ []) (hx : xs.length + ys.length ≤ 100000) : Op2 w A (binaryOp .Add) (.tuple xs) (.tuple ys) (.tuple (xs ++ ys)) := fun L s u v Q E hn ⟨a, vs, hu, ho, hr⟩ ⟨b, us, hv, ho', hr'⟩ _ _ hk1 k => by
  subst hu hv
  have hl := hr.length
  have hl' := hr'.length
  have n1 : vs ≠ [] := fun q => by subst q; exact h1 (List.length_eq_zero_iff.mp hl.symm)
  have n2 : us ≠ [] := fun q => by subst q; exact h2 (List.length_eq_zero_iff.mp hl'.symm)
  obtain ⟨⟨cls, dd, data, sl⟩, ho, hc, n, hd⟩ := id ho
  obtain ⟨⟨cls2, dd2, data2, sl2⟩, ho2, hc2, n2', hd2⟩ := id ho'
  simp only at hc hd hc2 hd2
  subst hc hd hc2 hd2
  have e : vs.toArray ++ us.toArray = (vs ++ us).toArray := by simp
  refine concat_meets ⟨_, ho, rfl⟩ ⟨_, ho2, rfl⟩ noFill_tuple_add seq_tuple_add PySem.F.slot_tuple_add PySem.F.entry_tuple_add (PySem.F.args_tuple_add_2 _ _) (tuple_addW2 a b vs.toArray us.toArray n n2' dd dd2 sl sl2 (by simpa using n1) (by simpa using n2) (by rw [sizeLine_eq]; simp; omega)) ⟨ho, ho2, ?_⟩
  rw [e]
  exact k (.ref _) _ s.toks hk1 (.push _) ⟨_, vs ++ us, rfl, ⟨_, Heap.get?_push_size _ rfl, rfl, 0, rfl⟩, hr.append hr'⟩ (ne_new hn 0)

theorem zip_pairs {xs ys : List Sc} {us vs : List Value} (hx : AllIs xs us) (hy : AllIs ys vs) {i : Nat} {u v : Value} (h1 : us[i]? = some u) (h2 : vs[i]? = some v) :
    ∃ a b, (xs.zip ys)[i]? = some (a, b) ∧ a.Is u ∧ b.Is v := by
  cases ha : xs[i]? with
  | none => rw [hx.none ha] at h1; cases h1
  | some a =>
    cases hb : ys[i]? with
    | none => rw [hy.none hb] at h2; cases h2
    | some b =>
      obtain ⟨u', e1, e2⟩ := hx.get ha
      obtain ⟨v', e3, e4⟩ := hy.get hb
      rw [h1] at e1; cases e1
      rw [h2] at e3; cases e3
      exact ⟨a, b, by simp [List.getElem?_zip_eq_some, ha, hb], e2, e4⟩

theorem isTuple_of {h : Heap} {a : Addr} {l : Array Value} (x : IsTup h a l) : h.IsTuple a l := x
/-- pairs that a comprehension walks -/
noncomputable def SrcP (w : World) (g : Heap) (A : Around) (sc : Scope) (ρ : List (Str × PV)) (iter : Expr) (prs : List (Sc × Sc)) : Prop :=
  ∀ (env : Env) (s : Shared) (K E : Value → Shared → Prop), Inv w g sc env s.heap ρ → 1 ≤ s.toks →
    (∀ I fp wr St Mid h' t', 1 ≤ t' → GrowX env.locals s.heap h' → WalksT pw w A I fp wr prs.length (fun i vals => ∃ a b u v, prs[i]? = some (a, b) ∧ vals = #[u, v] ∧ a.Is u ∧ b.Is v) St Mid → St 0 h' → (∀ b ∈ fp, b < h'.objs.size) → (∀ b ∈ wr, s.heap.get? b = none) →
      K (.ref I) { s with heap := h', toks := t' }) →
    wpAny (model pw w) A (eval iter env) (fun x s₁ => wpAny (model pw w) A (pyIter x) K E s₁) E s
/-- a text and a tuple, walked side by side -/
theorem SrcP.zipST {p pos : Pos} {e1 e2 : Expr} {x : Str} {ys : List Sc} (G : Gd w g mg mb) (hA : A.handled = none) (h1 : Ev w g A sc ρ e1 (.sc (.str x))) (h2 : Ev w g A sc ρ e2 (.tuple ys)) (hx : x.cps.all (· < 128) = true) (hlen : x.cps.size = ys.length)
    (hk : sc.names.lookup ("zip" : Str) = some .globalImplicit := by rfl)
    (hs : ∀ es env, starEach (e1 :: es) env = (false, eval e1 env) :: starEach es env := by intros; rfl) (hs2 : ∀ es env, starEach (e2 :: es) env = (false, eval e2 env) :: starEach es env := by intros; rfl) :
    SrcP w g A sc ρ (.Call (.Name "zip" p) [e1, e2] [] pos) (((signs x).map Sc.str).zip ys) := fun env s K E I hk1 k => by
  refine call_raw (fv := .type "zip") (ps := [.sc (.str x), .tuple ys]) G.T hk (.inr ⟨G.free _ (by decide), (G.bb _ (by decide)).trans rfl⟩) (.inr (.inl ⟨_, rfl⟩)) (EvArgs.cons h1 (EvArgs.cons h2 EvArgs.nil hs2) hs) (by decide) I hk1 fun vs h1 t1 j1 G1 R => ?_
  obtain ⟨_, _, rfl, ⟨⟨t, rfl⟩, _⟩, ⟨a, us, rfl, ho, hr⟩, _⟩ := R.two
  have hl := hr.length
  refine call_zip_ST (s := { s with heap := h1, toks := t1 }) hx (isTuple_of ho) fun h2 hZ hTI hTO hI1 hI2 hsz hk2 => ?_
  refine wpAny_pyIter_zip hZ ?_
  have hnew : ∀ n, s.heap.get? (h1.objs.size + n) = none := fun n => by
    cases e : s.heap.get? (h1.objs.size + n) with
    | none => rfl
    | some o => have := G1.keep _ _ e; rw [new_none] at this; cases this
  have halt : a < h1.objs.size := by obtain ⟨_, e, _⟩ := ho; exact Heap.lt_size e
  have ne : ∀ n m : Nat, n ≠ m → h1.objs.size + n ≠ h1.objs.size + m := fun n m h q => h (Nat.add_left_cancel q)
  have na : ∀ n : Nat, a ≠ h1.objs.size + n := fun n q => by have := halt; rw [q] at this; exact absurd this (Nat.not_lt.mpr (Nat.le_add_right _ _))
  have D1 : Draws pw w A.in1 (h1.objs.size + 0) [h1.objs.size + 0] x.cps.size _ _ := Draws.strAscii (prog := pw) (w := w) (A := A.in1) (by exact hA) (h1.objs.size + 0) x t
  have D2' := Draws.tuple (prog := pw) (w := w) (A := A.in1) (by exact hA) (h1.objs.size + 1) a (na 1) us.toArray
  have e2 : us.toArray.size = x.cps.size := by rw [hlen, ← hl]; simp
  rw [e2] at D2'
  have W := WalksT.zipD (A := A) (z := h1.objs.size + 4) (TI := h1.objs.size + 2) (TO := h1.objs.size + 3) (i1 := h1.objs.size + 0) (i2 := h1.objs.size + 1)
    ⟨ne 2 4 (by decide), ne 3 4 (by decide), ne 0 4 (by decide), ne 1 4 (by decide), ne 2 3 (by decide), ne 2 0 (by decide), ne 2 1 (by decide), ne 3 0 (by decide), ne 3 1 (by decide),
      fun q => ne 4 0 (by decide) (by simpa using q), fun q => by
        rcases List.mem_cons.mp q with q | q
        · exact ne 4 1 (by decide) q
        · exact na 4 (List.mem_singleton.mp q).symm,
      fun q => ne 3 0 (by decide) (by simpa using q), fun q => by
        rcases List.mem_cons.mp q with q | q
        · exact ne 3 1 (by decide) q
        · exact na 3 (List.mem_singleton.mp q).symm,
      fun q => by
        rcases List.mem_cons.mp q with q | q
        · exact ne 0 1 (by decide) q
        · exact na 0 (List.mem_singleton.mp q).symm,
      fun q => ne 1 0 (by decide) (List.mem_singleton.mp q)⟩ D1 D2' (by simp) (by simp)
  have hmem : ∀ b, b ∈ ((h1.objs.size + 4) :: (h1.objs.size + 2) :: (h1.objs.size + 3) :: ([h1.objs.size + 0] ++ [h1.objs.size + 1, a])) → b = h1.objs.size + 4 ∨ b = h1.objs.size + 2 ∨ b = h1.objs.size + 3 ∨ b = h1.objs.size + 0 ∨ b = h1.objs.size + 1 ∨ b = a := by
    intro b hb
    simpa using hb
  refine k (h1.objs.size + 4) _ _ _ _ h2 t1 j1 (G1.trans (.of hk2)) (WalksT.weak W (by simp [signs, hlen]) fun i v hi hp => ?_) ⟨hZ, hTI, ⟨_, _, hTO⟩, hI1, hI2, tuple_at (isTuple_of ho) fun o e => hk2 _ o e⟩ ?_ ?_
  · obtain ⟨x', y', ⟨c, u, hc, rfl⟩, hy, rfl⟩ := hp
    have hcs : AllIs ((signs x).map Sc.str) ((signs x).map fun c => Value.str c u) := by
      generalize signs x = l
      induction l with
      | nil => trivial
      | cons y r ih => exact ⟨⟨u, rfl⟩, ih⟩
    have e1 : ((signs x).map fun c => Value.str c u)[i]? = some (.str ⟨#[c]⟩ u) := by
      have : x.cps.toList[i]? = some c := by rw [Array.getElem?_toList]; exact hc
      simp [signs, this]
    obtain ⟨a', b', z1, z2, z3⟩ := zip_pairs hcs hr e1 (by simpa using hy)
    exact ⟨a', b', _, _, z1, rfl, z2, z3⟩
  · intro b hb
    have hsz : h2.objs.size = h1.objs.size + 5 := hsz
    rw [hsz]
    rcases hmem b hb with rfl | rfl | rfl | rfl | rfl | rfl
    · exact Nat.add_lt_add_left (by decide) _
    · exact Nat.add_lt_add_left (by decide) _
    · exact Nat.add_lt_add_left (by decide) _
    · exact Nat.add_lt_add_left (by decide) _
    · exact Nat.add_lt_add_left (by decide) _
    · exact Nat.lt_of_lt_of_le halt (Nat.le_add_right _ _)
  · intro b hb
    have hb : b = h1.objs.size + 4 ∨ b = h1.objs.size + 3 ∨ b = h1.objs.size + 0 ∨ b = h1.objs.size + 1 := by simpa using hb
    rcases hb with rfl | rfl | rfl | rfl
    · exact hnew 4
    · exact hnew 3
    · exact hnew 0
    · exact hnew 1
noncomputable def numberedL (xs : List Sc) : List (Sc × Sc) := xs.zipIdx.map fun q => (.int q.2, q.1)
theorem SrcP.enumTup {p pos : Pos} {e : Expr} {xs : List Sc} (G : Gd w g mg mb) (hA : A.handled = none) (he : Ev w g A sc ρ e (.tuple xs)) (hk : sc.names.lookup ("enumerate" : Str) = some .globalImplicit := by rfl)
    (hs : ∀ es env, starEach (e :: es) env = (false, eval e env) :: starEach es env := by intros; rfl) :
    SrcP w g A sc ρ (.Call (.Name "enumerate" p) [e] [] pos) (numberedL xs) := fun env s K E I hk1 k => by
  refine call_raw (fv := .type "enumerate") (ps := [.tuple xs]) G.T hk (.inr ⟨G.free _ (by decide), (G.bb _ (by decide)).trans rfl⟩) (.inr (.inl ⟨_, rfl⟩)) (EvArgs.cons he EvArgs.nil hs) (by decide) I hk1 fun vs h1 t1 j1 G1 R => ?_
  obtain ⟨_, rfl, ⟨a, us, rfl, ho, hr⟩, _⟩ := R.one
  have hl := hr.length
  refine call_enumerate_T (s := { s with heap := h1, toks := t1 }) (isTuple_of ho) fun h2 hE hI hsz hk2 => ?_
  refine wpAny_pyIter_enum hE ?_
  have hnew : ∀ n, s.heap.get? (h1.objs.size + n) = none := fun n => by
    cases e : s.heap.get? (h1.objs.size + n) with
    | none => rfl
    | some o => have := G1.keep _ _ e; rw [new_none] at this; cases this
  have halt : a < h1.objs.size := by obtain ⟨_, e, _⟩ := ho; exact Heap.lt_size e
  have na : ∀ n : Nat, a ≠ h1.objs.size + n := fun n q => by have := halt; rw [q] at this; exact absurd this (Nat.not_lt.mpr (Nat.le_add_right _ _))
  have D := Draws.tuple (prog := pw) (w := w) (A := A.in1) (by exact hA) h1.objs.size a (na 0) us.toArray
  have W := WalksT.enumerateD D (h1.objs.size + 1) (Nat.succ_ne_self _) (fun q => by
    rcases List.mem_cons.mp q with q | q
    · exact Nat.succ_ne_self _ q
    · exact na 1 (List.mem_singleton.mp q).symm) (by simp)
  have hmem : ∀ b, b ∈ ((h1.objs.size + 1) :: [h1.objs.size, a]) → b = h1.objs.size + 1 ∨ b = h1.objs.size ∨ b = a := by
    intro b hb
    simpa using hb
  refine k (h1.objs.size + 1) _ _ _ _ h2 t1 j1 (G1.trans (.of hk2)) (WalksT.weak W (by simp [numberedL, hl]) fun i v hi hp => ?_) ⟨⟨_, hE⟩, hI, tuple_at (isTuple_of ho) fun o e => hk2 _ o e⟩ ?_ ?_
  · obtain ⟨t', y, h3, rfl⟩ := hp
    have h3' : us[i]? = some y := by simpa using h3
    cases hx : xs[i]? with
    | none => rw [hr.none hx] at h3'; cases h3'
    | some b =>
      obtain ⟨u, e1, e2⟩ := hr.get hx
      rw [h3'] at e1; cases e1
      exact ⟨.int i, b, _, _, by simp [numberedL, List.getElem?_zipIdx, hx], rfl, ⟨t', rfl⟩, e2⟩
  · intro b hb
    have hsz : h2.objs.size = h1.objs.size + 2 := hsz
    rw [hsz]
    rcases hmem b hb with rfl | rfl | rfl
    · exact Nat.add_lt_add_left (by decide) _
    · exact Nat.lt_add_of_pos_right (by decide)
    · exact Nat.lt_of_lt_of_le halt (Nat.le_add_right _ _)
  · intro b hb
    have hb : b = h1.objs.size + 1 ∨ b = h1.objs.size := by simpa using hb
    rcases hb with rfl | rfl
    · exact hnew 1
    · exact hnew 0
end
end Mine
end
section
open PySem PySem.W PyProof.Rows
set_option maxRecDepth 100000
set_option Elab.async false
set_option maxHeartbeats 1000000
namespace Mine
section
variable {prog : Program} {w : World} {A : Around} {R : Result → Shared → Prop} {s : Shared}
theorem compLoopT {elt iter : Expr} {elts : List Expr} {x1 : Nat} {tp : Pos} {ifs : List Expr} {scope : Scope} {pos : Pos} {it acc : Value} {env : Env} (I : Nat → Shared → Prop)
    (turn : ∀ n s, I n s → wpAny (model prog w) A (pyNext it) (fun r s₁ => match r with
      | none => R (.ok .next) s₁
      | some v => wpAny (model prog w) A (letOwnedTupleGo (.Tuple elts x1 tp) it v) (fun _ s₁' => wpAny (model prog w) A (assign (.Tuple elts x1 tp) env v) (fun _ s₂ =>
          wpAny (model prog w) A (forIn ifs true fun c r => if r = true then do let ok ← PySem.isTrue c env (eval c env); pure (ForInStep.yield ok) else pure (ForInStep.yield r)) (fun ok s₃ =>
            if ok = true then wpAny (model prog w) A (eval elt env) (fun x s₄ =>
              wpAny (model prog w) A (call (.builtin "list.append") [acc, x]) (fun _ s₅ => ∃ m, m < n ∧ I m s₅) (notedBy (model prog w) A env fun e s' => R (.error e) s') s₄) (notedBy (model prog w) A env fun e s' => R (.error e) s') s₃
            else ∃ m, m < n ∧ I m s₃) (notedBy (model prog w) A env fun e s' => R (.error e) s') s₂)
          (notedBy (model prog w) A env fun e s' => R (.error e) s') s₁') (notedBy (model prog w) A env fun e s' => R (.error e) s') s₁) (notedBy (model prog w) A env fun e s' => R (.error e) s') s)
    (n : Nat) (h : I n s) : codeAny (model prog w) A (.compLoop (.ListComp elt [⟨.Tuple elts x1 tp, iter, ifs, 0⟩] scope pos) 0 it acc env) R s := by
  refine codeAny_loop rfl I (fun n s hI => ?_) n h
  show wpAny _ A ((compTurn (.ListComp elt [⟨.Tuple elts x1 tp, iter, ifs, 0⟩] scope pos) 0 it acc env).onRaise (fun x => do noteFrame x env; theTreesLotGoes x)) _ _ s
  refine wpAny_noted ?_
  rw [compTurn_list]
  refine wpAny_bind (wpAny_standAt (wpAny_bind (wpAny_mono (turn n s hI) (fun r s₁ h₁ => ?_) fun _ _ h' => h')))
  cases r with
  | none => exact wpAny_pure h₁
  | some v =>
    refine wpAny_bind (wpAny_mono h₁ (fun _ s₁' h₁' => ?_) fun _ _ h' => h')
    refine wpAny_bind (wpAny_mono h₁' (fun _ s₂ h₂ => wpAny_bind (wpAny_mono h₂ (fun ok s₃ h₃ => ?_) fun _ _ h' => h')) fun _ _ h' => h')
    cases ok with
    | false => exact wpAny_pure ⟨rfl, h₃⟩
    | true =>
      exact wpAny_bind (wpAny_bind (wpAny_mono h₃ (fun x s₄ h₄ => wpAny_bind (wpAny_mono h₄ (fun _ s₅ h₅ => wpAny_pure (wpAny_pure ⟨rfl, h₅⟩)) fun _ _ h' => h')) fun _ _ h' => h'))
theorem compLoopTD {kx vx iter : Expr} {elts : List Expr} {x1 : Nat} {tp : Pos} {ifs : List Expr} {scope : Scope} {pos : Pos} {it : Value} {D : Addr} {env : Env} (I : Nat → Shared → Prop)
    (turn : ∀ n s, I n s → wpAny (model prog w) A (pyNext it) (fun r s₁ => match r with
      | none => R (.ok .next) s₁
      | some v => wpAny (model prog w) A (letOwnedTupleGo (.Tuple elts x1 tp) it v) (fun _ s₁' => wpAny (model prog w) A (assign (.Tuple elts x1 tp) env v) (fun _ s₂ =>
          wpAny (model prog w) A (forIn ifs true fun c r => if r = true then do let ok ← PySem.isTrue c env (eval c env); pure (ForInStep.yield ok) else pure (ForInStep.yield r)) (fun ok s₃ =>
            if ok = true then wpAny (model prog w) A (eval kx env) (fun kv s₄ => wpAny (model prog w) A (eval vx env) (fun vv s₅ =>
              wpAny (model prog w) A (dictSet D kv vv) (fun _ s₆ => ∃ m, m < n ∧ I m s₆) (notedBy (model prog w) A env fun e s' => R (.error e) s') s₅) (notedBy (model prog w) A env fun e s' => R (.error e) s') s₄) (notedBy (model prog w) A env fun e s' => R (.error e) s') s₃
            else ∃ m, m < n ∧ I m s₃) (notedBy (model prog w) A env fun e s' => R (.error e) s') s₂)
          (notedBy (model prog w) A env fun e s' => R (.error e) s') s₁') (notedBy (model prog w) A env fun e s' => R (.error e) s') s₁) (notedBy (model prog w) A env fun e s' => R (.error e) s') s)
    (n : Nat) (h : I n s) : codeAny (model prog w) A (.compLoop (.DictComp kx vx [⟨.Tuple elts x1 tp, iter, ifs, 0⟩] scope pos) 0 it (.ref D) env) R s := by
  refine codeAny_loop rfl I (fun n s hI => ?_) n h
  show wpAny _ A ((compTurn (.DictComp kx vx [⟨.Tuple elts x1 tp, iter, ifs, 0⟩] scope pos) 0 it (.ref D) env).onRaise (fun x => do noteFrame x env; theTreesLotGoes x)) _ _ s
  refine wpAny_noted ?_
  rw [compTurn_dict]
  refine wpAny_bind (wpAny_standAt (wpAny_bind (wpAny_mono (turn n s hI) (fun r s₁ h₁ => ?_) fun _ _ h' => h')))
  cases r with
  | none => exact wpAny_pure h₁
  | some v =>
    refine wpAny_bind (wpAny_mono h₁ (fun _ s₁' h₁' => ?_) fun _ _ h' => h')
    refine wpAny_bind (wpAny_mono h₁' (fun _ s₂ h₂ => wpAny_bind (wpAny_mono h₂ (fun ok s₃ h₃ => ?_) fun _ _ h' => h')) fun _ _ h' => h')
    cases ok with
    | false => exact wpAny_pure ⟨rfl, h₃⟩
    | true =>
      exact wpAny_bind (wpAny_bind (wpAny_mono h₃ (fun kv s₄ h₄ => wpAny_bind (wpAny_holding (wpAny_mono h₄ (fun vv s₅ h₅ => wpAny_bind (wpAny_standAt (wpAny_holding (wpAny_mono h₅ (fun _ s₆ h₆ => wpAny_pure ⟨rfl, h₆⟩) fun _ _ h' => h')))) fun _ _ h' => h'))) fun _ _ h' => h'))
end
section
variable {w : World} {g : Heap} {A : Around} {sc : Scope} {ρ : List (Str × PV)} {mg mb : Str → Option Value}

/-- two plain local targets -/
structure Two (scope : Scope) (x y : Str) : Prop where
  hx : scope.names.lookup x = some .local
  hy : scope.names.lookup y = some .local
  ne : x ≠ y
  cells : ∀ z ∈ scope.names, z.2 ≠ .cell
theorem compInv2 {scope : Scope} {x y : Str} {cl : List (Str × Addr)} {C : Addr} {env : Env} {h₀ h : Heap} {a b : Sc} {u v : Value} {m : Str → Option Value} (I : Inv w g sc env h₀ ρ) (hsc : scope.kind = .function)
    (hfree : ∀ n, (n, NameKind.free) ∈ scope.names → sc.names.lookup n = some .cell ∨ sc.names.lookup n = some .free) (hcl : ∀ y, (y, NameKind.free) ∈ scope.names → cl.lookup y = env.cells.lookup y)
    (hx : Two scope x y) (keep : ∀ b o, h₀.get? b = some o → h.get? b = some o) (hC : h₀.get? C = none) (hm : h.Ns C m) (hmx : m x = some u) (hmy : m y = some v) (hu : a.Is u) (hv : b.Is v) :
    Inv w g (relabelS scope sc) (compEnvM scope cl C env) h ((y, .sc b) :: (x, .sc a) :: freeOf scope ρ) := by
  have I1 := compInv (x := x) (cl := cl) (C := C) (h := h) (a := a) (v := u) I hsc hfree hcl (.loc hx.hx hx.cells) keep hC ⟨m, hm, .inl ⟨hx.hx, fun _ e => by cases e; exact hmx⟩⟩ hu
  refine ⟨I1.scp, I1.kind, I1.glob, I1.blt, I1.keep, I1.off, I1.ns, fun z pv e => ?_⟩
  by_cases hz : (z == y) = true
  · have := eq_of_beq hz
    subst this
    simp at e
    subst e
    refine ⟨v, .inl ⟨?_, m, hm, hmy⟩, hv, sc_ne hv⟩
    show (compEnvM scope cl C env).scope.names.lookup z = _
    rw [I1.scp, relabelS_lookup hx.hy]; rfl
  · have hz' : (z == y) = false := by simpa using hz
    simp only [List.lookup_cons, hz'] at e
    exact I1.vars z pv (by simpa [List.lookup_cons] using e)

theorem store_two {E : Value → Shared → Prop} {scope : Scope} {x y : Str} {px py tp : Pos} {k0 : Nat} {cl : List (Str × Addr)} {C T : Addr} {env : Env} {s : Shared} {u v : Value} {Q : Unit → Shared → Prop} (hA : A.handled = none) (hsc : scope.kind = .function)
    (hx : Two scope x y) (hC : ∃ m, s.heap.Ns C m) (hT : IsTup s.heap T #[u, v]) (hk1 : 1 ≤ s.toks)
    (k : ∀ h' t' m, 1 ≤ t' → (∀ b o, b ≠ C → s.heap.get? b = some o → h'.get? b = some o) → h'.Ns C m → m x = some u → m y = some v → Q () { s with heap := h', toks := t' }) :
    wpAny (model pw w) A (assign (.Tuple [.Name x px, .Name y py] k0 tp) (compEnvM scope cl C env) (.ref T)) Q E s := by
  have hk : ∀ y k, scope.names.lookup y = some k → k ≠ .free → (compEnvM scope cl C env).kindOf y = some k := fun y k hy hne => by
    show (relabelS scope env.scope).names.lookup y = _
    rw [relabelS_lookup hy]
    have : (k == NameKind.free) = false := beq_eq_false_iff_ne.mpr hne
    simp [this]
  have hkf : (compEnvM scope cl C env).scope.kind = .function := hsc
  obtain ⟨m, hm⟩ := hC
  refine assign_Tuple_tuple hA hT rfl rfl fun h1 he => ?_
  have G1 : ∀ b o, s.heap.get? b = some o → h1.get? b = some o := fun b o e => he b o (Nat.ne_of_lt (Heap.lt_size e)) e
  show wpAny _ _ (assignInOrder [PySem.assign (.Name x px) (compEnvM scope cl C env), PySem.assign (.Name y py) (compEnvM scope cl C env)] [u, v]) _ _ _
  refine assignInOrder_cons (wpAny_assign_Name (wpAny_storeName_local (hk x _ hx.hx (by decide)) (hm.keeps G1) (fun h2 hn2 hs2 => ?_) (by rw [hkf]; rfl)))
  refine assignInOrder_cons (wpAny_assign_Name (wpAny_storeName_local (hk y _ hx.hy (by decide)) hn2 (fun h3 hn3 hs3 => ?_) (by rw [hkf]; rfl)))
  refine assignInOrder_nil (k h3 _ _ ?_ (fun b o hb e => hs3.extBut b o hb (hs2.extBut b o hb (G1 b o e))) hn3 ?_ ?_)
  · show 1 ≤ s.toks + 1 + 1; omega
  · simp [hx.ne]
  · simp

noncomputable def compOk2 (scope sc : Scope) (names : List Str) (x y : Str) : Bool :=
  scope.kind == .function && (scope.names.all fun y => y.2 != .local || scope.names.lookup y.1 == some .local)
    && (scope.names.all fun y => y.2 != .free || (names.contains y.1 && (sc.names.lookup y.1 == some .cell || sc.names.lookup y.1 == some .free)))
    && (scope.names.lookup x == some .local && scope.names.lookup y == some .local && x != y && scope.names.all fun y => y.2 != .cell)
theorem compOk2_use {scope : Scope} {x y : Str} (h : compOk2 scope sc (ρ.map (·.1)) x y = true) : scope.kind = .function ∧ (∀ y ∈ scope.names, y.2 = .local → scope.names.lookup y.1 = some .local) ∧
    (∀ n, (n, NameKind.free) ∈ scope.names → (ρ.lookup n).isSome = true ∧ (sc.names.lookup n = some .cell ∨ sc.names.lookup n = some .free)) ∧ Two scope x y := by
  unfold compOk2 at h
  simp only [Bool.and_eq_true, List.all_eq_true, Bool.or_eq_true, bne_iff_ne, beq_iff_eq] at h
  obtain ⟨⟨⟨h1, h2⟩, h3⟩, ⟨⟨h4, h5⟩, h6⟩, h7⟩ := h
  refine ⟨h1, fun y hy e => ?_, fun n hn => ?_, h4, h5, h6, h7⟩
  · rcases h2 y hy with q | q
    · exact absurd e q
    · exact q
  · rcases h3 _ hn with q | ⟨q, r⟩
    · exact absurd rfl q
    · exact ⟨lookup_isSome q, r⟩
end
end Mine
end
section
open PySem PySem.W PyProof.Rows
set_option maxRecDepth 100000
set_option Elab.async false
set_option maxHeartbeats 1000000
namespace Mine
section
variable {w : World} {g : Heap} {A : Around} {sc : Scope} {ρ : List (Str × PV)} {mg mb : Str → Option Value} {ow : Option (Str × List Sc)}
theorem DVals.snoc : ∀ {a : List (Str × Sc)} {b : List (Str × Value)} {k : Str} {x : Sc} {v : Value}, DVals a b → x.Is v → DVals (a ++ [(k, x)]) (b ++ [(k, v)])
  | [], [], _, _, _, _, h => ⟨rfl, h, trivial⟩
  | (_, _) :: _, (_, _) :: _, _, _, _, ⟨e, i, r⟩, h => ⟨e, i, DVals.snoc r h⟩
  | [], _ :: _, _, _, _, h, _ => h.elim
  | _ :: _, [], _, _, _, h, _ => h.elim
theorem DVals.length : ∀ {a : List (Str × Sc)} {b : List (Str × Value)}, DVals a b → b.length = a.length
  | [], [], _ => rfl
  | (_, _) :: _, (_, _) :: _, ⟨_, _, r⟩ => by simp [DVals.length r]
  | [], _ :: _, h => h.elim
  | _ :: _, [], h => h.elim

theorem closureAt {scope : Scope} {env : Env} {h : Heap} (I : Inv w g sc env h ρ) (hfree : ∀ n, (n, NameKind.free) ∈ scope.names → (ρ.lookup n).isSome = true ∧ (sc.names.lookup n = some .cell ∨ sc.names.lookup n = some .free)) :
    ∃ cl, closureFor scope env = pure cl ∧ ∀ y, (y, NameKind.free) ∈ scope.names → cl.lookup y = env.cells.lookup y :=
  closureFor_of (scope := scope) (env := env) fun n hn => by
    obtain ⟨h1, h2⟩ := hfree n hn
    obtain ⟨pv, h1⟩ := Option.isSome_iff_exists.mp h1
    obtain ⟨v, V, _⟩ := I.vars n pv h1
    have hkE : env.kindOf n = sc.names.lookup n := by show env.scope.names.lookup n = _; rw [I.scp]
    rcases V with ⟨q, _⟩ | ⟨_, c, hc, _⟩
    · rw [hkE] at q; rw [q] at h2; rcases h2 with z | z <;> cases z
    · exact ⟨c, hc⟩

theorem EvNew.dictCompP {kx vx iter test : Expr} {x y : Str} {px py tp pos : Pos} {k0 : Nat} {scope : Scope} {prs : List (Sc × Sc)} (G : Gd w g mg mb) (p : Sc × Sc → Bool) (kf : Sc × Sc → Str) (vf : Sc × Sc → Sc)
    (hA : A.handled = none) (hsrc : SrcP w g A sc ρ iter prs) (ok : compOk2 scope sc (ρ.map (·.1)) x y = true) (hlen : prs.length ≤ 100000)
    (htest : ∀ q ∈ prs, Tr w g A (relabelS scope sc) ((y, .sc q.2) :: (x, .sc q.1) :: freeOf scope ρ) test (p q))
    (hkey : ∀ q ∈ prs, p q = true → Ev w g A (relabelS scope sc) ((y, .sc q.2) :: (x, .sc q.1) :: freeOf scope ρ) kx (.sc (.str (kf q))))
    (hval : ∀ q ∈ prs, p q = true → Ev w g A (relabelS scope sc) ((y, .sc q.2) :: (x, .sc q.1) :: freeOf scope ρ) vx (.sc (vf q)))
    (hnd : ((prs.filter p).map kf).Nodup)
    (hs : ∀ env x, foldedSetIterable iter env x = pure x := by intros; rfl) :
    EvNew w g A sc ρ (.DictComp kx vx [⟨.Tuple [.Name x px, .Name y py] k0 tp, iter, [test], 0⟩] scope pos) (.dict ((prs.filter p).map fun q => (kf q, vf q))) := .mk fun env s Q E I hk1 k => by
  obtain ⟨hsc, hnames, hfree, hx⟩ := compOk2_use ok
  obtain ⟨cl, hclo, hclk⟩ := closureAt I hfree
  have hfree' : ∀ n, (n, NameKind.free) ∈ scope.names → sc.names.lookup n = some .cell ∨ sc.names.lookup n = some .free := fun n hn => (hfree n hn).2
  rw [arm_eval_DictComp]
  refine wpAny_comprehension_free (use := none) (g := ⟨.Tuple [.Name x px, .Name y py] k0 tp, iter, [test], 0⟩) (gs := []) rfl (hs env) hclo hsc hnames ?_
  refine hsrc env s _ E I hk1 fun II fp wr St Mid h₂ t₂ j₂ G₂ W hst hfp hwr => ?_
  refine wpAny_newObj_type (newEnvComp ?_)
  have hD0 : ∀ k, s.heap.get? (h₂.objs.size + k) = none := fun k => by
    cases e : s.heap.get? (h₂.objs.size + k) with
    | none => rfl
    | some o => have := G₂.keep _ _ e; rw [new_none] at this; cases this
  generalize hH3 : (h₂.push { cls := .type "dict", dict := none, data := .dict #[] }) = H3
  have hC : H3.objs.size = h₂.objs.size + 1 := by rw [← hH3, Heap.size_push]
  dsimp only
  generalize hH4 : pushCells (H3.push { cls := .type "dict", data := .dict #[] }) scope.names = H4
  show codeAny (model pw w) A (.compStart (.DictComp kx vx [⟨.Tuple [.Name x px, .Name y py] k0 tp, iter, [test], 0⟩] scope pos) 0 (.ref II) (.ref h₂.objs.size) (compEnvM scope cl H3.objs.size env)) (compPost (model pw w) A E none Q (.ref h₂.objs.size) H3.objs.size) { s with heap := H4, toks := t₂ }
  have k23 : ∀ b o, h₂.get? b = some o → H3.get? b = some o := fun b o e => hH3 ▸ Heap.get?_push_of_some _ e
  have k24 : ∀ b o, h₂.get? b = some o → H4.get? b = some o := fun b o e => hH4 ▸ pushCells_keeps _ _ _ _ (Heap.get?_push_of_some _ (k23 b o e))
  have k34 : ∀ b o, H3.get? b = some o → H4.get? b = some o := fun b o e => hH4 ▸ pushCells_keeps _ _ _ _ (Heap.get?_push_of_some _ e)
  have hDL : H4.DictOf (PySem.strKind pw w) h₂.objs.size [] := dictOf_keep (hH3 ▸ Heap.DictOf.new h₂) fun o e => k34 _ o e
  have hCn : ∃ m, H4.Ns H3.objs.size m := by
    rw [← hH4]
    exact ⟨_, (Heap.Ns.new H3 (.type "dict")).keeps (pushCells_keeps _ _)⟩
  have hfD : ∀ b ∈ fp, b ≠ h₂.objs.size ∧ b ≠ H3.objs.size := fun b hb => by
    have := hfp b hb
    refine ⟨Nat.ne_of_lt this, ?_⟩
    rw [hC]; exact Nat.ne_of_lt (Nat.lt_succ_of_lt this)
  have hwD : ∀ b ∈ wr, b ≠ h₂.objs.size ∧ b ≠ H3.objs.size := fun b hb => hfD b (W.sub b hb)
  have hnD : s.heap.get? h₂.objs.size = none := hD0 0
  have hnC : s.heap.get? H3.objs.size = none := by rw [hC]; exact hD0 1
  have hDC : h₂.objs.size ≠ H3.objs.size := by rw [hC]; exact Nat.ne_of_lt (Nat.lt_succ_self _)
  have hsys : h₂.objs.size ≠ sysModules := by
    obtain ⟨mc, hb, _⟩ := G.T.book
    have h1 := ((hb.keeps I.keep).keeps G₂.keep).lt
    intro q
    rw [q] at h1
    exact absurd h1 (by decide)
  have loop : ∀ (h : Heap), (h = H4) → codeAny (model pw w) A (.compLoop (.DictComp kx vx [⟨.Tuple [.Name x px, .Name y py] k0 tp, iter, [test], 0⟩] scope pos) 0 (.ref II) (.ref h₂.objs.size) (compEnvM scope cl H3.objs.size env)) (compPost (model pw w) A E none Q (.ref h₂.objs.size) H3.objs.size) { s with heap := h, toks := t₂ } := by
    rintro h rfl
    refine compLoopTD
      (fun n s' => ∃ h tk i vs, s' = { s with heap := h, toks := tk } ∧ 1 ≤ tk ∧ i ≤ prs.length ∧ n = prs.length - i ∧ St i h ∧ h.DictOf (PySem.strKind pw w) h₂.objs.size vs ∧ DVals (((prs.take i).filter p).map fun q => (kf q, vf q)) vs ∧ (∃ m, h.Ns H3.objs.size m) ∧
        (∀ b o, s.heap.get? b = some o → h.get? b = some o)) ?_ prs.length
      ⟨h, t₂, 0, [], rfl, j₂, Nat.zero_le _, rfl, W.frame _ _ _ hst fun b _ o e => k24 b o e, hDL, by simp [DVals], hCn, fun b o e => k24 _ _ (G₂.keep _ _ e)⟩
    rintro n s' ⟨h, tk0, i, vs, rfl, j0, hi, rfl, hSt, hL, hAll, hSl, hk⟩
    have hlenvs : vs.length ≤ prs.length := by
      rw [hAll.length, List.length_map]
      exact Nat.le_trans (List.length_filter_le _ _) (by simp; omega)
    rcases Nat.lt_or_eq_of_le hi with hlt | rfl
    · refine tk (s := { s with heap := h, toks := tk0 }) j0 (W.item i { s with heap := h, toks := tk0 } _ _ hlt hSt fun T vals h1 t1 hP hTs hT hM hk1 j1 => ?_)
      obtain ⟨a, b, u, v, hab, rfl, hau, hbv⟩ := hP
      have hmem : (a, b) ∈ prs := List.mem_of_getElem? hab
      refine W.go _ _ _ i T { s with heap := h1, toks := t1 } _ _ hM fun h2' hSt2 hk2 => ?_
      have hT2 : IsTup h2' T #[u, v] := by
        obtain ⟨o, e1, e2⟩ := hT
        exact ⟨o, hk2 T o (W.apart i T h1 hM) e1, e2⟩
      have up2 : ∀ b o, b ∉ wr → h.get? b = some o → h2'.get? b = some o := fun b o hb e => hk2 b o hb (hk1 b o hb e)
      have keep2 : ∀ b o, s.heap.get? b = some o → h2'.get? b = some o := fun b o e => up2 b o (fun hb => by have := hwr b hb; rw [e] at this; cases this) (hk b o e)
      have hL2 : h2'.DictOf (PySem.strKind pw w) h₂.objs.size vs := dictOf_keep hL fun o e => up2 _ o (fun hb => (hwD _ hb).1 rfl) e
      have hSl2 : ∃ m, h2'.Ns H3.objs.size m := hSl.imp fun m hm => hm.at' fun o e => up2 _ o (fun hb => (hwD _ hb).2 rfl) e
      refine store_two (s := { s with heap := h2', toks := t1 }) hA hsc hx hSl2 hT2 j1 fun h3 t3 m3 j3 hk3 hn3 hm3x hm3y => ?_
      have keep3 : ∀ b o, s.heap.get? b = some o → h3.get? b = some o := fun b o e => hk3 b o (fun q => by rw [q, hnC] at e; cases e) (keep2 b o e)
      have hSt3 : St (i + 1) h3 := W.frame _ _ _ hSt2 fun b hb o e => hk3 b o (hfD b hb).2 e
      have hL3 : h3.DictOf (PySem.strKind pw w) h₂.objs.size vs := dictOf_keep hL2 fun o e => hk3 _ o hDC e
      have I3 : Inv w g (relabelS scope sc) (compEnvM scope cl H3.objs.size env) h3 ((y, .sc b) :: (x, .sc a) :: freeOf scope ρ) := compInv2 I hsc hfree' hclk hx keep3 hnC hn3 hm3x hm3y hau hbv
      refine Tests.run (ifs := [test]) (b := p (a, b)) (htest _ hmem) (s := { s with heap := h3, toks := t3 }) I3 j3 fun h4 t4 j4 G4 => ?_
      have htake : prs.take (i + 1) = prs.take i ++ [(a, b)] := by rw [List.take_add_one, hab]; rfl
      have hdrop : prs = prs.take (i + 1) ++ prs.drop (i + 1) := (List.take_append_drop _ _).symm
      split
      · rename_i hpa
        refine (hkey _ hmem hpa).run _ { s with heap := h4, toks := t4 } _ _ (I3.grow G4) j4 fun yk h5 t5 j5 G5 R5 n5 => ?_
        refine (hval _ hmem hpa).run _ { s with heap := h5, toks := t5 } _ _ ((I3.grow G4).grow G5) j5 fun yv h6 t6 j6 G6 R6 n6 => ?_
        obtain ⟨tkk, rfl⟩ := R5
        have hL6 : h6.DictOf (PySem.strKind pw w) h₂.objs.size vs := dictOf_keep hL3 fun o e => G6.keep _ _ (G5.keep _ _ (G4.keep _ _ e))
        refine wpAny_dictSet_pairs (s := { s with heap := h6, toks := t6 }) (hsz := by rw [sizeLine_eq]; omega) (strKind_is pw w (kf (a, b)) tkk) hL6 fun h7 hl7 hs7 => ?_
        have hnew : kf (a, b) ∉ vs.map (·.1) := by
          rw [hAll.keys, List.map_map]
          intro hm
          rw [hdrop, htake, List.filter_append, List.filter_append, List.map_append, List.map_append] at hnd
          have h1 := (List.nodup_append.mp hnd).1
          have h2 := (List.nodup_append.mp h1).2.2 (kf (a, b)) hm (kf (a, b)) (by simp [hpa])
          exact h2 rfl
        rw [stored_new vs _ _ hnew] at hl7
        refine ⟨prs.length - (i + 1), by omega, h7, _, i + 1, vs ++ [(kf (a, b), yv)], rfl, ?_, hlt, rfl, ?_, hl7, ?_, ?_, ?_⟩
        · first | exact j6 | (show 1 ≤ t6 + _; omega)
        · exact W.frame _ _ _ hSt3 fun b hb o e => hs7.extBut b o (hfD b hb).1 (G6.keep _ _ (G5.keep _ _ (G4.keep _ _ e)))
        · rw [htake, List.filter_append, List.map_append]
          have : ([(a, b)].filter p).map (fun q => (kf q, vf q)) = [(kf (a, b), vf (a, b))] := by simp [hpa]
          rw [this]
          exact hAll.snoc R6
        · exact ⟨_, (((hn3.keeps G4.keep).keeps G5.keep).keeps G6.keep).extBut hs7.extBut (Ne.symm hDC)⟩
        · exact fun b o e => hs7.extBut b o (fun q => by rw [q, hnD] at e; cases e) (G6.keep _ _ (G5.keep _ _ (G4.keep _ _ (keep3 b o e))))
      · rename_i hpa
        refine ⟨prs.length - (i + 1), by omega, h4, t4, i + 1, vs, rfl, j4, hlt, rfl, W.frame _ _ _ hSt3 fun b _ o e => G4.keep _ _ e, dictOf_keep hL3 fun o e => G4.keep _ _ e, ?_, ⟨_, hn3.keeps G4.keep⟩, fun b o e => G4.keep _ _ (keep3 b o e)⟩
        rw [htake, List.filter_append]
        have : [(a, b)].filter p = [] := by simp [hpa]
        rw [this, List.append_nil]
        exact hAll
    · refine tk (s := { s with heap := h, toks := tk0 }) j0 (W.done { s with heap := h, toks := tk0 } _ _ hSt fun h' tk' hk' j' => ?_)
      obtain ⟨m, hm⟩ := hSl
      rw [List.take_length] at hAll
      refine ⟨m, hm.at' fun o e => hk' _ o (fun hb => (hwD _ hb).2 rfl) e, fun h'' hs => ?_⟩
      have kk : ∀ b o, s.heap.get? b = some o → h''.get? b = some o := fun b o e => hs.extBut b o (fun q => by rw [q, hnC] at e; cases e) (hk' b o (fun hb => by have := hwr b hb; rw [e] at this; cases this) (hk b o e))
      refine k (.ref h₂.objs.size) h'' tk' j' ⟨kk⟩ ⟨_, vs, rfl, dictOf_keep hL fun o e => hs.extBut _ o hDC (hk' _ o (fun hb => (hwD _ hb).1 rfl) e), hAll, hsys⟩ ?_
      intro a q
      have q' : h₂.objs.size = a := Value.ref.inj q
      rw [← q']; exact hnD
  exact codeAny_compStart_dict (loop _ rfl) (W.self 0 _ _ _ (W.frame _ _ _ hst fun b _ o e => k24 b o e) (loop _ rfl))
end
end Mine
end
section
open PySem PySem.W PyProof.Rows
set_option maxRecDepth 100000
set_option Elab.async false
set_option maxHeartbeats 1000000
namespace Mine
section
variable {w : World} {g : Heap} {A : Around} {sc : Scope} {ρ : List (Str × PV)} {mg mb : Str → Option Value} {ow : Option (Str × List Sc)}
theorem Ev.listCompP {elt iter : Expr} {x y : Str} {px py tp pos : Pos} {k0 : Nat} {scope : Scope} {prs : List (Sc × Sc)} (f : Sc × Sc → Sc)
    (hA : A.handled = none) (hsrc : SrcP w g A sc ρ iter prs) (ok : compOk2 scope sc (ρ.map (·.1)) x y = true) (hlen : prs.length ≤ 100000)
    (helt : ∀ q ∈ prs, Ev w g A (relabelS scope sc) ((y, .sc q.2) :: (x, .sc q.1) :: freeOf scope ρ) elt (.sc (f q)))
    (hs : ∀ env x, foldedSetIterable iter env x = pure x := by intros; rfl) :
    Ev w g A sc ρ (.ListComp elt [⟨.Tuple [.Name x px, .Name y py] k0 tp, iter, [], 0⟩] scope pos) (.list (prs.map f)) := .mk fun env s Q E I hk1 k => by
  obtain ⟨hsc, hnames, hfree, hx⟩ := compOk2_use ok
  obtain ⟨cl, hclo, hclk⟩ := closureAt I hfree
  have hfree' : ∀ n, (n, NameKind.free) ∈ scope.names → sc.names.lookup n = some .cell ∨ sc.names.lookup n = some .free := fun n hn => (hfree n hn).2
  rw [eval_ListComp]
  refine wpAny_comprehension_free (use := none) (g := ⟨.Tuple [.Name x px, .Name y py] k0 tp, iter, [], 0⟩) (gs := []) rfl (hs env) hclo hsc hnames ?_
  refine hsrc env s _ E I hk1 fun II fp wr St Mid h₂ t₂ j₂ G₂ W hst hfp hwr => ?_
  refine wpAny_newList (newEnvComp ?_) (by rw [sizeLine_eq]; simp)
  have hD0 : ∀ k, s.heap.get? (h₂.objs.size + k) = none := fun k => by
    cases e : s.heap.get? (h₂.objs.size + k) with
    | none => rfl
    | some o => have := G₂.keep _ _ e; rw [new_none] at this; cases this
  generalize hH3 : (h₂.push { cls := .type "list", data := .seq ([] : List Value).toArray }) = H3
  have hC : H3.objs.size = h₂.objs.size + 1 := by rw [← hH3, Heap.size_push]
  dsimp only
  generalize hH4 : pushCells (H3.push { cls := .type "dict", data := .dict #[] }) scope.names = H4
  show codeAny (model pw w) A (.compStart (.ListComp elt [⟨.Tuple [.Name x px, .Name y py] k0 tp, iter, [], 0⟩] scope pos) 0 (.ref II) (.ref h₂.objs.size) (compEnvM scope cl H3.objs.size env)) (compPost (model pw w) A E none Q (.ref h₂.objs.size) H3.objs.size) { s with heap := H4, toks := t₂ }
  have k23 : ∀ b o, h₂.get? b = some o → H3.get? b = some o := fun b o e => hH3 ▸ Heap.get?_push_of_some _ e
  have k24 : ∀ b o, h₂.get? b = some o → H4.get? b = some o := fun b o e => hH4 ▸ pushCells_keeps _ _ _ _ (Heap.get?_push_of_some _ (k23 b o e))
  have k34 : ∀ b o, H3.get? b = some o → H4.get? b = some o := fun b o e => hH4 ▸ pushCells_keeps _ _ _ _ (Heap.get?_push_of_some _ e)
  have hDL : H4.IsList h₂.objs.size (List.toArray []) := ⟨_, k34 _ _ (hH3 ▸ Heap.get?_push_size _ rfl), rfl, 0, rfl⟩
  have hCn : ∃ m, H4.Ns H3.objs.size m := by
    rw [← hH4]
    exact ⟨_, (Heap.Ns.new H3 (.type "dict")).keeps (pushCells_keeps _ _)⟩
  have hfD : ∀ b ∈ fp, b ≠ h₂.objs.size ∧ b ≠ H3.objs.size := fun b hb => by
    have := hfp b hb
    refine ⟨Nat.ne_of_lt this, ?_⟩
    rw [hC]; exact Nat.ne_of_lt (Nat.lt_succ_of_lt this)
  have hwD : ∀ b ∈ wr, b ≠ h₂.objs.size ∧ b ≠ H3.objs.size := fun b hb => hfD b (W.sub b hb)
  have hnD : s.heap.get? h₂.objs.size = none := hD0 0
  have hnC : s.heap.get? H3.objs.size = none := by rw [hC]; exact hD0 1
  have hDC : h₂.objs.size ≠ H3.objs.size := by rw [hC]; exact Nat.ne_of_lt (Nat.lt_succ_self _)
  have loop : ∀ (h : Heap), (h = H4) → codeAny (model pw w) A (.compLoop (.ListComp elt [⟨.Tuple [.Name x px, .Name y py] k0 tp, iter, [], 0⟩] scope pos) 0 (.ref II) (.ref h₂.objs.size) (compEnvM scope cl H3.objs.size env)) (compPost (model pw w) A E none Q (.ref h₂.objs.size) H3.objs.size) { s with heap := h, toks := t₂ } := by
    rintro h rfl
    refine compLoopT
      (fun n s' => ∃ h tk i vs, s' = { s with heap := h, toks := tk } ∧ 1 ≤ tk ∧ i ≤ prs.length ∧ n = prs.length - i ∧ St i h ∧ h.IsList h₂.objs.size (List.toArray vs) ∧ AllIs ((prs.take i).map f) vs ∧ (∃ m, h.Ns H3.objs.size m) ∧
        (∀ b o, s.heap.get? b = some o → h.get? b = some o)) ?_ prs.length
      ⟨h, t₂, 0, [], rfl, j₂, Nat.zero_le _, rfl, W.frame _ _ _ hst fun b _ o e => k24 b o e, hDL, by simp [AllIs], hCn, fun b o e => k24 _ _ (G₂.keep _ _ e)⟩
    rintro n s' ⟨h, tk0, i, vs, rfl, j0, hi, rfl, hSt, hL, hAll, hSl, hk⟩
    have hlenvs : vs.length ≤ prs.length := by
      rw [hAll.length, List.length_map]
      simp; omega
    rcases Nat.lt_or_eq_of_le hi with hlt | rfl
    · refine tk (s := { s with heap := h, toks := tk0 }) j0 (W.item i { s with heap := h, toks := tk0 } _ _ hlt hSt fun T vals h1 t1 hP hTs hT hM hk1 j1 => ?_)
      obtain ⟨a, b, u, v, hab, rfl, hau, hbv⟩ := hP
      have hmem : (a, b) ∈ prs := List.mem_of_getElem? hab
      refine W.go _ _ _ i T { s with heap := h1, toks := t1 } _ _ hM fun h2' hSt2 hk2 => ?_
      have hT2 : IsTup h2' T #[u, v] := by
        obtain ⟨o, e1, e2⟩ := hT
        exact ⟨o, hk2 T o (W.apart i T h1 hM) e1, e2⟩
      have up2 : ∀ b o, b ∉ wr → h.get? b = some o → h2'.get? b = some o := fun b o hb e => hk2 b o hb (hk1 b o hb e)
      have keep2 : ∀ b o, s.heap.get? b = some o → h2'.get? b = some o := fun b o e => up2 b o (fun hb => by have := hwr b hb; rw [e] at this; cases this) (hk b o e)
      have hL2 : h2'.IsList h₂.objs.size (List.toArray vs) := isList_keep hL fun o e => up2 _ o (fun hb => (hwD _ hb).1 rfl) e
      have hSl2 : ∃ m, h2'.Ns H3.objs.size m := hSl.imp fun m hm => hm.at' fun o e => up2 _ o (fun hb => (hwD _ hb).2 rfl) e
      refine store_two (s := { s with heap := h2', toks := t1 }) hA hsc hx hSl2 hT2 j1 fun h3 t3 m3 j3 hk3 hn3 hm3x hm3y => ?_
      have keep3 : ∀ b o, s.heap.get? b = some o → h3.get? b = some o := fun b o e => hk3 b o (fun q => by rw [q, hnC] at e; cases e) (keep2 b o e)
      have hSt3 : St (i + 1) h3 := W.frame _ _ _ hSt2 fun b hb o e => hk3 b o (hfD b hb).2 e
      have hL3 : h3.IsList h₂.objs.size (List.toArray vs) := isList_keep hL2 fun o e => hk3 _ o hDC e
      have I3 : Inv w g (relabelS scope sc) (compEnvM scope cl H3.objs.size env) h3 ((y, .sc b) :: (x, .sc a) :: freeOf scope ρ) := compInv2 I hsc hfree' hclk hx keep3 hnC hn3 hm3x hm3y hau hbv
      refine wpAny_tests_nil ?_
      have htake : prs.take (i + 1) = prs.take i ++ [(a, b)] := by rw [List.take_add_one, hab]; rfl
      rw [if_pos rfl]
      refine (helt _ hmem).run _ { s with heap := h3, toks := t3 } _ _ I3 j3 fun yk h5 t5 j5 G5 R5 n5 => ?_
      have hL5 : h5.IsList h₂.objs.size (List.toArray vs) := isList_keep hL3 fun o e => G5.keep _ _ e
      refine wpAny_list_append (s := { s with heap := h5, toks := t5 }) hL5 (fun h6 hL6 hs6 => ?_) (by rw [sizeLine_eq]; simp; omega)
      refine ⟨prs.length - (i + 1), by omega, h6, t5, i + 1, vs ++ [yk], rfl, j5, hlt, rfl, ?_, by simpa using hL6, ?_, ?_, ?_⟩
      · exact W.frame _ _ _ hSt3 fun b hb o e => hs6.extBut b o (hfD b hb).1 (G5.keep _ _ e)
      · rw [htake, List.map_append]
        exact hAll.append ⟨R5, trivial⟩
      · exact ⟨_, (hn3.keeps G5.keep).extBut hs6.extBut (Ne.symm hDC)⟩
      · exact fun b o e => hs6.extBut b o (fun q => by rw [q, hnD] at e; cases e) (G5.keep _ _ (keep3 b o e))
    · refine tk (s := { s with heap := h, toks := tk0 }) j0 (W.done { s with heap := h, toks := tk0 } _ _ hSt fun h' tk' hk' j' => ?_)
      obtain ⟨m, hm⟩ := hSl
      rw [List.take_length] at hAll
      refine ⟨m, hm.at' fun o e => hk' _ o (fun hb => (hwD _ hb).2 rfl) e, fun h'' hs => ?_⟩
      have kk : ∀ b o, s.heap.get? b = some o → h''.get? b = some o := fun b o e => hs.extBut b o (fun q => by rw [q, hnC] at e; cases e) (hk' b o (fun hb => by have := hwr b hb; rw [e] at this; cases this) (hk b o e))
      refine k (.ref h₂.objs.size) h'' tk' j' ⟨kk⟩ ⟨_, vs, rfl, isList_keep hL fun o e => hs.extBut _ o hDC (hk' _ o (fun hb => (hwD _ hb).1 rfl) e), hAll⟩ ?_
      intro q
      obtain ⟨m', o', es, ep, e', _⟩ := I.ns
      have q' : h₂.objs.size = env.locals := Value.ref.inj q
      rw [← q', hnD] at e'; cases e'
  exact codeAny_compStart_list (loop _ rfl) (W.self 0 _ _ _ (W.frame _ _ _ hst fun b _ o e => k24 b o e) (loop _ rfl))
end
end Mine
end
section
open PySem PySem.W PyProof.Rows
set_option maxRecDepth 100000
set_option Elab.async false
set_option maxHeartbeats 1000000
namespace Mine
noncomputable abbrev sRefs : Stmt := nthS 18 pw.main.body
noncomputable abbrev scRefs : Scope := scopeOf sRefs pw.main.scope
noncomputable def constStrs : List Expr → Option (List Str)
  | [] => some []
  | .Constant (.str i) _ _ :: es => (constStrs es).map (i :: ·)
  | _ => none
noncomputable def escSigns : Str := ⟨#[38, 60, 62, 34, 13, 10, 9]⟩
noncomputable def row4 : List Str := ["&amp;", "&lt;", "&gt;", "&quot;"]
noncomputable def row3 (k : Nat) : List Str := if 2 < k then ["&#xD;", "&#xA;", "&#x9;"] else ["&#13;", "&#10;", "&#09;"]
noncomputable def rowAt (k : Nat) : List Str := row4 ++ row3 k
theorem row3_len (k : Nat) : (row3 k).length = 3 := by unfold row3; split <;> rfl
noncomputable def writtens : List Str := ["&<>", "&<>\"\r\n\t", "&>\"", "&<>\r", "&<\"\t\n\r"]
noncomputable def writtenAt (k : Nat) : Str := writtens[k]?.getD ⟨#[]⟩
noncomputable def strOf : Sc → Str
  | .str x => x
  | _ => ⟨#[]⟩
noncomputable def prsAt (k : Nat) : List (Sc × Sc) := ((signs escSigns).map Sc.str).zip ((rowAt k).map Sc.str)
noncomputable def inW (k : Nat) (q : Sc × Sc) : Bool := !(Builtin.Str.occurrences (writtenAt k) (strOf q.1) 0 (writtenAt k).length 1).isEmpty
noncomputable def refsAt (k : Nat) : List (Str × Sc) := ((prsAt k).filter (inW k)).map fun q => (strOf q.1, q.2)
section
variable {w : World} {g : Heap} {A : Around} {sc : Scope} {ρ : List (Str × PV)} {mg mb : Str → Option Value}
theorem EvArgs.strs : ∀ {es : List Expr} {ns : List Str}, constStrs es = some ns → EvArgs w g A sc ρ es ((ns.map Sc.str).map PV.sc)
  | [], ns, h => by
    simp [constStrs] at h; subst h; exact EvArgs.nil
  | .Constant (.str i) k p :: es, ns, h => by
    simp only [constStrs] at h
    obtain ⟨r, hr, rfl⟩ := Option.map_eq_some_iff.mp h
    exact EvArgs.cons Ev.str (EvArgs.strs hr) (fun _ _ => rfl)
theorem Ev.tupStrs {es : List Expr} {ns : List Str} {c : Nat} {p : Pos} (h : constStrs es = some ns) (hl : ns.length ≤ 100000) : Ev w g A sc ρ (.Tuple es c p) (.tuple (ns.map .str)) :=
  EvArgs.tupleE (EvArgs.strs h) (by rw [List.length_map]; exact hl)
theorem prs_isStr {k : Nat} {q : Sc × Sc} (hq : q ∈ prsAt k) : q.1 = .str (strOf q.1) := by
  obtain ⟨a, b⟩ := q
  obtain ⟨x, hx, e⟩ := List.mem_map.mp (List.of_mem_zip hq).1
  rw [← e]; rfl
theorem refs_body (G : Gd w g mg mb) (hA : A.handled = none) {k : Nat} (hk : k < 5) : Ex w g A scRefs [("kind", .sc (.int k))] none (bodyOf sRefs) (.retN (.dict (refsAt k))) := by
  have l3 := row3_len k
  refine Ex.cons (ExS.assign (pv := .tuple ((rowAt k).map .str)) (Ev.cast (Ev.bin (Ev.tupStrs (ns := row4) (by rfl) (by decide)) (Ev.ifExp (c := decide ((2 : Int) < k)) (pv := .tuple ((row3 k).map Sc.str))
      (Tr.cmp (Ev.var rfl) Ev.int Op2.gtI) (fun h => ?_) (fun h => ?_)) (Op2.addT (by simp [row4]) (by rw [← List.length_pos_iff, List.length_map, l3]; decide) (by rw [List.length_map, List.length_map, l3]; decide))) (by rw [rowAt, List.map_append]))) ?_
  · have h' : (2 : Int) < k := of_decide_eq_true h
    have : 2 < k := by omega
    rw [row3, if_pos this]
    exact Ev.tupStrs (by rfl) (by decide)
  · have h' : ¬ (2 : Int) < k := of_decide_eq_false h
    have : ¬ 2 < k := by omega
    rw [row3, if_neg this]
    exact Ev.tupStrs (by rfl) (by decide)
  refine Ex.cons (ExS.assign (pv := .sc (.str (writtenAt k))) (Ev.sub (Ev.tupStrs (ns := writtens) (by rfl) (by decide)) (Ev.var rfl) (SubOp.tupI (j := k) (by omega) (by omega) ?_ ?_))) ?_
  · simp [seqIndex?, writtens]; omega
  · have hk2 : k < writtens.length := hk
    simp [writtenAt, List.getElem?_eq_getElem hk2]
  refine Ex.retN (ExS.retNew (EvNew.dictCompP G (prs := prsAt k) (inW k) (fun q => strOf q.1) (fun q => q.2) hA
    (SrcP.zipST (x := escSigns) G hA (Ev.str (x := escSigns)) (Ev.var rfl) (by decide +kernel) (by rw [List.length_map, rowAt, List.length_append, l3]; rfl)) rfl ?_ (fun q hq => ?_) (fun q hq _ => ?_) (fun q hq _ => Ev.var rfl) ?_))
  · have : ∀ k < 5, (prsAt k).length ≤ 100000 := by decide +kernel
    exact this k hk
  · refine Tr.cmp (a := .sc (.str (strOf q.1))) (Ev.cast (Ev.var rfl) ?_) (Ev.var rfl) Op2.inS
    rw [← prs_isStr hq]
  · exact Ev.cast (Ev.var rfl) (by rw [← prs_isStr hq])
  · have : ∀ k < 5, (((prsAt k).filter (inW k)).map fun q => strOf q.1).Nodup := by decide +kernel
    exact this k hk
end
end Mine
end
section
open PySem PySem.W PyProof.Rows
set_option maxRecDepth 100000
set_option Elab.async false
set_option maxHeartbeats 1000000
namespace Mine
theorem nolen_dk : typeLookup (.type "dict_keyiterator") "__len__" = pure none := by rw [typeLookup_type, builtinLookup_eq_fast]; kernel_rfl
theorem hint_dk : typeLookup (.type "dict_keyiterator") "__length_hint__" = pure (some (.builtin "dict_keyiterator.__length_hint__")) := by rw [typeLookup_type, builtinLookup_eq_fast]; kernel_rfl
section
variable {prog : Program} {w : World} {A : Around} {E : Value → Shared → Prop} {s : Shared} {I : Addr} {fp wr : List Addr} {G : Array GenState → Array GenState → Prop} {n : Nat} {P : Nat → Value → Prop} {St : Nat → Shared → Prop}
theorem collect_keyiter {Q : List Value → Shared → Prop}
    (W : WalksS prog w A.in1 I fp wr G n P St) (hT : ∀ i s, St i s → s.TypeIs (.ref I) "dict_keyiterator") (hst : St 0 s) (hfp : ∀ b ∈ fp, b < s.heap.objs.size) (hI : I ∈ fp)
    (hQ : ∀ s' acc, Moved wr G s s' → ItemsOf P acc n → Q acc.toList s') (hn : n ≤ sizeLine) : wpAny (model prog w) A (collect (.ref I)) Q E s := by
  have hSf : s.heap.objs.size ∉ fp := fun hm => Nat.lt_irrefl _ (hfp _ hm)
  have hSI : s.heap.objs.size ≠ I := fun e => hSf (e ▸ hI)
  unfold collect
  refine wpAny_bind (wpAny_runValue (codeAny_builtin PySem.F.entry_proto_collect ?_))
  rw [Around.under_plainId PySem.F.plain_proto_collect _]
  show wpAny _ A.in1 (newList [] >>= fun l => again (.builtin "list.__iadd__" ⟨[l, .ref I], []⟩)) _ _ s
  refine wpAny_bind (wpAny_newObj_type ?_)
  refine wpAny_pure ⟨plainId_quiet PySem.F.plain_list_iadd _, codeAny_builtin PySem.F.entry_list_iadd ?_⟩
  rw [Around.under_plainId PySem.F.plain_list_iadd _]
  have hst₁ := W.frame 0 s (s.heap.push { cls := .type "list", data := .seq ([] : List Value).toArray }) s.toks hst (Nat.le_refl _) fun b _ o e => Heap.get?_push_of_some _ e
  have hS₁ : (s.heap.push { cls := .type "list", data := .seq ([] : List Value).toArray }).get? s.heap.objs.size = some { cls := .type "list", data := .seq ([] : List Value).toArray } := Heap.get?_push_size _ rfl
  have h1 : Builtin.List.listSameRef (.ref s.heap.objs.size) (.ref I) = false := by simp [Builtin.List.listSameRef, hSI]
  show wpAny _ A.in1 (Builtin.List.listExtendWith (.ref s.heap.objs.size) (.ref I) (.ref s.heap.objs.size)) _ _ _
  unfold Builtin.List.listExtendWith
  refine wpAny_bind (wpAny_typeOf (hT 0 _ hst₁) ?_)
  rw [if_neg (by rw [h1]; decide)]
  refine wpAny_bind (W.self 0 _ _ _ hst₁ ?_)
  refine wpAny_bind (wpAny_holding ?_)
  unfold Builtin.List.listLengthHint
  refine wpAny_bind (wpAny_specialOf (hT 0 _ hst₁) nolen_dk ?_)
  show wpAny _ A.in1 (specialOf (Value.ref I) (Str.ofString "__length_hint__") >>= _) _ _ _
  refine wpAny_bind (wpAny_specialOf (hT 0 _ hst₁) hint_dk ?_)
  (generalize hid : ("dict_keyiterator.__length_hint__" : String) = id0; (fail_if_success (clear hid id0)); wp_delta; rw [show splitId id0 = some ("dict_keyiterator", "__length_hint__") from by subst hid; decide +kernel]; subst hid)
  refine wpAny_bind (wpAny_isInstance (b := true) (hT 0 _ hst₁) (by rw [isSubtype_type]; kernel_rfl) ?_)
  refine wpAny_pure ?_
  rw [if_neg (by decide)]
  refine wpAny_pure ⟨plainId_quiet PySem.F.plain_extend_loop _, codeAny_extend_loopS W hn _ hSf _ n 0 _ _ _ rfl (Nat.zero_le _) hst₁ hS₁ (ItemsOf.nil P) fun s' acc' c' hm hS' hacc => ?_⟩
  show wpAny _ A (load s.heap.objs.size >>= _) _ _ s'
  refine wpAny_bind (wpAny_load hS' ?_)
  exact wpAny_pure (hQ s' acc' (Moved.drop_new (o := { cls := .type "list", data := .seq ([] : List Value).toArray }) (tk := s.toks) hm (Nat.le_refl _)) hacc)
end
section
variable {w : World} {g : Heap} {A : Around} {sc : Scope} {ρ : List (Str × PV)} {mg mb : Str → Option Value}
theorem dvals_key : ∀ {kvs : List (Str × Sc)} {vs : List (Str × Value)} {i : Nat} {k : Str} {x : Value}, DVals kvs vs → vs[i]? = some (k, x) → (kvs.map (·.1))[i]? = some k
  | [], [], _, _, _, _, e => by simp at e
  | (k, a) :: r, (k', v) :: r', 0, _, _, ⟨h, _, _⟩, e => by
    simp at e; simp [h, e.1]
  | (k, a) :: r, (k', v) :: r', i + 1, _, _, ⟨_, _, h⟩, e => by
    simp only [List.getElem?_cons_succ] at e
    simpa using dvals_key h e
  | [], _ :: _, _, _, _, h, _ => h.elim
  | _ :: _, [], _, _, _, h, _ => h.elim
theorem CallOp.joinD {x : Str} {kvs : List (Str × Sc)} (hA : A.handled = none) (hlen : kvs.length ≤ 1000) (hok : JoinOk x (kvs.map (·.1)) = true) : CallOp w A (.builtin "str.join") [.sc (.str x), .dict kvs] (.sc (.str (Txt.join x (kvs.map (·.1))))) := fun L s vs Q E hn hr hk1 k => by
  obtain ⟨_, _, rfl, ⟨⟨t, rfl⟩, _⟩, ⟨a, us, rfl, ho, hr, hsys⟩, _⟩ := hr.two
  refine tk hk1 ?_
  have hl := hr.length
  obtain ⟨ep, hD⟩ := ho.dictAt
  have hlt := hD.lt_size
  refine wpAny_call (codeAny_call_builtin PySem.F.slot_str_join.plain PySem.F.entry_str_join (PySem.F.slot_str_join.check _ _ _ _ _ _ _ _ (typeIs_str _ _ _) (PySem.F.args_str_join_2 _ _) ?_))
  rw [join_tree_other]
  refine wpAny_bind (wpAny_typeOf ho.typeIs ?_)
  show wpAny _ _ ((pyIter (.ref a)).tryCatch _ >>= fun it => collect it >>= fun items => joinTail x items) _ _ s
  refine wpAny_bind (wpAny_tryCatch (wpAny_pyIter_dict (beq_eq_false_iff_ne.mpr hsys) hD ?_))
  have hne : a ≠ s.heap.objs.size := Nat.ne_of_lt hlt
  have W := Walks.dictKeys (prog := pw) (w := w) (knd := PySem.strKind pw w) (A := A.in1.in1) (by exact hA) s.heap.objs.size a hne us ep
  refine wpAny_bind (collect_keyiter (s := { s with heap := s.heap.push _ }) W.toS (fun i s' st => ?_) ⟨⟨_, Heap.get?_push_size _ rfl, rfl, rfl⟩, hD.push _⟩ (fun b hb => ?_) (by simp) (fun s' acc hm hacc => ?_) (by rw [sizeLine_eq]; omega))
  · exact st.1.typeIs
  · have hb : b = s.heap.objs.size ∨ b = a := by simpa using hb
    show b < (s.heap.push _).objs.size
    rw [Heap.size_push]
    rcases hb with rfl | rfl
    · exact Nat.lt_succ_self _
    · exact Nat.lt_succ_of_lt hlt
  · have hk : ∀ b o, s.heap.get? b = some o → s'.heap.get? b = some o := fun b o e =>
      hm.heap b o (fun hI => absurd (Heap.lt_size e) (by rw [List.mem_singleton.mp hI]; exact Nat.lt_irrefl _)) (Heap.get?_push_of_some _ e)
    obtain ⟨l, hl'⟩ := exists_strValues acc.toList fun v hv => by
      obtain ⟨j, hj, rfl⟩ := Array.mem_iff_getElem.mp (Array.mem_toList_iff.mp hv)
      obtain ⟨kk, x', _, e⟩ := hacc.2 j _ (Array.getElem?_eq_getElem hj)
      obtain ⟨u', e'⟩ := Value.isStrOf_shape e
      exact ⟨_, u', e'⟩
    have hj : l.length = us.length := by
      have h1 := hacc.1
      have h2 : (strValues l).length = acc.toList.length := by rw [hl']
      simp [strValues] at h2
      omega
    have ht : l.map (·.1) = kvs.map (·.1) := by
      apply List.ext_getElem?
      intro j
      by_cases hjl : j < l.length
      · have e1 : acc[j]? = some (.str l[j].1 l[j].2) := by
          rw [← Array.getElem?_toList, ← hl']
          simp [strValues, List.getElem?_eq_getElem hjl]
        obtain ⟨kk, x', e2, e3⟩ := hacc.2 j _ e1
        have e4 : l[j].1 = kk := by simpa [PySem.strKind, Value.isStrOf] using e3
        rw [dvals_key hr e2, ← e4]
        simp [List.getElem?_eq_getElem hjl]
      · rw [List.getElem?_eq_none (by simpa using Nat.le_of_not_lt hjl), List.getElem?_eq_none (by simp; omega)]
    rw [← hl']
    have hok' : JoinOk x (l.map (·.1)) = true := by rw [ht]; exact hok
    unfold JoinOk at hok'
    rw [Bool.not_eq_true'] at hok'
    have gj : Gives (joinTail x (strValues l)) (joinMade x l) := by
      have g0 := gives_joinTail x l hok'
      cases l with
      | nil => exact g0
      | cons p r => cases r with
        | nil => exact g0
        | cons q r' => exact g0
    refine gj pw w A (wants _ E) s' (post_join l ⟨joinFit_length hok', fun t' kk => ?_⟩)
    show 1 ≤ kk → _
    intro j
    have es : ({ s' with toks := kk } : Shared) = { s with heap := s'.heap, toks := kk } := by rw [Moved.eq_with hm]
    rw [ht, es]
    exact k (.str _ _) s'.heap kk j ⟨hk⟩ ⟨_, rfl⟩ (by nofun)
end
end Mine
end
section
open PySem PySem.W PyProof.Rows
set_option maxRecDepth 100000
set_option Elab.async false
set_option maxHeartbeats 2000000
namespace Mine
noncomputable abbrev sLaw : Stmt := nthS 22 pw.main.body
noncomputable abbrev scLaw : Scope := scopeOf sLaw pw.main.scope
noncomputable abbrev lawTurn : List Stmt := loopBody (nthS 5 (bodyOf sLaw))
noncomputable def pickB {α : Type} (xs : List α) (lo hi st : Option Int) : List α := (sliceRange (sliceBounds lo hi st xs.length).1 (sliceBounds lo hi st xs.length).2.1 (sliceBounds lo hi st xs.length).2.2).filterMap (xs[·]?)
theorem scPick_mapB {α : Type} (ι : α → Sc) (xs : List α) (lo hi st : Option Int) : scPick (xs.map ι) lo hi st = (pickB xs lo hi st).map ι := by
  unfold scPick pickB
  rw [List.length_map, List.map_filterMap]
  congr 1
  funext i
  rw [List.getElem?_map]
noncomputable def basesL : List Int := [469, 3, 0, 100, 1505, 33, 700]
noncomputable def cellAt (ns : List Int) (k base : Int) : Int := (base + (pickB ns (some k) none (some 7)).sum).fmod 1000000
noncomputable def intOf : Sc → Int
  | .int i => i
  | _ => 0
noncomputable def cellsOf (ns : List Int) : List Int := (numberedL (basesL.map Sc.int)).map fun q => cellAt ns (intOf q.1) (intOf q.2)
noncomputable def cAt (cs : List Int) (i : Nat) : Int := cs[i]?.getD 0
noncomputable def pairs4 : List Str := ["hp", "rs", "st", "fi"]
noncomputable def pairAt (p : Nat) : Str := pairs4[p]?.getD ⟨#[]⟩
noncomputable def seedOf (pair : Str) (c1 : Int) (n : Nat) : Str := Txt.join ⟨#[]⟩ ((List.range n).map fun (k : Nat) => Txt.item pair ((c1.fdiv ((2 : Int) ^ k)).fmod 2))
noncomputable def tailC (cs : List Int) (t : Nat) : List Int := pickB cs (some (2 + (t : Int))) none none
noncomputable def chr0 (x : Str) : Nat := x.cps[0]?.getD 0
noncomputable def foldL (S : Int → Bool) (b3 : Nat → Option Str) (sp : Str) : List Str := ((signs sp).filter fun a => !S (chr0 a)).map fun a => folded b3 (chr0 a)
noncomputable def foldOf (S : Int → Bool) (b3 : Nat → Option Str) (sp : Str) : Str := Txt.join ⟨#[]⟩ (foldL S b3 sp)
noncomputable def stockOf (k : Nat) : Str := Txt.join ⟨#[]⟩ ((refsAt k).map (·.1))
noncomputable def placeOf (k : Nat) (n : Int) : Int := n.fmod (stockOf k).length
noncomputable def stepOf (k : Nat) (n : Int) : Int := 1 + (n.fdiv (stockOf k).length).fmod ((stockOf k).length - 1)
noncomputable def marksOf (k : Nat) (n : Int) : Str := Txt.item (stockOf k) (placeOf k n) ++ Txt.item (stockOf k) ((placeOf k n + stepOf k n).fmod (stockOf k).length)
noncomputable def sgnOf (marks pair l : Str) : Str := Txt.item marks (Txt.find pair l)
noncomputable def sgnsOf (marks pair word : Str) : List Str := (signs word).map (sgnOf marks pair)
noncomputable def refOf (k : Nat) (x : Str) : Str := match (refsAt k).lookup x with
  | some (.str y) => y
  | _ => ⟨#[]⟩
noncomputable def PB1 (S : Int → Bool) (ps : List PV) (c : PV) : Prop := ∃ n : Nat, ps = [.sc (.str ⟨#[n]⟩)] ∧ c = .sc (.bool (S n))
noncomputable def PB3 (b3 : Nat → Option Str) (ps : List PV) (c : PV) : Prop := ∃ n : Nat, ps = [.sc (.str ⟨#[n]⟩)] ∧ c = .sc (.str (folded b3 n))
structure SpOk (word pair : Str) (cells : List Int) : Prop where
  w : word.length ≤ 60
  p : pair.length = 2
  c : 1 ≤ cells.length
  c2 : cells.length ≤ 100
  hT : ∀ (i : Nat) (l : Str), (signs word)[i]? = some l → (tailOf (numAt cells i) (twoOf pair l)).length ≤ 6
  hP : ∀ (l : Str), l ∈ signs word → ∀ c ∈ (twoOf pair l).cps.toList, 97 ≤ c ∧ c ≤ 122
noncomputable def PSp (ps : List PV) (c : PV) : Prop := ∃ (word pair : Str) (cells : List Int), ps = [.sc (.str word), .sc (.str pair), .list (cells.map .int)] ∧ SpOk word pair cells ∧ c = .sc (.str (spelled word pair cells))
noncomputable def PRefs (ps : List PV) (c : PV) : Prop := ∃ k : Nat, k < 5 ∧ ps = [.sc (.int k)] ∧ c = .dict (refsAt k)
noncomputable def PWr (ps : List PV) (c : PV) : Prop := ∃ (k : Nat) (page : Str), k < 5 ∧ page.length ≤ 16 ∧ ps = [.sc (.int k), .sc (.str page)] ∧ c = .sc (.str (escOf k page))
noncomputable def PAsk (ps : List PV) (c : PV) : Prop := ∃ (page : Str) (parts : List Str), page.length ≤ 10000 ∧ PartsOk parts ∧ ps = [.sc (.str page), .list (parts.map .str)] ∧ c = .list ((asked page parts).map .int)
structure DueOk (word pair : Str) (rounds : Nat) : Prop where
  r : rounds ≤ 10
  h1 : 1 ≤ word.length
  p : pair.length = 2
  w : ∀ t ≤ rounds, (dWord word pair t).length ≤ 60
  s : ∀ t < rounds, (dSquares word pair t).length + (oddsOf (dWord word pair t) pair).length < 64
section
variable {w : World} {g : Heap} {A : Around} {sc : Scope} {ρ ρ' : List (Str × PV)} {ow ow' : Option (Str × List Sc)} {mg mb : Str → Option Value}
/-- a def that gives back two lists -/
noncomputable def FnD (w : World) (g : Heap) (mg : Str → Option Value) (d : Nat) : Prop :=
  ∃ a, mg "_law_due" = some (.ref a) ∧ Callee g (.ref a) ∧ ∀ (A : Around), A.handled = none → A.depth + d < recursionLimit → ∀ (word pair : Str) (r : Nat), DueOk word pair r →
    CallGP w g A (.ref a) [.sc (.str word), .sc (.int r), .sc (.str pair)] (Pair w ((dOvers word r).map .int) ((dSquares word pair r).map .int))

theorem numberedL_at {xs : List Sc} {q : Sc × Sc} (h : q ∈ numberedL xs) : ∃ (i : Nat), q.1 = .int i ∧ i < xs.length ∧ q.2 ∈ xs := by
  unfold numberedL at h
  obtain ⟨z, hz, rfl⟩ := List.mem_map.mp h
  obtain ⟨a, i⟩ := z
  have := List.mem_zipIdx hz
  refine ⟨i, rfl, by omega, ?_⟩
  have h3 := this.2.2
  simp at h3
  simp [h3]
theorem SlOp.list3 {xs : List Sc} {n : Str} {p : Pos} {slice : Expr} {i j st : Option Int} (hx : xs.length ≤ 100000) (h0 : st ≠ some 0)
    (hs : ∀ r r', subscripted slice false (.ref r) (.ref r') = operate [.ref r, .ref r'] (getItem (.ref r) (.ref r')) := by intros; with_unfolding_all rfl) :
    SlOp w A (.Name n p) slice i j st (.list xs) (.list (scPick xs i j st)) := fun L s u v1 v2 v3 Q E hn ⟨a, vs, hu, ho, hr⟩ _ h1 h2 h3 hk1 k => by
  subst hu
  have hl := hr.length
  refine subscriptTail_ops (Heap.IsList.typeIs (s := { s with heap := s.heap.push { cls := .type "slice", data := .fields #[v1, v2, v3] } }) (ho.push _)) list_getitem_lookup
    (wpAny_getItem_list_slice (ho.push _) (Heap.IsSliceOf.new ..) h1.part h2.part h3.part h0 ?_ (by rw [sizeLine_eq]; simp; omega)) (hs _ _) (fun _ => rfl)
  refine k (.ref _) _ s.toks hk1 ((GrowX.push _).trans (.push _)) ⟨_, (sliceRange (sliceBounds i j st vs.length).1 (sliceBounds i j st vs.length).2.1 (sliceBounds i j st vs.length).2.2).filterMap (vs[·]?), rfl, ⟨_, Heap.get?_push_size _ rfl, rfl, 0, ?_⟩, ?_⟩ ?_
  · simp [slicePick]
  · unfold scPick
    rw [← hl]
    exact hr.pick _
  · have := ne_new hn 1
    rw [Heap.size_push]
    exact this

theorem ExS.assignC {x : Str} {p pos : Pos} {value : Expr} {pv : PV} (h : Ev w g A sc ρ value pv) (hx : sc.names.lookup x = some .local ∨ sc.names.lookup x = some .cell)
    (hs : ∀ env : Env, env.scope = sc → swapsWith value (some (.Name x p)) pos.line env = pure false) (hm : MayStore x pv ow := by trivial) :
    ExS w g A sc ρ ow (.Assign [.Name x p] value pos) (.next ((x, pv) :: ρ) ow) := .mk fun B env s Q E O hk k =>
  wpAny_Assign_Name (h.run env s _ E O.f.inv hk fun v h' t' j G R n => (O.grow G).store (s := { s with heap := h', toks := t' }) j hx hm R n fun h'' t'' j' O' _ => k h'' t'' j' O') (hs env O.f.inv.scp)
theorem law_cells (G : Gd w g mg mb) (hA : A.handled = none) {ns : List Int} (hns : ns.length ≤ 1000) {ρ : List (Str × PV)} (hρ : ρ = ([("bases", .tuple (basesL.map .int)), ("script", .list (ns.map .int))] : List (Str × PV))) :
    ExS w g A scLaw ρ none (nthS 1 (bodyOf sLaw)) (.next (("cells", .list ((cellsOf ns).map .int)) :: ρ) none) := by
  subst hρ
  refine ExS.assignC (pv := .list ((cellsOf ns).map .int)) (Ev.cast (Ev.listCompP (prs := numberedL (basesL.map Sc.int)) (fun q => .int (cellAt ns (intOf q.1) (intOf q.2))) hA (SrcP.enumTup G hA (Ev.var rfl)) rfl (by decide) (fun q hq => ?_)) ?_) (.inr rfl) (by intro env he; cases env; cases he; rfl)
  · obtain ⟨i, h1, h2, h3⟩ := numberedL_at hq
    obtain ⟨a, b⟩ := q
    simp only at h1 h3
    subst h1
    obtain ⟨bb, _, rfl⟩ := List.mem_map.mp h3
    refine Ev.cast (Ev.bin (Ev.bin (Ev.var rfl) (Ev.callB G rfl (EvArgs.cons (Ev.cast (Ev.slice (l := some (i : Int)) (h := none) (t := some 7) (Ev.var rfl) (Ev.var rfl) trivial Ev.int (SlOp.list3 (by simp; omega) (by nofun))) (by rw [scPick_mapB])) EvArgs.nil) (CallOp.sum hA)) Op2.addI) (Ev.bin Ev.int Ev.int (Op2.powI (by decide) (by decide) (by decide))) (Op2.modI (by decide))) ?_
    rfl
  · rw [cellsOf, List.map_map]; rfl
end
end Mine
end
section
open PySem PySem.W PyProof.Rows
set_option maxRecDepth 100000
set_option Elab.async false
set_option maxHeartbeats 2000000
namespace Mine
/-- what the law's data must be -/
structure LawOk (S : Int → Bool) (b3 : Nat → Option Str) (cs : List Int) (r p k : Nat) (pair seed : Str) : Prop where
  c7 : cs.length = 7
  r1 : 1 ≤ r
  r3 : r ≤ 3
  hr : 1 + (cAt cs 0).fmod 3 = (r : Int)
  p4 : p < 4
  hp : ((cAt cs 0).fdiv 3).fmod 4 = (p : Int)
  k5 : k < 5
  hk : ((cAt cs 0).fdiv 12).fmod 5 = (k : Int)
  hpair : pairAt p = pair
  pl : pair.length = 2
  hseed : seedOf pair (cAt cs 1) (8 - 2 * r) = seed
  w16 : ∀ t ≤ r, (dWord seed pair t).length ≤ 16
  sp : ∀ t < r, SpOk (dWord seed pair t) pair (tailC cs t)
  fj : ∀ t < r, (spelled (dWord seed pair t) pair (tailC cs t)).length ≤ 100000 ∧ JoinOk ⟨#[]⟩ (foldL S b3 (spelled (dWord seed pair t) pair (tailC cs t))) = true
  fold : ∀ t < r, foldOf S b3 (spelled (dWord seed pair t) pair (tailC cs t)) = dWord seed pair (t + 1)
  stock : 2 ≤ (stockOf k).length ∧ (stockOf k).length ≤ 100 ∧ (refsAt k).length ≤ 100 ∧ JoinOk ⟨#[]⟩ ((refsAt k).map (·.1)) = true
  find : ∀ l ∈ signs (dWord seed pair r), 0 ≤ Txt.find pair l ∧ Txt.find pair l < 2
  look : ∀ l ∈ signs (dWord seed pair r), (refsAt k).lookup (sgnOf (marksOf k ((cAt cs 0).fdiv 60)) pair l) = some (.str (refOf k (sgnOf (marksOf k ((cAt cs 0).fdiv 60)) pair l)))
  page : JoinOk ⟨#[]⟩ (sgnsOf (marksOf k ((cAt cs 0).fdiv 60)) pair (dWord seed pair r)) = true ∧ (Txt.join ⟨#[]⟩ (sgnsOf (marksOf k ((cAt cs 0).fdiv 60)) pair (dWord seed pair r))).length ≤ 16
  ask1 : PartsOk (signs (dWord seed pair r))
  ask2 : (escOf k (Txt.join ⟨#[]⟩ (sgnsOf (marksOf k ((cAt cs 0).fdiv 60)) pair (dWord seed pair r)))).length ≤ 10000 ∧ PartsOk ((sgnsOf (marksOf k ((cAt cs 0).fdiv 60)) pair (dWord seed pair r)).map (refOf k))
  due : DueOk seed pair r
  eq1 : asked (dWord seed pair r) (signs (dWord seed pair r)) = dOvers seed r
  eq2 : asked (escOf k (Txt.join ⟨#[]⟩ (sgnsOf (marksOf k ((cAt cs 0).fdiv 60)) pair (dWord seed pair r)))) ((sgnsOf (marksOf k ((cAt cs 0).fdiv 60)) pair (dWord seed pair r)).map (refOf k)) = dSquares seed pair r
section
variable {w : World} {g : Heap} {A : Around} {sc : Scope} {ρ ρ' : List (Str × PV)} {ow ow' : Option (Str × List Sc)} {mg mb : Str → Option Value}
noncomputable abbrev lRho (cs : List Int) (r k : Nat) (pair seed word : Str) : List (Str × PV) :=
  [("word", .sc (.str word)), ("own", .sc (.str word)), ("pair", .sc (.str pair)), ("cells", .list (cs.map .int)), ("seed", .sc (.str seed)), ("rounds", .sc (.int r)), ("kind", .sc (.int k))]
theorem cAt_some {cs : List Int} {i : Nat} (h : i < cs.length) : (cs.map Sc.int)[i]? = some (.int (cAt cs i)) := by
  rw [List.getElem?_map, cAt, List.getElem?_eq_getElem h]; rfl
theorem law_turn (G : Gd w g mg mb) {S : Int → Bool} {b3 : Nat → Option Str} {d : Nat} (F1 : Fn w g mg "in_table_b1" d (PB1 S)) (F3 : Fn w g mg "map_table_b3" d (PB3 b3)) (Fs : Fn w g mg "_law_spelled" d PSp) (Fd : Fn w g mg "_law_doubled" d PDbl)
    (hA : A.handled = none) (hd : A.depth + d < recursionLimit) {cs : List Int} {r k t : Nat} {pair seed word word' : Str} (c7 : cs.length = 7) (ht : t ≤ 100) (hs : SpOk word pair (tailC cs t)) (hw : doubled word pair = word')
    (hfj : (spelled word pair (tailC cs t)).length ≤ 100000 ∧ JoinOk ⟨#[]⟩ (foldL S b3 (spelled word pair (tailC cs t))) = true) (hf : foldOf S b3 (spelled word pair (tailC cs t)) = word') :
    Ex w g A scLaw (("turn", .sc (.int t)) :: lRho cs r k pair seed word) none lawTurn (.next (lRho cs r k pair seed word') none) := by
  have hsl : (signs (spelled word pair (tailC cs t))).length ≤ 100000 := by
    have : (signs (spelled word pair (tailC cs t))).length = (spelled word pair (tailC cs t)).length := by simp [signs, Str.length]
    omega
  have hone : ∀ a ∈ signs (spelled word pair (tailC cs t)), a = ⟨#[chr0 a]⟩ := fun a ha => by
    obtain ⟨c, _, rfl⟩ := List.mem_map.mp ha
    rfl
  have hw60 := hs.w
  apply Ex.to
  · refine Ex.cons (ExS.assign (pv := .sc (.str (spelled word pair (tailC cs t)))) (Ev.callF G Fs hA hd (EvArgs.cons (Ev.var rfl) (EvArgs.cons (Ev.var rfl) (EvArgs.cons (Ev.cast (Ev.slice (l := some (2 + (t : Int))) (h := none) (t := none) (Ev.var rfl) (Ev.bin Ev.int (Ev.var rfl) Op2.addI) trivial trivial (SlOp.list (by simp; omega) (by nofun))) (by rw [scPick_mapB]; rfl)) EvArgs.nil))) ⟨word, pair, tailC cs t, rfl, hs, rfl⟩) (.inl rfl)) ?_
    refine Ex.cons (ExS.assign (pv := .sc (.str word')) (Ev.cast (Ev.methS (x := ⟨#[]⟩) (Ev.str (x := ⟨#[]⟩)) (EvArgs.cons (Ev.filtC Sc.str Sc.str (signs (spelled word pair (tailC cs t))) (fun a => !S (chr0 a)) (fun a => folded b3 (chr0 a)) strInj hA (Src.str hA (Ev.var rfl)) rfl hsl (fun a ha => ?_) (fun a ha _ => ?_)) EvArgs.nil) PySem.F.slot_str_join PySem.F.type_str_join (CallOp.join hfj.2)) (by rw [← hf]; rfl)) (.inl rfl)) ?_
    · refine Tr.not (Tr.bool (Ev.callF G F1 hA hd (EvArgs.cons (Ev.var rfl) EvArgs.nil) ⟨chr0 a, ?_, rfl⟩))
      rw [← hone a ha]
    · refine Ev.callF G F3 hA hd (EvArgs.cons (Ev.var rfl) EvArgs.nil) ⟨chr0 a, ?_, rfl⟩
      rw [← hone a ha]
    refine Ex.cons (ExS.assign (pv := .sc (.str word')) (Ev.callF G Fd hA hd (EvArgs.cons (Ev.var rfl) (EvArgs.cons (Ev.var rfl) EvArgs.nil)) ⟨word, pair, rfl, by omega, hs.p, by rw [hw]⟩) (.inl rfl)) ?_
    exact Ex.cons (ExS.ite (c := false) (Tr.cast (Tr.cmp (Ev.var rfl) (Ev.var rfl) Op2.neS) (by simp)) (fun h => nomatch h) fun _ => Ex.nil) Ex.nil
  · exact ⟨rfl, rfl, rfl, rfl, rfl, rfl, rfl, trivial⟩
end
end Mine
end
section
open PySem PySem.W PyProof.Rows
set_option maxRecDepth 100000
set_option Elab.async false
set_option maxHeartbeats 2000000
namespace Mine
section
variable {w : World} {g : Heap} {A : Around} {sc : Scope} {ρ ρ' : List (Str × PV)} {ow ow' : Option (Str × List Sc)} {mg mb : Str → Option Value}
/-- (two lists) == what a def gives back -/
theorem Ev.eqDue {e1 e2 b1 b2 b3 : Expr} {c : Nat} {tp p1 p2 p3 : Pos} {xs ys : List Int} {d : Nat} {word pair : Str} {r : Nat} (G : Gd w g mg mb) (F : FnD w g mg d) (hA : A.handled = none) (hd : A.depth + d < recursionLimit) (hu : A.units < cLine) (hu2 : A.in1.units + 64 < cLine)
    (h : EvArgs w g A sc ρ [e1, e2] [.list (xs.map .int), .list (ys.map .int)]) (ha : EvArgs w g A sc ρ [b1, b2, b3] [.sc (.str word), .sc (.int r), .sc (.str pair)]) (hD : DueOk word pair r) (hx : xs = dOvers word r) (hy : ys = dSquares word pair r)
    (hk : sc.names.lookup ("_law_due" : Str) = some .globalImplicit) (hb : behindInMarks .Eq (.Call (.Name "_law_due" p1) [b1, b2, b3] [] p2) = false := by rfl) :
    Ev w g A sc ρ (.Compare (.Tuple [e1, e2] c tp) [.Eq] [.Call (.Name "_law_due" p1) [b1, b2, b3] [] p2] p3) (.sc (.bool true)) := .mk fun env s Q E I hk1 k => by
  refine wpAny_Compare1 (tuple_eval h (by simp) I hk1 fun T vs h1 t1 j1 G1 hT R => ?_) hb
  obtain ⟨a, f1, f2, f3⟩ := F
  refine call_raw (s := { s with heap := h1, toks := t1 }) G.T hk (.inl f1) f2 ha (by decide) (I.grow G1) j1 fun us h2 t2 j2 G2 R2 => ?_
  have I2 := (I.grow G1).grow G2
  refine f3 A hA hd word pair r hD env.locals { s with heap := h2, toks := t2 } us _ E I2.keep R2 j2 fun v h3 t3 j3 G3 hP => ?_
  obtain ⟨T2, vs2, L2, rfl, hT2, R3⟩ := hP
  obtain ⟨_, _, rfl, ⟨⟨a1, u1, rfl, l1, r1⟩, _⟩, ⟨a2, u2, rfl, l2, r2⟩, _⟩ := R.two
  obtain ⟨_, _, rfl, ⟨⟨a3, u3, rfl, l3, r3⟩, _⟩, ⟨a4, u4, rfl, l4, r4⟩, _⟩ := R3.two
  have kk : ∀ b o, h1.get? b = some o → h3.get? b = some o := fun b o e => G3.keep _ _ (G2.keep _ _ e)
  have hT' : IsTup h3 T #[.ref a1, .ref a2] := isTup_keep hT (kk _)
  have l1' := isList_keep l1 (kk _)
  have l2' := isList_keep l2 (kk _)
  refine PySem.SeqAt.eq_tupleAt (s := { s with heap := h3, toks := t3 }) (e := fun _ => true) hT' hT2 hu (fun j g1 g2 => ?_) ?_
  · match j, g1, g2 with
    | 0, _, _ =>
      have := keq_ints (A := A) (s := { s with heap := h3, toks := t3 }) l1' r1.ints l3 r3.ints hu2
      rw [decide_eq_true hx] at this
      exact this
    | 1, _, _ =>
      have := keq_ints (A := A) (s := { s with heap := h3, toks := t3 }) l2' r2.ints l4 r4.ints hu2
      rw [decide_eq_true hy] at this
      exact this
  · exact k _ h3 t3 j3 ⟨fun b o e => kk b o (G1.keep _ _ e)⟩ rfl (by nofun)
theorem Ev.callFr {f : Str} {d : Nat} {P : List PV → PV → Prop} {p pos : Pos} {e : Expr} {args : List Expr} {ps : List PV} {c : PV} (G : Gd w g mg mb) (F : Fn w g mg f d P) (hA : A.handled = none) (hd : A.depth + d < recursionLimit)
    (ha : EvArgs w g A sc ρ (e :: args) ps) (hP : P ps c) (hk : sc.names.lookup f = some .globalImplicit := by rfl) (hn : (f == ("__debug__" : Str)) = false := by decide) : Ev w g A sc ρ (.Call (.Name f p) (e :: args) [] pos) c :=
  Ev.callF G F hA hd ha hP hk hn
/-- as Ex, but from a state that may have drawn no mark yet -/
structure Ex0 (w : World) (g : Heap) (A : Around) (sc : Scope) (ρ : List (Str × PV)) (ow : Ow) (body : List Stmt) (out : Out) : Prop where
  run : ∀ (B : Addr → Obj → Prop) (env : Env) (s : Shared) (Q : Flow → Shared → Prop) (E : Value → Shared → Prop), OInv w g B sc env s.heap ρ ow → OutOk w g B sc env s Q out → wpAny (model pw w) A (execs body env) Q E s
theorem Ex0.cons {x : Str} {p pos tp cp : Pos} {es : List Expr} {i : Int} {j c : Nat} {ns : List Int} {rest : List Stmt} {out : Out} {ρ : List (Str × PV)} (h : constInts (.Constant (.int i) j cp :: es) = some ns) (hl : ns.length ≤ 100000)
    (hx : sc.names.lookup x = some .local ∨ sc.names.lookup x = some .cell) (r : Ex w g A sc ((x, .tuple (ns.map .int)) :: ρ) none rest out) :
    Ex0 w g A sc ρ none (.Assign [.Name x p] (.Tuple (.Constant (.int i) j cp :: es) c tp) pos :: rest) out := .mk fun B env s Q E O k => by
  simp only [constInts] at h
  obtain ⟨r', hr, rfl⟩ := Option.map_eq_some_iff.mp h
  refine wpAny_execs_cons (wpAny_Assign_Name ?_ rfl)
  have fin : ∀ v h' t', 1 ≤ t' → GrowX env.locals s.heap h' → Rep w h' (.tuple ((i :: r').map .int)) v → v ≠ .ref env.locals → wpAny (model pw w) A (storeName env x v) (fun _ s' => wpAny (model pw w) A (execs rest env) Q E s') E { s with heap := h', toks := t' } :=
    fun v h' t' j G R n => (O.grow G).store (s := { s with heap := h', toks := t' }) j hx trivial R n fun h'' t'' j' O' _ => r.run B env { s with heap := h'', toks := t'' } Q E O' j' k.at
  rw [arm_eval_Tuple]
  refine wpAny_bind (wpAny_standAt (wpAny_bind ?_))
  have he : EvArgs w g A sc ρ es ((r'.map Sc.int).map PV.sc) := EvArgs.ints hr
  show wpAny (model pw w) A (spliced (backTo tp ((false, eval (.Constant (.int i) j cp) env) :: starEach es env))) _ E s
  refine PySem.Calls.spliced_cons (wpAny_Constant_int (pos := cp) (k := j) ?_)
  refine he.spliced (pos := tp) (s := { s with toks := s.toks + 1 }) O.f.inv (by show 1 ≤ s.toks + 1; omega) fun vs h' t' j' G R => ?_
  have hr' : AllIs (r'.map Sc.int) vs := R.scs
  have hv := hr'.length
  rw [List.length_map] at hv
  rw [List.length_cons] at hl
  refine wpAny_newTuple (fin (.ref _) _ t' j' (G.trans (.push _)) ⟨_, .int i s.toks :: vs, rfl, ⟨_, Heap.get?_push_size _ rfl, rfl, 0, rfl⟩, ⟨⟨_, rfl⟩, hr'⟩⟩ (ne_new (O.f.inv.grow G).ns 0)) (by rw [sizeLine_eq, List.length_cons]; omega)
theorem law_body (G : Gd w g mg mb) {S : Int → Bool} {b3 : Nat → Option Str} {d : Nat} (F1 : Fn w g mg "in_table_b1" d (PB1 S)) (F3 : Fn w g mg "map_table_b3" d (PB3 b3)) (Fs : Fn w g mg "_law_spelled" d PSp) (Fd : Fn w g mg "_law_doubled" d PDbl)
    (Fr : Fn w g mg "_law_references" d PRefs) (Fw : Fn w g mg "_law_written" d PWr) (Fa : Fn w g mg "_law_asked" d PAsk) (Fdue : FnD w g mg d)
    (hA : A.handled = none) (hd : A.depth + d < recursionLimit) (hu : A.units < cLine) (hu2 : A.in1.units + 64 < cLine) {ns : List Int} (hns : ns.length ≤ 1000) {cs : List Int} (hcs : cellsOf ns = cs) {r p k : Nat} {pair seed : Str} (L : LawOk S b3 cs r p k pair seed) :
    Ex0 w g A scLaw [("script", .list (ns.map .int))] none (bodyOf sLaw) (.ret (.sc (.bool true))) := by
  have hp2 := L.pl
  have c7 := L.c7
  have c7' : (cs.map Sc.int).length = 7 := by rw [List.length_map]; exact c7
  have r1 := L.r1
  have r3 := L.r3
  have hpz : pairs4[(((cAt cs 0).fdiv 3).fmod 4).toNat]? = some pair := by
    rw [L.hp, ← L.hpair, pairAt, Int.toNat_natCast]
    have : p < pairs4.length := L.p4
    rw [List.getElem?_eq_getElem this]; rfl
  have hpb : 0 ≤ ((cAt cs 0).fdiv 3).fmod 4 ∧ ((cAt cs 0).fdiv 3).fmod 4 < 4 := by rw [L.hp]; have := L.p4; omega
  refine Ex0.cons (ns := basesL) (by rfl) (by decide) (.inl rfl) ?_
  refine Ex.cons (law_cells G hA hns rfl) ?_
  rw [hcs]
  refine Ex.cons (ExS.tupO3 (p := .sc (.int r)) (q := .sc (.str pair)) (r := .sc (.int k)) hA (EvArgs.cons (Ev.cast (Ev.bin Ev.int (Ev.bin (Ev.sub (Ev.var rfl) Ev.int (SubOp.listI (by decide) (by decide) (cAt_some (i := 0) (by omega)) (fun _ => rfl))) Ev.int (Op2.modI (by decide))) Op2.addI) (by rw [L.hr]))
    (EvArgs.cons (Ev.cast (Ev.sub (Ev.tupStrs (ns := pairs4) (by rfl) (by decide)) (Ev.bin (Ev.bin (Ev.sub (Ev.var rfl) Ev.int (SubOp.listI (by decide) (by decide) (cAt_some (i := 0) (by omega)) (fun _ => rfl))) Ev.int (Op2.divI (by decide) (PyProof.noPylong_small (by decide)))) Ev.int (Op2.modI (by decide))) (SubOp.tupI (a := .str pair) (j := (((cAt cs 0).fdiv 3).fmod 4).toNat) (by omega) (by omega) ?_ ?_)) rfl)
    (EvArgs.cons (Ev.cast (Ev.bin (Ev.bin (Ev.sub (Ev.var rfl) Ev.int (SubOp.listI (by decide) (by decide) (cAt_some (i := 0) (by omega)) (fun _ => rfl))) Ev.int (Op2.divI (by decide) (PyProof.noPylong_small (by decide)))) Ev.int (Op2.modI (by decide))) (by rw [L.hk])) EvArgs.nil))) (.inl rfl) (.inr rfl) (.inl rfl) (by intro env he; cases env; cases he; rfl)) ?_
  · unfold seqIndex?
    have : (pairs4.map Sc.str).length = 4 := rfl
    simp [this]; omega
  · rw [List.getElem?_map, hpz]; rfl
  have hm : ((8 : Int) - 2 * (r : Int)).toNat = 8 - 2 * r := by omega
  have hsj : JoinOk ⟨#[]⟩ ((List.range (8 - 2 * r)).map fun (k : Nat) => Txt.item pair (((cAt cs 1).fdiv ((2 : Int) ^ k)).fmod 2)) = true :=
    joinOk_small 1 (fun y hy => by obtain ⟨j, _, rfl⟩ := List.mem_map.mp hy; exact Nat.le_refl 1) (by rw [List.length_map, List.length_range]; omega)
  refine Ex.cons (ExS.assign (pv := .sc (.str seed)) (Ev.cast (Ev.methS (x := ⟨#[]⟩) (Ev.str (x := ⟨#[]⟩)) (EvArgs.cons (Ev.mapC (fun k : Nat => Sc.int (k : Int)) Sc.str (List.range (8 - 2 * r)) (fun (k : Nat) => Txt.item pair (((cAt cs 1).fdiv ((2 : Int) ^ k)).fmod 2)) natInj hA
      (Src.castX (Src.rng hA (Ev.callB G rfl (EvArgs.cons (Ev.bin Ev.int (Ev.bin Ev.int (Ev.var rfl) (Op2.mulI mulOk)) Op2.subI) EvArgs.nil) CallOp.range1) (by omega) (by omega) (by omega) (by omega)) (by rw [rng0, hm])) rfl (by simp; omega) (fun j hj => ?_)) EvArgs.nil) PySem.F.slot_str_join PySem.F.type_str_join (CallOp.join hsj)) (by rw [← L.hseed, seedOf])) (.inl rfl)) ?_
  · have hj8 : j < 8 := by have := List.mem_range.mp hj; omega
    have hpow : (2 : Int) ^ j ≠ 0 := by
      have : ∀ j < 8, (2 : Int) ^ j ≠ 0 := by decide
      exact this j hj8
    have hpow2 : ((2 : Int) ^ j).natAbs < 1073741824 := by
      have : ∀ j < 8, ((2 : Int) ^ j).natAbs < 1073741824 := by decide
      exact this j hj8
    have h0 := Int.fmod_nonneg_of_pos ((cAt cs 1).fdiv ((2 : Int) ^ j)) (b := 2) (by decide)
    have h1 := Int.fmod_lt_of_pos ((cAt cs 1).fdiv ((2 : Int) ^ j)) (b := 2) (by decide)
    exact Ev.sub (Ev.var rfl) (Ev.bin (Ev.bin (Ev.sub (Ev.var rfl) Ev.int (SubOp.listI (by decide) (by decide) (cAt_some (i := 1) (by omega)) (fun _ => rfl))) (Ev.cast (Ev.bin Ev.int (Ev.var rfl) (Op2.powI (by omega) (by omega) (by decide))) (by rw [Int.toNat_natCast])) (Op2.divI hpow (PyProof.noPylong_small hpow2))) Ev.int (Op2.modI (by decide))) (SubOp.strI (by omega) (by omega) (by omega))
  refine Ex.cons (ExS.tupS hA (EvArgs.cons (Ev.var rfl) (EvArgs.cons (Ev.var rfl) EvArgs.nil)) rfl rfl (by intro env he; cases env; cases he; rfl)) ?_
  refine Ex.from (ρ' := lRho cs r k pair seed (dWord seed pair 0)) ?_ ⟨rfl, rfl, rfl, rfl, rfl, rfl, rfl, trivial⟩
  have e : ((List.range ((r : Int) - 0).toNat).map fun (i : Nat) => Sc.int (0 + i)) = (List.range r).map fun (i : Nat) => Sc.int (i : Int) := by
    rw [rng0]; rfl
  refine Ex.cons (ExS.for_ (fun t => lRho cs r k pair seed (dWord seed pair t)) (fun _ => none) (n := r) (by simp)
    (Src.castX (Src.rng hA (Ev.callB G rfl (EvArgs.cons (Ev.var rfl) EvArgs.nil) CallOp.range1) (by omega) (by omega) (by omega) (by omega)) e)
    (fun q => nomatch q) (.inl rfl) (fun _ _ => trivial) (fun i hi a ha => ?_) (.full (by simp))) ?_
  · have ha' : a = .int (i : Int) := by
      rw [List.getElem?_map, List.getElem?_range hi] at ha
      cases ha; rfl
    subst ha'
    exact law_turn G F1 F3 Fs Fd hA hd c7 (by omega) (L.sp i hi) rfl (L.fj i hi) (L.fold i hi)
  have hst := L.stock
  have hw16 := L.w16 r (Nat.le_refl _)
  have hsl : (signs (dWord seed pair r)).length ≤ 100000 := by
    have : (signs (dWord seed pair r)).length = (dWord seed pair r).length := by simp [signs, Str.length]
    omega
  refine Ex.cons (ExS.assign (pv := .dict (refsAt k)) (Ev.callF G Fr hA hd (EvArgs.cons (Ev.var rfl) EvArgs.nil) ⟨k, L.k5, rfl, rfl⟩) (.inr rfl)) ?_
  refine Ex.cons (ExS.assign (pv := .sc (.str (stockOf k))) (Ev.methS (x := ⟨#[]⟩) (Ev.str (x := ⟨#[]⟩)) (EvArgs.cons (Ev.var rfl) EvArgs.nil) PySem.F.slot_str_join PySem.F.type_str_join (CallOp.joinD hA (by omega) hst.2.2.2)) (.inl rfl)) ?_
  have hlS : ((stockOf k).length : Int) ≠ 0 := by omega
  have pl0 : 0 ≤ placeOf k ((cAt cs 0).fdiv 60) := Int.fmod_nonneg_of_pos _ (by omega)
  have pl1 : placeOf k ((cAt cs 0).fdiv 60) < (stockOf k).length := Int.fmod_lt_of_pos _ (by omega)
  have qq0 : 0 ≤ (placeOf k ((cAt cs 0).fdiv 60) + stepOf k ((cAt cs 0).fdiv 60)).fmod (stockOf k).length := Int.fmod_nonneg_of_pos _ (by omega)
  have qq1 : (placeOf k ((cAt cs 0).fdiv 60) + stepOf k ((cAt cs 0).fdiv 60)).fmod (stockOf k).length < (stockOf k).length := Int.fmod_lt_of_pos _ (by omega)
  have lenOf : ∀ {ρ : List (Str × PV)} {p p1 p2 : Pos}, ρ.lookup ("stock" : Str) = some (PV.sc (.str (stockOf k))) → Ev w g A scLaw ρ (.Call (.Name "len" p) [.Name "stock" p1] [] p2) (.sc (.int (stockOf k).length)) :=
    fun h => Ev.callB G rfl (EvArgs.cons (Ev.var h) EvArgs.nil) (CallOp.lenS (by omega))
  refine Ex.cons (ExS.assign (pv := .sc (.int ((cAt cs 0).fdiv 60))) (Ev.bin (Ev.sub (Ev.var rfl) Ev.int (SubOp.listI (by decide) (by decide) (cAt_some (i := 0) (by omega)) (fun _ => rfl))) Ev.int (Op2.divI (by decide) (PyProof.noPylong_small (by decide)))) (.inl rfl)) ?_
  refine Ex.cons (ExS.tupS (p := .sc (.int (placeOf k ((cAt cs 0).fdiv 60)))) (q := .sc (.int (stepOf k ((cAt cs 0).fdiv 60)))) hA (EvArgs.cons (Ev.bin (Ev.var rfl) (lenOf rfl) (Op2.modI hlS))
    (EvArgs.cons (Ev.bin Ev.int (Ev.bin (Ev.bin (Ev.var rfl) (lenOf rfl) (Op2.divI hlS (PyProof.noPylong_small (by omega)))) (Ev.bin (lenOf rfl) Ev.int Op2.subI) (Op2.modI (by omega))) Op2.addI) EvArgs.nil)) rfl rfl (by intro env he; cases env; cases he; rfl)) ?_
  refine Ex.cons (ExS.assign (pv := .sc (.str (marksOf k ((cAt cs 0).fdiv 60)))) (Ev.bin (Ev.sub (Ev.var rfl) (Ev.var rfl) (SubOp.strI (by omega) pl1 (by omega))) (Ev.sub (Ev.var rfl) (Ev.bin (Ev.bin (Ev.var rfl) (Ev.var rfl) Op2.addI) (lenOf rfl) (Op2.modI hlS)) (SubOp.strI (by omega) qq1 (by omega))) (Op2.addS (by rw [item_len, item_len, sizeLine_eq]; decide))) (.inr rfl)) ?_
  have hml : (marksOf k ((cAt cs 0).fdiv 60)).length = 2 := by unfold marksOf; rw [Str.length_append]; rfl
  refine Ex.cons (ExS.mapC Sc.str Sc.str (signs (dWord seed pair r)) (sgnOf (marksOf k ((cAt cs 0).fdiv 60)) pair) strInj hA (Src.str hA (Ev.var rfl)) rfl hsl rfl (by intro env he; cases env; cases he; rfl) (fun l hl => ?_)) ?_
  · obtain ⟨f1, f2⟩ := L.find l hl
    exact Ev.sub (Ev.var rfl) (Ev.methS (x := pair) (Ev.var rfl) (EvArgs.cons (Ev.var rfl) EvArgs.nil) PySem.F.slot_str_find PySem.F.type_str_find CallOp.find) (SubOp.strI (by omega) (by rw [hml]; exact f2) (by rw [hml]; decide))
  have hpg := L.page
  refine Ex.cons (ExS.assign (pv := .sc (.str (escOf k (Txt.join ⟨#[]⟩ (sgnsOf (marksOf k ((cAt cs 0).fdiv 60)) pair (dWord seed pair r)))))) (Ev.callF G Fw hA hd (EvArgs.cons (Ev.var rfl) (EvArgs.cons (Ev.methS (x := ⟨#[]⟩) (Ev.str (x := ⟨#[]⟩)) (EvArgs.cons (Ev.var rfl) EvArgs.nil) PySem.F.slot_str_join PySem.F.type_str_join (CallOp.join hpg.1)) EvArgs.nil)) ⟨k, _, L.k5, hpg.2, rfl, rfl⟩) (.inl rfl)) ?_
  have hsg : (sgnsOf (marksOf k ((cAt cs 0).fdiv 60)) pair (dWord seed pair r)).length ≤ 100000 := by rw [sgnsOf, List.length_map]; exact hsl
  refine Ex.cons (ExS.mapC Sc.str Sc.str (sgnsOf (marksOf k ((cAt cs 0).fdiv 60)) pair (dWord seed pair r)) (refOf k) strInj hA (Src.list hA (Ev.var rfl)) rfl hsg rfl (by intro env he; cases env; cases he; rfl) (fun l hl => ?_)) ?_
  · obtain ⟨l', hl', rfl⟩ := List.mem_map.mp hl
    exact Ev.sub (Ev.var rfl) (Ev.var rfl) (SubOp.dictI (L.look l' hl'))
  refine Ex.ret (ExS.ret (Ev.eqDue (xs := asked (dWord seed pair r) (signs (dWord seed pair r))) (ys := asked (escOf k (Txt.join ⟨#[]⟩ (sgnsOf (marksOf k ((cAt cs 0).fdiv 60)) pair (dWord seed pair r)))) ((sgnsOf (marksOf k ((cAt cs 0).fdiv 60)) pair (dWord seed pair r)).map (refOf k)))
    G Fdue hA hd hu hu2 (EvArgs.cons (Ev.callF G Fa hA hd (EvArgs.cons (Ev.var rfl) (EvArgs.cons (Ev.callB G rfl (EvArgs.cons (Ev.var rfl) EvArgs.nil) (CallOp.listStr hA (by omega))) EvArgs.nil)) ⟨_, _, by omega, L.ask1, rfl, rfl⟩)
      (EvArgs.cons (Ev.callF G Fa hA hd (EvArgs.cons (Ev.var rfl) (EvArgs.cons (Ev.var rfl) EvArgs.nil)) ⟨_, _, L.ask2.1, L.ask2.2, rfl, rfl⟩) EvArgs.nil))
    (EvArgs.cons (Ev.var rfl) (EvArgs.cons (Ev.var rfl) (EvArgs.cons (Ev.var rfl) EvArgs.nil))) L.due L.eq1 L.eq2 rfl))
end
end Mine
end
section
open PySem PySem.W PyProof.Rows
set_option maxRecDepth 100000
set_option Elab.async false
set_option maxHeartbeats 2000000
namespace Mine
noncomputable def nameOf : Stmt → Str
  | .FunctionDef n _ _ _ _ _ _ _ _ _ => n
  | _ => ⟨#[]⟩
noncomputable def paramsOf : Stmt → Arguments
  | .FunctionDef _ a _ _ _ _ _ _ _ _ => a
  | _ => default
noncomputable def posOfS : Stmt → Pos
  | .FunctionDef _ _ _ _ _ _ _ _ _ p => p
  | _ => default
noncomputable def recOf (s : Stmt) : DefRec := ⟨nameOf s, paramsOf s, bodyOf s, scopeOf s pw.main.scope, posOfS s⟩
theorem rec_at0 : (recsOf q)[0]? = some (recOf sB1) := by kernel_rfl
theorem rec_at1 : (recsOf q)[1]? = some (recOf sB3) := by kernel_rfl
theorem rec_at2 : (recsOf q)[2]? = some (recOf sEll) := by kernel_rfl
theorem rec_at4 : (recsOf q)[4]? = some (recOf sEsc0) := by kernel_rfl
theorem rec_at5 : (recsOf q)[5]? = some (recOf sEsc1) := by kernel_rfl
theorem rec_at6 : (recsOf q)[6]? = some (recOf sEsc2) := by kernel_rfl
theorem rec_at7 : (recsOf q)[7]? = some (recOf sEsc3) := by kernel_rfl
theorem rec_at8 : (recsOf q)[8]? = some (recOf sEsc4) := by kernel_rfl
theorem rec_at9 : (recsOf q)[9]? = some (recOf sSpelled) := by kernel_rfl
theorem rec_at10 : (recsOf q)[10]? = some (recOf sDoubled) := by kernel_rfl
theorem rec_at11 : (recsOf q)[11]? = some (recOf sRefs) := by kernel_rfl
theorem rec_at12 : (recsOf q)[12]? = some (recOf sWritten) := by kernel_rfl
theorem rec_at13 : (recsOf q)[13]? = some (recOf sAsked) := by kernel_rfl
theorem rec_at14 : (recsOf q)[14]? = some (recOf sDue) := by kernel_rfl
theorem rec_at15 : (recsOf q)[15]? = some (recOf sLaw) := by kernel_rfl
section
variable {w : World} {g : Heap} {A : Around} {mg mb : Str → Option Value} {mean : ExcName → Option Value} {lo : List Str}
theorem Fn.weaken {name : Str} {d d' : Nat} {P : List PV → PV → Prop} (h : Fn w g mg name d P) (hd : d ≤ d') : Fn w g mg name d' P := by
  obtain ⟨a, h1, h2, h3⟩ := h
  exact ⟨a, h1, h2, fun A hA hr => h3 A hA (by omega)⟩
/-- what a def's head must be -/
structure Plain (s : Stmt) (names : List Str) : Prop where
  kind : (scopeOf s pw.main.scope).kind = .function
  co : (scopeOf s pw.main.scope).isCoroutine = false
  gen : (scopeOf s pw.main.scope).isGenerator = false
  bind : ∀ (pm code doc : Value) (vals : List Value), vals.length = names.length → bindArgs (PySem.Calls.docDef (nameOf s) (paramsOf s) (bodyOf s) (scopeOf s pw.main.scope) pm code doc) ⟨vals, []⟩ = pure (names.zip vals)
  nd : names.Nodup
  names : ∀ n ∈ names, (scopeOf s pw.main.scope).names.lookup n = some .local ∨ (scopeOf s pw.main.scope).names.lookup n = some .cell
theorem Fn.of {s : Stmt} {i : Nat} {names : List Str} {d : Nat} {P : List PV → PV → Prop} (T : Top q lo mean mg mb g) (G : Gd w g mg mb) (hi : (recsOf q)[i]? = some (recOf s)) (Pl : Plain s names)
    (h : ∀ ps c, P ps c → names.length = ps.length ∧ (∀ kvs, c ≠ .dict kvs) ∧ ∀ A : Around, A.handled = none → A.depth < recursionLimit + 1 - d → Ex w g A (scopeOf s pw.main.scope) (names.zip ps) none (bodyOf s) (.ret c)) : Fn w g mg (nameOf s) d P := by
  obtain ⟨a, o, pm, code, doc, h1, h2, h3, h4⟩ := T.fn _ (List.mem_of_getElem? hi)
  refine ⟨a, h1, .inr (.inr ⟨a, o, _, rfl, h2, h3⟩), fun A hA hr ps c hP => ?_⟩
  obtain ⟨hl, hn, hb⟩ := h ps c hP
  exact CallG.fn G.T (by omega) h2 h3 h4 rfl rfl rfl rfl Pl.kind Pl.co Pl.gen (Pl.bind pm code doc) hl Pl.nd Pl.names hn fun env => hb (A.deeper env) hA (by show A.depth + 1 < _; omega)
end
end Mine
end
section
open PySem PySem.W PyProof.Rows
set_option maxRecDepth 100000
set_option Elab.async false
set_option maxHeartbeats 2000000
namespace Mine
theorem plain_b1 : Plain sB1 ["code"] := ⟨rfl, rfl, rfl, by intro pm code doc vals h; match vals, h with | [_], _ => rfl, by decide, by decide⟩
theorem plain_b3 : Plain sB3 ["code"] := ⟨rfl, rfl, rfl, by intro pm code doc vals h; match vals, h with | [_], _ => rfl, by decide, by decide⟩
theorem plain_ell : Plain sEll ["want", "got"] := ⟨rfl, rfl, rfl, by intro pm code doc vals h; match vals, h with | [_, _], _ => rfl, by decide, by decide⟩
theorem plain_esc0 : Plain sEsc0 ["text"] := ⟨rfl, rfl, rfl, by intro pm code doc vals h; match vals, h with | [_], _ => rfl, by decide, by decide⟩
theorem plain_esc1 : Plain sEsc1 ["text"] := ⟨rfl, rfl, rfl, by intro pm code doc vals h; match vals, h with | [_], _ => rfl, by decide, by decide⟩
theorem plain_esc2 : Plain sEsc2 ["text"] := ⟨rfl, rfl, rfl, by intro pm code doc vals h; match vals, h with | [_], _ => rfl, by decide, by decide⟩
theorem plain_esc3 : Plain sEsc3 ["text"] := ⟨rfl, rfl, rfl, by intro pm code doc vals h; match vals, h with | [_], _ => rfl, by decide, by decide⟩
theorem plain_esc4 : Plain sEsc4 ["text"] := ⟨rfl, rfl, rfl, by intro pm code doc vals h; match vals, h with | [_], _ => rfl, by decide, by decide⟩
theorem plain_spelled : Plain sSpelled ["word", "pair", "cells"] := ⟨rfl, rfl, rfl, by intro pm code doc vals h; match vals, h with | [_, _, _], _ => rfl, by decide, by decide⟩
theorem plain_doubled : Plain sDoubled ["word", "pair"] := ⟨rfl, rfl, rfl, by intro pm code doc vals h; match vals, h with | [_, _], _ => rfl, by decide, by decide⟩
theorem plain_refs : Plain sRefs ["kind"] := ⟨rfl, rfl, rfl, by intro pm code doc vals h; match vals, h with | [_], _ => rfl, by decide, by decide⟩
theorem plain_written : Plain sWritten ["kind", "page"] := ⟨rfl, rfl, rfl, by intro pm code doc vals h; match vals, h with | [_, _], _ => rfl, by decide, by decide⟩
theorem plain_asked : Plain sAsked ["page", "parts"] := ⟨rfl, rfl, rfl, by intro pm code doc vals h; match vals, h with | [_, _], _ => rfl, by decide, by decide⟩
theorem plain_due : Plain sDue ["word", "rounds", "pair"] := ⟨rfl, rfl, rfl, by intro pm code doc vals h; match vals, h with | [_, _, _], _ => rfl, by decide, by decide⟩
theorem plain_law : Plain sLaw ["script"] := ⟨rfl, rfl, rfl, by intro pm code doc vals h; match vals, h with | [_], _ => rfl, by decide, by decide⟩
section
variable {w : World} {g : Heap} {A : Around} {mg mb : Str → Option Value} {mean : ExcName → Option Value} {lo : List Str}
theorem fn_b1 (T : Top q lo mean mg mb g) (G : Gd w g mg mb) {a : Addr} {S : Int → Bool} {n : Nat} (hv : mg "b1_set" = some (.ref a)) (hS : g.SetOf (PySem.intKind pw w) a S n) : Fn w g mg "in_table_b1" 0 (PB1 S) :=
  Fn.of (s := sB1) T G rec_at0 plain_b1 fun ps c h => by
    obtain ⟨n, rfl, rfl⟩ := h
    exact ⟨rfl, nofun, fun A hA _ => b1_body G hv hS⟩
theorem fn_b3 (T : Top q lo mean mg mb g) (G : Gd w g mg mb) {a : Addr} {b3 : Nat → Option Str} (hv : mg "b3_exceptions" = some (.ref a)) (hB : B3At w g a b3) : Fn w g mg "map_table_b3" 0 (PB3 b3) :=
  Fn.of (s := sB3) T G rec_at1 plain_b3 fun ps c h => by
    obtain ⟨n, rfl, rfl⟩ := h
    exact ⟨rfl, nofun, fun A hA _ => b3_body G hv hB⟩
theorem fn_esc0 (T : Top q lo mean mg mb g) (G : Gd w g mg mb) : Fn w g mg "_escape_cdata" 0 (PEsc escK0) :=
  Fn.of (s := sEsc0) T G rec_at4 plain_esc0 fun ps c h => by
    obtain ⟨x, rfl, hx, rfl⟩ := h
    exact ⟨rfl, nofun, fun A hA _ => escK0_body G hx⟩
theorem fn_esc1 (T : Top q lo mean mg mb g) (G : Gd w g mg mb) : Fn w g mg "_escape_attrib" 0 (PEsc escK1) :=
  Fn.of (s := sEsc1) T G rec_at5 plain_esc1 fun ps c h => by
    obtain ⟨x, rfl, hx, rfl⟩ := h
    exact ⟨rfl, nofun, fun A hA _ => escK1_body G hx⟩
theorem fn_esc2 (T : Top q lo mean mg mb g) (G : Gd w g mg mb) : Fn w g mg "_escape_attrib_html" 0 (PEsc escK2) :=
  Fn.of (s := sEsc2) T G rec_at6 plain_esc2 fun ps c h => by
    obtain ⟨x, rfl, hx, rfl⟩ := h
    exact ⟨rfl, nofun, fun A hA _ => escK2_body G hx⟩
theorem fn_esc3 (T : Top q lo mean mg mb g) (G : Gd w g mg mb) : Fn w g mg "_escape_cdata_c14n" 0 (PEsc escK3) :=
  Fn.of (s := sEsc3) T G rec_at7 plain_esc3 fun ps c h => by
    obtain ⟨x, rfl, hx, rfl⟩ := h
    exact ⟨rfl, nofun, fun A hA _ => escK3_body G hx⟩
theorem fn_esc4 (T : Top q lo mean mg mb g) (G : Gd w g mg mb) : Fn w g mg "_escape_attrib_c14n" 0 (PEsc escK4) :=
  Fn.of (s := sEsc4) T G rec_at8 plain_esc4 fun ps c h => by
    obtain ⟨x, rfl, hx, rfl⟩ := h
    exact ⟨rfl, nofun, fun A hA _ => escK4_body G hx⟩
theorem fn_spelled (T : Top q lo mean mg mb g) (G : Gd w g mg mb) : Fn w g mg "_law_spelled" 0 PSp :=
  Fn.of (s := sSpelled) T G rec_at9 plain_spelled fun ps c h => by
    obtain ⟨word, pair, cells, rfl, k, rfl⟩ := h
    exact ⟨rfl, nofun, fun A hA _ => spelled_body G hA k.w k.p k.c k.c2 k.hT k.hP⟩
theorem flip2_len (p : Str) : (flip2 p).length ≤ p.length := Txt.sliceBy_le p none none (-1, 0) (by show (-1 : Int) ≠ 0; decide)
theorem fn_doubled (T : Top q lo mean mg mb g) (G : Gd w g mg mb) : Fn w g mg "_law_doubled" 0 PDbl :=
  Fn.of (s := sDoubled) T G rec_at10 plain_doubled fun ps c h => by
    obtain ⟨word, pair, rfl, h1, h2, rfl⟩ := h
    refine ⟨rfl, nofun, fun A hA _ => doubled_body hA h1 h2 (joinOk_small 2 (fun y hy => ?_) ?_)⟩
    · obtain ⟨l, _, rfl⟩ := List.mem_map.mp hy
      have := flip2_len pair
      split <;> omega
    · have : (signs word).length = word.length := by simp [signs, Str.length]
      rw [List.length_map]; omega
theorem fn_written (T : Top q lo mean mg mb g) (G : Gd w g mg mb) : Fn w g mg "_law_written" 1 PWr :=
  Fn.of (s := sWritten) T G rec_at12 plain_written fun ps c h => by
    obtain ⟨k, page, h1, h2, rfl, rfl⟩ := h
    exact ⟨rfl, nofun, fun A hA hd => written_body (d := 0) G (fn_esc0 T G) (fn_esc1 T G) (fn_esc2 T G) (fn_esc3 T G) (fn_esc4 T G) hA (by omega) h1 h2⟩
theorem fn_refs (T : Top q lo mean mg mb g) (G : Gd w g mg mb) : Fn w g mg "_law_references" 0 PRefs := by
  obtain ⟨a, o, pm, code, doc, h1, h2, h3, h4⟩ := T.fn _ (List.mem_of_getElem? rec_at11)
  refine ⟨a, h1, .inr (.inr ⟨a, o, _, rfl, h2, h3⟩), fun A hA hr ps c hP => ?_⟩
  obtain ⟨k, hk, rfl, rfl⟩ := hP
  exact CallG.fnN G.T (by omega) h2 h3 h4 rfl rfl rfl rfl plain_refs.kind plain_refs.co plain_refs.gen (plain_refs.bind pm code doc) rfl plain_refs.nd plain_refs.names fun env => refs_body (A := A.deeper env) G hA hk
theorem fn_due (T : Top q lo mean mg mb g) (G : Gd w g mg mb) : FnD w g mg 1 := by
  obtain ⟨a, o, pm, code, doc, h1, h2, h3, h4⟩ := T.fn _ (List.mem_of_getElem? rec_at14)
  refine ⟨a, h1, .inr (.inr ⟨a, o, _, rfl, h2, h3⟩), fun A hA hr word pair r D => ?_⟩
  exact CallGP.fn G.T (by omega) h2 h3 h4 rfl rfl rfl rfl plain_due.kind plain_due.co plain_due.gen (plain_due.bind pm code doc) rfl plain_due.nd plain_due.names fun env =>
    due_body (A := A.deeper env) (d := 0) G (fn_doubled T G) hA (by show A.depth + 1 + 0 < _; omega) D.r D.h1 D.p D.w D.s
end
end Mine
end
section
open PySem PySem.W PyProof.Rows
open PySem.Builtin PySem.Builtin.Str PySem.StrLaws
set_option maxRecDepth 100000
set_option Elab.async false
set_option maxHeartbeats 2000000
namespace Mine
/-- m stands somewhere in l -/
noncomputable def infixB (m : List Nat) : List Nat → Bool
  | [] => m.isEmpty
  | c :: r => m.isPrefixOf (c :: r) || infixB m r
theorem infixB_iff (m : List Nat) : ∀ l : List Nat, infixB m l = true ↔ ∃ i, i + m.length ≤ l.length ∧ (l.drop i).take m.length = m
  | [] => by
    unfold infixB
    constructor
    · intro h
      have : m = [] := by simpa using h
      subst this
      exact ⟨0, Nat.le_refl _, rfl⟩
    · rintro ⟨i, h1, h2⟩
      have : m.length = 0 := by simp at h1; exact h1.2 ▸ rfl
      simpa using List.length_eq_zero_iff.mp this
  | c :: r => by
    unfold infixB
    rw [Bool.or_eq_true, infixB_iff m r, List.isPrefixOf_iff_prefix]
    constructor
    · rintro (h | ⟨i, h1, h2⟩)
      · obtain ⟨t, ht⟩ := h
        refine ⟨0, ?_, ?_⟩
        · have := congrArg List.length ht; simp at this; simp; omega
        · rw [← ht]; simp
      · exact ⟨i + 1, by simp; omega, by simpa using h2⟩
    · rintro ⟨i, h1, h2⟩
      cases i with
      | zero =>
        left
        rw [List.drop_zero] at h2
        exact ⟨(c :: r).drop m.length, by conv => lhs; rw [← h2]
                                          rw [h2]; conv => lhs; arg 1; rw [← h2]
                                          exact List.take_append_drop _ _⟩
      | succ i => right; exact ⟨i, by simp at h1; omega, by simpa using h2⟩
theorem at_iff (x y : Str) (i : Nat) : At x y x.length i ↔ i + y.cps.toList.length ≤ x.cps.toList.length ∧ (x.cps.toList.drop i).take y.cps.toList.length = y.cps.toList := by
  unfold At
  rw [subAt_eq, beq_iff_eq]
  simp [Str.length]
theorem hasStr_eq (x y : Str) : hasStr x y = infixB y.cps.toList x.cps.toList := by
  rw [Bool.eq_iff_iff, infixB_iff, hasStr, found_iff]
  constructor
  · rintro ⟨i, h⟩; exact ⟨i, (at_iff x y i).mp h⟩
  · rintro ⟨i, h⟩; exact ⟨i, (at_iff x y i).mpr h⟩
theorem findIn_at (x y : Str) (lo : Nat) : (findIn x y lo x.length = -1 ∧ ∀ i, lo ≤ i → ¬ At x y x.length i) ∨
    ∃ i : Nat, findIn x y lo x.length = (i : Int) ∧ lo ≤ i ∧ At x y x.length i ∧ ∀ k, lo ≤ k → k < i → ¬ At x y x.length k := by
  unfold findIn
  rcases occ_head_from x y lo 1 (Nat.le_refl 1) with ⟨h0, hn⟩ | ⟨i, r, h0, h1, h2, h3⟩
  · rw [h0]; exact .inl ⟨rfl, hn⟩
  · rw [h0]; exact .inr ⟨i, rfl, h1, h2, h3⟩
theorem hasIn_eq (x y : Str) : hasIn x y = infixB y.cps.toList x.cps.toList := by
  rw [Bool.eq_iff_iff, infixB_iff, hasIn, decide_eq_true_eq]
  rcases findIn_at x y 0 with ⟨h0, hn⟩ | ⟨i, h0, _, h2, _⟩
  · rw [h0]
    constructor
    · intro h; omega
    · rintro ⟨i, h⟩; exact absurd ((at_iff x y i).mpr h) (hn i (Nat.zero_le _))
  · rw [h0]
    exact ⟨fun _ => ⟨i, (at_iff x y i).mp h2⟩, fun _ => by omega⟩
theorem at_empty (x : Str) {i : Nat} (h : i ≤ x.length) : At x ⟨#[]⟩ x.length i := ⟨h, by rw [subAt_eq]; simp [Str.length]⟩
theorem find_empty (x : Str) {lo : Nat} (h : lo ≤ x.length) : findIn x ⟨#[]⟩ lo x.length = (lo : Int) := by
  rcases findIn_at x ⟨#[]⟩ lo with ⟨_, hn⟩ | ⟨i, h0, h1, _, h3⟩
  · exact absurd (at_empty x h) (hn lo (Nat.le_refl _))
  · rw [h0]
    rcases Nat.lt_or_eq_of_le h1 with q | q
    · exact absurd (at_empty x h) (h3 lo (Nat.le_refl _) q)
    · rw [q]
theorem chain_next {x y : Str} {a f k0 : Nat} : ∀ {cuts : List Nat}, ChainG x y x.length a cuts f → (∀ k, f ≤ k → ¬ At x y x.length k) → a ≤ k0 → At x y x.length k0 → (∀ k, a ≤ k → k < k0 → ¬ At x y x.length k) →
    ∃ r, cuts = k0 :: r ∧ ChainG x y x.length (k0 + y.length) r f
  | [], h, hn, ha, hk, _ => by
    have e : f = a := h
    exact absurd hk (hn k0 (by omega))
  | c :: r, ⟨h1, h2, h3, h4⟩, hn, ha, hk, hno => by
    have : c = k0 := by
      rcases Nat.lt_trichotomy c k0 with q | q | q
      · exact absurd h2 (hno c h1 q)
      · exact q
      · exact absurd hk (h3 k0 ha q)
    subst this
    exact ⟨r, rfl, h4⟩
theorem chain_stop {x y : Str} {a f : Nat} : ∀ {cuts : List Nat}, ChainG x y x.length a cuts f → (∀ k, a ≤ k → ¬ At x y x.length k) → cuts = []
  | [], _, _ => rfl
  | c :: _, ⟨h1, h2, _, _⟩, hn => absurd h2 (hn c h1)
theorem dots_list : dots.cps.toList = [46, 46, 46] := by rfl
theorem split_dots {m : Str} (hm : 46 ∉ m.cps.toList) : Txt.split (dots ++ m ++ dots) dots = [⟨#[]⟩, m, ⟨#[]⟩] := by
  generalize hx : dots ++ m ++ dots = x
  have hl : x.cps.toList = [46, 46, 46] ++ (m.cps.toList ++ [46, 46, 46]) := by
    rw [← hx, Str.cps_append, Str.cps_append, Array.toList_append, Array.toList_append, dots_list, List.append_assoc]
  have hlen : x.length = m.length + 6 := by
    have := congrArg List.length hl
    simp [Str.length] at this ⊢; omega
  have hml : m.cps.toList.length = m.length := by simp [Str.length]
  have atd : ∀ k, At x dots x.length k ↔ k + 3 ≤ m.length + 6 ∧ (x.cps.toList.drop k).take 3 = [46, 46, 46] := by
    intro k
    rw [at_iff, dots_list]
    show k + 3 ≤ x.cps.toList.length ∧ _ ↔ _
    rw [show x.cps.toList.length = m.length + 6 from by simpa [Str.length] using hlen]
    exact Iff.rfl
  have a0 : At x dots x.length 0 := (atd 0).mpr ⟨by omega, by rw [hl]; rfl⟩
  have a1 : At x dots x.length (3 + m.length) := (atd _).mpr ⟨by omega, by
    rw [hl, ← List.append_assoc, List.drop_append_of_le_length (by rw [List.length_append, hml]; exact Nat.le_refl _), List.drop_of_length_le (by rw [List.length_append, hml]; exact Nat.le_refl _)]
    rfl⟩
  have none_mid : ∀ k, 3 ≤ k → k < 3 + m.length → ¬ At x dots x.length k := fun k h1 h2 hA => by
    obtain ⟨_, h⟩ := (atd k).mp hA
    have e1 : x.cps.toList[k]? = some 46 := by
      have : ((x.cps.toList.drop k).take 3)[0]? = some 46 := by rw [h]; rfl
      rw [List.getElem?_take_of_lt (by omega), List.getElem?_drop] at this
      simpa using this
    rw [hl, List.getElem?_append_right (by show 3 ≤ k; omega), List.getElem?_append_left (by rw [hml]; show k - 3 < _; omega)] at e1
    exact hm (List.mem_of_getElem? e1)
  have none_end : ∀ k, 6 + m.length ≤ k → ¬ At x dots x.length k := fun k h1 hA => by
    obtain ⟨h, _⟩ := (atd k).mp hA
    omega
  obtain ⟨f, hC, hf⟩ := occ_tight x dots (by decide)
  obtain ⟨r, e1, hC1⟩ := chain_next hC hf (Nat.zero_le _) a0 (fun k h1 h2 => by omega)
  obtain ⟨r2, e2, hC2⟩ := chain_next hC1 hf (k0 := 3 + m.length) (by show 0 + 3 ≤ _; omega) a1 (fun k h1 h2 => none_mid k (by have : 0 + 3 ≤ k := h1; omega) h2)
  have e3 := chain_stop hC2 (fun k h1 => none_end k (by have : 3 + m.length + 3 ≤ k := h1; omega))
  subst e3
  subst e2
  have hp : partsBetween x [0, 3 + m.length] 3 = [⟨#[]⟩, m, ⟨#[]⟩] := by
    show [strSub x 0 0, strSub x (0 + 3) (3 + m.length), strSub x (3 + m.length + 3) x.length] = _
    have s1 : strSub x 0 0 = ⟨#[]⟩ := Str.ext' (Array.toList_inj.mp (by rw [strSub_toList]; simp))
    have s2 : strSub x (0 + 3) (3 + m.length) = m := Str.ext' (Array.toList_inj.mp (by
      rw [strSub_toList, hl, show 3 + m.length - (0 + 3) = m.cps.toList.length from by rw [hml]; omega]
      show (m.cps.toList ++ [46, 46, 46]).take _ = _
      rw [List.take_left]))
    have s3 : strSub x (3 + m.length + 3) x.length = ⟨#[]⟩ := Str.ext' (Array.toList_inj.mp (by rw [strSub_toList, hlen, show m.length + 6 - (3 + m.length + 3) = 0 from by omega]; rfl))
    rw [s1, s2, s3]
  unfold Txt.split
  split
  · rename_i hc
    rw [Bool.or_eq_true, decide_eq_true_eq, decide_eq_true_eq] at hc
    rcases hc with h | h
    · have : dots.length = 3 := rfl
      omega
    · exfalso
      have e1 : Builtin.Str.strKind dots = 1 := by decide +kernel
      have e2 : 1 ≤ Builtin.Str.strKind x := by unfold Builtin.Str.strKind; split <;> (try split) <;> omega
      omega
  · rw [e1]
    exact hp
end Mine
end
section
open PySem PySem.W PyProof.Rows
open PySem.Builtin PySem.Builtin.Str PySem.StrLaws
set_option maxRecDepth 100000
set_option Elab.async false
set_option maxHeartbeats 2000000
namespace Mine
theorem dots_in (m : Str) : (occurrences (dots ++ m ++ dots) dots 0 (dots ++ m ++ dots).length 1).isEmpty = false := by
  have h : hasStr (dots ++ m ++ dots) dots = true := by
    rw [hasStr_eq, infixB_iff]
    refine ⟨0, ?_, ?_⟩
    · rw [Str.cps_append, Str.cps_append, Array.toList_append, Array.toList_append, List.length_append, List.length_append]; omega
    · rw [Str.cps_append, Str.cps_append, Array.toList_append, Array.toList_append, List.append_assoc, List.drop_zero, List.take_left]
  unfold hasStr at h
  simpa using h
section
variable {w : World} {g : Heap} {A : Around} {mg mb : Str → Option Value} {mean : ExcName → Option Value} {lo : List Str}
theorem fn_ell (T : Top q lo mean mg mb g) (G : Gd w g mg mb) (hell : ∃ t, mg "ELLIPSIS_MARKER" = some (.str dots t)) : Fn w g mg "_ellipsis_match" 0 PEll :=
  Fn.of (s := sEll) T G rec_at2 plain_ell fun ps c h => by
    obtain ⟨got, m, rfl, h1, h2, h3, rfl⟩ := h
    refine ⟨rfl, nofun, fun A hA _ => ell_body G hell hA ?_ h2 (by omega) (dots_in m) (split_dots h3) (find_empty got (Nat.zero_le _)) (fun p hp hf => ?_)⟩
    · rw [Str.length_append, Str.length_append]
      show 3 + m.length + 3 ≤ _
      omega
    · rcases findIn_at got m 0 with ⟨h0, _⟩ | ⟨i, h0, _, hA', _⟩
      · rw [h0] at hf; omega
      · rw [h0] at hf
        subst hf
        have := hA'.1
        rw [show ((i : Int) + m.length).toNat = i + m.length from by omega, find_empty got this]
        omega
theorem fn_asked (T : Top q lo mean mg mb g) (G : Gd w g mg mb) (hell : ∃ t, mg "ELLIPSIS_MARKER" = some (.str dots t)) : Fn w g mg "_law_asked" 1 PAsk :=
  Fn.of (s := sAsked) T G rec_at13 plain_asked fun ps c h => by
    obtain ⟨page, parts, h1, h2, rfl, rfl⟩ := h
    exact ⟨rfl, nofun, fun A hA hd => asked_body (d := 0) G (fn_ell T G hell) hA (by omega) h1 h2⟩
/-- the law's call -/
theorem law_call (T : Top q lo mean mg mb g) (G : Gd w g mg mb) (hell : ∃ t, mg "ELLIPSIS_MARKER" = some (.str dots t)) {a1 a3 : Addr} {S : Int → Bool} {n : Nat} (hv : mg "b1_set" = some (.ref a1)) (hS : g.SetOf (PySem.intKind pw w) a1 S n)
    {b3 : Nat → Option Str} (hv3 : mg "b3_exceptions" = some (.ref a3)) (hB : B3At w g a3 b3) (hA : A.handled = none) (hd : A.depth + 1 < recursionLimit) (hu : A.units < cLine) (hu2 : A.in1.units + 64 < cLine)
    {ns : List Int} (hns : ns.length ≤ 1000) {cs : List Int} (hcs : cellsOf ns = cs) {r p k : Nat} {pair seed : Str} (L : LawOk S b3 cs r p k pair seed) :
    Ex0 w g A scLaw [("script", .list (ns.map .int))] none (bodyOf sLaw) (.ret (.sc (.bool true))) :=
  law_body (d := 1) G ((fn_b1 T G hv hS).weaken (by decide)) ((fn_b3 T G hv3 hB).weaken (by decide)) ((fn_spelled T G).weaken (by decide)) ((fn_doubled T G).weaken (by decide)) ((fn_refs T G).weaken (by decide)) (fn_written T G) (fn_asked T G hell) (fn_due T G)
    hA hd hu hu2 hns hcs L
end
end Mine
end
section
open PySem PySem.W PyProof.Rows
open PySem.Builtin PySem.Builtin.Str PySem.StrLaws
set_option maxRecDepth 100000
set_option Elab.async false
set_option maxHeartbeats 2000000
namespace Mine
/-- a text's code points -/
noncomputable abbrev cp (x : Str) : List Nat := x.cps.toList
theorem cp_ext {x y : Str} (h : cp x = cp y) : x = y := Str.ext' (Array.toList_inj.mp h)
theorem cp_append (x y : Str) : cp (x ++ y) = cp x ++ cp y := by unfold cp; rw [Str.cps_append, Array.toList_append]
theorem cp_len (x : Str) : x.length = (cp x).length := by simp [cp, Str.length]
theorem cp_joinS : ∀ ys : List Str, cp (Str.join ⟨#[]⟩ ys) = ys.flatMap cp
  | [] => rfl
  | [y] => (List.append_nil (cp y)).symm
  | y :: z :: r => by
    have ih := cp_joinS (z :: r)
    show cp (y ++ ⟨#[]⟩ ++ Str.join ⟨#[]⟩ (z :: r)) = cp y ++ (z :: r).flatMap cp
    rw [cp_append, cp_append, ih]
    show cp y ++ [] ++ _ = _
    rw [List.append_nil]
theorem cp_join (ys : List Str) : cp (Txt.join ⟨#[]⟩ ys) = ys.flatMap cp := by
  show cp (glued ⟨#[]⟩ ys) = _
  rw [glued_eq_join, cp_joinS]
theorem signs_cp (x : Str) : signs x = (cp x).map fun c => (⟨#[c]⟩ : Str) := rfl
theorem signs_append (x y : Str) : signs (x ++ y) = signs x ++ signs y := by rw [signs_cp, signs_cp, signs_cp, cp_append, List.map_append]
theorem flat_signs : ∀ l : List Nat, (l.map fun c => (⟨#[c]⟩ : Str)).flatMap cp = l
  | [] => rfl
  | c :: r => by rw [List.map_cons, List.flatMap_cons, flat_signs r]; rfl

/-- a row of two letters -/
noncomputable def W (a b : Nat) (bs : List Bool) : Str := ⟨(bs.map fun x => if x then b else a).toArray⟩
theorem cp_W (a b : Nat) (bs : List Bool) : cp (W a b bs) = bs.map fun x => if x then b else a := rfl
theorem W_len (a b : Nat) (bs : List Bool) : (W a b bs).length = bs.length := by rw [cp_len, cp_W, List.length_map]
noncomputable def dbl (bs : List Bool) : List Bool := bs.flatMap fun x => [x, !x]
noncomputable def dblN (bs : List Bool) : Nat → List Bool
  | 0 => bs
  | t + 1 => dbl (dblN bs t)
theorem dbl_len : ∀ bs : List Bool, (dbl bs).length = 2 * bs.length
  | [] => rfl
  | x :: r => by
    have := dbl_len r
    show (x :: (!x) :: dbl r).length = 2 * (r.length + 1)
    rw [List.length_cons, List.length_cons, this]; omega
theorem dblN_len (bs : List Bool) : ∀ t, (dblN bs t).length = 2 ^ t * bs.length
  | 0 => by simp [dblN]
  | t + 1 => by rw [dblN, dbl_len, dblN_len bs t, Nat.pow_succ]; rw [Nat.mul_comm (2 ^ t) 2, Nat.mul_assoc]
theorem flip2_ab (a b : Nat) : flip2 ⟨#[a, b]⟩ = ⟨#[b, a]⟩ := by
  have e : slicePicked (⟨#[a, b]⟩ : Str) none none (some (-1, 0)) = [1, 0] := by
    show slicePicked (⟨#[a, b]⟩ : Str) none none (some (-1, 0)) = _
    have : (⟨#[a, b]⟩ : Str).length = 2 := rfl
    unfold slicePicked
    simp only [this]
    decide +kernel
  unfold flip2 Txt.sliceBy
  rw [e]
  rfl
theorem item_ab0 (a b : Nat) : Txt.item ⟨#[a, b]⟩ 0 = ⟨#[a]⟩ := by rfl
theorem item_ab1 (a b : Nat) : Txt.item ⟨#[a, b]⟩ 1 = ⟨#[b]⟩ := by rfl
theorem one_eq (a b : Nat) : ((⟨#[a]⟩ : Str) == ⟨#[b]⟩) = (a == b) := by
  rw [Bool.eq_iff_iff, beq_iff_eq, beq_iff_eq]
  constructor
  · intro h
    have : cp ⟨#[a]⟩ = cp ⟨#[b]⟩ := by rw [h]
    simpa [cp] using this
  · rintro rfl; rfl
theorem doubled_W {a b : Nat} (h : a ≠ b) (bs : List Bool) : doubled (W a b bs) ⟨#[a, b]⟩ = W a b (dbl bs) := by
  apply cp_ext
  unfold doubled
  rw [cp_join, signs_cp, cp_W, cp_W]
  induction bs with
  | nil => rfl
  | cons x r ih =>
    rw [List.map_cons, List.map_cons, List.map_cons, List.flatMap_cons, ih, show dbl (x :: r) = [x, !x] ++ dbl r from rfl, List.map_append, item_ab0, one_eq, flip2_ab]
    congr 1
    cases x
    · simp [cp]
    · have : (b == a) = false := beq_eq_false_iff_ne.mpr (Ne.symm h)
      simp [cp, this]
theorem dWord_W {a b : Nat} (h : a ≠ b) (bs : List Bool) : ∀ t, dWord (W a b bs) ⟨#[a, b]⟩ t = W a b (dblN bs t)
  | 0 => rfl
  | t + 1 => by rw [dWord, dWord_W h bs t, doubled_W h]; rfl
noncomputable def bitsOf (c1 : Int) (n : Nat) : List Bool := (List.range n).map fun (k : Nat) => (c1.fdiv ((2 : Int) ^ k)).fmod 2 == 1
theorem bitsOf_len (c1 : Int) (n : Nat) : (bitsOf c1 n).length = n := by simp [bitsOf]
theorem seedOf_W (a b : Nat) (c1 : Int) (n : Nat) : seedOf ⟨#[a, b]⟩ c1 n = W a b (bitsOf c1 n) := by
  apply cp_ext
  unfold seedOf bitsOf
  rw [cp_join, cp_W, List.map_map, List.flatMap_map]
  generalize List.range n = l
  induction l with
  | nil => rfl
  | cons k r ih =>
    rw [List.flatMap_cons, List.map_cons, ih]
    have h0 := Int.fmod_nonneg_of_pos (c1.fdiv ((2 : Int) ^ k)) (b := 2) (by decide)
    have h1 := Int.fmod_lt_of_pos (c1.fdiv ((2 : Int) ^ k)) (b := 2) (by decide)
    have : (c1.fdiv ((2 : Int) ^ k)).fmod 2 = 0 ∨ (c1.fdiv ((2 : Int) ^ k)).fmod 2 = 1 := by omega
    rcases this with e | e <;> rw [e] <;> simp [item_ab0, item_ab1, cp, Function.comp, e]
end Mine
end
section
open PySem PySem.W PyProof.Rows
open PySem.Builtin PySem.Builtin.Str PySem.StrLaws
set_option maxRecDepth 100000
set_option Elab.async false
set_option maxHeartbeats 2000000
namespace Mine
noncomputable def keysOf : Stmt → List (Option Expr)
  | .Assign _ (.Dict ks _ _) _ => ks
  | _ => []
noncomputable def valsOf : Stmt → List Expr
  | .Assign _ (.Dict _ vs _) _ => vs
  | _ => []
noncomputable def pairC : Option Expr × Expr → Option (Nat × Str)
  | (some (.Constant (.int i) _ _), .Constant (.str s) _ _) => some (i.toNat, s)
  | _ => none
noncomputable def b3Table : List (Nat × Str) := ((keysOf (nthS 3 pw.main.body)).zip (valsOf (nthS 3 pw.main.body))).filterMap pairC
noncomputable def b3T (c : Nat) : Option Str := b3Table.lookup c
noncomputable def S1 (i : Int) : Bool := codesL.contains i
theorem table_len : b3Table.length = 650 := by decide +kernel
noncomputable def tailR (m f : Nat) (two : Str) : Str :=
  if m == 0 && (signOf two).isSome then (signOf two).getD ⟨#[]⟩
  else if m == 1 then Txt.upper two
  else Txt.join ⟨#[]⟩ ((signs two).map fun one => charOf ((firstsL[f]?.getD 0) + ordOf one - 97))
theorem tailOf_R (n : Int) (two : Str) : ∃ m f, m < 3 ∧ f < 10 ∧ tailOf n two = tailR m f two := by
  have a0 := Int.fmod_nonneg_of_pos n (b := 3) (by decide)
  have a1 := Int.fmod_lt_of_pos n (b := 3) (by decide)
  have b0 := Int.fmod_nonneg_of_pos (n.fdiv 81) (b := 10) (by decide)
  have b1 := Int.fmod_lt_of_pos (n.fdiv 81) (b := 10) (by decide)
  refine ⟨(n.fmod 3).toNat, ((n.fdiv 81).fmod 10).toNat, by omega, by omega, ?_⟩
  unfold tailOf tailR firstAt
  have e0 : ((n.fmod 3).toNat == 0) = (n.fmod 3 == 0) := by rw [Bool.eq_iff_iff, beq_iff_eq, beq_iff_eq]; omega
  have e1 : ((n.fmod 3).toNat == 1) = (n.fmod 3 == 1) := by rw [Bool.eq_iff_iff, beq_iff_eq, beq_iff_eq]; omega
  rw [e0, e1]
noncomputable def twos8 : List Str := pairs4 ++ (["ph", "sr", "ts", "if"] : List Str)
theorem fold_tails : ∀ two ∈ twos8, ∀ m < 3, ∀ f < 10, (foldL S1 b3T (tailR m f two)).flatMap cp = cp two ∧ (tailR m f two).length ≤ 2 := by decide +kernel
theorem fold_codes : ∀ k < 27, S1 (codesL[k]?.getD 0) = true ∧ 0 ≤ codesL[k]?.getD 0 := by decide +kernel
theorem foldL_append (S : Int → Bool) (b3 : Nat → Option Str) (x y : Str) : foldL S b3 (x ++ y) = foldL S b3 x ++ foldL S b3 y := by
  unfold foldL
  rw [signs_append, List.filter_append, List.map_append]
theorem fold_code (n : Int) : foldL S1 b3T (codeAt n) = [] := by
  have b0 := Int.fmod_nonneg_of_pos (n.fdiv 3) (b := 27) (by decide)
  have b1 := Int.fmod_lt_of_pos (n.fdiv 3) (b := 27) (by decide)
  obtain ⟨h1, h2⟩ := fold_codes ((n.fdiv 3).fmod 27).toNat (by omega)
  have e2 : (((codesL[((n.fdiv 3).fmod 27).toNat]?.getD 0).toNat : Nat) : Int) = codesL[((n.fdiv 3).fmod 27).toNat]?.getD 0 := by omega
  show (([codeAt n] : List Str).filter fun a => !S1 (chr0 a)).map _ = []
  have e : (!S1 (chr0 (codeAt n))) = false := by
    show (!S1 (((codesL[((n.fdiv 3).fmod 27).toNat]?.getD 0).toNat : Nat) : Int)) = false
    rw [e2, h1]; rfl
  rw [List.filter_cons_of_neg (by rw [e]; exact Bool.false_ne_true)]
  rfl
end Mine
end
section
open PySem PySem.W PyProof.Rows
open PySem.Builtin PySem.Builtin.Str PySem.StrLaws
set_option maxRecDepth 100000
set_option Elab.async false
set_option maxHeartbeats 2000000
namespace Mine
theorem flat_append {α β : Type} (f : α → List β) (a b : List α) : (a ++ b).flatMap f = a.flatMap f ++ b.flatMap f := by simp
theorem signs_len (x : Str) : (signs x).length = x.length := by simp [signs, Str.length]
theorem fold_upto {word pair : Str} {cells : List Int} (h : ∀ l ∈ signs word, twoOf pair l ∈ twos8) : ∀ i ≤ (signs word).length,
    (foldL S1 b3T (spellUpto word pair cells i)).flatMap cp = ((signs word).take i).flatMap fun l => cp (twoOf pair l)
  | 0, _ => by rfl
  | i + 1, hi => by
    have ih := fold_upto (cells := cells) h i (by omega)
    obtain ⟨l, hl⟩ : ∃ l, (signs word)[i]? = some l := ⟨_, List.getElem?_eq_getElem (by omega)⟩
    obtain ⟨m, f, hm, hf, e⟩ := tailOf_R (numAt cells i) (twoOf pair l)
    have ht := (fold_tails _ (h l (List.mem_of_getElem? hl)) m hm f hf).1
    rw [spellUpto, hl, Option.getD_some, foldL_append, foldL_append, fold_code, List.append_nil, flat_append, ih, e, ht, List.take_add_one, hl, flat_append]
    show _ = _ ++ [l].flatMap _
    rw [List.flatMap_cons, List.flatMap_nil, List.append_nil]
theorem fold_spelled {word pair : Str} {cells : List Int} (h : ∀ l ∈ signs word, twoOf pair l ∈ twos8) : foldOf S1 b3T (spelled word pair cells) = doubled word pair := by
  apply cp_ext
  unfold foldOf doubled spelled
  rw [cp_join, cp_join, ← signs_len, fold_upto h _ (Nat.le_refl _), List.take_length, List.flatMap_map]
  rfl
theorem spelled_len {word pair : Str} {cells : List Int} (h : ∀ l ∈ signs word, twoOf pair l ∈ twos8) : (spelled word pair cells).length ≤ 7 * word.length := by
  have := spell_len (word := word) (pair := pair) (cells := cells) (fun i l hl => by
    obtain ⟨m, f, hm, hf, e⟩ := tailOf_R (numAt cells i) (twoOf pair l)
    have ht := (fold_tails _ (h l (List.mem_of_getElem? hl)) m hm f hf).2
    rw [e]; omega) (signs word).length (Nat.le_refl _)
  rw [signs_len] at this
  exact this
theorem cp_flat_len : ∀ ys : List Str, ((ys.map (·.length)).sum) = (ys.flatMap cp).length
  | [] => rfl
  | y :: r => by rw [List.map_cons, List.sum_cons, List.flatMap_cons, List.length_append, cp_flat_len r, cp_len]
theorem fold_joinOk {word pair : Str} {cells : List Int} (h : ∀ l ∈ signs word, twoOf pair l ∈ twos8) (hd : (doubled word pair).length ≤ 1000) : JoinOk ⟨#[]⟩ (foldL S1 b3T (spelled word pair cells)) = true := by
  refine joinOk_of ?_
  rw [cp_flat_len, ← cp_join]
  have e := fold_spelled (cells := cells) h
  unfold foldOf at e
  rw [e, ← cp_len]
  show (doubled word pair).length + _ * 0 ≤ _
  omega
theorem twos_ok : ∀ p < 4, ∀ c ∈ cp (pairAt p), twoOf (pairAt p) ⟨#[c]⟩ ∈ twos8 := by decide +kernel
theorem sp_ok {p : Nat} (hp : p < 4) {word : Str} {cells : List Int} (hw : word.length ≤ 60) (hc : 1 ≤ cells.length) (hc2 : cells.length ≤ 100) (h : ∀ c ∈ cp word, c ∈ cp (pairAt p)) :
    (∀ l ∈ signs word, twoOf (pairAt p) l ∈ twos8) ∧ SpOk word (pairAt p) cells := by
  have h8 : ∀ l ∈ signs word, twoOf (pairAt p) l ∈ twos8 := fun l hl => by
    rw [signs_cp] at hl
    obtain ⟨c, hc, rfl⟩ := List.mem_map.mp hl
    exact twos_ok p hp c (h c hc)
  have l8 : ∀ two ∈ twos8, ∀ c ∈ cp two, 97 ≤ c ∧ c ≤ 122 := by decide +kernel
  have p2 : ∀ p < 4, (pairAt p).length = 2 := by decide +kernel
  refine ⟨h8, hw, p2 p hp, hc, hc2, fun i l hl => ?_, fun l hl c hc => l8 _ (h8 l hl) c hc⟩
  obtain ⟨m, f, hm, hf, e⟩ := tailOf_R (numAt cells i) (twoOf (pairAt p) l)
  have ht := (fold_tails _ (h8 l (List.mem_of_getElem? hl)) m hm f hf).2
  rw [e]; omega
end Mine
end
section
open PySem PySem.W PyProof.Rows
open PySem.Builtin PySem.Builtin.Str PySem.StrLaws
set_option maxRecDepth 100000
set_option Elab.async false
set_option maxHeartbeats 2000000
namespace Mine
theorem pick_eq {α : Type} (xs : List α) {a b : Nat} (h1 : a ≤ b) (h2 : b ≤ xs.length) : pick xs (a : Int) (b : Int) = (xs.drop a).take (b - a) := by
  have ca : clipAt xs.length (a : Int) = a := by unfold clipAt; rw [if_neg (by omega)]; omega
  have cb : clipAt xs.length (b : Int) = b := by unfold clipAt; rw [if_neg (by omega)]; omega
  unfold pick
  rw [sliceBounds_plain]
  show (sliceRange ((clipAt xs.length (a : Int) : Nat) : Int) ((clipAt xs.length (b : Int) : Nat) : Int) 1).filterMap _ = _
  rw [ca, cb, sliceRange_one, List.filterMap_map]
  apply List.ext_getElem?
  intro i
  have key : ∀ n, a + n ≤ xs.length → (List.range n).filterMap ((fun x => xs[x]?) ∘ fun x => a + x) = (xs.drop a).take n := by
    intro n
    induction n with
    | zero => intro _; simp
    | succ n ih =>
      intro hn
      have e : xs[a + n]? = some xs[a + n] := List.getElem?_eq_getElem (by omega)
      rw [List.range_succ, List.filterMap_append, ih (by omega), List.take_add_one, List.getElem?_drop, e]
      simp [e]
  rw [key (b - a) (by omega)]
theorem piece_eq (parts : List Str) {start size : Nat} (h : start + size ≤ parts.length) : pick parts (start : Int) ((start : Int) + size) = (parts.drop start).take size := by
  have := pick_eq parts (a := start) (b := start + size) (by omega) h
  rw [show (start + size - start) = size from by omega] at this
  rw [← this, Int.natCast_add]
theorem cp_piece (parts : List Str) {start size : Nat} (h : start + size ≤ parts.length) : cp (pieceOf parts start size) = ((parts.drop start).take size).flatMap cp := by
  unfold pieceOf
  rw [cp_join, piece_eq parts h]
theorem cp_item0 (x : Str) {c : Nat} {r : List Nat} (h : cp x = c :: r) : cp (Txt.item x 0) = [c] := by
  have hl : x.length = r.length + 1 := by rw [cp_len, h, List.length_cons]
  have : (x.cps.toList)[0]? = some c := by show (cp x)[0]? = _; rw [h]; rfl
  rw [Array.getElem?_toList] at this
  show [(Txt.charAt x 0).getD 0] = [c]
  have e : seqIndex? 0 x.length = some 0 := by unfold seqIndex?; simp [hl]
  unfold Txt.charAt
  rw [e]
  show [(x.cps[0]?).getD 0] = [c]
  rw [this]; rfl
theorem goal_cp (parts : List Str) {start size : Nat} (h : start + size ≤ parts.length) {c : Nat} {r : List Nat} (hp : ((parts.drop start).take size).flatMap cp = c :: r) :
    cp (goal3 parts start size) = (c :: r) ++ (c :: r) ++ [c] := by
  have e := cp_piece parts h
  rw [hp] at e
  unfold goal3
  rw [cp_append, cp_append, e, cp_item0 _ e]
theorem hit_eq (page : Str) (parts : List Str) {start size : Nat} (h : start + size ≤ parts.length) {c : Nat} {r : List Nat} (hp : ((parts.drop start).take size).flatMap cp = c :: r) :
    hit page parts size start = infixB ((c :: r) ++ (c :: r) ++ [c]) (cp page) := by
  unfold hit
  rw [hasIn_eq]
  show infixB (cp (goal3 parts start size)) _ = _
  rw [goal_cp parts h hp]
end Mine
end
section
open PySem PySem.W PyProof.Rows
open PySem.Builtin PySem.Builtin.Str PySem.StrLaws
set_option maxRecDepth 100000
set_option Elab.async false
set_option maxHeartbeats 2000000
namespace Mine
theorem infix_iff (m l : List Nat) : infixB m l = true ↔ ∃ A B, l = A ++ (m ++ B) := by
  rw [infixB_iff]
  constructor
  · rintro ⟨i, h1, h2⟩
    refine ⟨l.take i, (l.drop i).drop m.length, ?_⟩
    have e1 := List.take_append_drop i l
    have e2 := List.take_append_drop m.length (l.drop i)
    rw [h2] at e2
    rw [e2, e1]
  · rintro ⟨A, B, rfl⟩
    exact ⟨A.length, by simp, by rw [List.drop_left, List.take_left]⟩
/-- how a row of two signs is written: each sign by its own reference, which a 38 opens and that holds no other -/
structure Code (R : Bool → List Nat) : Prop where
  open_ : ∀ x, ∃ t, R x = 38 :: t ∧ 38 ∉ t
  inj : R true ≠ R false
variable {R : Bool → List Nat}
theorem takeW_stop : ∀ (t : List Nat) (r : List Nat), 38 ∉ t → (t ++ 38 :: r).takeWhile (· != 38) = t ∧ (t ++ 38 :: r).dropWhile (· != 38) = 38 :: r
  | [], r, _ => by simp
  | c :: t, r, h => by
    have hc : c ≠ 38 := fun e => h (e ▸ List.mem_cons_self)
    obtain ⟨h1, h2⟩ := takeW_stop t r fun m => h (List.mem_cons_of_mem _ m)
    constructor
    · rw [List.cons_append, List.takeWhile_cons_of_pos (by simpa using hc), h1]
    · rw [List.cons_append, List.dropWhile_cons_of_pos (by simpa using hc), h2]
theorem cut38 {t t' r r' : List Nat} (h : 38 ∉ t) (h' : 38 ∉ t') (e : t ++ 38 :: r = t' ++ 38 :: r') : t = t' ∧ r = r' := by
  have a := takeW_stop t r h
  have b := takeW_stop t' r' h'
  rw [e] at a
  refine ⟨a.1.symm.trans b.1, ?_⟩
  have := a.2.symm.trans b.2
  simpa using this
theorem flat_open (C : Code R) : ∀ l : List Bool, l.flatMap R = [] ∧ l = [] ∨ ∃ r, l.flatMap R = 38 :: r
  | [] => .inl ⟨rfl, rfl⟩
  | x :: l => by
    obtain ⟨t, e, _⟩ := C.open_ x
    exact .inr ⟨t ++ l.flatMap R, by rw [List.flatMap_cons, e]; rfl⟩
theorem front (C : Code R) : ∀ (u l : List Bool) (B : List Nat), l.flatMap R = u.flatMap R ++ 38 :: B → ∃ x rest, l = u ++ x :: rest
  | [], l, B, h => by
    cases l with
    | nil => cases h
    | cons x l => exact ⟨x, l, rfl⟩
  | y :: u, l, B, h => by
    cases l with
    | nil =>
      obtain ⟨t, e, _⟩ := C.open_ y
      rw [List.flatMap_cons, e] at h
      cases h
    | cons x l =>
      obtain ⟨t, e, ht⟩ := C.open_ x
      obtain ⟨t', e', ht'⟩ := C.open_ y
      rw [List.flatMap_cons, List.flatMap_cons, e, e', List.append_assoc, List.cons_append, List.cons_append, List.cons.injEq] at h
      have h := h.2
      obtain ⟨r', hr'⟩ : ∃ r', u.flatMap R ++ 38 :: B = 38 :: r' := by
        rcases flat_open C u with ⟨q, _⟩ | ⟨r, q⟩
        · exact ⟨B, by rw [q]; rfl⟩
        · exact ⟨r ++ 38 :: B, by rw [q]; rfl⟩
      rw [hr'] at h
      rcases flat_open C l with ⟨q, _⟩ | ⟨r, q⟩
      · rw [q, List.append_nil] at h
        exact absurd (h ▸ List.mem_append_right t' (List.mem_cons_self)) ht
      · rw [q] at h
        obtain ⟨h1, h2⟩ := cut38 ht ht' h
        have hxy : x = y := by
          have e2 : R x = R y := by rw [e, e', h1]
          cases x <;> cases y <;> first | rfl | exact absurd e2 C.inj | exact absurd e2.symm C.inj
        subst hxy
        have h3 : l.flatMap R = u.flatMap R ++ 38 :: B := by rw [q, hr', h2]
        obtain ⟨z, rest, rfl⟩ := front C u l B h3
        exact ⟨z, rest, rfl⟩
theorem inside (C : Code R) : ∀ (l u : List Bool) (A B : List Nat), l.flatMap R = A ++ (u.flatMap R ++ 38 :: B) → ∃ k x rest, l.drop k = u ++ x :: rest
  | [], u, A, B, h => by
    have := congrArg List.length h
    simp at this
  | y :: l, u, A, B, h => by
    cases A with
    | nil =>
      obtain ⟨x, rest, e⟩ := front C u (y :: l) B h
      exact ⟨0, x, rest, e⟩
    | cons c A =>
      obtain ⟨t, e, ht⟩ := C.open_ y
      obtain ⟨r', hr'⟩ : ∃ r', u.flatMap R ++ 38 :: B = 38 :: r' := by
        rcases flat_open C u with ⟨q, _⟩ | ⟨r, q⟩
        · exact ⟨B, by rw [q]; rfl⟩
        · exact ⟨r ++ 38 :: B, by rw [q]; rfl⟩
      rw [List.flatMap_cons, e, List.cons_append, List.cons_append, List.cons.injEq] at h
      have h := h.2
      have hle : t.length ≤ A.length := by
        rcases Nat.lt_or_ge A.length t.length with q | q
        · exfalso
          rw [hr'] at h
          have h2 := congrArg (fun z => z[A.length]?) h
          rw [List.getElem?_append_left q, List.getElem?_append_right (Nat.le_refl _), Nat.sub_self] at h2
          exact ht (List.mem_of_getElem? h2)
        · exact q
      have hA : A = t ++ A.drop t.length := by
        have h2 := congrArg (List.take t.length) h
        rw [List.take_left, List.take_append_of_le_length hle] at h2
        conv => lhs; rw [← List.take_append_drop t.length A]
        rw [← h2]
      rw [hA, List.append_assoc] at h
      have h3 := List.append_cancel_left h
      obtain ⟨k, x, rest, ek⟩ := inside C l u _ B h3
      exact ⟨k + 1, x, rest, ek⟩
theorem page_iff (C : Code R) (l u : List Bool) : infixB ((u ++ u).flatMap R ++ [38]) (l.flatMap R) = true ↔ ∃ k x rest, l.drop k = u ++ u ++ x :: rest := by
  rw [infix_iff]
  constructor
  · rintro ⟨A, B, h⟩
    refine inside C l (u ++ u) A B ?_
    rw [h, List.append_assoc]; rfl
  · rintro ⟨k, x, rest, h⟩
    obtain ⟨t, e, _⟩ := C.open_ x
    refine ⟨(l.take k).flatMap R, t ++ rest.flatMap R, ?_⟩
    conv => lhs; rw [← List.take_append_drop k l, h]
    rw [List.flatMap_append, List.flatMap_append, List.flatMap_cons, e, List.append_assoc]
    rfl
/-- a square with a sign behind it -/
noncomputable def squareB (l : List Bool) (n : Nat) : Bool := (List.range (l.length - 2 * n)).any fun k => (l.drop k).take n == (l.drop (k + n)).take n
theorem square_iff (C : Code R) (l : List Bool) {n : Nat} (hn : 1 ≤ n) :
    ((List.range (l.length - 2 * n)).any fun start => infixB ((((l.drop start).take n) ++ ((l.drop start).take n)).flatMap R ++ [38]) (l.flatMap R)) = squareB l n := by
  rw [Bool.eq_iff_iff, squareB, List.any_eq_true, List.any_eq_true]
  constructor
  · rintro ⟨s, hs, h⟩
    rw [List.mem_range] at hs
    obtain ⟨k, x, rest, e⟩ := (page_iff C l _).mp h
    have hu : ((l.drop s).take n).length = n := by rw [List.length_take, List.length_drop]; omega
    have hl := congrArg List.length e
    simp only [List.length_append, List.length_drop, hu, List.length_cons] at hl
    refine ⟨k, by rw [List.mem_range]; omega, ?_⟩
    rw [beq_iff_eq, ← List.drop_drop, e, List.append_assoc]
    have t1 : List.take n ((l.drop s).take n ++ ((l.drop s).take n ++ x :: rest)) = (l.drop s).take n := by
      conv => lhs; arg 1; rw [← hu]
      exact List.take_left ..
    have d1 : List.drop n ((l.drop s).take n ++ ((l.drop s).take n ++ x :: rest)) = (l.drop s).take n ++ x :: rest := by
      conv => lhs; arg 1; rw [← hu]
      exact List.drop_left ..
    have t2 : List.take n ((l.drop s).take n ++ x :: rest) = (l.drop s).take n := by
      conv => lhs; arg 1; rw [← hu]
      exact List.take_left ..
    rw [t1, d1, t2]
  · rintro ⟨k, hk, h⟩
    rw [List.mem_range] at hk
    rw [beq_iff_eq] at h
    refine ⟨k, List.mem_range.mpr hk, (page_iff C l _).mpr ?_⟩
    have hlt : k + 2 * n < l.length := by omega
    refine ⟨k, l[k + 2 * n], l.drop (k + 2 * n + 1), ?_⟩
    have e1 := List.take_append_drop n (l.drop k)
    rw [List.drop_drop] at e1
    have e2 := List.take_append_drop n (l.drop (k + n))
    rw [List.drop_drop, ← h] at e2
    rw [show k + n + n = k + 2 * n from by omega, List.drop_eq_getElem_cons hlt] at e2
    rw [List.append_assoc, e2, e1]
end Mine
end
section
open PySem PySem.W PyProof.Rows
open PySem.Builtin PySem.Builtin.Str PySem.StrLaws
set_option maxRecDepth 100000
set_option Elab.async false
set_option maxHeartbeats 2000000
namespace Mine
theorem range_filterMap {α : Type} (xs : List α) (a : Nat) : ∀ n, a + n ≤ xs.length → ((List.range n).map (a + ·)).filterMap (xs[·]?) = (xs.drop a).take n
  | 0, _ => by simp
  | n + 1, hn => by
    have e : xs[a + n]? = some xs[a + n] := List.getElem?_eq_getElem (by omega)
    rw [List.range_succ, List.map_append, List.filterMap_append, range_filterMap xs a n (by omega), List.take_add_one, List.getElem?_drop, e]
    simp [e]
theorem cp_cut (x : Str) {a b : Nat} (h1 : a ≤ b) (h2 : b ≤ x.length) : cp (cut x (a : Int) (b : Int)) = ((cp x).drop a).take (b - a) := by
  have hn : (cp x).length = x.length := (cp_len x).symm
  have e : strSliceIndices (some (a : Int)) (some (b : Int)) 1 x.length = (List.range (b - a)).map (a + ·) := by
    unfold strSliceIndices
    simp only [show (1 : Int) > 0 from by decide, if_true]
    rw [if_neg (by omega), if_neg (by omega)]
    first
      | (rw [show min (a : Int) x.length = (a : Int) from by omega, show min (b : Int) x.length = (b : Int) from by omega]; exact sliceRange_one a b)
      | (rw [if_neg (by omega), if_neg (by omega)]; exact sliceRange_one a b)
  have e2 : ((List.range (b - a)).map (a + ·)).filterMap (x.cps[·]?) = ((cp x).drop a).take (b - a) := by
    have := range_filterMap (cp x) a (b - a) (by omega)
    rw [← this]
    congr 1
    funext i
    exact (Array.getElem?_toList ..).symm
  unfold cut Txt.slice
  rw [e]
  split
  · rename_i hw
    have hw : ((List.range (b - a)).map (a + ·)).length = x.length := by simpa using hw
    rw [List.length_map, List.length_range] at hw
    have ha : a = 0 := by omega
    subst ha
    rw [List.drop_zero, List.take_of_length_le (by omega)]
  · show (((List.range (b - a)).map (a + ·)).filterMap (x.cps[·]?)) = _
    exact e2
/-- the same on rows of two letters, as rows of bits -/
noncomputable def infixL (m : List Bool) : List Bool → Bool
  | [] => m.isEmpty
  | c :: r => m.isPrefixOf (c :: r) || infixL m r
noncomputable def ltr (a b : Nat) (x : Bool) : Nat := if x then b else a
theorem ltr_inj {a b : Nat} (h : a ≠ b) : ∀ x y, ltr a b x = ltr a b y → x = y := by
  intro x y e
  cases x <;> cases y <;> simp [ltr] at e ⊢ <;> omega
theorem cp_W' (a b : Nat) (bs : List Bool) : cp (W a b bs) = bs.map (ltr a b) := rfl
theorem map_inj {a b : Nat} (h : a ≠ b) : ∀ x y : List Bool, x.map (ltr a b) = y.map (ltr a b) → x = y
  | [], [], _ => rfl
  | [], _ :: _, e => by simp at e
  | _ :: _, [], e => by simp at e
  | x :: r, y :: r', e => by
    rw [List.map_cons, List.map_cons, List.cons.injEq] at e
    rw [ltr_inj h _ _ e.1, map_inj h _ _ e.2]
theorem prefix_map {a b : Nat} (h : a ≠ b) : ∀ m l : List Bool, (m.map (ltr a b)).isPrefixOf (l.map (ltr a b)) = m.isPrefixOf l
  | [], l => by cases l <;> rfl
  | _ :: _, [] => rfl
  | x :: m, y :: l => by
    show (ltr a b x == ltr a b y && (m.map (ltr a b)).isPrefixOf (l.map (ltr a b))) = (x == y && m.isPrefixOf l)
    rw [prefix_map h m l]
    have : (ltr a b x == ltr a b y) = (x == y) := by
      rw [Bool.eq_iff_iff, beq_iff_eq, beq_iff_eq]
      exact ⟨ltr_inj h x y, fun e => by rw [e]⟩
    rw [this]
theorem infix_map {a b : Nat} (h : a ≠ b) (m : List Bool) : ∀ l : List Bool, infixB (m.map (ltr a b)) (l.map (ltr a b)) = infixL m l
  | [] => by cases m <;> rfl
  | y :: l => by
    show ((m.map (ltr a b)).isPrefixOf (ltr a b y :: l.map (ltr a b)) || infixB (m.map (ltr a b)) (l.map (ltr a b))) = (m.isPrefixOf (y :: l) || infixL m l)
    rw [infix_map h m l, ← prefix_map h m (y :: l)]
    rfl
theorem W_inj {a b : Nat} (h : a ≠ b) {x y : List Bool} (e : W a b x = W a b y) : x = y := map_inj h _ _ (by rw [← cp_W', ← cp_W', e])
theorem W_beq {a b : Nat} (h : a ≠ b) (x y : List Bool) : (W a b x == W a b y) = (x == y) := by
  rw [Bool.eq_iff_iff, beq_iff_eq, beq_iff_eq]
  exact ⟨W_inj h, fun e => by rw [e]⟩
theorem cut_W (a b : Nat) (bs : List Bool) {i j : Nat} (h1 : i ≤ j) (h2 : j ≤ bs.length) : cut (W a b bs) (i : Int) (j : Int) = W a b ((bs.drop i).take (j - i)) := by
  apply cp_ext
  rw [cp_cut _ h1 (by rw [W_len]; exact h2), cp_W', cp_W', List.map_take, List.map_drop]
theorem filter_any {α : Type} (p : α → Bool) : ∀ l : List α, (!(l.filter p).isEmpty) = l.any p
  | [] => rfl
  | a :: r => by
    rw [List.filter_cons, List.any_cons, ← filter_any p r]
    cases p a <;> simp
theorem filter_congr' {α : Type} {p p' : α → Bool} : ∀ {l : List α}, (∀ a ∈ l, p a = p' a) → l.filter p = l.filter p'
  | [], _ => rfl
  | a :: r, h => by rw [List.filter_cons, List.filter_cons, h a List.mem_cons_self, filter_congr' fun b hb => h b (List.mem_cons_of_mem _ hb)]
theorem any_congr' {α : Type} {p p' : α → Bool} : ∀ {l : List α}, (∀ a ∈ l, p a = p' a) → l.any p = l.any p'
  | [], _ => rfl
  | a :: r, h => by rw [List.any_cons, List.any_cons, h a List.mem_cons_self, any_congr' fun b hb => h b (List.mem_cons_of_mem _ hb)]
noncomputable def overB (l : List Bool) (n : Nat) : Bool := (List.range (l.length - 2 * n)).any fun k => (l.drop k).take (n + 1) == (l.drop (k + n)).take (n + 1)
theorem overAt_W {a b : Nat} (h : a ≠ b) (bs : List Bool) (n : Nat) : overAt (W a b bs) (n : Int) = overB bs n := by
  unfold overAt overB
  rw [filter_any, W_len, show (((bs.length : Int) - 2 * (n : Int)).toNat) = bs.length - 2 * n from by omega]
  refine any_congr' fun k hk => ?_
  rw [List.mem_range] at hk
  have e1 := cut_W a b bs (i := k) (j := k + n + 1) (by omega) (by omega)
  have e2 := cut_W a b bs (i := k + n) (j := k + 2 * n + 1) (by omega) (by omega)
  rw [show k + n + 1 - k = n + 1 from by omega] at e1
  rw [show k + 2 * n + 1 - (k + n) = n + 1 from by omega] at e2
  rw [← W_beq h, ← e1, ← e2]
  simp only [Int.natCast_add, Int.natCast_mul]
  rfl
theorem squareAt_W {a b : Nat} (h : a ≠ b) (bs : List Bool) (n : Nat) : squareAt (W a b bs) (n : Int) = squareB bs n := by
  unfold squareAt squareB
  rw [filter_any, W_len, show (((bs.length : Int) - 2 * (n : Int)).toNat) = bs.length - 2 * n from by omega]
  refine any_congr' fun k hk => ?_
  rw [List.mem_range] at hk
  have e1 := cut_W a b bs (i := k) (j := k + n) (by omega) (by omega)
  have e2 := cut_W a b bs (i := k + n) (j := k + 2 * n) (by omega) (by omega)
  rw [show k + n - k = n from by omega] at e1
  rw [show k + 2 * n - (k + n) = n from by omega] at e2
  rw [← W_beq h, ← e1, ← e2]
  simp only [Int.natCast_add, Int.natCast_mul]
  rfl
theorem cp_mul1 (c : Nat) (n : Nat) : cp (Txt.mul ⟨#[c]⟩ (n : Int)) = List.replicate n c := by
  unfold Txt.mul
  split
  · rename_i h0
    have : n = 0 := by omega
    subst this; rfl
  · split
    · rename_i h1
      have : n = 1 := by
        rw [Bool.or_eq_true, beq_iff_eq, beq_iff_eq] at h1
        rcases h1 with q | q
        · omega
        · have q1 : (1 : Nat) = 0 := q
          omega
      subst this; rfl
    · have : ∀ (k : Nat) (acc : Array Nat), ((List.replicate k (#[c] : Array Nat)).foldl (· ++ ·) acc).toList = acc.toList ++ List.replicate k c := by
        intro k
        induction k with
        | zero => intro acc; simp
        | succ k ih => intro acc; rw [List.replicate_succ, List.foldl_cons, ih, List.replicate_succ]; simp
      show ((List.replicate (n : Int).toNat (#[c] : Array Nat)).foldl (· ++ ·) #[]).toList = _
      rw [this, Int.toNat_natCast]; rfl
noncomputable def oddB (bs : List Bool) (n : Nat) : Bool := infixL (List.replicate n false ++ List.replicate n true) bs || infixL (List.replicate n true ++ List.replicate n false) bs
theorem oddIn_W {a b : Nat} (h : a ≠ b) (bs : List Bool) (n : Nat) : oddIn (W a b bs) ⟨#[a, b]⟩ (n : Int) = oddB bs n := by
  unfold oddIn oddB
  rw [hasStr_eq, hasStr_eq, item_ab0, item_ab1]
  have e1 : cp (Txt.mul ⟨#[a]⟩ (n : Int) ++ Txt.mul ⟨#[b]⟩ (n : Int)) = (List.replicate n false ++ List.replicate n true).map (ltr a b) := by
    rw [cp_append, cp_mul1, cp_mul1, List.map_append, List.map_replicate, List.map_replicate]; rfl
  have e2 : cp (Txt.mul ⟨#[b]⟩ (n : Int) ++ Txt.mul ⟨#[a]⟩ (n : Int)) = (List.replicate n true ++ List.replicate n false).map (ltr a b) := by
    rw [cp_append, cp_mul1, cp_mul1, List.map_append, List.map_replicate, List.map_replicate]; rfl
  show (infixB (cp _) (cp _) || infixB (cp _) (cp _)) = _
  rw [e1, e2, cp_W', infix_map h, infix_map h]
noncomputable def oversB (bs : List Bool) : Nat → List Int
  | 0 => ((List.range (bs.length - 1)).filter fun i => overB bs (i + 1)).map fun (i : Nat) => ((i + 1 : Nat) : Int)
  | t + 1 => (oversB bs t).map (2 * ·)
noncomputable def oddsB (bs : List Bool) : List Int := ((List.range (bs.length / 2)).filter fun i => oddB bs (i + 1)).map fun (i : Nat) => 2 * ((i + 1 : Nat) : Int) - 1
noncomputable def squaresB (bs : List Bool) : Nat → List Int
  | 0 => ((List.range (bs.length - 1)).filter fun i => squareB bs (i + 1)).map fun (i : Nat) => ((i + 1 : Nat) : Int)
  | t + 1 => isort ((squaresB bs t).map (2 * ·) ++ oddsB (dblN bs t))
theorem sizes_filter (word : Str) (p : Int → Bool) (p' : Nat → Bool) (h : ∀ n : Nat, p (n : Int) = p' n) :
    (sizesOf word).filter p = ((List.range (word.length - 1)).filter fun i => p' (i + 1)).map fun (i : Nat) => ((i + 1 : Nat) : Int) := by
  unfold sizesOf
  rw [List.filter_map]
  have e : ∀ i : Nat, (1 + (i : Int)) = ((i + 1 : Nat) : Int) := fun i => by omega
  have e2 : (p ∘ fun (i : Nat) => 1 + (i : Int)) = fun i => p' (i + 1) := by funext i; show p (1 + (i : Int)) = _; rw [e, h]
  rw [e2]
  exact List.map_congr_left fun i _ => e i
theorem dOvers_W {a b : Nat} (h : a ≠ b) (bs : List Bool) : ∀ t, dOvers (W a b bs) t = oversB bs t
  | 0 => by rw [dOvers, sizes_filter _ _ (overB bs) fun n => overAt_W h bs n, W_len]; rfl
  | t + 1 => by rw [dOvers, dOvers_W h bs t]; rfl
theorem oddsOf_W {a b : Nat} (h : a ≠ b) (bs : List Bool) : oddsOf (W a b bs) ⟨#[a, b]⟩ = oddsB bs := by
  unfold oddsOf oddsB
  rw [W_len]
  congr 1
  exact filter_congr' fun i _ => oddIn_W h bs (i + 1)
theorem dSquares_W {a b : Nat} (h : a ≠ b) (bs : List Bool) : ∀ t, dSquares (W a b bs) ⟨#[a, b]⟩ t = squaresB bs t
  | 0 => by rw [dSquares, sizes_filter _ _ (squareB bs) fun n => squareAt_W h bs n, W_len]; rfl
  | t + 1 => by rw [dSquares, dSquares_W h bs t, dWord_W h, oddsOf_W h]; rfl
end Mine
end
section
open PySem PySem.W PyProof.Rows
open PySem.Builtin PySem.Builtin.Str PySem.StrLaws
set_option maxRecDepth 100000
set_option Elab.async false
set_option maxHeartbeats 2000000
namespace Mine
noncomputable def la (p : Nat) : Nat := [104, 114, 115, 102][p]?.getD 0
noncomputable def lb (p : Nat) : Nat := [112, 115, 116, 105][p]?.getD 0
theorem pair_ab : ∀ p < 4, pairAt p = ⟨#[la p, lb p]⟩ ∧ la p ≠ lb p := by decide +kernel
noncomputable def allBits : Nat → List (List Bool)
  | 0 => [[]]
  | n + 1 => (allBits n).flatMap fun l => [false :: l, true :: l]
theorem mem_allBits : ∀ bs : List Bool, bs ∈ allBits bs.length
  | [] => List.mem_singleton.mpr rfl
  | b :: r => by
    show b :: r ∈ (allBits r.length).flatMap _
    refine List.mem_flatMap.mpr ⟨r, mem_allBits r, ?_⟩
    cases b <;> simp
noncomputable def askB (hitB : List Bool → Nat → Bool) (l : List Bool) : List Int := ((List.range (l.length / 2)).filter fun i => hitB l (i + 1)).map fun (i : Nat) => ((i + 1 : Nat) : Int)
noncomputable def overHit (l : List Bool) (n : Nat) : Bool := (List.range (l.length - 2 * n)).any fun start => infixL ((l.drop start).take n ++ (l.drop start).take n ++ ((l.drop start).take n).take 1) l
theorem cons_of_len {α : Type} {l : List α} (h : 1 ≤ l.length) : ∃ c r, l = c :: r := by
  cases l with
  | nil => simp at h
  | cons c r => exact ⟨c, r, rfl⟩
theorem asked_word {a b : Nat} (h : a ≠ b) (bs : List Bool) : asked (W a b bs) (signs (W a b bs)) = askB overHit bs := by
  unfold asked askB
  have hl : (signs (W a b bs)).length = bs.length := by rw [signs_len, W_len]
  rw [hl]
  congr 1
  refine filter_congr' fun i hi => ?_
  unfold sizeHit overHit
  rw [hl]
  refine any_congr' fun s hs => ?_
  rw [List.mem_range] at hs
  have e : (((signs (W a b bs)).drop s).take (i + 1)).flatMap cp = ((bs.drop s).take (i + 1)).map (ltr a b) := by
    rw [signs_cp, ← List.map_drop, ← List.map_take, flat_signs, cp_W', List.map_take, List.map_drop]
  obtain ⟨c, r, hc⟩ := cons_of_len (l := (bs.drop s).take (i + 1)) (by rw [List.length_take, List.length_drop]; omega)
  rw [hc, List.map_cons] at e
  rw [hit_eq (W a b bs) (signs (W a b bs)) (by rw [hl]; omega) e, hc, cp_W', ← infix_map h]
  simp
theorem eq1_dec : (∀ bs ∈ allBits 6, askB overHit (dblN bs 1) = oversB bs 1) ∧ (∀ bs ∈ allBits 4, askB overHit (dblN bs 2) = oversB bs 2) ∧ (∀ bs ∈ allBits 2, askB overHit (dblN bs 3) = oversB bs 3) := by decide +kernel
theorem eq2_dec : (∀ bs ∈ allBits 6, askB squareB (dblN bs 1) = squaresB bs 1) ∧ (∀ bs ∈ allBits 4, askB squareB (dblN bs 2) = squaresB bs 2) ∧ (∀ bs ∈ allBits 2, askB squareB (dblN bs 3) = squaresB bs 3) := by decide +kernel
theorem due_dec : (∀ bs ∈ allBits 6, ∀ t < 1, (squaresB bs t).length + (oddsB (dblN bs t)).length < 64) ∧ (∀ bs ∈ allBits 4, ∀ t < 2, (squaresB bs t).length + (oddsB (dblN bs t)).length < 64) ∧ (∀ bs ∈ allBits 2, ∀ t < 3, (squaresB bs t).length + (oddsB (dblN bs t)).length < 64) := by decide +kernel
end Mine
end
section
open PySem PySem.W PyProof.Rows
open PySem.Builtin PySem.Builtin.Str PySem.StrLaws
set_option maxRecDepth 100000
set_option Elab.async false
set_option maxHeartbeats 2000000
namespace Mine
theorem flat_drop {parts : List Str} {l : List Bool} {R : Bool → List Nat} (h : parts.map cp = l.map R) (s n : Nat) : ((parts.drop s).take n).flatMap cp = ((l.drop s).take n).flatMap R := by
  rw [List.flatMap_def, List.flatMap_def, List.map_take, List.map_drop, h, List.map_take, List.map_drop]
theorem asked_page {R : Bool → List Nat} (C : Code R) {page : Str} {parts : List Str} {l : List Bool} (h1 : parts.map cp = l.map R) (h2 : cp page = l.flatMap R) : asked page parts = askB squareB l := by
  have hl : parts.length = l.length := by have := congrArg List.length h1; simpa using this
  unfold asked askB
  rw [hl]
  congr 1
  refine filter_congr' fun i hi => ?_
  rw [← square_iff C l (n := i + 1) (by omega)]
  unfold sizeHit
  rw [hl]
  refine any_congr' fun s hs => ?_
  rw [List.mem_range] at hs
  have e := flat_drop h1 s (i + 1)
  rcases flat_open C ((l.drop s).take (i + 1)) with ⟨_, q⟩ | ⟨r, q⟩
  · have := congrArg List.length q
    simp at this
    omega
  · rw [hit_eq page parts (by omega) (e.trans q), h2, List.flatMap_append, q]
theorem pick_len {α : Type} (xs : List α) (a b : Int) : (pick xs a b).length ≤ xs.length := by
  have hc : ∀ i : Int, clipAt xs.length i ≤ xs.length := fun i => by unfold clipAt; omega
  unfold pick
  rw [sliceBounds_plain]
  refine Nat.le_trans (List.length_filterMap_le ..) ?_
  rw [sliceRange_one, List.length_map, List.length_range]
  have := hc b
  show clipAt xs.length b - _ ≤ _
  omega
theorem pick_mem {α : Type} {xs : List α} {lo hi : Int} {y : α} (h : y ∈ pick xs lo hi) : y ∈ xs := by
  unfold pick at h
  obtain ⟨i, _, e⟩ := List.mem_filterMap.mp h
  exact List.mem_of_getElem? e
theorem partsOk_of {parts : List Str} (hl : parts.length ≤ 16) (h : ∀ y ∈ parts, 1 ≤ (cp y).length ∧ (cp y).length ≤ 6 ∧ 46 ∉ cp y) : PartsOk parts := by
  refine ⟨by omega, fun s n => ?_, fun s n hn hs => ?_⟩
  · refine joinOk_small 6 (fun y hy => by rw [cp_len]; exact (h y (pick_mem hy)).2.1) ?_
    have := pick_len parts s (s + n)
    omega
  · have e := cp_piece parts (start := s) (size := n) hs
    have hmem : ∀ y ∈ (parts.drop s).take n, y ∈ parts := fun y hy => List.mem_of_mem_drop (List.mem_of_mem_take hy)
    have hne : 1 ≤ ((parts.drop s).take n).length := by rw [List.length_take, List.length_drop]; omega
    have hlen : ((parts.drop s).take n).length ≤ 16 := by rw [List.length_take, List.length_drop]; omega
    have hflat : ∀ l : List Str, (∀ y ∈ l, y ∈ parts) → (l.flatMap cp).length ≤ 6 * l.length ∧ 46 ∉ l.flatMap cp := by
      intro l
      induction l with
      | nil => intro _; exact ⟨Nat.le_refl _, by simp⟩
      | cons y r ih =>
        intro hm
        obtain ⟨i1, i2⟩ := ih fun z hz => hm z (List.mem_cons_of_mem _ hz)
        obtain ⟨_, j2, j3⟩ := h y (hm y List.mem_cons_self)
        rw [List.flatMap_cons, List.length_append, List.length_cons]
        refine ⟨by omega, fun q => ?_⟩
        rcases List.mem_append.mp q with q | q
        · exact j3 q
        · exact i2 q
    obtain ⟨y, r, hyr⟩ := cons_of_len hne
    obtain ⟨j1, _, _⟩ := h y (hmem y (by rw [hyr]; exact List.mem_cons_self))
    obtain ⟨c, r', hc⟩ := cons_of_len (l := ((parts.drop s).take n).flatMap cp) (by rw [hyr, List.flatMap_cons, List.length_append]; omega)
    obtain ⟨f1, f2⟩ := hflat _ hmem
    refine ⟨by rw [cp_len, e, hc]; simp, by rw [cp_len, e]; omega, ?_⟩
    show 46 ∉ cp (goal3 parts s n)
    rw [goal_cp parts hs hc]
    rw [hc] at f2
    intro q
    rcases List.mem_append.mp q with q | q
    · rcases List.mem_append.mp q with q | q
      · exact f2 q
      · exact f2 q
    · have : (46 : Nat) = c := by simpa using q
      exact f2 (by rw [this]; exact List.mem_cons_self)
/-- a writing sign by sign -/
noncomputable def Hom (F : Str → Str) : Prop := ∃ f : Nat → List Nat, ∀ x, cp (F x) = (cp x).flatMap f
theorem Hom.id : Hom fun x => x := ⟨fun c => [c], fun x => by simp⟩
theorem flat_flat {f g : Nat → List Nat} : ∀ l : List Nat, (l.flatMap f).flatMap g = l.flatMap fun c => (f c).flatMap g
  | [] => rfl
  | c :: r => by rw [List.flatMap_cons, List.flatMap_append, flat_flat r, List.flatMap_cons]
theorem Hom.esc {F : Str → Str} (c : Nat) (z : Str) (h : Hom F) : Hom fun x => escT c z (F x) := by
  obtain ⟨f, hf⟩ := h
  refine ⟨fun d => (f d).flatMap fun d => if d == c then z.cps.toList else [d], fun x => ?_⟩
  show esc1 c z.cps.toList (cp (F x)) = _
  rw [hf, esc1, flat_flat]
theorem Hom.single {F : Str → Str} (h : Hom F) (x : Str) : cp (F x) = (cp x).flatMap fun c => cp (F ⟨#[c]⟩) := by
  obtain ⟨f, hf⟩ := h
  have : ∀ c, cp (F ⟨#[c]⟩) = f c := fun c => by rw [hf]; show [c].flatMap f = _; rw [List.flatMap_cons, List.flatMap_nil, List.append_nil]
  rw [hf]
  congr 1
  funext c
  exact (this c).symm
theorem hom_esc : ∀ k < 5, Hom (escOf k)
  | 0, _ => ((Hom.id.esc 38 _).esc 60 _).esc 62 _
  | 1, _ => ((((((Hom.id.esc 38 _).esc 60 _).esc 62 _).esc 34 _).esc 13 _).esc 10 _).esc 9 _
  | 2, _ => ((Hom.id.esc 38 _).esc 62 _).esc 34 _
  | 3, _ => (((Hom.id.esc 38 _).esc 60 _).esc 62 _).esc 13 _
  | 4, _ => (((((Hom.id.esc 38 _).esc 60 _).esc 34 _).esc 9 _).esc 10 _).esc 13 _
theorem find_dec : ∀ p < 4, Txt.find (pairAt p) ⟨#[la p]⟩ = 0 ∧ Txt.find (pairAt p) ⟨#[lb p]⟩ = 1 := by decide +kernel
end Mine
end
section
open PySem PySem.W PyProof.Rows
open PySem.Builtin PySem.Builtin.Str PySem.StrLaws
set_option maxRecDepth 100000
set_option Elab.async false
set_option maxHeartbeats 2000000
namespace Mine
noncomputable def stockL (k : Nat) : List Nat := cp (stockOf k)
noncomputable def isStrS : Option Sc → Bool
  | some (.str _) => true
  | _ => false
noncomputable def openL : List Nat → Bool
  | 38 :: t => !t.contains 38
  | _ => false
noncomputable def isRef (k c : Nat) : Bool := isStrS ((refsAt k).lookup ⟨#[c]⟩) && openL (cp (refOf k ⟨#[c]⟩)) && !(cp (refOf k ⟨#[c]⟩)).contains 46 && decide ((cp (refOf k ⟨#[c]⟩)).length ≤ 6) && cp (escOf k ⟨#[c]⟩) == cp (refOf k ⟨#[c]⟩)
theorem stock_dec : ∀ k < 5, 2 ≤ (stockL k).length ∧ (stockL k).length ≤ 100 ∧ (refsAt k).length ≤ 100 ∧ JoinOk ⟨#[]⟩ ((refsAt k).map (·.1)) = true ∧ (stockL k).Nodup ∧ (∀ c ∈ stockL k, isRef k c = true) := by decide +kernel
theorem stock_inj : ∀ k < 5, ∀ c ∈ stockL k, ∀ d ∈ stockL k, c ≠ d → cp (refOf k ⟨#[c]⟩) ≠ cp (refOf k ⟨#[d]⟩) := by decide +kernel
theorem openL_iff {l : List Nat} (h : openL l = true) : ∃ t, l = 38 :: t ∧ 38 ∉ t := by
  unfold openL at h
  split at h
  · rename_i t
    exact ⟨t, rfl, by simpa using h⟩
  · cases h
theorem cp_item (x : Str) {i : Int} (h0 : 0 ≤ i) (h1 : i < x.length) : ∃ c, (cp x)[i.toNat]? = some c ∧ Txt.item x i = ⟨#[c]⟩ := by
  have hl : i.toNat < (cp x).length := by rw [← cp_len]; omega
  refine ⟨(cp x)[i.toNat], List.getElem?_eq_getElem hl, ?_⟩
  have e : seqIndex? i x.length = some i.toNat := by
    unfold seqIndex?
    have : ¬ i < 0 := by omega
    simp [this]; omega
  have e2 : x.cps[i.toNat]? = some (cp x)[i.toNat] := by rw [← Array.getElem?_toList]; exact List.getElem?_eq_getElem hl
  show (⟨#[(Txt.charAt x i).getD 0]⟩ : Str) = _
  unfold Txt.charAt
  rw [e]
  show (⟨#[(x.cps[i.toNat]?).getD 0]⟩ : Str) = _
  rw [e2]; rfl
theorem pickB_drop {α : Type} (xs : List α) {a : Nat} (h : a ≤ xs.length) : pickB xs (some (a : Int)) none none = xs.drop a := by
  have ca : clipAt xs.length (a : Int) = a := by unfold clipAt; rw [if_neg (by omega)]; omega
  unfold pickB
  rw [sliceBounds_plain]
  show (sliceRange ((clipAt xs.length (a : Int) : Nat) : Int) ((xs.length : Nat) : Int) 1).filterMap _ = _
  rw [ca, sliceRange_one, range_filterMap xs a _ (by omega), List.take_of_length_le (by simp)]
theorem tailC_len {cs : List Int} (h : cs.length = 7) {t : Nat} (ht : t ≤ 2) : 1 ≤ (tailC cs t).length ∧ (tailC cs t).length ≤ 100 := by
  unfold tailC
  rw [show (2 + (t : Int)) = ((2 + t : Nat) : Int) from by omega, pickB_drop cs (by omega), List.length_drop]
  omega
theorem cellsOf_len (ns : List Int) : (cellsOf ns).length = 7 := by
  unfold cellsOf numberedL basesL
  simp
theorem marks_ok (k : Nat) (hk : k < 5) (n : Int) : ∃ c1 c2, c1 ∈ stockL k ∧ c2 ∈ stockL k ∧ c1 ≠ c2 ∧ marksOf k n = ⟨#[c1, c2]⟩ := by
  obtain ⟨h1, h2, _, _, h5, _⟩ := stock_dec k hk
  have hL : (stockOf k).length = (stockL k).length := cp_len _
  have p0 : 0 ≤ placeOf k n := Int.fmod_nonneg_of_pos _ (by omega)
  have p1 : placeOf k n < (stockOf k).length := Int.fmod_lt_of_pos _ (by omega)
  have s0 : 0 ≤ (n.fdiv (stockOf k).length).fmod ((stockOf k).length - 1) := Int.fmod_nonneg_of_pos _ (by omega)
  have s1 : (n.fdiv (stockOf k).length).fmod ((stockOf k).length - 1) < (stockOf k).length - 1 := Int.fmod_lt_of_pos _ (by omega)
  have st : stepOf k n = 1 + (n.fdiv (stockOf k).length).fmod ((stockOf k).length - 1) := rfl
  have q0 : 0 ≤ (placeOf k n + stepOf k n).fmod (stockOf k).length := Int.fmod_nonneg_of_pos _ (by omega)
  have q1 : (placeOf k n + stepOf k n).fmod (stockOf k).length < (stockOf k).length := Int.fmod_lt_of_pos _ (by omega)
  have hne : placeOf k n ≠ (placeOf k n + stepOf k n).fmod (stockOf k).length := by
    intro e
    rw [Int.fmod_eq_emod_of_nonneg _ (by omega)] at e q0 q1
    by_cases q : placeOf k n + stepOf k n < ((stockOf k).length : Int)
    · rw [Int.emod_eq_of_lt (by omega) q] at e; omega
    · rw [← Int.sub_emod_right, Int.emod_eq_of_lt (by omega) (by omega)] at e; omega
  obtain ⟨c1, a1, b1⟩ := cp_item (stockOf k) p0 p1
  obtain ⟨c2, a2, b2⟩ := cp_item (stockOf k) q0 q1
  refine ⟨c1, c2, List.mem_of_getElem? a1, List.mem_of_getElem? a2, fun e => ?_, ?_⟩
  · subst e
    have l1 := (List.getElem?_eq_some_iff.mp a1).1
    have := (List.getElem?_inj l1 h5).mp (a1.trans a2.symm)
    omega
  · unfold marksOf
    rw [b1, b2]; rfl
end Mine
end
section
open PySem PySem.W PyProof.Rows
open PySem.Builtin PySem.Builtin.Str PySem.StrLaws
set_option maxRecDepth 100000
set_option Elab.async false
set_option maxHeartbeats 2000000
namespace Mine
theorem bits_dec {r : Nat} (r1 : 1 ≤ r) (r3 : r ≤ 3) {bs : List Bool} (hb : bs.length = 8 - 2 * r) :
    askB overHit (dblN bs r) = oversB bs r ∧ askB squareB (dblN bs r) = squaresB bs r ∧ ∀ t < r, (squaresB bs t).length + (oddsB (dblN bs t)).length < 64 := by
  have hm := mem_allBits bs
  rw [hb] at hm
  match r, r1, r3 with
  | 1, _, _ => exact ⟨eq1_dec.1 bs hm, eq2_dec.1 bs hm, due_dec.1 bs hm⟩
  | 2, _, _ => exact ⟨eq1_dec.2.1 bs hm, eq2_dec.2.1 bs hm, due_dec.2.1 bs hm⟩
  | 3, _, _ => exact ⟨eq1_dec.2.2 bs hm, eq2_dec.2.2 bs hm, due_dec.2.2 bs hm⟩
theorem len_dec {r : Nat} (r1 : 1 ≤ r) (r3 : r ≤ 3) {bs : List Bool} (hb : bs.length = 8 - 2 * r) : ∀ t ≤ r, 1 ≤ (dblN bs t).length ∧ (dblN bs t).length ≤ 16 := by
  intro t ht
  rw [dblN_len, hb]
  match r, r1, r3, t, ht with
  | 1, _, _, 0, _ => decide
  | 1, _, _, 1, _ => decide
  | 2, _, _, 0, _ => decide
  | 2, _, _, 1, _ => decide
  | 2, _, _, 2, _ => decide
  | 3, _, _, 0, _ => decide
  | 3, _, _, 1, _ => decide
  | 3, _, _, 2, _ => decide
  | 3, _, _, 3, _ => decide
theorem sgns_W {p : Nat} (hp : p < 4) (c1 c2 : Nat) (bs : List Bool) : sgnsOf ⟨#[c1, c2]⟩ (pairAt p) (W (la p) (lb p) bs) = bs.map fun x => (⟨#[ltr c1 c2 x]⟩ : Str) := by
  obtain ⟨f1, f2⟩ := find_dec p hp
  unfold sgnsOf
  rw [signs_cp, cp_W', List.map_map, List.map_map]
  refine List.map_congr_left fun x _ => ?_
  show Txt.item _ (Txt.find (pairAt p) ⟨#[ltr (la p) (lb p) x]⟩) = _
  cases x
  · show Txt.item _ (Txt.find (pairAt p) ⟨#[la p]⟩) = _
    rw [f1, item_ab0]; rfl
  · show Txt.item _ (Txt.find (pairAt p) ⟨#[lb p]⟩) = _
    rw [f2, item_ab1]; rfl
theorem lookup_str {o : Option Sc} (h : isStrS o = true) : ∃ y, o = some (.str y) := by
  unfold isStrS at h
  split at h
  · exact ⟨_, rfl⟩
  · cases h
theorem law_ok (ns : List Int) : ∃ r p k pair seed, LawOk S1 b3T (cellsOf ns) r p k pair seed := by
  generalize hcs : cellsOf ns = cs
  have c7 : cs.length = 7 := by rw [← hcs]; exact cellsOf_len ns
  have ra := Int.fmod_nonneg_of_pos (cAt cs 0) (b := 3) (by decide)
  have rb := Int.fmod_lt_of_pos (cAt cs 0) (b := 3) (by decide)
  have pa := Int.fmod_nonneg_of_pos ((cAt cs 0).fdiv 3) (b := 4) (by decide)
  have pb := Int.fmod_lt_of_pos ((cAt cs 0).fdiv 3) (b := 4) (by decide)
  have ka := Int.fmod_nonneg_of_pos ((cAt cs 0).fdiv 12) (b := 5) (by decide)
  have kb := Int.fmod_lt_of_pos ((cAt cs 0).fdiv 12) (b := 5) (by decide)
  obtain ⟨r, hr⟩ : ∃ r : Nat, 1 + (cAt cs 0).fmod 3 = (r : Int) := ⟨(1 + (cAt cs 0).fmod 3).toNat, by omega⟩
  obtain ⟨p, hp⟩ : ∃ p : Nat, ((cAt cs 0).fdiv 3).fmod 4 = (p : Int) := ⟨(((cAt cs 0).fdiv 3).fmod 4).toNat, by omega⟩
  obtain ⟨k, hk⟩ : ∃ k : Nat, ((cAt cs 0).fdiv 12).fmod 5 = (k : Int) := ⟨(((cAt cs 0).fdiv 12).fmod 5).toNat, by omega⟩
  have r1 : 1 ≤ r := by omega
  have r3 : r ≤ 3 := by omega
  have p4 : p < 4 := by omega
  have k5 : k < 5 := by omega
  obtain ⟨hpair, hab⟩ := pair_ab p p4
  generalize hbs : bitsOf (cAt cs 1) (8 - 2 * r) = bs
  have hb : bs.length = 8 - 2 * r := by rw [← hbs, bitsOf_len]
  have hseed : seedOf (pairAt p) (cAt cs 1) (8 - 2 * r) = W (la p) (lb p) bs := by rw [hpair, seedOf_W, hbs]
  have hdw : ∀ t, dWord (W (la p) (lb p) bs) (pairAt p) t = W (la p) (lb p) (dblN bs t) := fun t => by rw [hpair]; exact dWord_W hab bs t
  have hlen := len_dec r1 r3 hb
  obtain ⟨e1, e2, e3⟩ := bits_dec r1 r3 hb
  have hin : ∀ t, ∀ c ∈ cp (W (la p) (lb p) (dblN bs t)), c ∈ cp (pairAt p) := fun t c hc => by
    rw [cp_W'] at hc
    obtain ⟨x, _, rfl⟩ := List.mem_map.mp hc
    rw [hpair]
    show _ ∈ [la p, lb p]
    cases x <;> simp [ltr]
  have hsp : ∀ t < r, (∀ l ∈ signs (W (la p) (lb p) (dblN bs t)), twoOf (pairAt p) l ∈ twos8) ∧ SpOk (W (la p) (lb p) (dblN bs t)) (pairAt p) (tailC cs t) := fun t ht => by
    obtain ⟨l1, l2⟩ := tailC_len c7 (t := t) (by omega)
    exact sp_ok p4 (by rw [W_len]; have := hlen t (by omega); omega) l1 l2 (hin t)
  have hdd : ∀ t < r, doubled (W (la p) (lb p) (dblN bs t)) (pairAt p) = W (la p) (lb p) (dblN bs (t + 1)) := fun t _ => by rw [hpair, doubled_W hab]; rfl
  obtain ⟨s1, s2, s3, s4, s5, s6⟩ := stock_dec k k5
  have hL : (stockOf k).length = (stockL k).length := cp_len _
  obtain ⟨c1, c2, m1, m2, m3, hm⟩ := marks_ok k k5 ((cAt cs 0).fdiv 60)
  have hsg := sgns_W p4 c1 c2 (dblN bs r)
  have href : ∀ c ∈ stockL k, (∃ t, cp (refOf k ⟨#[c]⟩) = 38 :: t ∧ 38 ∉ t) ∧ 46 ∉ cp (refOf k ⟨#[c]⟩) ∧ (cp (refOf k ⟨#[c]⟩)).length ≤ 6 ∧ cp (escOf k ⟨#[c]⟩) = cp (refOf k ⟨#[c]⟩) ∧ (refsAt k).lookup ⟨#[c]⟩ = some (.str (refOf k ⟨#[c]⟩)) := fun c hc => by
    have h := s6 c hc
    unfold isRef at h
    simp only [Bool.and_eq_true, Bool.not_eq_true', decide_eq_true_eq, beq_iff_eq] at h
    obtain ⟨⟨⟨⟨h1, h2⟩, h3⟩, h4⟩, h5⟩ := h
    refine ⟨openL_iff h2, by simpa using h3, h4, h5, ?_⟩
    obtain ⟨y, hy⟩ := lookup_str h1
    have : refOf k ⟨#[c]⟩ = y := by unfold refOf; rw [hy]
    rw [this]; exact hy
  have hltr : ∀ x, ltr c1 c2 x ∈ stockL k := fun x => by cases x <;> first | exact m1 | exact m2
  let R : Bool → List Nat := fun x => cp (refOf k ⟨#[ltr c1 c2 x]⟩)
  have hC : Code R := ⟨fun x => (href _ (hltr x)).1, stock_inj k k5 c2 m2 c1 m1 (Ne.symm m3)⟩
  have hpageL : (cp (Txt.join ⟨#[]⟩ ((dblN bs r).map fun x => (⟨#[ltr c1 c2 x]⟩ : Str)))) = (dblN bs r).map (ltr c1 c2) := by
    rw [cp_join, List.flatMap_map]
    generalize dblN bs r = l
    induction l with
    | nil => rfl
    | cons x l ih => rw [List.flatMap_cons, List.map_cons, ih]; rfl
  have hcp : cp (escOf k (Txt.join ⟨#[]⟩ ((dblN bs r).map fun x => (⟨#[ltr c1 c2 x]⟩ : Str)))) = (dblN bs r).flatMap R := by
    rw [(hom_esc k k5).single, hpageL, List.flatMap_map]
    congr 1
    funext x
    exact (href _ (hltr x)).2.2.2.1
  have hparts : (((dblN bs r).map fun x => (⟨#[ltr c1 c2 x]⟩ : Str)).map (refOf k)).map cp = (dblN bs r).map R := by
    rw [List.map_map, List.map_map]; rfl
  have hlr := hlen r (Nat.le_refl _)
  have hflen : ((dblN bs r).flatMap R).length ≤ 6 * (dblN bs r).length := by
    generalize dblN bs r = l
    induction l with
    | nil => exact Nat.le_refl _
    | cons x l ih =>
      rw [List.flatMap_cons, List.length_append, List.length_cons]
      have := (href _ (hltr x)).2.2.1
      show (cp (refOf k ⟨#[ltr c1 c2 x]⟩)).length + _ ≤ _
      omega
  refine ⟨r, p, k, pairAt p, W (la p) (lb p) bs, ⟨c7, r1, r3, hr, p4, hp, k5, hk, rfl, ?_, hseed, fun t ht => ?_, fun t ht => ?_, fun t ht => ?_, fun t ht => ?_, ⟨by omega, by omega, s3, s4⟩, fun l hl => ?_, fun l hl => ?_, ?_, ?_, ?_, ?_, ?_, ?_⟩⟩
  · rw [hpair]; rfl
  · rw [hdw, W_len]; exact (hlen t ht).2
  · rw [hdw]; exact (hsp t ht).2
  · rw [hdw]
    refine ⟨?_, fold_joinOk (hsp t ht).1 ?_⟩
    · have h1 := spelled_len (cells := tailC cs t) (hsp t ht).1
      have h2 := hlen t (by omega)
      rw [W_len] at h1; omega
    · rw [hdd t ht, W_len]; have := hlen (t + 1) (by omega); omega
  · rw [hdw, hdw, fold_spelled (hsp t ht).1, hdd t ht]
  · rw [hdw, signs_cp, cp_W'] at hl
    obtain ⟨c, hc, rfl⟩ := List.mem_map.mp hl
    obtain ⟨x, _, rfl⟩ := List.mem_map.mp hc
    obtain ⟨f1, f2⟩ := find_dec p p4
    cases x
    · have e : Txt.find (pairAt p) ⟨#[ltr (la p) (lb p) false]⟩ = 0 := f1
      rw [e]; decide
    · have e : Txt.find (pairAt p) ⟨#[ltr (la p) (lb p) true]⟩ = 1 := f2
      rw [e]; decide
  · rw [hdw] at hl
    have hmem : sgnOf (marksOf k ((cAt cs 0).fdiv 60)) (pairAt p) l ∈ sgnsOf ⟨#[c1, c2]⟩ (pairAt p) (W (la p) (lb p) (dblN bs r)) := by
      rw [← hm]; exact List.mem_map.mpr ⟨l, hl, rfl⟩
    rw [hsg] at hmem
    obtain ⟨x, _, e⟩ := List.mem_map.mp hmem
    rw [← e]
    exact (href _ (hltr x)).2.2.2.2
  · rw [hdw, hm, hsg]
    refine ⟨joinOk_small 1 (fun y hy => by obtain ⟨x, _, rfl⟩ := List.mem_map.mp hy; exact Nat.le_refl 1) (by rw [List.length_map]; omega), ?_⟩
    rw [cp_len, hpageL, List.length_map]; exact hlr.2
  · rw [hdw]
    refine partsOk_of (by rw [signs_len, W_len]; exact hlr.2) fun y hy => ?_
    rw [signs_cp] at hy
    obtain ⟨c, hc, rfl⟩ := List.mem_map.mp hy
    have hc' := hin r c hc
    have h46 : ∀ p < 4, 46 ∉ cp (pairAt p) := by decide +kernel
    refine ⟨Nat.le_refl 1, by show 1 ≤ 6; decide, fun q => ?_⟩
    have q' : 46 = c := by simpa [cp] using q
    exact h46 p p4 (q' ▸ hc')
  · rw [hdw, hm, hsg]
    refine ⟨by rw [cp_len, hcp]; omega, partsOk_of (by rw [List.length_map, List.length_map]; exact hlr.2) fun y hy => ?_⟩
    obtain ⟨z, hz, rfl⟩ := List.mem_map.mp hy
    obtain ⟨x, _, rfl⟩ := List.mem_map.mp hz
    obtain ⟨⟨t, ht, _⟩, h46, h6, _⟩ := href _ (hltr x)
    exact ⟨by rw [ht]; simp, h6, h46⟩
  · refine ⟨by omega, by rw [W_len]; omega, by rw [hpair]; rfl, fun t ht => ?_, fun t ht => ?_⟩
    · rw [hdw, W_len]; have := hlen t ht; omega
    · rw [hdw, hpair, dSquares_W hab, oddsOf_W hab]; exact e3 t ht
  · rw [hdw, asked_word hab, dOvers_W hab, e1]
  · rw [hdw, hm, hsg, asked_page hC hparts hcp, hpair, dSquares_W hab, e2]
end Mine
end
section
open PySem PySem.W PySem.Calls PyProof.Rows
set_option maxRecDepth 100000
set_option Elab.async false
set_option maxHeartbeats 0
set_option linter.unusedVariables false
namespace Mine
noncomputable abbrev life0 : Life := {}
noncomputable def fnD (s : Stmt) (globals : Addr) (pm code : Value) (bi : Addr) : FuncData :=
  { name := nameOf s, qualname := nameOf s, params := paramsOf s, body := .stmts (bodyOf s), scope := scopeOf s pw.main.scope, globals, closure := [], defaults := .none, kwdefaults := .none, doc := .none, pyModule := pm, code, builtins := bi }
/-- where the tokens of the long dict's entries lie -/
noncomputable def tokK (j : Nat) : Nat := if j < 646 then 256 + 3 * j else 2194 + 2 * (j - 646)
noncomputable def b3Ent (q : (Nat × Str) × Nat) : DictEntry := ⟨q.1.1, .int q.1.1 (tokK q.2), .str q.1.2 (tokK q.2 + 1)⟩
noncomputable def b3E (a n : Nat) : List DictEntry := ((b3Table.zipIdx.drop a).take n).map b3Ent
noncomputable def o11v1 (P : Params) : Obj := ⟨(.type "tuple"), none, (.seq #[] 0), #[]⟩
noncomputable def o12v2 (P : Params) : Obj := ⟨.none, none, (.fields #[]), #[]⟩
noncomputable def o13v3 (P : Params) : Obj := ⟨(.type "code"), none, (.fields #[(.str "<module>" 182), (.str "<module>" 183), (.str "/claim/cut.py" 184), (.int 1 0), (.int 0 0), (.int 0 0), (.int 0 0), (.int 0 0), (.ref 11), (.bool false), (.int 181 0), (.ref 12), .none, .none, .none, .none, (.int 185 0), (.int 1 0), (.str "/claim/cut.py" 186)]), #[]⟩
noncomputable def o14v4 (P : Params) : Obj := ⟨(.type "frame"), none, .plain, #[(some (.ref 13)), (some (.ref 3)), (some (.ref 3)), none, (some (.str "__main__" 164)), none, (some (.ref 0))]⟩
noncomputable def heapA (P : Params) : Heap := ⟨⟨[boot_o_0 P, boot_o_1 P, boot_o_2 P, boot_o_3 P, boot_o_4 P, boot_o_5 P, boot_o_6 P, boot_o_7 P, boot_o_8 P, boot_o_9 P, boot_o_10 P, o11v1 P, o12v2 P, o13v3 P, o14v4 P]⟩, life0⟩
-- pre toks 187
noncomputable def tree0 (P : Params) : BT := (.node (boot_o_0 P) (.node (boot_o_1 P) (.node (boot_o_3 P) (.node (boot_o_7 P) .nil .nil) (.node (o11v1 P) .nil .nil)) (.node (boot_o_5 P) (.node (boot_o_9 P) .nil .nil) (.node (o13v3 P) .nil .nil))) (.node (boot_o_2 P) (.node (boot_o_4 P) (.node (boot_o_8 P) .nil .nil) (.node (o12v2 P) .nil .nil)) (.node (boot_o_6 P) (.node (boot_o_10 P) .nil .nil) (.node (o14v4 P) .nil .nil))))
-- block toks 187 n 15
noncomputable def o3v5 (P : Params) : Obj := ⟨(.type "dict"), none, (.dict #[⟨(PyData.keyHash P "__name__"), (.str "__name__" 165), (.str "cpy313.stringprep" 187)⟩, ⟨(PyData.keyHash P "__doc__"), (.str "__doc__" 166), .none⟩, ⟨(PyData.keyHash P "__package__"), (.str "__package__" 167), .none⟩, ⟨(PyData.keyHash P "__loader__"), (.str "__loader__" 168), (.builtin "__main__.__loader__#opaque")⟩, ⟨(PyData.keyHash P "__spec__"), (.str "__spec__" 169), .none⟩, ⟨(PyData.keyHash P "__annotations__"), (.str "__annotations__" 170), (.ref 6)⟩, ⟨(PyData.keyHash P "__builtins__"), (.str "__builtins__" 171), (.ref 4)⟩, ⟨(PyData.keyHash P "__file__"), (.str "__file__" 173), (.str "/claim/cut.py" 172)⟩, ⟨(PyData.keyHash P "__cached__"), (.str "__cached__" 174), .none⟩] 9), #[]⟩
noncomputable def tree1 (P : Params) : BT := (.node (boot_o_0 P) (.node (boot_o_1 P) (.node (o3v5 P) (.node (boot_o_7 P) .nil .nil) (.node (o11v1 P) .nil .nil)) (.node (boot_o_5 P) (.node (boot_o_9 P) .nil .nil) (.node (o13v3 P) .nil .nil))) (.node (boot_o_2 P) (.node (boot_o_4 P) (.node (boot_o_8 P) .nil .nil) (.node (o12v2 P) .nil .nil)) (.node (boot_o_6 P) (.node (boot_o_10 P) .nil .nil) (.node (o14v4 P) .nil .nil))))
-- after 1 statements: toks 189 n 15 pos ⟨1, 0, 1, 8⟩
noncomputable def o3v6 (P : Params) : Obj := ⟨(.type "dict"), none, (.dict #[⟨(PyData.keyHash P "__name__"), (.str "__name__" 165), (.str "cpy313.stringprep" 187)⟩, ⟨(PyData.keyHash P "__doc__"), (.str "__doc__" 166), .none⟩, ⟨(PyData.keyHash P "__package__"), (.str "__package__" 167), .none⟩, ⟨(PyData.keyHash P "__loader__"), (.str "__loader__" 168), (.builtin "__main__.__loader__#opaque")⟩, ⟨(PyData.keyHash P "__spec__"), (.str "__spec__" 169), .none⟩, ⟨(PyData.keyHash P "__annotations__"), (.str "__annotations__" 170), (.ref 6)⟩, ⟨(PyData.keyHash P "__builtins__"), (.str "__builtins__" 171), (.ref 4)⟩, ⟨(PyData.keyHash P "__file__"), (.str "__file__" 173), (.str "/claim/cut.py" 172)⟩, ⟨(PyData.keyHash P "__cached__"), (.str "__cached__" 174), .none⟩, ⟨(PyData.keyHash P "b1_set"), (.str "b1_set" 248), (.ref 22)⟩] 10), #[]⟩
noncomputable def o15v7 (P : Params) : Obj := ⟨(.type "list"), none, (.seq #[(.int 173 189), (.int 847 190), (.int 6150 191), (.int 6155 192), (.int 6156 193), (.int 6157 194), (.int 8203 195), (.int 8204 196), (.int 8205 197), (.int 8288 198), (.int 65279 199)] 0), #[]⟩
noncomputable def o16v8 (P : Params) : Obj := ⟨(.type "range"), none, (.fields #[(.int 65024 200), (.int 65040 201), (.int 1 202)]), #[]⟩
noncomputable def o17v9 (P : Params) : Obj := ⟨(.type "list"), none, (.seq #[(.int 65024 205), (.int 65025 206), (.int 65026 207), (.int 65027 208), (.int 65028 209), (.int 65029 210), (.int 65030 211), (.int 65031 212), (.int 65032 213), (.int 65033 214), (.int 65034 215), (.int 65035 216), (.int 65036 217), (.int 65037 218), (.int 65038 219), (.int 65039 220)] 18), #[]⟩
noncomputable def o18v10 (P : Params) : Obj := ⟨(.type "range_iterator"), none, (.fields #[(.int 65040 0), (.int 0 0), (.int 1 0)]), #[]⟩
noncomputable def o19v11 (P : Params) : Obj := ⟨(.type "tuple"), none, (.seq #[] 0), #[]⟩
noncomputable def o20v12 (P : Params) : Obj := ⟨(.type "StopIteration"), none, (.fields #[(.ref 19), .none, .none, .none, (.bool false), .none]), #[]⟩
noncomputable def o21v13 (P : Params) : Obj := ⟨(.type "list"), none, (.seq #[(.int 173 189), (.int 847 190), (.int 6150 191), (.int 6155 192), (.int 6156 193), (.int 6157 194), (.int 8203 195), (.int 8204 196), (.int 8205 197), (.int 8288 198), (.int 65279 199), (.int 65024 205), (.int 65025 206), (.int 65026 207), (.int 65027 208), (.int 65028 209), (.int 65029 210), (.int 65030 211), (.int 65031 212), (.int 65032 213), (.int 65033 214), (.int 65034 215), (.int 65035 216), (.int 65036 217), (.int 65037 218), (.int 65038 219), (.int 65039 220)] 0), #[]⟩
noncomputable def o22v14 (P : Params) : Obj := (bif P.followText "set-order" then (⟨(.type "set"), none, (.set #[(65024, (.int 65024 205)), (65025, (.int 65025 206)), (65026, (.int 65026 207)), (65027, (.int 65027 208)), (65028, (.int 65028 209)), (65029, (.int 65029 210)), (6150, (.int 6150 191)), (65030, (.int 65030 211)), (65031, (.int 65031 212)), (65032, (.int 65032 213)), (65033, (.int 65033 214)), (6155, (.int 6155 192)), (6156, (.int 6156 193)), (6157, (.int 6157 194)), (8203, (.int 8203 195)), (8204, (.int 8204 196)), (8205, (.int 8205 197)), (65034, (.int 65034 215)), (65035, (.int 65035 216)), (65036, (.int 65036 217)), (65037, (.int 65037 218)), (65038, (.int 65038 219)), (65039, (.int 65039 220)), (173, (.int 173 189)), (847, (.int 847 190)), (8288, (.int 8288 198)), (65279, (.int 65279 199))] 29 ⟨127, #[0, 1, 2, 3, 4, 5, 6, 7, 8, 9, 10, 11, 12, 13, 14, 15, 16, 17, 18, 19, 20, 21, 22, 45, 79, 96, 127], #[], 0, false, 2, true⟩), #[]⟩ : Obj) else ⟨(.type "set"), none, (.set #[(65024, (.int 65024 205)), (65025, (.int 65025 206)), (65026, (.int 65026 207)), (65027, (.int 65027 208)), (65028, (.int 65028 209)), (65029, (.int 65029 210)), (6150, (.int 6150 191)), (65030, (.int 65030 211)), (65031, (.int 65031 212)), (65032, (.int 65032 213)), (65033, (.int 65033 214)), (6155, (.int 6155 192)), (6156, (.int 6156 193)), (6157, (.int 6157 194)), (8203, (.int 8203 195)), (8204, (.int 8204 196)), (8205, (.int 8205 197)), (65034, (.int 65034 215)), (65035, (.int 65035 216)), (65036, (.int 65036 217)), (65037, (.int 65037 218)), (65038, (.int 65038 219)), (65039, (.int 65039 220)), (173, (.int 173 189)), (847, (.int 847 190)), (8288, (.int 8288 198)), (65279, (.int 65279 199))] 29 ⟨127, #[0, 1, 2, 3, 4, 5, 6, 7, 8, 9, 10, 11, 12, 13, 14, 15, 16, 17, 18, 19, 20, 21, 22, 45, 79, 96, 127], #[], 0, true, 2, true⟩), #[]⟩)
noncomputable def o23v15 (P : Params) : Obj := ⟨(.type "list_iterator"), none, (.fields #[.none, (.int 27 0)]), #[]⟩
noncomputable def o24v16 (P : Params) : Obj := ⟨(.type "tuple"), none, (.seq #[] 0), #[]⟩
noncomputable def o25v17 (P : Params) : Obj := ⟨(.type "StopIteration"), none, (.fields #[(.ref 24), .none, .none, .none, (.bool false), .none]), #[]⟩
noncomputable def tree2 (P : Params) : BT := (.node (boot_o_0 P) (.node (boot_o_1 P) (.node (o3v6 P) (.node (boot_o_7 P) (.node (o15v7 P) .nil .nil) (.node (o23v15 P) .nil .nil)) (.node (o11v1 P) (.node (o19v11 P) .nil .nil) .nil)) (.node (boot_o_5 P) (.node (boot_o_9 P) (.node (o17v9 P) .nil .nil) (.node (o25v17 P) .nil .nil)) (.node (o13v3 P) (.node (o21v13 P) .nil .nil) .nil))) (.node (boot_o_2 P) (.node (boot_o_4 P) (.node (boot_o_8 P) (.node (o16v8 P) .nil .nil) (.node (o24v16 P) .nil .nil)) (.node (o12v2 P) (.node (o20v12 P) .nil .nil) .nil)) (.node (boot_o_6 P) (.node (boot_o_10 P) (.node (o18v10 P) .nil .nil) .nil) (.node (o14v4 P) (.node (o22v14 P) .nil .nil) .nil))))
-- after 2 statements: toks 249 n 26 pos ⟨2, 0, 2, 6⟩
noncomputable def o3v18 (P : Params) : Obj := ⟨(.type "dict"), none, (.dict #[⟨(PyData.keyHash P "__name__"), (.str "__name__" 165), (.str "cpy313.stringprep" 187)⟩, ⟨(PyData.keyHash P "__doc__"), (.str "__doc__" 166), .none⟩, ⟨(PyData.keyHash P "__package__"), (.str "__package__" 167), .none⟩, ⟨(PyData.keyHash P "__loader__"), (.str "__loader__" 168), (.builtin "__main__.__loader__#opaque")⟩, ⟨(PyData.keyHash P "__spec__"), (.str "__spec__" 169), .none⟩, ⟨(PyData.keyHash P "__annotations__"), (.str "__annotations__" 170), (.ref 6)⟩, ⟨(PyData.keyHash P "__builtins__"), (.str "__builtins__" 171), (.ref 4)⟩, ⟨(PyData.keyHash P "__file__"), (.str "__file__" 173), (.str "/claim/cut.py" 172)⟩, ⟨(PyData.keyHash P "__cached__"), (.str "__cached__" 174), .none⟩, ⟨(PyData.keyHash P "b1_set"), (.str "b1_set" 248), (.ref 22)⟩, ⟨(PyData.keyHash P "in_table_b1"), (.str "in_table_b1" 255), (.ref 32)⟩] 11), #[]⟩
noncomputable def o12v19 (P : Params) : Obj := ⟨.none, none, (.fields #[(.int 3 0), (.int 0 0), (.ref 31)]), #[]⟩
noncomputable def o26v20 (P : Params) : Obj := ⟨(.type "tuple"), none, (.seq #[] 0), #[]⟩
noncomputable def o27v21 (P : Params) : Obj := ⟨.none, none, (.fields #[]), #[]⟩
noncomputable def o28v22 (P : Params) : Obj := ⟨(.type "tuple"), none, (.seq #[(.str "code" 252)] 0), #[]⟩
noncomputable def o29v23 (P : Params) : Obj := ⟨(.type "tuple"), none, (.seq #[] 0), #[]⟩
noncomputable def o30v24 (P : Params) : Obj := ⟨.none, none, (.func (fnD (nthS 2 pw.main.body) 0 .none .none 0)), #[]⟩
noncomputable def o31v25 (P : Params) : Obj := ⟨(.type "code"), none, (.fields #[(.str "in_table_b1" 249), (.str "in_table_b1" 250), (.str "/claim/cut.py" 251), (.int 3 0), (.int 1 0), (.int 0 0), (.int 0 0), (.int 3 0), (.ref 26), (.bool true), (.int 181 0), (.ref 27), .none, (.ref 28), (.ref 29), (.ref 30), (.int 253 0), (.int 3 0), (.str "/claim/cut.py" 254)]), #[]⟩
noncomputable def o32v26 (P : Params) : Obj := ⟨(.type "function"), none, (.func (fnD (nthS 2 pw.main.body) 3 (.str "cpy313.stringprep" 187) (.ref 31) 0)), #[]⟩
noncomputable def tree3 (P : Params) : BT := (.node (boot_o_0 P) (.node (boot_o_1 P) (.node (o3v18 P) (.node (boot_o_7 P) (.node (o15v7 P) (.node (o31v25 P) .nil .nil) .nil) (.node (o23v15 P) .nil .nil)) (.node (o11v1 P) (.node (o19v11 P) .nil .nil) (.node (o27v21 P) .nil .nil))) (.node (boot_o_5 P) (.node (boot_o_9 P) (.node (o17v9 P) .nil .nil) (.node (o25v17 P) .nil .nil)) (.node (o13v3 P) (.node (o21v13 P) .nil .nil) (.node (o29v23 P) .nil .nil)))) (.node (boot_o_2 P) (.node (boot_o_4 P) (.node (boot_o_8 P) (.node (o16v8 P) (.node (o32v26 P) .nil .nil) .nil) (.node (o24v16 P) .nil .nil)) (.node (o12v19 P) (.node (o20v12 P) .nil .nil) (.node (o28v22 P) .nil .nil))) (.node (boot_o_6 P) (.node (boot_o_10 P) (.node (o18v10 P) .nil .nil) (.node (o26v20 P) .nil .nil)) (.node (o14v4 P) (.node (o22v14 P) .nil .nil) (.node (o30v24 P) .nil .nil)))))
-- after 3 statements: toks 256 n 33 pos ⟨3, 0, 4, 30⟩
noncomputable def o3v27 (P : Params) : Obj := ⟨(.type "dict"), none, (.dict #[⟨(PyData.keyHash P "__name__"), (.str "__name__" 165), (.str "cpy313.stringprep" 187)⟩, ⟨(PyData.keyHash P "__doc__"), (.str "__doc__" 166), .none⟩, ⟨(PyData.keyHash P "__package__"), (.str "__package__" 167), .none⟩, ⟨(PyData.keyHash P "__loader__"), (.str "__loader__" 168), (.builtin "__main__.__loader__#opaque")⟩, ⟨(PyData.keyHash P "__spec__"), (.str "__spec__" 169), .none⟩, ⟨(PyData.keyHash P "__annotations__"), (.str "__annotations__" 170), (.ref 6)⟩, ⟨(PyData.keyHash P "__builtins__"), (.str "__builtins__" 171), (.ref 4)⟩, ⟨(PyData.keyHash P "__file__"), (.str "__file__" 173), (.str "/claim/cut.py" 172)⟩, ⟨(PyData.keyHash P "__cached__"), (.str "__cached__" 174), .none⟩, ⟨(PyData.keyHash P "b1_set"), (.str "b1_set" 248), (.ref 22)⟩, ⟨(PyData.keyHash P "in_table_b1"), (.str "in_table_b1" 255), (.ref 32)⟩, ⟨(PyData.keyHash P "b3_exceptions"), (.str "b3_exceptions" 2206), (.ref 33)⟩] 12), #[]⟩
noncomputable def o33v28 (P : Params) : Obj := ⟨(.type "dict"), none, (.dict (b3E 0 650).toArray 650), #[]⟩
noncomputable def o34v29 (P : Params) : Obj := ⟨(.type "dict"), none, (.dict (b3E 17 17).toArray 17), #[]⟩
noncomputable def o35v30 (P : Params) : Obj := ⟨(.type "dict"), none, (.dict (b3E 34 17).toArray 17), #[]⟩
noncomputable def o36v31 (P : Params) : Obj := ⟨(.type "dict"), none, (.dict (b3E 51 17).toArray 17), #[]⟩
noncomputable def o37v32 (P : Params) : Obj := ⟨(.type "dict"), none, (.dict (b3E 68 17).toArray 17), #[]⟩
noncomputable def o38v33 (P : Params) : Obj := ⟨(.type "dict"), none, (.dict (b3E 85 17).toArray 17), #[]⟩
noncomputable def o39v34 (P : Params) : Obj := ⟨(.type "dict"), none, (.dict (b3E 102 17).toArray 17), #[]⟩
noncomputable def o40v35 (P : Params) : Obj := ⟨(.type "dict"), none, (.dict (b3E 119 17).toArray 17), #[]⟩
noncomputable def o41v36 (P : Params) : Obj := ⟨(.type "dict"), none, (.dict (b3E 136 17).toArray 17), #[]⟩
noncomputable def o42v37 (P : Params) : Obj := ⟨(.type "dict"), none, (.dict (b3E 153 17).toArray 17), #[]⟩
noncomputable def o43v38 (P : Params) : Obj := ⟨(.type "dict"), none, (.dict (b3E 170 17).toArray 17), #[]⟩
noncomputable def o44v39 (P : Params) : Obj := ⟨(.type "dict"), none, (.dict (b3E 187 17).toArray 17), #[]⟩
noncomputable def o45v40 (P : Params) : Obj := ⟨(.type "dict"), none, (.dict (b3E 204 17).toArray 17), #[]⟩
noncomputable def o46v41 (P : Params) : Obj := ⟨(.type "dict"), none, (.dict (b3E 221 17).toArray 17), #[]⟩
noncomputable def o47v42 (P : Params) : Obj := ⟨(.type "dict"), none, (.dict (b3E 238 17).toArray 17), #[]⟩
noncomputable def o48v43 (P : Params) : Obj := ⟨(.type "dict"), none, (.dict (b3E 255 17).toArray 17), #[]⟩
noncomputable def o49v44 (P : Params) : Obj := ⟨(.type "dict"), none, (.dict (b3E 272 17).toArray 17), #[]⟩
noncomputable def o50v45 (P : Params) : Obj := ⟨(.type "dict"), none, (.dict (b3E 289 17).toArray 17), #[]⟩
noncomputable def o51v46 (P : Params) : Obj := ⟨(.type "dict"), none, (.dict (b3E 306 17).toArray 17), #[]⟩
noncomputable def o52v47 (P : Params) : Obj := ⟨(.type "dict"), none, (.dict (b3E 323 17).toArray 17), #[]⟩
noncomputable def o53v48 (P : Params) : Obj := ⟨(.type "dict"), none, (.dict (b3E 340 17).toArray 17), #[]⟩
noncomputable def o54v49 (P : Params) : Obj := ⟨(.type "dict"), none, (.dict (b3E 357 17).toArray 17), #[]⟩
noncomputable def o55v50 (P : Params) : Obj := ⟨(.type "dict"), none, (.dict (b3E 374 17).toArray 17), #[]⟩
noncomputable def o56v51 (P : Params) : Obj := ⟨(.type "dict"), none, (.dict (b3E 391 17).toArray 17), #[]⟩
noncomputable def o57v52 (P : Params) : Obj := ⟨(.type "dict"), none, (.dict (b3E 408 17).toArray 17), #[]⟩
noncomputable def o58v53 (P : Params) : Obj := ⟨(.type "dict"), none, (.dict (b3E 425 17).toArray 17), #[]⟩
noncomputable def o59v54 (P : Params) : Obj := ⟨(.type "dict"), none, (.dict (b3E 442 17).toArray 17), #[]⟩
noncomputable def o60v55 (P : Params) : Obj := ⟨(.type "dict"), none, (.dict (b3E 459 17).toArray 17), #[]⟩
noncomputable def o61v56 (P : Params) : Obj := ⟨(.type "dict"), none, (.dict (b3E 476 17).toArray 17), #[]⟩
noncomputable def o62v57 (P : Params) : Obj := ⟨(.type "dict"), none, (.dict (b3E 493 17).toArray 17), #[]⟩
noncomputable def o63v58 (P : Params) : Obj := ⟨(.type "dict"), none, (.dict (b3E 510 17).toArray 17), #[]⟩
noncomputable def o64v59 (P : Params) : Obj := ⟨(.type "dict"), none, (.dict (b3E 527 17).toArray 17), #[]⟩
noncomputable def o65v60 (P : Params) : Obj := ⟨(.type "dict"), none, (.dict (b3E 544 17).toArray 17), #[]⟩
noncomputable def o66v61 (P : Params) : Obj := ⟨(.type "dict"), none, (.dict (b3E 561 17).toArray 17), #[]⟩
noncomputable def o67v62 (P : Params) : Obj := ⟨(.type "dict"), none, (.dict (b3E 578 17).toArray 17), #[]⟩
noncomputable def o68v63 (P : Params) : Obj := ⟨(.type "dict"), none, (.dict (b3E 595 17).toArray 17), #[]⟩
noncomputable def o69v64 (P : Params) : Obj := ⟨(.type "dict"), none, (.dict (b3E 612 17).toArray 17), #[]⟩
noncomputable def o70v65 (P : Params) : Obj := ⟨(.type "dict"), none, (.dict (b3E 629 17).toArray 17), #[]⟩
noncomputable def o71v66 (P : Params) : Obj := ⟨(.type "dict"), none, (.dict (b3E 646 4).toArray 4), #[]⟩
noncomputable def tree4 (P : Params) : BT := (.node (boot_o_0 P) (.node (boot_o_1 P) (.node (o3v27 P) (.node (boot_o_7 P) (.node (o15v7 P) (.node (o31v25 P) (.node (o63v58 P) .nil .nil) .nil) (.node (o47v42 P) .nil .nil)) (.node (o23v15 P) (.node (o39v34 P) (.node (o71v66 P) .nil .nil) .nil) (.node (o55v50 P) .nil .nil))) (.node (o11v1 P) (.node (o19v11 P) (.node (o35v30 P) (.node (o67v62 P) .nil .nil) .nil) (.node (o51v46 P) .nil .nil)) (.node (o27v21 P) (.node (o43v38 P) .nil .nil) (.node (o59v54 P) .nil .nil)))) (.node (boot_o_5 P) (.node (boot_o_9 P) (.node (o17v9 P) (.node (o33v28 P) (.node (o65v60 P) .nil .nil) .nil) (.node (o49v44 P) .nil .nil)) (.node (o25v17 P) (.node (o41v36 P) .nil .nil) (.node (o57v52 P) .nil .nil))) (.node (o13v3 P) (.node (o21v13 P) (.node (o37v32 P) (.node (o69v64 P) .nil .nil) .nil) (.node (o53v48 P) .nil .nil)) (.node (o29v23 P) (.node (o45v40 P) .nil .nil) (.node (o61v56 P) .nil .nil))))) (.node (boot_o_2 P) (.node (boot_o_4 P) (.node (boot_o_8 P) (.node (o16v8 P) (.node (o32v26 P) (.node (o64v59 P) .nil .nil) .nil) (.node (o48v43 P) .nil .nil)) (.node (o24v16 P) (.node (o40v35 P) .nil .nil) (.node (o56v51 P) .nil .nil))) (.node (o12v19 P) (.node (o20v12 P) (.node (o36v31 P) (.node (o68v63 P) .nil .nil) .nil) (.node (o52v47 P) .nil .nil)) (.node (o28v22 P) (.node (o44v39 P) .nil .nil) (.node (o60v55 P) .nil .nil)))) (.node (boot_o_6 P) (.node (boot_o_10 P) (.node (o18v10 P) (.node (o34v29 P) (.node (o66v61 P) .nil .nil) .nil) (.node (o50v45 P) .nil .nil)) (.node (o26v20 P) (.node (o42v37 P) .nil .nil) (.node (o58v53 P) .nil .nil))) (.node (o14v4 P) (.node (o22v14 P) (.node (o38v33 P) (.node (o70v65 P) .nil .nil) .nil) (.node (o54v49 P) .nil .nil)) (.node (o30v24 P) (.node (o46v41 P) .nil .nil) (.node (o62v57 P) .nil .nil))))))
-- after 4 statements: toks 2207 n 72 pos ⟨5, 0, 5, 13⟩
noncomputable def o3v67 (P : Params) : Obj := ⟨(.type "dict"), none, (.dict #[⟨(PyData.keyHash P "__name__"), (.str "__name__" 165), (.str "law_ti0064_01" 2275)⟩, ⟨(PyData.keyHash P "__doc__"), (.str "__doc__" 166), .none⟩, ⟨(PyData.keyHash P "__package__"), (.str "__package__" 167), .none⟩, ⟨(PyData.keyHash P "__loader__"), (.str "__loader__" 168), (.builtin "__main__.__loader__#opaque")⟩, ⟨(PyData.keyHash P "__spec__"), (.str "__spec__" 169), .none⟩, ⟨(PyData.keyHash P "__annotations__"), (.str "__annotations__" 170), (.ref 6)⟩, ⟨(PyData.keyHash P "__builtins__"), (.str "__builtins__" 171), (.ref 4)⟩, ⟨(PyData.keyHash P "__file__"), (.str "__file__" 173), (.str "/claim/cut.py" 172)⟩, ⟨(PyData.keyHash P "__cached__"), (.str "__cached__" 174), .none⟩, ⟨(PyData.keyHash P "b1_set"), (.str "b1_set" 248), (.ref 22)⟩, ⟨(PyData.keyHash P "in_table_b1"), (.str "in_table_b1" 255), (.ref 32)⟩, ⟨(PyData.keyHash P "b3_exceptions"), (.str "b3_exceptions" 2206), (.ref 33)⟩, ⟨(PyData.keyHash P "map_table_b3"), (.str "map_table_b3" 2214), (.ref 78)⟩, ⟨(PyData.keyHash P "ELLIPSIS_MARKER"), (.str "ELLIPSIS_MARKER" 2218), (.str "..." 2217)⟩, ⟨(PyData.keyHash P "_ellipsis_match"), (.str "_ellipsis_match" 2230), (.ref 85)⟩, ⟨(PyData.keyHash P "_raise_serialization_error"), (.str "_raise_serialization_error" 2239), (.ref 92)⟩, ⟨(PyData.keyHash P "_escape_cdata"), (.str "_escape_cdata" 2246), (.ref 99)⟩, ⟨(PyData.keyHash P "_escape_attrib"), (.str "_escape_attrib" 2253), (.ref 106)⟩, ⟨(PyData.keyHash P "_escape_attrib_html"), (.str "_escape_attrib_html" 2260), (.ref 113)⟩, ⟨(PyData.keyHash P "_escape_cdata_c14n"), (.str "_escape_cdata_c14n" 2267), (.ref 120)⟩, ⟨(PyData.keyHash P "_escape_attrib_c14n"), (.str "_escape_attrib_c14n" 2274), (.ref 127)⟩, ⟨(PyData.keyHash P "_law_spelled"), (.str "_law_spelled" 2282), (.ref 132)⟩, ⟨(PyData.keyHash P "_law_doubled"), (.str "_law_doubled" 2288), (.ref 137)⟩, ⟨(PyData.keyHash P "_law_references"), (.str "_law_references" 2294), (.ref 142)⟩, ⟨(PyData.keyHash P "_law_written"), (.str "_law_written" 2302), (.ref 149)⟩] 25), #[]⟩
noncomputable def o12v68 (P : Params) : Obj := ⟨.none, none, (.fields #[(.int 3 0), (.int 0 0), (.ref 31), (.int 6 0), (.int 0 0), (.ref 77), (.int 13 0), (.int 0 0), (.ref 84), (.int 42 0), (.int 0 0), (.ref 91), (.int 44 0), (.int 0 0), (.ref 98), (.int 55 0), (.int 0 0), (.ref 105), (.int 74 0), (.int 0 0), (.ref 112), (.int 85 0), (.int 0 0), (.ref 119), (.int 98 0), (.int 0 0), (.ref 126), (.int 116 0), (.int 0 0), (.ref 131), (.int 133 0), (.int 0 0), (.ref 136), (.int 135 0), (.int 0 0), (.ref 141), (.int 139 0), (.int 0 0), (.ref 148)]), #[]⟩
noncomputable def o72v69 (P : Params) : Obj := ⟨(.type "tuple"), none, (.seq #[] 0), #[]⟩
noncomputable def o73v70 (P : Params) : Obj := ⟨.none, none, (.fields #[]), #[]⟩
noncomputable def o74v71 (P : Params) : Obj := ⟨(.type "tuple"), none, (.seq #[(.str "code" 2210), (.str "r" 2211)] 0), #[]⟩
noncomputable def o75v72 (P : Params) : Obj := ⟨(.type "tuple"), none, (.seq #[] 0), #[]⟩
noncomputable def o76v73 (P : Params) : Obj := ⟨.none, none, (.func (fnD (nthS 4 pw.main.body) 0 .none .none 0)), #[]⟩
noncomputable def o77v74 (P : Params) : Obj := ⟨(.type "code"), none, (.fields #[(.str "map_table_b3" 2207), (.str "map_table_b3" 2208), (.str "/claim/cut.py" 2209), (.int 6 0), (.int 1 0), (.int 0 0), (.int 0 0), (.int 3 0), (.ref 72), (.bool true), (.int 181 0), (.ref 73), .none, (.ref 74), (.ref 75), (.ref 76), (.int 2212 0), (.int 6 0), (.str "/claim/cut.py" 2213)]), #[]⟩
noncomputable def o78v75 (P : Params) : Obj := ⟨(.type "function"), none, (.func (fnD (nthS 4 pw.main.body) 3 (.str "cpy313.stringprep" 187) (.ref 77) 0)), #[]⟩
noncomputable def o79v76 (P : Params) : Obj := ⟨(.type "tuple"), none, (.seq #[] 0), #[]⟩
noncomputable def o80v77 (P : Params) : Obj := ⟨.none, none, (.fields #[]), #[]⟩
noncomputable def o81v78 (P : Params) : Obj := ⟨(.type "tuple"), none, (.seq #[(.str "want" 2222), (.str "got" 2223), (.str "ws" 2224), (.str "startpos" 2225), (.str "endpos" 2226), (.str "w" 2227)] 0), #[]⟩
noncomputable def o82v79 (P : Params) : Obj := ⟨(.type "tuple"), none, (.seq #[] 0), #[]⟩
noncomputable def o83v80 (P : Params) : Obj := ⟨.none, none, (.func (fnD (nthS 7 pw.main.body) 0 .none .none 0)), #[]⟩
noncomputable def o84v81 (P : Params) : Obj := ⟨(.type "code"), none, (.fields #[(.str "_ellipsis_match" 2219), (.str "_ellipsis_match" 2220), (.str "/claim/cut.py" 2221), (.int 13 0), (.int 2 0), (.int 0 0), (.int 0 0), (.int 3 0), (.ref 79), (.bool true), (.int 181 0), (.ref 80), .none, (.ref 81), (.ref 82), (.ref 83), (.int 2228 0), (.int 13 0), (.str "/claim/cut.py" 2229)]), #[]⟩
noncomputable def o85v82 (P : Params) : Obj := ⟨(.type "function"), none, (.func (fnD (nthS 7 pw.main.body) 3 (.str "cpy313.doctest" 2215) (.ref 84) 0)), #[]⟩
noncomputable def o86v83 (P : Params) : Obj := ⟨(.type "tuple"), none, (.seq #[] 0), #[]⟩
noncomputable def o87v84 (P : Params) : Obj := ⟨.none, none, (.fields #[]), #[]⟩
noncomputable def o88v85 (P : Params) : Obj := ⟨(.type "tuple"), none, (.seq #[(.str "text" 2236)] 0), #[]⟩
noncomputable def o89v86 (P : Params) : Obj := ⟨(.type "tuple"), none, (.seq #[] 0), #[]⟩
noncomputable def o90v87 (P : Params) : Obj := ⟨.none, none, (.func (fnD (nthS 9 pw.main.body) 0 .none .none 0)), #[]⟩
noncomputable def o91v88 (P : Params) : Obj := ⟨(.type "code"), none, (.fields #[(.str "_raise_serialization_error" 2233), (.str "_raise_serialization_error" 2234), (.str "/claim/cut.py" 2235), (.int 42 0), (.int 1 0), (.int 0 0), (.int 0 0), (.int 3 0), (.ref 86), (.bool true), (.int 181 0), (.ref 87), .none, (.ref 88), (.ref 89), (.ref 90), (.int 2237 0), (.int 42 0), (.str "/claim/cut.py" 2238)]), #[]⟩
noncomputable def o92v89 (P : Params) : Obj := ⟨(.type "function"), none, (.func (fnD (nthS 9 pw.main.body) 3 (.str "cpy313.xml.etree.ElementTree" 2231) (.ref 91) 0)), #[]⟩
noncomputable def o93v90 (P : Params) : Obj := ⟨(.type "tuple"), none, (.seq #[] 0), #[]⟩
noncomputable def o94v91 (P : Params) : Obj := ⟨.none, none, (.fields #[]), #[]⟩
noncomputable def o95v92 (P : Params) : Obj := ⟨(.type "tuple"), none, (.seq #[(.str "text" 2243)] 0), #[]⟩
noncomputable def o96v93 (P : Params) : Obj := ⟨(.type "tuple"), none, (.seq #[] 0), #[]⟩
noncomputable def o97v94 (P : Params) : Obj := ⟨.none, none, (.func (fnD (nthS 10 pw.main.body) 0 .none .none 0)), #[]⟩
noncomputable def o98v95 (P : Params) : Obj := ⟨(.type "code"), none, (.fields #[(.str "_escape_cdata" 2240), (.str "_escape_cdata" 2241), (.str "/claim/cut.py" 2242), (.int 44 0), (.int 1 0), (.int 0 0), (.int 0 0), (.int 3 0), (.ref 93), (.bool true), (.int 181 0), (.ref 94), .none, (.ref 95), (.ref 96), (.ref 97), (.int 2244 0), (.int 44 0), (.str "/claim/cut.py" 2245)]), #[]⟩
noncomputable def o99v96 (P : Params) : Obj := ⟨(.type "function"), none, (.func (fnD (nthS 10 pw.main.body) 3 (.str "cpy313.xml.etree.ElementTree" 2231) (.ref 98) 0)), #[]⟩
noncomputable def o100v97 (P : Params) : Obj := ⟨(.type "tuple"), none, (.seq #[] 0), #[]⟩
noncomputable def o101v98 (P : Params) : Obj := ⟨.none, none, (.fields #[]), #[]⟩
noncomputable def o102v99 (P : Params) : Obj := ⟨(.type "tuple"), none, (.seq #[(.str "text" 2250)] 0), #[]⟩
noncomputable def o103v100 (P : Params) : Obj := ⟨(.type "tuple"), none, (.seq #[] 0), #[]⟩
noncomputable def o104v101 (P : Params) : Obj := ⟨.none, none, (.func (fnD (nthS 11 pw.main.body) 0 .none .none 0)), #[]⟩
noncomputable def o105v102 (P : Params) : Obj := ⟨(.type "code"), none, (.fields #[(.str "_escape_attrib" 2247), (.str "_escape_attrib" 2248), (.str "/claim/cut.py" 2249), (.int 55 0), (.int 1 0), (.int 0 0), (.int 0 0), (.int 3 0), (.ref 100), (.bool true), (.int 181 0), (.ref 101), .none, (.ref 102), (.ref 103), (.ref 104), (.int 2251 0), (.int 55 0), (.str "/claim/cut.py" 2252)]), #[]⟩
noncomputable def o106v103 (P : Params) : Obj := ⟨(.type "function"), none, (.func (fnD (nthS 11 pw.main.body) 3 (.str "cpy313.xml.etree.ElementTree" 2231) (.ref 105) 0)), #[]⟩
noncomputable def o107v104 (P : Params) : Obj := ⟨(.type "tuple"), none, (.seq #[] 0), #[]⟩
noncomputable def o108v105 (P : Params) : Obj := ⟨.none, none, (.fields #[]), #[]⟩
noncomputable def o109v106 (P : Params) : Obj := ⟨(.type "tuple"), none, (.seq #[(.str "text" 2257)] 0), #[]⟩
noncomputable def o110v107 (P : Params) : Obj := ⟨(.type "tuple"), none, (.seq #[] 0), #[]⟩
noncomputable def o111v108 (P : Params) : Obj := ⟨.none, none, (.func (fnD (nthS 12 pw.main.body) 0 .none .none 0)), #[]⟩
noncomputable def o112v109 (P : Params) : Obj := ⟨(.type "code"), none, (.fields #[(.str "_escape_attrib_html" 2254), (.str "_escape_attrib_html" 2255), (.str "/claim/cut.py" 2256), (.int 74 0), (.int 1 0), (.int 0 0), (.int 0 0), (.int 3 0), (.ref 107), (.bool true), (.int 181 0), (.ref 108), .none, (.ref 109), (.ref 110), (.ref 111), (.int 2258 0), (.int 74 0), (.str "/claim/cut.py" 2259)]), #[]⟩
noncomputable def o113v110 (P : Params) : Obj := ⟨(.type "function"), none, (.func (fnD (nthS 12 pw.main.body) 3 (.str "cpy313.xml.etree.ElementTree" 2231) (.ref 112) 0)), #[]⟩
noncomputable def o114v111 (P : Params) : Obj := ⟨(.type "tuple"), none, (.seq #[] 0), #[]⟩
noncomputable def o115v112 (P : Params) : Obj := ⟨.none, none, (.fields #[]), #[]⟩
noncomputable def o116v113 (P : Params) : Obj := ⟨(.type "tuple"), none, (.seq #[(.str "text" 2264)] 0), #[]⟩
noncomputable def o117v114 (P : Params) : Obj := ⟨(.type "tuple"), none, (.seq #[] 0), #[]⟩
noncomputable def o118v115 (P : Params) : Obj := ⟨.none, none, (.func (fnD (nthS 13 pw.main.body) 0 .none .none 0)), #[]⟩
noncomputable def o119v116 (P : Params) : Obj := ⟨(.type "code"), none, (.fields #[(.str "_escape_cdata_c14n" 2261), (.str "_escape_cdata_c14n" 2262), (.str "/claim/cut.py" 2263), (.int 85 0), (.int 1 0), (.int 0 0), (.int 0 0), (.int 3 0), (.ref 114), (.bool true), (.int 181 0), (.ref 115), .none, (.ref 116), (.ref 117), (.ref 118), (.int 2265 0), (.int 85 0), (.str "/claim/cut.py" 2266)]), #[]⟩
noncomputable def o120v117 (P : Params) : Obj := ⟨(.type "function"), none, (.func (fnD (nthS 13 pw.main.body) 3 (.str "cpy313.xml.etree.ElementTree" 2231) (.ref 119) 0)), #[]⟩
noncomputable def o121v118 (P : Params) : Obj := ⟨(.type "tuple"), none, (.seq #[] 0), #[]⟩
noncomputable def o122v119 (P : Params) : Obj := ⟨.none, none, (.fields #[]), #[]⟩
noncomputable def o123v120 (P : Params) : Obj := ⟨(.type "tuple"), none, (.seq #[(.str "text" 2271)] 0), #[]⟩
noncomputable def o124v121 (P : Params) : Obj := ⟨(.type "tuple"), none, (.seq #[] 0), #[]⟩
noncomputable def o125v122 (P : Params) : Obj := ⟨.none, none, (.func (fnD (nthS 14 pw.main.body) 0 .none .none 0)), #[]⟩
noncomputable def o126v123 (P : Params) : Obj := ⟨(.type "code"), none, (.fields #[(.str "_escape_attrib_c14n" 2268), (.str "_escape_attrib_c14n" 2269), (.str "/claim/cut.py" 2270), (.int 98 0), (.int 1 0), (.int 0 0), (.int 0 0), (.int 3 0), (.ref 121), (.bool true), (.int 181 0), (.ref 122), .none, (.ref 123), (.ref 124), (.ref 125), (.int 2272 0), (.int 98 0), (.str "/claim/cut.py" 2273)]), #[]⟩
noncomputable def o127v124 (P : Params) : Obj := ⟨(.type "function"), none, (.func (fnD (nthS 14 pw.main.body) 3 (.str "cpy313.xml.etree.ElementTree" 2231) (.ref 126) 0)), #[]⟩
noncomputable def o128v125 (P : Params) : Obj := ⟨(.type "tuple"), none, (.seq #[] 0), #[]⟩
noncomputable def o129v126 (P : Params) : Obj := ⟨.none, none, (.fields #[]), #[]⟩
noncomputable def o130v127 (P : Params) : Obj := ⟨.none, none, (.func (fnD (nthS 16 pw.main.body) 0 .none .none 0)), #[]⟩
noncomputable def o131v128 (P : Params) : Obj := ⟨(.type "code"), none, (.fields #[(.str "_law_spelled" 2277), (.str "_law_spelled" 2278), (.str "/claim/cut.py" 2279), (.int 116 0), (.int 3 0), (.int 0 0), (.int 0 0), (.int 3 0), (.ref 128), (.bool true), (.int 181 0), (.ref 129), .none, .none, .none, (.ref 130), (.int 2280 0), (.int 116 0), (.str "/claim/cut.py" 2281)]), #[]⟩
noncomputable def o132v129 (P : Params) : Obj := ⟨(.type "function"), none, (.func (fnD (nthS 16 pw.main.body) 3 (.str "law_ti0064_01" 2275) (.ref 131) 0)), #[]⟩
noncomputable def o133v130 (P : Params) : Obj := ⟨(.type "tuple"), none, (.seq #[] 0), #[]⟩
noncomputable def o134v131 (P : Params) : Obj := ⟨.none, none, (.fields #[]), #[]⟩
noncomputable def o135v132 (P : Params) : Obj := ⟨.none, none, (.func (fnD (nthS 17 pw.main.body) 0 .none .none 0)), #[]⟩
noncomputable def o136v133 (P : Params) : Obj := ⟨(.type "code"), none, (.fields #[(.str "_law_doubled" 2283), (.str "_law_doubled" 2284), (.str "/claim/cut.py" 2285), (.int 133 0), (.int 2 0), (.int 0 0), (.int 0 0), (.int 3 0), (.ref 133), (.bool true), (.int 181 0), (.ref 134), .none, .none, .none, (.ref 135), (.int 2286 0), (.int 133 0), (.str "/claim/cut.py" 2287)]), #[]⟩
noncomputable def o137v134 (P : Params) : Obj := ⟨(.type "function"), none, (.func (fnD (nthS 17 pw.main.body) 3 (.str "law_ti0064_01" 2275) (.ref 136) 0)), #[]⟩
noncomputable def o138v135 (P : Params) : Obj := ⟨(.type "tuple"), none, (.seq #[] 0), #[]⟩
noncomputable def o139v136 (P : Params) : Obj := ⟨.none, none, (.fields #[]), #[]⟩
noncomputable def o140v137 (P : Params) : Obj := ⟨.none, none, (.func (fnD (nthS 18 pw.main.body) 0 .none .none 0)), #[]⟩
noncomputable def o141v138 (P : Params) : Obj := ⟨(.type "code"), none, (.fields #[(.str "_law_references" 2289), (.str "_law_references" 2290), (.str "/claim/cut.py" 2291), (.int 135 0), (.int 1 0), (.int 0 0), (.int 0 0), (.int 3 0), (.ref 138), (.bool true), (.int 181 0), (.ref 139), .none, .none, .none, (.ref 140), (.int 2292 0), (.int 135 0), (.str "/claim/cut.py" 2293)]), #[]⟩
noncomputable def o142v139 (P : Params) : Obj := ⟨(.type "function"), none, (.func (fnD (nthS 18 pw.main.body) 3 (.str "law_ti0064_01" 2275) (.ref 141) 0)), #[]⟩
noncomputable def o143v140 (P : Params) : Obj := ⟨(.type "tuple"), none, (.seq #[] 0), #[]⟩
noncomputable def o144v141 (P : Params) : Obj := ⟨.none, none, (.fields #[]), #[]⟩
noncomputable def o145v142 (P : Params) : Obj := ⟨(.type "tuple"), none, (.seq #[(.str "kind" 2298), (.str "page" 2299)] 0), #[]⟩
noncomputable def o146v143 (P : Params) : Obj := ⟨(.type "tuple"), none, (.seq #[] 0), #[]⟩
noncomputable def o147v144 (P : Params) : Obj := ⟨.none, none, (.func (fnD (nthS 19 pw.main.body) 0 .none .none 0)), #[]⟩
noncomputable def o148v145 (P : Params) : Obj := ⟨(.type "code"), none, (.fields #[(.str "_law_written" 2295), (.str "_law_written" 2296), (.str "/claim/cut.py" 2297), (.int 139 0), (.int 2 0), (.int 0 0), (.int 0 0), (.int 3 0), (.ref 143), (.bool true), (.int 181 0), (.ref 144), .none, (.ref 145), (.ref 146), (.ref 147), (.int 2300 0), (.int 139 0), (.str "/claim/cut.py" 2301)]), #[]⟩
noncomputable def o149v146 (P : Params) : Obj := ⟨(.type "function"), none, (.func (fnD (nthS 19 pw.main.body) 3 (.str "law_ti0064_01" 2275) (.ref 148) 0)), #[]⟩
noncomputable def tree5 (P : Params) : BT := (.node (boot_o_0 P) (.node (boot_o_1 P) (.node (o3v67 P) (.node (boot_o_7 P) (.node (o15v7 P) (.node (o31v25 P) (.node (o63v58 P) (.node (o127v124 P) .nil .nil) .nil) (.node (o95v92 P) .nil .nil)) (.node (o47v42 P) (.node (o79v76 P) (.node (o143v140 P) .nil .nil) .nil) (.node (o111v108 P) .nil .nil))) (.node (o23v15 P) (.node (o39v34 P) (.node (o71v66 P) (.node (o135v132 P) .nil .nil) .nil) (.node (o103v100 P) .nil .nil)) (.node (o55v50 P) (.node (o87v84 P) .nil .nil) (.node (o119v116 P) .nil .nil)))) (.node (o11v1 P) (.node (o19v11 P) (.node (o35v30 P) (.node (o67v62 P) (.node (o131v128 P) .nil .nil) .nil) (.node (o99v96 P) .nil .nil)) (.node (o51v46 P) (.node (o83v80 P) (.node (o147v144 P) .nil .nil) .nil) (.node (o115v112 P) .nil .nil))) (.node (o27v21 P) (.node (o43v38 P) (.node (o75v72 P) (.node (o139v136 P) .nil .nil) .nil) (.node (o107v104 P) .nil .nil)) (.node (o59v54 P) (.node (o91v88 P) .nil .nil) (.node (o123v120 P) .nil .nil))))) (.node (boot_o_5 P) (.node (boot_o_9 P) (.node (o17v9 P) (.node (o33v28 P) (.node (o65v60 P) (.node (o129v126 P) .nil .nil) .nil) (.node (o97v94 P) .nil .nil)) (.node (o49v44 P) (.node (o81v78 P) (.node (o145v142 P) .nil .nil) .nil) (.node (o113v110 P) .nil .nil))) (.node (o25v17 P) (.node (o41v36 P) (.node (o73v70 P) (.node (o137v134 P) .nil .nil) .nil) (.node (o105v102 P) .nil .nil)) (.node (o57v52 P) (.node (o89v86 P) .nil .nil) (.node (o121v118 P) .nil .nil)))) (.node (o13v3 P) (.node (o21v13 P) (.node (o37v32 P) (.node (o69v64 P) (.node (o133v130 P) .nil .nil) .nil) (.node (o101v98 P) .nil .nil)) (.node (o53v48 P) (.node (o85v82 P) (.node (o149v146 P) .nil .nil) .nil) (.node (o117v114 P) .nil .nil))) (.node (o29v23 P) (.node (o45v40 P) (.node (o77v74 P) (.node (o141v138 P) .nil .nil) .nil) (.node (o109v106 P) .nil .nil)) (.node (o61v56 P) (.node (o93v90 P) .nil .nil) (.node (o125v122 P) .nil .nil)))))) (.node (boot_o_2 P) (.node (boot_o_4 P) (.node (boot_o_8 P) (.node (o16v8 P) (.node (o32v26 P) (.node (o64v59 P) (.node (o128v125 P) .nil .nil) .nil) (.node (o96v93 P) .nil .nil)) (.node (o48v43 P) (.node (o80v77 P) (.node (o144v141 P) .nil .nil) .nil) (.node (o112v109 P) .nil .nil))) (.node (o24v16 P) (.node (o40v35 P) (.node (o72v69 P) (.node (o136v133 P) .nil .nil) .nil) (.node (o104v101 P) .nil .nil)) (.node (o56v51 P) (.node (o88v85 P) .nil .nil) (.node (o120v117 P) .nil .nil)))) (.node (o12v68 P) (.node (o20v12 P) (.node (o36v31 P) (.node (o68v63 P) (.node (o132v129 P) .nil .nil) .nil) (.node (o100v97 P) .nil .nil)) (.node (o52v47 P) (.node (o84v81 P) (.node (o148v145 P) .nil .nil) .nil) (.node (o116v113 P) .nil .nil))) (.node (o28v22 P) (.node (o44v39 P) (.node (o76v73 P) (.node (o140v137 P) .nil .nil) .nil) (.node (o108v105 P) .nil .nil)) (.node (o60v55 P) (.node (o92v89 P) .nil .nil) (.node (o124v121 P) .nil .nil))))) (.node (boot_o_6 P) (.node (boot_o_10 P) (.node (o18v10 P) (.node (o34v29 P) (.node (o66v61 P) (.node (o130v127 P) .nil .nil) .nil) (.node (o98v95 P) .nil .nil)) (.node (o50v45 P) (.node (o82v79 P) (.node (o146v143 P) .nil .nil) .nil) (.node (o114v111 P) .nil .nil))) (.node (o26v20 P) (.node (o42v37 P) (.node (o74v71 P) (.node (o138v135 P) .nil .nil) .nil) (.node (o106v103 P) .nil .nil)) (.node (o58v53 P) (.node (o90v87 P) .nil .nil) (.node (o122v119 P) .nil .nil)))) (.node (o14v4 P) (.node (o22v14 P) (.node (o38v33 P) (.node (o70v65 P) (.node (o134v131 P) .nil .nil) .nil) (.node (o102v99 P) .nil .nil)) (.node (o54v49 P) (.node (o86v83 P) .nil .nil) (.node (o118v115 P) .nil .nil))) (.node (o30v24 P) (.node (o46v41 P) (.node (o78v75 P) (.node (o142v139 P) .nil .nil) .nil) (.node (o110v107 P) .nil .nil)) (.node (o62v57 P) (.node (o94v91 P) .nil .nil) (.node (o126v123 P) .nil .nil)))))))
-- after 20 statements: toks 2303 n 150 pos ⟨139, 0, 148, 36⟩
noncomputable def o3v147 (P : Params) : Obj := ⟨(.type "dict"), none, (.dict #[⟨(PyData.keyHash P "__name__"), (.str "__name__" 165), (.str "law_ti0064_01" 2275)⟩, ⟨(PyData.keyHash P "__doc__"), (.str "__doc__" 166), .none⟩, ⟨(PyData.keyHash P "__package__"), (.str "__package__" 167), .none⟩, ⟨(PyData.keyHash P "__loader__"), (.str "__loader__" 168), (.builtin "__main__.__loader__#opaque")⟩, ⟨(PyData.keyHash P "__spec__"), (.str "__spec__" 169), .none⟩, ⟨(PyData.keyHash P "__annotations__"), (.str "__annotations__" 170), (.ref 6)⟩, ⟨(PyData.keyHash P "__builtins__"), (.str "__builtins__" 171), (.ref 4)⟩, ⟨(PyData.keyHash P "__file__"), (.str "__file__" 173), (.str "/claim/cut.py" 172)⟩, ⟨(PyData.keyHash P "__cached__"), (.str "__cached__" 174), .none⟩, ⟨(PyData.keyHash P "b1_set"), (.str "b1_set" 248), (.ref 22)⟩, ⟨(PyData.keyHash P "in_table_b1"), (.str "in_table_b1" 255), (.ref 32)⟩, ⟨(PyData.keyHash P "b3_exceptions"), (.str "b3_exceptions" 2206), (.ref 33)⟩, ⟨(PyData.keyHash P "map_table_b3"), (.str "map_table_b3" 2214), (.ref 78)⟩, ⟨(PyData.keyHash P "ELLIPSIS_MARKER"), (.str "ELLIPSIS_MARKER" 2218), (.str "..." 2217)⟩, ⟨(PyData.keyHash P "_ellipsis_match"), (.str "_ellipsis_match" 2230), (.ref 85)⟩, ⟨(PyData.keyHash P "_raise_serialization_error"), (.str "_raise_serialization_error" 2239), (.ref 92)⟩, ⟨(PyData.keyHash P "_escape_cdata"), (.str "_escape_cdata" 2246), (.ref 99)⟩, ⟨(PyData.keyHash P "_escape_attrib"), (.str "_escape_attrib" 2253), (.ref 106)⟩, ⟨(PyData.keyHash P "_escape_attrib_html"), (.str "_escape_attrib_html" 2260), (.ref 113)⟩, ⟨(PyData.keyHash P "_escape_cdata_c14n"), (.str "_escape_cdata_c14n" 2267), (.ref 120)⟩, ⟨(PyData.keyHash P "_escape_attrib_c14n"), (.str "_escape_attrib_c14n" 2274), (.ref 127)⟩, ⟨(PyData.keyHash P "_law_spelled"), (.str "_law_spelled" 2282), (.ref 132)⟩, ⟨(PyData.keyHash P "_law_doubled"), (.str "_law_doubled" 2288), (.ref 137)⟩, ⟨(PyData.keyHash P "_law_references"), (.str "_law_references" 2294), (.ref 142)⟩, ⟨(PyData.keyHash P "_law_written"), (.str "_law_written" 2302), (.ref 149)⟩, ⟨(PyData.keyHash P "_law_asked"), (.str "_law_asked" 2314), (.ref 156)⟩, ⟨(PyData.keyHash P "_law_due"), (.str "_law_due" 2320), (.ref 161)⟩, ⟨(PyData.keyHash P "law"), (.str "law" 2326), (.ref 166)⟩] 28), #[]⟩
noncomputable def o12v148 (P : Params) : Obj := ⟨.none, none, (.fields #[(.int 3 0), (.int 0 0), (.ref 31), (.int 6 0), (.int 0 0), (.ref 77), (.int 13 0), (.int 0 0), (.ref 84), (.int 42 0), (.int 0 0), (.ref 91), (.int 44 0), (.int 0 0), (.ref 98), (.int 55 0), (.int 0 0), (.ref 105), (.int 74 0), (.int 0 0), (.ref 112), (.int 85 0), (.int 0 0), (.ref 119), (.int 98 0), (.int 0 0), (.ref 126), (.int 116 0), (.int 0 0), (.ref 131), (.int 133 0), (.int 0 0), (.ref 136), (.int 135 0), (.int 0 0), (.ref 141), (.int 139 0), (.int 0 0), (.ref 148), (.int 149 0), (.int 0 0), (.ref 155), (.int 158 0), (.int 0 0), (.ref 160), (.int 171 0), (.int 0 0), (.ref 165)]), #[]⟩
noncomputable def o150v149 (P : Params) : Obj := ⟨(.type "tuple"), none, (.seq #[] 0), #[]⟩
noncomputable def o151v150 (P : Params) : Obj := ⟨.none, none, (.fields #[]), #[]⟩
noncomputable def o152v151 (P : Params) : Obj := ⟨(.type "tuple"), none, (.seq #[(.str "page" 2306), (.str "parts" 2307), (.str "found" 2308), (.str "size" 2309), (.str "start" 2310), (.str "piece" 2311)] 0), #[]⟩
noncomputable def o153v152 (P : Params) : Obj := ⟨(.type "tuple"), none, (.seq #[] 0), #[]⟩
noncomputable def o154v153 (P : Params) : Obj := ⟨.none, none, (.func (fnD (nthS 20 pw.main.body) 0 .none .none 0)), #[]⟩
noncomputable def o155v154 (P : Params) : Obj := ⟨(.type "code"), none, (.fields #[(.str "_law_asked" 2303), (.str "_law_asked" 2304), (.str "/claim/cut.py" 2305), (.int 149 0), (.int 2 0), (.int 0 0), (.int 0 0), (.int 3 0), (.ref 150), (.bool true), (.int 181 0), (.ref 151), .none, (.ref 152), (.ref 153), (.ref 154), (.int 2312 0), (.int 149 0), (.str "/claim/cut.py" 2313)]), #[]⟩
noncomputable def o156v155 (P : Params) : Obj := ⟨(.type "function"), none, (.func (fnD (nthS 20 pw.main.body) 3 (.str "law_ti0064_01" 2275) (.ref 155) 0)), #[]⟩
noncomputable def o157v156 (P : Params) : Obj := ⟨(.type "tuple"), none, (.seq #[] 0), #[]⟩
noncomputable def o158v157 (P : Params) : Obj := ⟨.none, none, (.fields #[]), #[]⟩
noncomputable def o159v158 (P : Params) : Obj := ⟨.none, none, (.func (fnD (nthS 21 pw.main.body) 0 .none .none 0)), #[]⟩
noncomputable def o160v159 (P : Params) : Obj := ⟨(.type "code"), none, (.fields #[(.str "_law_due" 2315), (.str "_law_due" 2316), (.str "/claim/cut.py" 2317), (.int 158 0), (.int 3 0), (.int 0 0), (.int 0 0), (.int 3 0), (.ref 157), (.bool true), (.int 181 0), (.ref 158), .none, .none, .none, (.ref 159), (.int 2318 0), (.int 158 0), (.str "/claim/cut.py" 2319)]), #[]⟩
noncomputable def o161v160 (P : Params) : Obj := ⟨(.type "function"), none, (.func (fnD (nthS 21 pw.main.body) 3 (.str "law_ti0064_01" 2275) (.ref 160) 0)), #[]⟩
noncomputable def o162v161 (P : Params) : Obj := ⟨(.type "tuple"), none, (.seq #[] 0), #[]⟩
noncomputable def o163v162 (P : Params) : Obj := ⟨.none, none, (.fields #[]), #[]⟩
noncomputable def o164v163 (P : Params) : Obj := ⟨.none, none, (.func (fnD (nthS 22 pw.main.body) 0 .none .none 0)), #[]⟩
noncomputable def o165v164 (P : Params) : Obj := ⟨(.type "code"), none, (.fields #[(.str "law" 2321), (.str "law" 2322), (.str "/claim/cut.py" 2323), (.int 171 0), (.int 1 0), (.int 0 0), (.int 0 0), (.int 3 0), (.ref 162), (.bool true), (.int 181 0), (.ref 163), .none, .none, .none, (.ref 164), (.int 2324 0), (.int 171 0), (.str "/claim/cut.py" 2325)]), #[]⟩
noncomputable def o166v165 (P : Params) : Obj := ⟨(.type "function"), none, (.func (fnD (nthS 22 pw.main.body) 3 (.str "law_ti0064_01" 2275) (.ref 165) 0)), #[]⟩
noncomputable def tree6 (P : Params) : BT := (.node (boot_o_0 P) (.node (boot_o_1 P) (.node (o3v147 P) (.node (boot_o_7 P) (.node (o15v7 P) (.node (o31v25 P) (.node (o63v58 P) (.node (o127v124 P) .nil .nil) .nil) (.node (o95v92 P) (.node (o159v158 P) .nil .nil) .nil)) (.node (o47v42 P) (.node (o79v76 P) (.node (o143v140 P) .nil .nil) .nil) (.node (o111v108 P) .nil .nil))) (.node (o23v15 P) (.node (o39v34 P) (.node (o71v66 P) (.node (o135v132 P) .nil .nil) .nil) (.node (o103v100 P) .nil .nil)) (.node (o55v50 P) (.node (o87v84 P) (.node (o151v150 P) .nil .nil) .nil) (.node (o119v116 P) .nil .nil)))) (.node (o11v1 P) (.node (o19v11 P) (.node (o35v30 P) (.node (o67v62 P) (.node (o131v128 P) .nil .nil) .nil) (.node (o99v96 P) (.node (o163v162 P) .nil .nil) .nil)) (.node (o51v46 P) (.node (o83v80 P) (.node (o147v144 P) .nil .nil) .nil) (.node (o115v112 P) .nil .nil))) (.node (o27v21 P) (.node (o43v38 P) (.node (o75v72 P) (.node (o139v136 P) .nil .nil) .nil) (.node (o107v104 P) .nil .nil)) (.node (o59v54 P) (.node (o91v88 P) (.node (o155v154 P) .nil .nil) .nil) (.node (o123v120 P) .nil .nil))))) (.node (boot_o_5 P) (.node (boot_o_9 P) (.node (o17v9 P) (.node (o33v28 P) (.node (o65v60 P) (.node (o129v126 P) .nil .nil) .nil) (.node (o97v94 P) (.node (o161v160 P) .nil .nil) .nil)) (.node (o49v44 P) (.node (o81v78 P) (.node (o145v142 P) .nil .nil) .nil) (.node (o113v110 P) .nil .nil))) (.node (o25v17 P) (.node (o41v36 P) (.node (o73v70 P) (.node (o137v134 P) .nil .nil) .nil) (.node (o105v102 P) .nil .nil)) (.node (o57v52 P) (.node (o89v86 P) (.node (o153v152 P) .nil .nil) .nil) (.node (o121v118 P) .nil .nil)))) (.node (o13v3 P) (.node (o21v13 P) (.node (o37v32 P) (.node (o69v64 P) (.node (o133v130 P) .nil .nil) .nil) (.node (o101v98 P) (.node (o165v164 P) .nil .nil) .nil)) (.node (o53v48 P) (.node (o85v82 P) (.node (o149v146 P) .nil .nil) .nil) (.node (o117v114 P) .nil .nil))) (.node (o29v23 P) (.node (o45v40 P) (.node (o77v74 P) (.node (o141v138 P) .nil .nil) .nil) (.node (o109v106 P) .nil .nil)) (.node (o61v56 P) (.node (o93v90 P) (.node (o157v156 P) .nil .nil) .nil) (.node (o125v122 P) .nil .nil)))))) (.node (boot_o_2 P) (.node (boot_o_4 P) (.node (boot_o_8 P) (.node (o16v8 P) (.node (o32v26 P) (.node (o64v59 P) (.node (o128v125 P) .nil .nil) .nil) (.node (o96v93 P) (.node (o160v159 P) .nil .nil) .nil)) (.node (o48v43 P) (.node (o80v77 P) (.node (o144v141 P) .nil .nil) .nil) (.node (o112v109 P) .nil .nil))) (.node (o24v16 P) (.node (o40v35 P) (.node (o72v69 P) (.node (o136v133 P) .nil .nil) .nil) (.node (o104v101 P) .nil .nil)) (.node (o56v51 P) (.node (o88v85 P) (.node (o152v151 P) .nil .nil) .nil) (.node (o120v117 P) .nil .nil)))) (.node (o12v148 P) (.node (o20v12 P) (.node (o36v31 P) (.node (o68v63 P) (.node (o132v129 P) .nil .nil) .nil) (.node (o100v97 P) (.node (o164v163 P) .nil .nil) .nil)) (.node (o52v47 P) (.node (o84v81 P) (.node (o148v145 P) .nil .nil) .nil) (.node (o116v113 P) .nil .nil))) (.node (o28v22 P) (.node (o44v39 P) (.node (o76v73 P) (.node (o140v137 P) .nil .nil) .nil) (.node (o108v105 P) .nil .nil)) (.node (o60v55 P) (.node (o92v89 P) (.node (o156v155 P) .nil .nil) .nil) (.node (o124v121 P) .nil .nil))))) (.node (boot_o_6 P) (.node (boot_o_10 P) (.node (o18v10 P) (.node (o34v29 P) (.node (o66v61 P) (.node (o130v127 P) .nil .nil) .nil) (.node (o98v95 P) (.node (o162v161 P) .nil .nil) .nil)) (.node (o50v45 P) (.node (o82v79 P) (.node (o146v143 P) .nil .nil) .nil) (.node (o114v111 P) .nil .nil))) (.node (o26v20 P) (.node (o42v37 P) (.node (o74v71 P) (.node (o138v135 P) .nil .nil) .nil) (.node (o106v103 P) .nil .nil)) (.node (o58v53 P) (.node (o90v87 P) (.node (o154v153 P) .nil .nil) .nil) (.node (o122v119 P) .nil .nil)))) (.node (o14v4 P) (.node (o22v14 P) (.node (o38v33 P) (.node (o70v65 P) (.node (o134v131 P) .nil .nil) .nil) (.node (o102v99 P) (.node (o166v165 P) .nil .nil) .nil)) (.node (o54v49 P) (.node (o86v83 P) (.node (o150v149 P) .nil .nil) .nil) (.node (o118v115 P) .nil .nil))) (.node (o30v24 P) (.node (o46v41 P) (.node (o78v75 P) (.node (o142v139 P) .nil .nil) .nil) (.node (o110v107 P) .nil .nil)) (.node (o62v57 P) (.node (o94v91 P) (.node (o158v157 P) .nil .nil) .nil) (.node (o126v123 P) .nil .nil)))))))
-- after 23 statements: toks 2327 n 167 pos ⟨171, 0, 191, 98⟩
noncomputable def heapF (P : Params) : Heap := ⟨⟨[boot_o_0 P, boot_o_1 P, boot_o_2 P, o3v147 P, boot_o_4 P, boot_o_5 P, boot_o_6 P, boot_o_7 P, boot_o_8 P, boot_o_9 P, boot_o_10 P, o11v1 P, o12v148 P, o13v3 P, o14v4 P, o15v7 P, o16v8 P, o17v9 P, o18v10 P, o19v11 P, o20v12 P, o21v13 P, o22v14 P, o23v15 P, o24v16 P, o25v17 P, o26v20 P, o27v21 P, o28v22 P, o29v23 P, o30v24 P, o31v25 P, o32v26 P, o33v28 P, o34v29 P, o35v30 P, o36v31 P, o37v32 P, o38v33 P, o39v34 P, o40v35 P, o41v36 P, o42v37 P, o43v38 P, o44v39 P, o45v40 P, o46v41 P, o47v42 P, o48v43 P, o49v44 P, o50v45 P, o51v46 P, o52v47 P, o53v48 P, o54v49 P, o55v50 P, o56v51 P, o57v52 P, o58v53 P, o59v54 P, o60v55 P, o61v56 P, o62v57 P, o63v58 P, o64v59 P, o65v60 P, o66v61 P, o67v62 P, o68v63 P, o69v64 P, o70v65 P, o71v66 P, o72v69 P, o73v70 P, o74v71 P, o75v72 P, o76v73 P, o77v74 P, o78v75 P, o79v76 P, o80v77 P, o81v78 P, o82v79 P, o83v80 P, o84v81 P, o85v82 P, o86v83 P, o87v84 P, o88v85 P, o89v86 P, o90v87 P, o91v88 P, o92v89 P, o93v90 P, o94v91 P, o95v92 P, o96v93 P, o97v94 P, o98v95 P, o99v96 P, o100v97 P, o101v98 P, o102v99 P, o103v100 P, o104v101 P, o105v102 P, o106v103 P, o107v104 P, o108v105 P, o109v106 P, o110v107 P, o111v108 P, o112v109 P, o113v110 P, o114v111 P, o115v112 P, o116v113 P, o117v114 P, o118v115 P, o119v116 P, o120v117 P, o121v118 P, o122v119 P, o123v120 P, o124v121 P, o125v122 P, o126v123 P, o127v124 P, o128v125 P, o129v126 P, o130v127 P, o131v128 P, o132v129 P, o133v130 P, o134v131 P, o135v132 P, o136v133 P, o137v134 P, o138v135 P, o139v136 P, o140v137 P, o141v138 P, o142v139 P, o143v140 P, o144v141 P, o145v142 P, o146v143 P, o147v144 P, o148v145 P, o149v146 P, o150v149 P, o151v150 P, o152v151 P, o153v152 P, o154v153 P, o155v154 P, o156v155 P, o157v156 P, o158v157 P, o159v158 P, o160v159 P, o161v160 P, o162v161 P, o163v162 P, o164v163 P, o165v164 P, o166v165 P]⟩, life0⟩
-- fin toks 2327
noncomputable abbrev gens0 : Array GenState := Array.mk []
noncomputable abbrev envH : Env := { scope := pw.main.scope, locals := mainNs, globals := mainNs, cells := [], code := .ref 13, frame := some 14 }
noncomputable abbrev bodyH : List Stmt := behindTheImports pw
noncomputable abbrev cE : PySem.Code := .body bodyH envH
noncomputable abbrev B0 : List Frame := [topFrame ⟨0, 0, 0, 0⟩]
noncomputable abbrev ann0 : Option Value := some (.ref 6)
noncomputable def ST (t : Params → BT) (n k : Nat) (w : World) (os : OsState) : SharedT := ⟨t w.params, n, life0, gens0, boot_drawn, k, os⟩
noncomputable abbrev thr (l : List Stmt) (p : Pos) : Thread := piecesOf l envH cE p B0
end Mine
end
section
open PySem PySem.W PySem.Calls PyProof.Rows
set_option maxRecDepth 100000
set_option Elab.async false
set_option maxHeartbeats 0
namespace Mine
theorem seg0 (w : World) : (fun os => segRunT treeTable pw w 11 ann0 1 10 (ST tree0 15 187 w os) (thr [nthS 0 pw.main.body] ⟨0, 0, 0, 0⟩)) = fun os => some (.next, ST tree1 15 189 w os, cE, ⟨1, 0, 1, 8⟩) := by
  kernel_rfl
theorem seg2 (w : World) : (fun os => segRunT treeTable pw w 11 ann0 1 30 (ST tree2 26 249 w os) (thr [nthS 2 pw.main.body] ⟨2, 0, 2, 6⟩)) = fun os => some (.next, ST tree3 33 256 w os, cE, ⟨3, 0, 4, 30⟩) := by
  kernel_rfl
end Mine
end
section
open PySem PySem.W PySem.Calls PyProof.Rows
set_option maxRecDepth 100000
set_option Elab.async false
set_option maxHeartbeats 0
namespace Mine
noncomputable abbrev Seg1 (w : World) : Prop := (fun os => segRunT treeTable pw w 11 ann0 1 999 (ST tree1 15 189 w os) (thr [nthS 1 pw.main.body] ⟨1, 0, 1, 8⟩)) = fun os => some (.next, ST tree2 26 249 w os, cE, ⟨2, 0, 2, 6⟩)
theorem seg1_tw (w : World) (h : (fun os => Fast.tw10110043849684766642 Fast.tw14364793385576792824 pw w 11 ann0 1 999 (ST tree1 15 189 w os) ⟨(Fast.tw12563942051412417395 [nthS 1 pw.main.body] envH).wrap doneF deadEnd id id, cE, ⟨1, 0, 1, 8⟩, B0⟩) = fun os => some (.next, ST tree2 26 249 w os, cE, ⟨2, 0, 2, 6⟩)) : Seg1 w := by
  rw [← Fast.te10110043849684766642, ← Fast.te14364793385576792824, ← Fast.te12563942051412417395] at h
  exact h
theorem seg1ff (w : World) : Seg1 ((w.withFollow "special-get-raises" false).withFollow "set-order" false) := seg1_tw _ (by kernel_rfl)
theorem seg1tf (w : World) : Seg1 ((w.withFollow "special-get-raises" true).withFollow "set-order" false) := seg1_tw _ (by kernel_rfl)
theorem seg1ft (w : World) : Seg1 ((w.withFollow "special-get-raises" false).withFollow "set-order" true) := seg1_tw _ (by kernel_rfl)
theorem seg1tt (w : World) : Seg1 ((w.withFollow "special-get-raises" true).withFollow "set-order" true) := seg1_tw _ (by kernel_rfl)
theorem seg1 (w : World) : Seg1 w := byRow2 "set-order" (P := Seg1) (fun w => byRow2 "special-get-raises" (P := fun w => Seg1 (w.withFollow "set-order" false)) seg1ff seg1tf w) (fun w => byRow2 "special-get-raises" (P := fun w => Seg1 (w.withFollow "set-order" true)) seg1ft seg1tt w) w
end Mine
end
section
open PySem PySem.W PySem.Calls PyProof.Rows
set_option maxRecDepth 100000
set_option Elab.async false
set_option maxHeartbeats 0
namespace Mine
noncomputable abbrev sts (l : List Nat) : List Stmt := l.map fun i => nthS i pw.main.body
theorem seg4 (w : World) : (fun os => segRunT treeTable pw w 11 ann0 1 383 (ST tree4 72 2207 w os) (thr (sts [4, 5, 6, 7, 8, 9, 10, 11, 12, 13, 14, 15, 16, 17, 18, 19]) ⟨5, 0, 5, 13⟩)) = fun os => some (.next, ST tree5 150 2303 w os, cE, ⟨139, 0, 148, 36⟩) := by
  kernel_rfl
theorem seg5 (w : World) : (fun os => segRunT treeTable pw w 11 ann0 1 87 (ST tree5 150 2303 w os) (thr (sts [20, 21, 22]) ⟨139, 0, 148, 36⟩)) = fun os => some (.next, ST tree6 167 2327 w os, cE, ⟨171, 0, 191, 98⟩) := by
  kernel_rfl
end Mine
end
section
open PySem PySem.W PySem.Calls PyProof.Rows
set_option maxRecDepth 100000
set_option Elab.async false
set_option maxHeartbeats 0
namespace Mine
noncomputable abbrev NN : Nat := 28200
theorem h_open (w : World) : (fencedOpening treeTable pw w NN).map (fun s => (s.heap, s.gens, s.drawn, s.toks)) = some (boot_heap w.params, gens0, boot_drawn, boot_toks) :=
  boot_open (p := pw) (N := NN) (by kernel_rfl) (by rfl) (fun s => by kernel_rfl) w
theorem h_size (w : World) : ((boot_heap w.params).isNs mainGlobals && gens0.size == 0, (boot_heap w.params).objs.size, (boot_heap w.params).nsMap mainGlobals "__annotations__") = (true, 11, ann0) := by kernel_rfl
theorem h_pre (w : World) : (fun os => topGo treeTable pw w 11 ann0 12 ⟨boot_heap w.params, gens0, boot_drawn, boot_toks, os⟩ (topStub pw)) = fun os => some (⟨heapA w.params, gens0, boot_drawn, 187, os⟩, ⟨denote treeTable cE, cE, ⟨0, 0, 0, 0⟩, B0⟩) := by kernel_rfl
theorem h_block (w : World) : (fun os => segRun treeTable pw w 11 ann0 1 1 ⟨heapA w.params, gens0, boot_drawn, 187, os⟩ (blockOf bodyH envH cE ⟨0, 0, 0, 0⟩ B0)) = fun os => some (.next, (ST tree0 15 187 w os).abs, cE, ⟨0, 0, 0, 0⟩) := by kernel_rfl
theorem h_fin (w : World) : (fun os => topRun treeTable pw w 11 ann0 2 (ST tree6 167 2327 w os).abs ⟨doneF .next, cE, ⟨171, 0, 191, 98⟩, B0⟩) = fun os => some ⟨heapF w.params, gens0, boot_drawn, 2327, os⟩ := by kernel_rfl
end Mine
end
section
open PySem PySem.W PySem.Calls PyProof.Rows
set_option maxRecDepth 100000
set_option Elab.async false
set_option maxHeartbeats 0
namespace Mine
noncomputable abbrev endS (w : World) (os : OsState) : Shared := ⟨heapF w.params, gens0, boot_drawn, 2327, os⟩
theorem look1 (w : World) : (fun os => (staticsOk (importedModules pw.main.body) (boot_heap w.params) (heapF w.params) && namesBound pw (heapF w.params) && gensDone (endS w os) && laidKept (boot_heap w.params) (heapF w.params))) = fun _ => true := by kernel_rfl
end Mine
end
section
open PySem PySem.W PySem.Calls PyProof.Rows
set_option maxRecDepth 100000
set_option Elab.async false
set_option maxHeartbeats 2000000
namespace Mine
/-- x runs from s to s' and gives a, wherever it stands in the top's text -/
structure R {α : Type} (w : World) (c : Nat) (x : Sem α) (s : Shared) (a : α) (s' : Shared) : Prop where
  go : ∀ (K : α → Sem Fin) (H : Value → Sem Fin) (gd : Bool → Bool) (lv : List Value → List Value) (q : Pos), ∃ n q', n ≤ c ∧ ∀ N r, segRun treeTable pw w 11 ann0 1 N s' ⟨K a, cE, q', B0⟩ = some r →
    segRun treeTable pw w 11 ann0 1 (n + N) s ⟨x.wrap K H gd lv, cE, q, B0⟩ = some r
section
variable {α β : Type} {w : World} {s s1 s2 : Shared} {c c1 c2 : Nat}
theorem R.pure {a : α} : R w 0 (Pure.pure a) s a s := ⟨fun K H gd lv q => ⟨0, q, Nat.le_refl _, fun N r h => by rw [Nat.zero_add]; exact h⟩⟩
theorem R.bind {x : Sem α} {f : α → Sem β} {a : α} {b : β} (h : R w c1 x s a s1) (h2 : R w c2 (f a) s1 b s2) : R w (c1 + c2) (x >>= f) s b s2 := ⟨fun K H gd lv q => by
  obtain ⟨n, q1, l1, k⟩ := h.go (fun a => (f a).wrap K H gd lv) (fun e => (Sem.raise e : Sem β).wrap K H gd lv) (fun g => gd (id g)) (fun l => lv (id l)) q
  obtain ⟨m, q2, l2, k2⟩ := h2.go K H gd lv q1
  refine ⟨n + m, q2, by omega, fun N r e => ?_⟩
  rw [Sem.bind_eq_wrap', Sem.wrap_wrap, Nat.add_assoc]
  exact k (m + N) r (k2 N r e)⟩
theorem R.keep {x : Sem α} {a : α} {vs : List Value} (h : R w c x s a s1) : R w c (x.keep vs) s a s1 := ⟨fun K H gd lv q => by
  rw [Sem.keep_eq_wrap, Sem.wrap_wrap]
  exact h.go _ _ _ _ q⟩
theorem R.holding {x : Sem α} {a : α} {vs : List Value} (h : R w c x s a s1) : R w c (PySem.holding vs x) s a s1 := by
  unfold PySem.holding
  split
  · exact h
  · exact h.keep
theorem R.onRaise {x : Sem α} {a : α} {f : Value → Sem Unit} (h : R w c x s a s1) : R w c (x.onRaise f) s a s1 := ⟨fun K H gd lv q => by
  rw [Sem.onRaise_eq_wrap, Sem.wrap_wrap]
  exact h.go _ _ _ _ q⟩
theorem R.of_go {x : Sem α} {a : α} (n : Nat) (h : ∀ (K : α → Sem Fin) (H : Value → Sem Fin) (gd : Bool → Bool) (lv : List Value → List Value) (q : Pos), ∃ q', segGo treeTable pw w 11 ann0 1 n s ⟨x.wrap K H gd lv, cE, q, B0⟩ = some (s1, ⟨K a, cE, q', B0⟩)) : R w n x s a s1 :=
  ⟨fun K H gd lv q => by
    obtain ⟨q', e⟩ := h K H gd lv q
    exact ⟨n, q', Nat.le_refl _, fun N r k => seg_go e k⟩⟩
theorem R.cast {x y : Sem α} {a : α} (h : R w c x s a s1) (e : y = x) : R w c y s a s1 := e ▸ h
theorem R.mono {x : Sem α} {a : α} (h : R w c x s a s1) (e : c ≤ c1) : R w c1 x s a s1 := ⟨fun K H gd lv q => by
  obtain ⟨n, q', l, k⟩ := h.go K H gd lv q
  exact ⟨n, q', Nat.le_trans l e, k⟩⟩
theorem R.fresh : R w 1 PySem.fresh s s.toks { s with toks := s.toks + 1 } := R.of_go 1 fun K H gd lv q => ⟨q, rfl⟩
theorem R.at {p : Pos} : R w 1 (standAt p) s () s := R.of_go 1 fun K H gd lv q => ⟨p, rfl⟩
theorem R.rule {t : String} : R w 1 (PySem.rule t) s () s := R.of_go 1 fun K H gd lv q => ⟨q, rfl⟩
theorem R.point : R w 1 PySem.point s () s := R.of_go 1 fun K H gd lv q => ⟨q, rfl⟩
theorem R.alloc {o : Obj} : R w 1 (PySem.alloc o) s s.heap.objs.size { s with heap := s.heap.push o } := R.of_go 1 fun K H gd lv q => ⟨q, rfl⟩
theorem R.loadPart {a : Addr} {part : Option Value} {o : Obj} (h : s.heap.get? a = some o) : R w 1 (PySem.loadPart a part) s o s := R.of_go 1 fun K H gd lv q => ⟨q, by
  obtain ⟨heap, gens, drawn, toks, os⟩ := s
  show (match step (denote treeTable) pw w ⟨heap, gens, drawn, toks, os⟩ ⟨.load a part fun x => (Sem.pure x).wrap K H gd lv, cE, q, B0⟩ with | .go s' t' => some (s', t') | .halt _ _ => none) = _
  have h' : heap.get? a = some o := h
  simp only [step, h', Sem.wrap]⟩
theorem R.load {a : Addr} {o : Obj} (h : s.heap.get? a = some o) : R w 1 (PySem.load a) s o s := R.loadPart (part := none) h
theorem R.updatePart {a : Addr} {part : Option Value} {o : Obj} {f : Obj → Obj} (h : s.heap.get? a = some o) (ha : 11 ≤ a) : R w 1 (PySem.updatePart a part f) s () { s with heap := s.heap.update a f } := R.of_go 1 fun K H gd lv q => ⟨q, by
  obtain ⟨heap, gens, drawn, toks, os⟩ := s
  have hb : Nat.ble 11 a = true := Nat.ble_eq_true_of_le ha
  have h' : heap.get? a = some o := h
  show (match stepOk 11 ann0 ⟨.update a part f fun x => (Sem.pure x).wrap K H gd lv, cE, q, B0⟩ with
    | false => none
    | true => match step (denote treeTable) pw w ⟨heap, gens, drawn, toks, os⟩ ⟨.update a part f fun x => (Sem.pure x).wrap K H gd lv, cE, q, B0⟩ with | .go s' t' => some (s', t') | .halt _ _ => none) = _
  have e1 : stepOk 11 ann0 ⟨.update a part f fun x => (Sem.pure x).wrap K H gd lv, cE, q, B0⟩ = true := by
    show (_ && (Nat.ble 11 a || a == mainNs || a == cStatics || ann0 == some (.ref a))) = true
    rw [hb]; rfl
  rw [e1]
  simp only [step, h', Option.isSome_some, if_true, Sem.wrap]⟩
end
end Mine
end
section
open PySem PySem.W PySem.Calls PyProof.Rows
set_option maxRecDepth 100000
set_option Elab.async false
set_option maxHeartbeats 2000000
namespace Mine
noncomputable def HashP (w : World) : Prop := ∀ (k : Int) (t : Tok) (f : Sem Value) (heap : Heap) (gens : Array GenState) (drawn : Drawn) (toks : Nat) (os : OsState) (K : Option Value → Sem Fin) (H : Value → Sem Fin) (gd : Bool → Bool) (lv : List Value → List Value) (q : Pos),
  segGo treeTable pw w 11 ann0 1 5 ⟨heap, gens, drawn, toks, os⟩ ⟨(callSpecialIfBoundUnlessNone? (.int k t) "__hash__" f).wrap K H gd lv, cE, q, B0⟩ = some (⟨heap, gens, drawn, toks + 1, os⟩, ⟨K (some (.int (rawHash k) toks)), cE, q, B0⟩)
theorem hashF (w : World) : HashP (w.withFollow "special-get-raises" false) := by
  intro k t f heap gens drawn toks os K H gd lv q
  kernel_rfl
theorem hashT (w : World) : HashP (w.withFollow "special-get-raises" true) := by
  intro k t f heap gens drawn toks os K H gd lv q
  kernel_rfl
theorem hashAll (w : World) : HashP w := byRow2 "special-get-raises" (P := HashP) hashF hashT w
section
variable {w : World} {s : Shared}
theorem R.hashCall {k : Int} {t : Tok} {f : Sem Value} : R w 5 (callSpecialIfBoundUnlessNone? (.int k t) "__hash__" f) s (some (.int (rawHash k) s.toks)) { s with toks := s.toks + 1 } :=
  R.of_go 5 fun K H gd lv q => ⟨q, hashAll w k t f s.heap s.gens s.drawn s.toks s.os K H gd lv q⟩
theorem R.pyHash {k : Int} {t : Tok} : R w 5 (PySem.pyHash (.int k t)) s (hashInt k) { s with toks := s.toks + 1 } := by
  have hr := rawHash_range k
  unfold PySem.pyHash
  have hv : [Value.int k t].any Value.onHeap = false := rfl
  refine R.bind (c1 := 0) (c2 := 5) (a := ()) (s1 := s) (by rw [cRoomFor, if_neg (by rw [hv]; exact Bool.false_ne_true)]; exact R.pure) ?_
  have hsp : specialOf (.int k t) "__hash__" = Pure.pure (some (.builtin "int.__hash__")) := by
    show (typeLookup (.type "int") "__hash__") = _
    exact PySem.slot_int_hash.lookup
  refine R.bind (c1 := 0) (c2 := 5) (a := some (.builtin "int.__hash__")) (s1 := s) (by rw [hsp]; exact R.pure) ?_
  show R w _ (if (some (Value.builtin "int.__hash__") == some Value.none) = true then _ else _) s _ _
  rw [if_neg (by rw [beq_builtin_none]; exact Bool.false_ne_true)]
  refine R.bind (c1 := 0) (c2 := 5) (a := some (.builtin "int.__hash__")) (s1 := s) (by rw [hsp]; exact R.pure) ?_
  show R w 5 (callSpecialIfBoundUnlessNone? (.int k t) "__hash__" _ >>= _) s _ _
  refine R.bind (c2 := 0) R.hashCall ?_
  show R w _ (if (decide (-(2 : Int) ^ 63 ≤ rawHash k) && decide (rawHash k < 2 ^ 63)) = true then _ else _) _ _ _
  rw [if_pos (by rw [decide_eq_true hr.1, decide_eq_true hr.2]; rfl)]
  exact R.pure
end
end Mine
end
section
open PySem PySem.W PySem.Calls PyProof.Rows
set_option maxRecDepth 100000
set_option Elab.async false
set_option maxHeartbeats 2000000
namespace Mine
noncomputable def dO (es : List DictEntry) : Obj := ⟨.type "dict", none, .dict es.toArray es.length, #[]⟩
section
variable {w : World} {s : Shared} {d : Addr} {es : List DictEntry}
theorem R.dictEntries {part : Option Value} (h : s.heap.get? d = some (dO es)) : R w 1 (PySem.dictEntries d part) s es.toArray s := by
  unfold PySem.dictEntries
  exact R.bind (c1 := 1) (c2 := 0) (R.loadPart h) R.pure
theorem R.dictEpoch {part : Option Value} (h : s.heap.get? d = some (dO es)) : R w 1 (PySem.dictEpoch d part) s es.length s := by
  unfold PySem.dictEpoch
  exact R.bind (c1 := 1) (c2 := 0) (R.loadPart h) R.pure
theorem places_none {h : Int} (hn : ∀ e ∈ es, e.hash ≠ h) : placesWithHash es.toArray.size (fun i => es.toArray[i]?.map (·.hash)) h = [] := by
  unfold placesWithHash
  rw [List.filter_eq_nil_iff]
  intro i hi
  rw [List.mem_range] at hi
  have hi' : i < es.length := by simpa using hi
  have e1 : es.toArray[i]? = some es[i] := by simp [hi']
  show ¬((es.toArray[i]?.map (·.hash)) == some h) = true
  rw [e1]
  intro q
  have : es[i].hash = h := by simpa using q
  exact hn _ (List.getElem_mem hi') this
theorem R.find {k : Int} {t : Tok} {h : Int} (ho : s.heap.get? d = some (dO es)) (hn : ∀ e ∈ es, e.hash ≠ h) : R w 1 (dictFind d (.int k t) h) s none s := by
  unfold dictFind
  refine R.holding ?_
  refine R.bind (c1 := 1) (c2 := 0) (R.dictEntries ho) ?_
  show R w _ (if ((Value.int k t :: (placesWithHash es.toArray.size (fun i => es.toArray[i]?.map (·.hash)) h).filterMap fun i => es.toArray[i]?.map (·.key)).all carriedByValue) = true then _ else _) s none s
  rw [places_none hn]
  rw [if_pos (by rfl)]
  exact R.pure
theorem get_update {a : Addr} {o : Obj} {f : Obj → Obj} {h : Heap} (ho : h.get? a = some o) (hf : ∀ c d s, f o ≠ ⟨c, d, .freed, s⟩) : (h.update a f).get? a = some (f o) := by
  obtain ⟨objs, l⟩ := h
  unfold Heap.get? at ho ⊢
  have h1 : objs[a]? = some o := by
    revert ho
    show (match objs[a]? with | some ⟨_, _, .freed, _⟩ => none | o => o) = some o → _
    split
    · intro q; cases q
    · intro q; exact q
  have h2 : (objs.modify a f)[a]? = some (f o) := by rw [Array.getElem?_modify]; simp [h1]
  show (match (objs.modify a f)[a]? with | some ⟨_, _, .freed, _⟩ => none | o => o) = _
  rw [h2]
  split
  · rename_i c d s q
    exact absurd (Option.some.inj q) (hf c d s)
  · rfl
theorem R.pushKey {e : DictEntry} {part : Option Value} (ho : s.heap.get? d = some (dO es)) (hd : 11 ≤ d) (hl : es.length < 10000) :
    R w 3 (updateDictKeys d (·.push e) part) s () { s with heap := s.heap.update d (Obj.mapDictKeys (·.push e)) } := by
  unfold updateDictKeys
  refine R.bind (c1 := 1) (c2 := 2) (R.loadPart ho) ?_
  refine R.bind (c1 := 1) (c2 := 1) (R.updatePart ho hd) ?_
  have ho2 : (s.heap.update d (Obj.mapDictKeys (·.push e))).get? d = some (dO (es ++ [e])) := by
    rw [get_update ho (by intro c d s q; cases q)]
    show some (⟨.type "dict", none, .dict (es.toArray.push e) (es.length + 1), #[]⟩ : Obj) = _
    simp [dO]
  unfold lookBehind
  refine R.bind (c1 := 1) (c2 := 0) (R.loadPart (s := { s with heap := _ }) ho2) ?_
  have hp : (dO (es ++ [e])).data.pastItsLine = none := by
    show (if _ then _ else _) = _
    rw [if_neg]
    simp [sizeLine]
    omega
  rw [hp]
  exact R.pure
theorem R.dictSet {k : Nat} {t : Tok} {v : Value} (ho : s.heap.get? d = some (dO es)) (hd : 11 ≤ d) (hl : es.length < 10000) (hk : k < 2000000) (hn : ∀ e ∈ es, e.hash ≠ (k : Int)) :
    R w 10 (PySem.dictSet d (.int k t) v) s () { s with heap := s.heap.update d (Obj.mapDictKeys (·.push ⟨k, .int k t, v⟩)), toks := s.toks + 1 } := by
  have hr : rawHash (k : Int) = k := by
    unfold rawHash
    have e : (((k : Int).natAbs : Int) % ((2 ^ 61 - 1 : Nat) : Int)) = k := by rw [Int.natAbs_natCast]; exact Int.emod_eq_of_lt (by omega) (by omega)
    have h1 : ¬ ((k : Int) < 0) := by omega
    have h2 : ¬ (((k : Int) == -1) = true) := by rw [beq_iff_eq]; omega
    dsimp only
    rw [e, if_neg h1, if_neg h2]
  have hh : hashInt (k : Int) = k := by
    unfold hashInt
    have h2 : ¬ (((k : Int) == -1) = true) := by rw [beq_iff_eq]; omega
    rw [hr, if_neg h2]
  unfold PySem.dictSet
  refine R.holding ?_
  refine R.bind (c1 := 5) (c2 := 5) R.pyHash ?_
  rw [hh]
  unfold dictSetHashed
  refine R.holding ?_
  refine R.bind (c1 := 1) (c2 := 4) (R.find (s := { s with toks := s.toks + 1 }) ho hn) ?_
  show R w 4 (PySem.rule _ >>= fun _ => updateDictKeys d _ _) _ _ _
  exact R.bind (c1 := 1) (c2 := 3) R.rule (R.pushKey (s := { s with toks := s.toks + 1 }) ho hd hl)
theorem R.dictPut {k : Nat} {t : Tok} {v : Value} (ho : s.heap.get? d = some (dO es)) (hd : 11 ≤ d) (hl : es.length < 10000) (hn : ∀ e ∈ es, e.hash ≠ (k : Int)) :
    R w 4 (PySem.dictPut d k (.int k t) v) s () { s with heap := s.heap.update d (Obj.mapDictKeys (·.push ⟨k, .int k t, v⟩)) } := by
  unfold PySem.dictPut
  refine R.bind (c1 := 1) (c2 := 3) (R.find ho hn) ?_
  exact R.pushKey ho hd hl
end
end Mine
end
section
open PySem PySem.W PySem.Calls PyProof.Rows
set_option maxRecDepth 100000
set_option Elab.async false
set_option maxHeartbeats 2000000
namespace Mine
noncomputable def mkH (l : List Obj) : Heap := ⟨l.toArray, life0⟩
theorem mkH_push (l : List Obj) (o : Obj) : (mkH l).push o = mkH (l ++ [o]) := by simp [mkH, Heap.push]
theorem modify_at (f : Obj → Obj) (o : Obj) (r : List Obj) : ∀ l : List Obj, (l ++ o :: r).modify l.length f = l ++ f o :: r
  | [] => rfl
  | a :: l => by
    rw [List.cons_append, List.length_cons, List.modify_succ_cons, modify_at f o r l, List.cons_append]
theorem mkH_update (l r : List Obj) (o : Obj) (f : Obj → Obj) : (mkH (l ++ o :: r)).update l.length f = mkH (l ++ f o :: r) := by
  have : (mkH (l ++ o :: r)).update l.length f = mkH ((l ++ o :: r).modify l.length f) := by
    simp [mkH, Heap.update, List.modify_toArray]
  rw [this, modify_at]
theorem mkH_get (l r : List Obj) (es : List DictEntry) : (mkH (l ++ dO es :: r)).get? l.length = some (dO es) := by
  have : (l ++ dO es :: r).toArray[l.length]? = some (dO es) := by simp
  unfold Heap.get?
  show (match (l ++ dO es :: r).toArray[l.length]? with | some ⟨_, _, .freed, _⟩ => none | o => o) = _
  rw [this]
  rfl
theorem mapPush (es : List DictEntry) (e : DictEntry) : Obj.mapDictKeys (·.push e) (dO es) = dO (es ++ [e]) := by
  show (⟨.type "dict", none, .dict (es.toArray.push e) (es.length + 1), #[]⟩ : Obj) = _
  simp [dO]
noncomputable def S (os : OsState) (l : List Obj) (k : Nat) : Shared := ⟨mkH l, gens0, boot_drawn, k, os⟩
noncomputable def KOk (w : World) (x : Sem Value) (k : Nat) : Prop := ∀ s : Shared, R w 3 x s (.int k s.toks) { s with toks := s.toks + 1 }
noncomputable def VOk (w : World) (x : Sem Value) (y : Str) : Prop := ∀ s : Shared, R w 4 x s (.str y s.toks) { s with toks := s.toks + 1 }
noncomputable def RunOk (w : World) : List (Sem Value × Sem Value) → List (Nat × Str) → Prop
  | [], [] => True
  | (a, b) :: r, (k, y) :: r' => KOk w a k ∧ VOk w b y ∧ RunOk w r r'
  | _, _ => False
theorem RunOk.length {w : World} : ∀ {run : List (Sem Value × Sem Value)} {ps : List (Nat × Str)}, RunOk w run ps → run.length = ps.length
  | [], [], _ => rfl
  | _ :: _, _ :: _, h => by rw [List.length_cons, List.length_cons, RunOk.length h.2.2]
  | [], _ :: _, h => h.elim
  | _ :: _, [], h => h.elim
theorem RunOk.snoc {w : World} {a b : Sem Value} {k : Nat} {y : Str} (ha : KOk w a k) (hb : VOk w b y) : ∀ {run : List (Sem Value × Sem Value)} {ps : List (Nat × Str)}, RunOk w run ps → RunOk w (run ++ [(a, b)]) (ps ++ [(k, y)])
  | [], [], _ => ⟨ha, hb, trivial⟩
  | _ :: _, _ :: _, h => ⟨h.1, h.2.1, RunOk.snoc ha hb h.2.2⟩
  | [], _ :: _, h => h.elim
  | _ :: _, [], h => h.elim
noncomputable def entsAt (k : Nat) : List (Nat × Str) → List DictEntry
  | [] => []
  | (i, y) :: r => ⟨i, .int i k, .str y (k + 1)⟩ :: entsAt (k + 3) r
noncomputable def entsS (k : Nat) : List (Nat × Str) → List DictEntry
  | [] => []
  | (i, y) :: r => ⟨i, .int i k, .str y (k + 1)⟩ :: entsS (k + 2) r
/-- the keys go up, from m on -/
noncomputable def Asc (m : Int) : List (Nat × Str) → Prop
  | [] => True
  | (i, _) :: r => m < i ∧ i < 2000000 ∧ Asc i r
noncomputable def below (m : Int) (es : List DictEntry) : Prop := ∀ e ∈ es, e.hash ≤ m
section
variable {w : World} {os : OsState} {l r : List Obj}
theorem set_at {es : List DictEntry} {k i : Nat} {t : Tok} {v : Value} (hl : 11 ≤ l.length) (he : es.length < 10000) (hi : i < 2000000) {m : Int} (hb : below m es) (hm : m < i) :
    R w 10 (PySem.dictSet l.length (.int i t) v) (S os (l ++ dO es :: r) k) () (S os (l ++ dO (es ++ [⟨i, .int i t, v⟩]) :: r) (k + 1)) := by
  have h := R.dictSet (w := w) (s := S os (l ++ dO es :: r) k) (d := l.length) (es := es) (k := i) (t := t) (v := v) (mkH_get l r es) hl he hi (fun e hx q => by have := hb e hx; omega)
  have e : ({ S os (l ++ dO es :: r) k with heap := (S os (l ++ dO es :: r) k).heap.update l.length (Obj.mapDictKeys (·.push ⟨i, .int i t, v⟩)), toks := (S os (l ++ dO es :: r) k).toks + 1 } : Shared) = S os (l ++ dO (es ++ [⟨i, .int i t, v⟩]) :: r) (k + 1) := by
    show (⟨(mkH (l ++ dO es :: r)).update l.length _, gens0, boot_drawn, k + 1, os⟩ : Shared) = _
    rw [mkH_update, mapPush]; rfl
  rw [e] at h
  exact h
theorem R.forIn_cons {α β : Type} {a : α} {x : List α} {b b' c : β} {f : α → β → Sem (ForInStep β)} {s s1 s2 : Shared} {n1 n2 : Nat} (h1 : R w n1 (f a b) s (.yield b') s1) (h2 : R w n2 (forIn x b' f) s1 c s2) : R w (n1 + n2) (forIn (a :: x) b f) s c s2 := by
  rw [List.forIn_cons]
  exact R.bind h1 h2
theorem R.forIn_nil {α β : Type} {b : β} {f : α → β → Sem (ForInStep β)} {s : Shared} : R w 0 (forIn ([] : List α) b f) s b s := by
  rw [List.forIn_nil]
  exact R.pure
theorem fill : ∀ {run : List (Sem Value × Sem Value)} {ps : List (Nat × Str)} {es : List DictEntry} {k : Nat} {m : Int}, RunOk w run ps → Asc m ps → below m es → 11 ≤ l.length → es.length + ps.length < 10000 →
    R w (17 * ps.length) (forIn run PUnit.unit fun (x : Sem Value × Sem Value) (_ : PUnit) => (do let kv ← x.1; let vv ← PySem.holding [kv] x.2; PySem.holding [kv, vv] (PySem.dictSet l.length kv vv); Pure.pure (ForInStep.yield PUnit.unit) : Sem (ForInStep PUnit)))
      (S os (l ++ dO es :: r) k) PUnit.unit (S os (l ++ dO (es ++ entsAt k ps) :: r) (k + 3 * ps.length))
  | [], [], es, k, m, _, _, _, _, _ => by
    rw [entsAt, List.append_nil]
    exact R.forIn_nil
  | (a, b) :: run, (i, y) :: ps, es, k, m, h, ha, hb, hl, hn => by
    obtain ⟨h1, h2, h3⟩ := h
    obtain ⟨a1, a2, a3⟩ := ha
    rw [List.length_cons] at hn
    rw [show 17 * ((i, y) :: ps).length = 17 + 17 * ps.length by rw [List.length_cons]; omega]
    refine R.forIn_cons (b' := PUnit.unit) (s1 := S os (l ++ dO (es ++ [⟨i, .int i k, .str y (k + 1)⟩]) :: r) (k + 3)) ?_ ?_
    · refine R.bind (c1 := 3) (c2 := 14) (h1 _) (R.bind (c1 := 4) (c2 := 10) (R.holding (h2 _)) ?_)
      exact R.bind (c1 := 10) (c2 := 0) (R.holding (set_at hl (by omega) a2 hb a1)) R.pure
    · have hb' : below i (es ++ [⟨i, .int i k, .str y (k + 1)⟩]) := fun e he => by
        rcases List.mem_append.mp he with he | he
        · have := hb e he; omega
        · rw [List.mem_singleton.mp he]; exact Int.le_refl _
      have := fill (k := k + 3) h3 a3 hb' hl (by rw [List.length_append, List.length_singleton]; omega)
      rw [List.append_assoc] at this
      have e : k + 3 + 3 * ps.length = k + 3 * ((i, y) :: ps).length := by rw [List.length_cons]; omega
      rw [e] at this
      exact this
  | [], _ :: _, _, _, _, h, _, _, _, _ => h.elim
  | _ :: _, [], _, _, _, h, _, _, _, _ => h.elim
theorem sub_long {run : List (Sem Value × Sem Value)} {ps : List (Nat × Str)} {k : Nat} {m : Int} (h : RunOk w run ps) (ha : Asc m ps) (hl : 11 ≤ l.length) (hn : 15 < run.length) (hn2 : ps.length < 1000) :
    R w (17 * ps.length + 2) (subDict run) (S os l k) l.length (S os (l ++ [dO (entsAt k ps)]) (k + 3 * ps.length)) := by
  unfold subDict
  have h0 : R w 1 (PySem.alloc { cls := .type "dict", data := .dict #[] }) (S os l k) l.length (S os (l ++ [dO []]) k) := by
    have := R.alloc (w := w) (s := S os l k) (o := { cls := .type "dict", data := .dict #[] })
    have e1 : (S os l k).heap.objs.size = l.length := by simp [S, mkH]
    have e2 : ({ S os l k with heap := (S os l k).heap.push { cls := .type "dict", data := .dict #[] } } : Shared) = S os (l ++ [dO []]) k := by
      show (⟨(mkH l).push _, gens0, boot_drawn, k, os⟩ : Shared) = _
      rw [mkH_push]; rfl
    rw [e1, e2] at this
    exact this
  rw [show 17 * ps.length + 2 = 1 + ((1 + (17 * ps.length + 0)) + 0) by omega]
  refine R.bind h0 ?_
  refine R.bind (R.holding (a := ()) (s1 := S os (l ++ [dO (entsAt k ps)]) (k + 3 * ps.length)) ?_) R.pure
  rw [if_neg (by omega)]
  refine R.bind R.rule ?_
  refine R.bind (a := PUnit.unit) (fill (es := []) (r := []) h ha (fun e he => nomatch he) hl (by simp; omega)) ?_
  exact R.pure
end
end Mine
end
section
open PySem PySem.W PySem.Calls PyProof.Rows
set_option maxRecDepth 100000
set_option Elab.async false
set_option maxHeartbeats 2000000
namespace Mine
noncomputable def vals (k : Nat) : List (Nat × Str) → List (Value × Value)
  | [] => []
  | (i, y) :: r => (.int i k, .str y (k + 1)) :: vals (k + 2) r
section
variable {w : World} {os : OsState} {l r : List Obj}
theorem ev_pairs : ∀ {run : List (Sem Value × Sem Value)} {ps : List (Nat × Str)} {k : Nat}, RunOk w run ps →
    R w (7 * ps.length) (evalPairs run) (S os l k) (vals k ps) (S os l (k + 2 * ps.length))
  | [], [], k, _ => R.pure
  | (a, b) :: run, (i, y) :: ps, k, h => by
    obtain ⟨h1, h2, h3⟩ := h
    rw [show 7 * ((i, y) :: ps).length = 3 + (4 + (7 * ps.length + 0)) by rw [List.length_cons]; omega, show k + 2 * ((i, y) :: ps).length = k + 2 + 2 * ps.length by rw [List.length_cons]; omega]
    unfold evalPairs
    refine R.bind (h1 _) (R.bind (R.holding (h2 _)) ?_)
    refine R.bind (a := vals (k + 2) ps) (R.holding (ev_pairs (k := k + 2) h3)) ?_
    exact R.pure
  | [], _ :: _, _, h => h.elim
  | _ :: _, [], _, h => h.elim
theorem fillS : ∀ {ps : List (Nat × Str)} {es : List DictEntry} {k t : Nat} {m : Int}, Asc m ps → below m es → 11 ≤ l.length → es.length + ps.length < 10000 →
    R w (10 * ps.length) (forIn (vals k ps) PUnit.unit fun (x : Value × Value) (_ : PUnit) => (do PySem.dictSet l.length x.1 x.2; Pure.pure (ForInStep.yield PUnit.unit) : Sem (ForInStep PUnit)))
      (S os (l ++ dO es :: r) t) PUnit.unit (S os (l ++ dO (es ++ entsS k ps) :: r) (t + ps.length))
  | [], es, k, t, m, _, _, _, _ => by
    rw [entsS, List.append_nil]
    exact R.forIn_nil
  | (i, y) :: ps, es, k, t, m, ha, hb, hl, hn => by
    obtain ⟨a1, a2, a3⟩ := ha
    rw [List.length_cons] at hn
    rw [show 10 * ((i, y) :: ps).length = 10 + 10 * ps.length by rw [List.length_cons]; omega]
    refine R.forIn_cons (b' := PUnit.unit) (s1 := S os (l ++ dO (es ++ [⟨i, .int i k, .str y (k + 1)⟩]) :: r) (t + 1)) ?_ ?_
    · exact R.bind (c1 := 10) (c2 := 0) (set_at hl (by omega) a2 hb a1) R.pure
    · have hb' : below i (es ++ [⟨i, .int i k, .str y (k + 1)⟩]) := fun e he => by
        rcases List.mem_append.mp he with he | he
        · have := hb e he; omega
        · rw [List.mem_singleton.mp he]; exact Int.le_refl _
      have := fillS (k := k + 2) (t := t + 1) a3 hb' hl (by rw [List.length_append, List.length_singleton]; omega)
      rw [List.append_assoc] at this
      rw [show t + ((i, y) :: ps).length = t + 1 + ps.length by rw [List.length_cons]; omega]
      exact this
theorem sub_short {run : List (Sem Value × Sem Value)} {ps : List (Nat × Str)} {k : Nat} {m : Int} (h : RunOk w run ps) (ha : Asc m ps) (hl : 11 ≤ l.length) (hn : run.length ≤ 15) (hn2 : ps.length < 1000) :
    R w (17 * ps.length + 2) (subDict run) (S os l k) l.length (S os (l ++ [dO (entsS k ps)]) (k + 3 * ps.length)) := by
  unfold subDict
  have h0 : R w 1 (PySem.alloc { cls := .type "dict", data := .dict #[] }) (S os l k) l.length (S os (l ++ [dO []]) k) := by
    have := R.alloc (w := w) (s := S os l k) (o := { cls := .type "dict", data := .dict #[] })
    have e1 : (S os l k).heap.objs.size = l.length := by simp [S, mkH]
    have e2 : ({ S os l k with heap := (S os l k).heap.push { cls := .type "dict", data := .dict #[] } } : Shared) = S os (l ++ [dO []]) k := by
      show (⟨(mkH l).push _, gens0, boot_drawn, k, os⟩ : Shared) = _
      rw [mkH_push]; rfl
    rw [e1, e2] at this
    exact this
  refine R.mono (c := 1 + ((7 * ps.length + (10 * ps.length + 0)) + 0)) ?_ (by omega)
  refine R.bind h0 ?_
  refine R.bind (R.holding (a := ()) (s1 := S os (l ++ [dO (entsS k ps)]) (k + 3 * ps.length)) ?_) R.pure
  rw [if_pos hn]
  refine R.bind (ev_pairs h) ?_
  refine R.holding ?_
  have := fillS (w := w) (os := os) (r := []) (k := k) (t := k + 2 * ps.length) (es := []) ha (fun e he => nomatch he) hl (by simp; omega)
  rw [show k + 3 * ps.length = k + 2 * ps.length + ps.length by omega]
  exact R.bind (a := PUnit.unit) this R.pure
end
end Mine
end
section
open PySem PySem.W PySem.Calls PyProof.Rows
set_option maxRecDepth 100000
set_option Elab.async false
set_option maxHeartbeats 2000000
namespace Mine
noncomputable def AscE (m : Int) : List DictEntry → Prop
  | [] => True
  | e :: r => (∃ (k : Nat) (t : Tok), e.key = .int k t ∧ e.hash = (k : Int)) ∧ m < e.hash ∧ AscE e.hash r
theorem asc_at : ∀ {ps : List (Nat × Str)} {m : Int} {k : Nat}, Asc m ps → AscE m (entsAt k ps)
  | [], _, _, _ => trivial
  | (i, _) :: ps, _, k, h => ⟨⟨i, k, rfl, rfl⟩, h.1, asc_at h.2.2⟩
theorem asc_S : ∀ {ps : List (Nat × Str)} {m : Int} {k : Nat}, Asc m ps → AscE m (entsS k ps)
  | [], _, _, _ => trivial
  | (i, _) :: ps, _, k, h => ⟨⟨i, k, rfl, rfl⟩, h.1, asc_S h.2.2⟩
section
variable {w : World} {os : OsState} {l mid : List Obj}
theorem get_end {es new : List DictEntry} : (mkH (l ++ dO es :: (mid ++ [dO new]))).get? (l ++ dO es :: mid).length = some (dO new) := by
  have := mkH_get (l ++ dO es :: mid) [] new
  rw [List.append_assoc, List.cons_append] at this
  exact this
theorem put_at {es : List DictEntry} {k i : Nat} {t : Tok} {v : Value} {r : List Obj} (hl : 11 ≤ l.length) (he : es.length < 10000) {m : Int} (hb : below m es) (hm : m < i) :
    R w 4 (PySem.dictPut l.length i (.int i t) v) (S os (l ++ dO es :: r) k) () (S os (l ++ dO (es ++ [⟨i, .int i t, v⟩]) :: r) k) := by
  have h := R.dictPut (w := w) (s := S os (l ++ dO es :: r) k) (d := l.length) (es := es) (k := i) (t := t) (v := v) (mkH_get l r es) hl he (fun e hx q => by have := hb e hx; omega)
  have e : ({ S os (l ++ dO es :: r) k with heap := (S os (l ++ dO es :: r) k).heap.update l.length (Obj.mapDictKeys (·.push ⟨i, .int i t, v⟩)) } : Shared) = S os (l ++ dO (es ++ [⟨i, .int i t, v⟩]) :: r) k := by
    show (⟨(mkH (l ++ dO es :: r)).update l.length _, gens0, boot_drawn, k, os⟩ : Shared) = _
    rw [mkH_update, mapPush]; rfl
  rw [e] at h
  exact h
theorem mergeLoop {new : List DictEntry} {f : Nat → PUnit → Sem (ForInStep PUnit)} {k : Nat} {a : Addr} (hl : 11 ≤ l.length) 
    (hf : ∀ (e : DictEntry) (i : Nat) (es : List DictEntry) (m : Int), new[i]? = some e → (∃ (k : Nat) (t : Tok), e.key = .int k t ∧ e.hash = (k : Int)) → below m es → m < e.hash → es.length < 10000 →
      R w 6 (f i PUnit.unit) (S os (l ++ dO es :: (mid ++ [dO new])) k) (.yield PUnit.unit) (S os (l ++ dO (es ++ [e]) :: (mid ++ [dO new])) k)) :
    ∀ (rest done : List DictEntry) (es : List DictEntry) (m : Int), new = done ++ rest → AscE m rest → below m es → es.length + rest.length < 10000 →
    R w (6 * rest.length) (forIn (List.range' done.length rest.length) PUnit.unit f)
      (S os (l ++ dO es :: (mid ++ [dO new])) k) PUnit.unit (S os (l ++ dO (es ++ rest) :: (mid ++ [dO new])) k)
  | [], done, es, m, _, _, _, _ => by rw [List.append_nil]; exact R.forIn_nil
  | e :: rest, done, es, m, hd, ha, hb, hn => by
    obtain ⟨a1, a2, a3⟩ := ha
    rw [List.length_cons] at hn
    rw [show 6 * (e :: rest).length = 6 + 6 * rest.length by rw [List.length_cons]; omega, List.length_cons, List.range'_succ]
    refine R.forIn_cons (b' := PUnit.unit) (hf e _ es m (by rw [hd]; simp) a1 hb a2 (by omega)) ?_
    have hb' : below e.hash (es ++ [e]) := fun x he => by
      rcases List.mem_append.mp he with he | he
      · have := hb x he; omega
      · rw [List.mem_singleton.mp he]; exact Int.le_refl _
    have := mergeLoop (a := a) hl hf rest (done ++ [e]) (es ++ [e]) e.hash (by rw [hd, List.append_assoc]; rfl) a3 hb' (by rw [List.length_append, List.length_singleton]; omega)
    rw [List.append_assoc, List.length_append, List.length_singleton] at this
    exact this
theorem merge {es new : List DictEntry} {k : Nat} {m : Int} (hl : 11 ≤ l.length) (hne : es ≠ []) (hb : below m es) (ha : AscE m new) (hn : es.length + new.length < 10000) :
    R w (6 + 6 * new.length) (mergeMapping l.length (.ref (l ++ dO es :: mid).length) false) (S os (l ++ dO es :: (mid ++ [dO new])) k) ()
      (S os (l ++ dO (es ++ new) :: (mid ++ [dO new])) k) := by
  unfold mergeMapping
  rw [show 6 + 6 * new.length = 1 + (5 + 6 * new.length) by omega]
  refine R.bind (a := true) (s1 := S os (l ++ dO es :: (mid ++ [dO new])) k) ?_ ?_
  · unfold isInstance
    refine R.bind (c1 := 1) (c2 := 0) (a := .type "dict") (R.bind (c1 := 1) (c2 := 0) (R.loadPart get_end) R.pure) ?_
    exact (R.pure : R w 0 (Pure.pure true) _ true _)
  have tt : ((some (Value.builtin "dict.__iter__") : Option Value) == some (.builtin "dict.__iter__")) = true := by decide
  dsimp only
  rw [if_pos rfl, show 5 + 6 * new.length = 1 + (4 + 6 * new.length) by omega]
  refine R.bind (a := some (.builtin "dict.__iter__")) (s1 := S os (l ++ dO es :: (mid ++ [dO new])) k) ?_ ?_
  · unfold specialOf
    refine R.bind (c1 := 1) (c2 := 0) (a := .type "dict") (R.bind (c1 := 1) (c2 := 0) (R.loadPart get_end) R.pure) ?_
    rw [PySem.F.slot_dict_iter.lookup]
    exact R.pure
  rw [tt, show 4 + 6 * new.length = 0 + (4 + 6 * new.length) by omega]
  refine R.bind (a := true) R.pure ?_
  dsimp only
  rw [if_neg (by intro q; have q : (l ++ dO es :: mid).length = 1 := (beq_iff_eq.mp q); rw [List.length_append] at q; omega), show 4 + 6 * new.length = 1 + (3 + 6 * new.length) by omega]
  refine R.bind (R.dictEntries (mkH_get l _ es)) ?_
  rw [if_neg (by cases es with | nil => exact absurd rfl hne | cons => simp [Array.isEmpty]), show 3 + 6 * new.length = 1 + (1 + (6 * new.length + 0 + 1)) by omega]
  refine R.bind (R.dictEntries get_end) ?_
  refine R.bind (R.dictEpoch get_end) ?_
  refine R.mono (c := 6 * new.length + 0) ?_ (by omega)
  refine R.bind (a := PUnit.unit) (s1 := S os (l ++ dO (es ++ new) :: (mid ++ [dO new])) k) ?_ R.pure
  have hr : List.range new.toArray.size = List.range' ([] : List DictEntry).length new.length := by rw [List.range_eq_range']; simp
  rw [hr]
  refine mergeLoop (a := 0) hl ?_ new [] es m rfl ha hb hn
  intro e i es' m' hi hk hb' hm hlen
  obtain ⟨kk, t, e1, e2⟩ := hk
  have hA : ∀ e' : List DictEntry, (l ++ dO es :: mid).length = (l ++ dO e' :: mid).length := fun e' => by simp
  refine R.bind (c1 := 1) (c2 := 5) (R.dictEntries (by rw [hA es']; exact get_end)) ?_
  have hi' : new.toArray[i]? = some e := by simpa using hi
  rw [hi']
  dsimp only
  refine R.bind (c1 := 4) (c2 := 1) (a := ()) (s1 := S os (l ++ dO (es' ++ [e]) :: (mid ++ [dO new])) k) (R.holding ?_) ?_
  · rw [if_neg Bool.false_ne_true]
    obtain ⟨h0, k0, v0⟩ := e
    obtain rfl : k0 = .int kk t := e1
    obtain rfl : h0 = (kk : Int) := e2
    exact put_at hl hlen hb' hm
  · refine R.bind (c1 := 1) (c2 := 0) (R.dictEpoch (by rw [hA (es' ++ [e])]; exact get_end)) ?_
    rw [if_neg (by simp)]
    exact R.pure
end
end Mine
end
section
open PySem PySem.W PySem.Calls PyProof.Rows
set_option maxRecDepth 100000
set_option Elab.async false
set_option maxHeartbeats 2000000
namespace Mine
noncomputable def litOk : List (Option Expr) → List Expr → List (Nat × Str) → Bool
  | some (.Constant (.int i) _ _) :: ks, .Constant (.str s) _ _ :: vs, (j, t) :: ps => (i == (j : Int)) && (s == t) && litOk ks vs ps
  | [], [], [] => true
  | _, _, _ => false
theorem kOk {w : World} {env : Env} {j : Nat} {a b} : KOk w (eval (.Constant (.int (j : Int)) a b) env) j := fun s => by
  show R w 3 (PySem.fresh >>= fun t => Pure.pure (Value.int j t)) s _ _
  exact R.mono (c := 1 + 0) (R.bind R.fresh R.pure) (by decide)
theorem vOk {w : World} {env : Env} {y : Str} {a b} {p : Pos} : VOk w (do let x ← eval (.Constant (.str y) a b) env; standAt p; pure x) y := fun s => by
  refine R.bind (c1 := 1) (c2 := 3) (a := .str y s.toks) (s1 := { s with toks := s.toks + 1 }) ?_ ?_
  · show R w 1 (PySem.fresh >>= fun t => Pure.pure (Value.str y t)) s _ _
    exact R.bind (c1 := 1) (c2 := 0) R.fresh R.pure
  · exact R.mono (c := 1 + 0) (R.bind R.at R.pure) (by decide)
theorem lit_items {w : World} {env : Env} {p : Pos} : ∀ (ks : List (Option Expr)) (vs : List Expr) (ps : List (Nat × Str)), litOk ks vs ps = true →
    ∃ pairs : List (Sem Value × Sem Value), (evalEachOpt ks env).zip ((evalEach vs env).map fun v => do let x ← v; standAt p; pure x) = pairs.map (fun p => (some p.1, p.2)) ∧ RunOk w pairs ps := by
  intro ks vs ps
  fun_induction litOk ks vs ps with
  | case1 i a b ks s c d vs j t ps ih =>
    intro h
    rw [Bool.and_eq_true, Bool.and_eq_true, beq_iff_eq, beq_iff_eq] at h
    obtain ⟨⟨rfl, rfl⟩, h3⟩ := h
    obtain ⟨pairs, e, o⟩ := ih h3
    refine ⟨(eval (.Constant (.int (j : Int)) a b) env, do let x ← eval (.Constant (.str s) c d) env; standAt p; pure x) :: pairs, ?_, kOk, vOk, o⟩
    rw [List.map_cons, ← e]
    rfl
  | case2 => intro _; exact ⟨[], rfl, trivial⟩
  | case3 => intro h; cases h
theorem RunOk.split {w : World} : ∀ {ps qs : List (Nat × Str)} {run : List (Sem Value × Sem Value)}, RunOk w run (ps ++ qs) → ∃ r1 r2, run = r1 ++ r2 ∧ RunOk w r1 ps ∧ RunOk w r2 qs
  | [], _, run, h => ⟨[], run, rfl, trivial, h⟩
  | _ :: _, _, (a, b) :: run, h => by
    obtain ⟨r1, r2, e, h1, h2⟩ := RunOk.split h.2.2
    exact ⟨(a, b) :: r1, r2, by rw [e]; rfl, ⟨h.1, h.2.1, h1⟩, h2⟩
  | _ :: _, _, [], h => h.elim
theorem Asc.split : ∀ {ps qs : List (Nat × Str)} {m : Int}, Asc m (ps ++ qs) → ∃ m', m ≤ m' ∧ Asc m ps ∧ (∀ k, below m' (entsAt k ps)) ∧ Asc m' qs
  | [], _, m, h => ⟨m, Int.le_refl _, trivial, (fun _ _ he => nomatch he), h⟩
  | (i, y) :: ps, _, m, h => by
    obtain ⟨m', l, a, b, c⟩ := Asc.split h.2.2
    have h1 := h.1
    refine ⟨m', by omega, ⟨h.1, h.2.1, a⟩, fun k e he => ?_, c⟩
    rcases List.mem_cons.mp he with rfl | he
    · exact l
    · exact b _ e he
noncomputable def ascB : Nat → List (Nat × Str) → Bool
  | _, [] => true
  | m, (i, _) :: r => Nat.blt m i && Nat.blt i 2000000 && ascB i r
theorem ascB_ok : ∀ {ps : List (Nat × Str)} {m : Nat}, ascB m ps = true → Asc (m : Int) ps
  | [], _, _ => trivial
  | (i, y) :: ps, m, h => by
    unfold ascB at h
    rw [Bool.and_eq_true, Bool.and_eq_true, Nat.blt_eq, Nat.blt_eq] at h
    exact ⟨by have := h.1.1; omega, h.1.2, ascB_ok h.2⟩
noncomputable def accD (k : Nat) : List (List (Nat × Str)) → List DictEntry
  | [] => []
  | c :: cs => entsAt k c ++ accD (k + 3 * c.length) cs
noncomputable def accS (k : Nat) : List (List (Nat × Str)) → List Obj
  | [] => []
  | c :: cs => dO (entsAt k c) :: accS (k + 3 * c.length) cs
noncomputable def unit17 (cs : List (List (Nat × Str))) : Prop := ∀ c ∈ cs, c.length = 17
section
variable {w : World} {os : OsState}
noncomputable abbrev Run := List (Sem Value × Sem Value)
noncomputable abbrev Body := (Option (Sem Value) × Sem Value) → (Option Addr × Run) → Sem (ForInStep (Option Addr × Run))
noncomputable abbrev items (xs : Run) : List (Option (Sem Value) × Sem Value) := xs.map fun p => (some p.1, p.2)
noncomputable def BGather (f : Body) : Prop := ∀ (p : Sem Value × Sem Value) (run : Run) (main : Option Addr), run.length + 1 < 17 → f (some p.1, p.2) (main, run) = pure (.yield (main, run ++ [p]))
noncomputable def BFirst (f : Body) : Prop := ∀ (p : Sem Value × Sem Value) (run : Run), run.length = 16 → f (some p.1, p.2) (none, run) = (do let a ← subDict (run ++ [p]); pure (.yield (some a, [])))
noncomputable def BNext (f : Body) (X : Addr → Value → Sem Unit) : Prop := ∀ (p : Sem Value × Sem Value) (run : Run) (d : Addr), run.length = 16 → f (some p.1, p.2) (some d, run) = (do
  let sub ← PySem.holding [.ref d] (subDict (run ++ [p]))
  (PySem.holding [.ref d, .ref sub] (mergeMapping d (.ref sub) false)).onRaise (X d)
  pure (.yield (some d, [])))
theorem gather {f : Body} (hf : BGather f) {main : Option Addr} : ∀ (xs run : Run) (rest), run.length + xs.length < 17 → forIn (items xs ++ rest) (main, run) f = forIn rest (main, run ++ xs) f
  | [], run, rest, _ => by simp
  | p :: xs, run, rest, h => by
    rw [items, List.map_cons, List.cons_append, List.forIn_cons, hf p run main (by simp at h; omega), pure_bind]
    have := gather hf xs (run ++ [p]) rest (main := main) (by simp at h ⊢; omega)
    simpa using this
theorem gather17 {f : Body} (hf : BGather f) {main : Option Addr} {xs : Run} {rest} (h : xs.length = 17) : ∃ run p, xs = run ++ [p] ∧ run.length = 16 ∧
    forIn (items xs ++ rest) (main, []) f = forIn ((some p.1, p.2) :: rest) (main, run) f := by
  have hne : xs ≠ [] := by intro q; rw [q] at h; cases h
  have e := List.dropLast_concat_getLast hne
  refine ⟨xs.dropLast, xs.getLast hne, e.symm, by simp; omega, ?_⟩
  have := gather hf xs.dropLast [] ((some (xs.getLast hne).1, (xs.getLast hne).2) :: rest) (main := main) (by simp; omega)
  rw [List.nil_append] at this
  rw [← this]
  conv => lhs; rw [← e]
  rw [items, List.map_append, List.append_assoc]
  rfl
theorem sub17 {l : List Obj} {run : Run} {ps : List (Nat × Str)} {k : Nat} {m : Int} (h : RunOk w run ps) (ha : Asc m ps) (hl : 11 ≤ l.length) (hn : ps.length = 17) :
    R w 291 (subDict run) (S os l k) l.length (S os (l ++ [dO (entsAt k ps)]) (k + 51)) := by
  have := sub_long (w := w) (os := os) (k := k) h ha hl (by rw [h.length]; omega) (by omega)
  rw [hn] at this
  exact this
theorem entsAt_length : ∀ (ps : List (Nat × Str)) (k : Nat), (entsAt k ps).length = ps.length
  | [], _ => rfl
  | (_, _) :: ps, k => by rw [entsAt, List.length_cons, List.length_cons, entsAt_length ps]
theorem entsS_length : ∀ (ps : List (Nat × Str)) (k : Nat), (entsS k ps).length = ps.length
  | [], _ => rfl
  | (_, _) :: ps, k => by rw [entsS, List.length_cons, List.length_cons, entsS_length ps]
theorem chunks {f : Body} {X : Addr → Value → Sem Unit} (hf : BGather f) (hx : BNext f X) {l : List Obj} (hl : 11 ≤ l.length) : ∀ (cs : List (List (Nat × Str))) (run last : Run) (es : List DictEntry) (mid : List Obj) (k : Nat) (m : Int) (ql : List (Nat × Str)),
    unit17 cs → RunOk w run (cs.flatten) → last.length < 17 → Asc m (cs.flatten ++ ql) → below m es → es ≠ [] → es.length + 17 * cs.length < 5000 →
    ∃ m', Asc m' ql ∧ below m' (es ++ accD k cs) ∧
    R w (399 * cs.length) (forIn (items run ++ items last) (some l.length, []) f) (S os (l ++ dO es :: mid) k) (some l.length, last) (S os (l ++ dO (es ++ accD k cs) :: (mid ++ accS k cs)) (k + 51 * cs.length))
  | [], run, last, es, mid, k, m, ql, _, h, hlast, ha, hb, _, _ => by
    obtain rfl : run = [] := List.eq_nil_of_length_eq_zero h.length
    rw [accD, accS, List.append_nil, List.append_nil]
    refine ⟨m, ha, hb, ?_⟩
    have := gather hf last [] [] (main := some l.length) (by simpa using hlast)
    rw [List.append_nil] at this
    rw [List.nil_append] at this
    rw [show items [] ++ items last = items last from rfl, this, List.forIn_nil]
    exact R.pure
  | c :: cs, run, last, es, mid, k, m, ql, hu, h, hlast, ha, hb, hne, hn => by
    have hc : c.length = 17 := hu c (List.mem_cons_self ..)
    rw [List.flatten_cons] at h
    rw [List.flatten_cons, List.append_assoc] at ha
    rw [List.length_cons] at hn
    obtain ⟨r1, r2, rfl, h1, h2⟩ := h.split
    obtain ⟨m1, lm, a1, b1, a2⟩ := ha.split
    obtain ⟨run', p, e, hr, hg⟩ := gather17 hf (main := some l.length) (rest := items r2 ++ items last) (h1.length.trans hc)
    have hb1 : below m1 (es ++ entsAt k c) := fun x hx => by
      rcases List.mem_append.mp hx with hx | hx
      · have := hb x hx; omega
      · exact b1 k x hx
    obtain ⟨m2, q1, q2, q3⟩ := chunks hf hx hl cs r2 last (es ++ entsAt k c) (mid ++ [dO (entsAt k c)]) (k + 3 * c.length) m1 ql (fun x hx => hu x (List.mem_cons_of_mem _ hx)) h2 hlast a2 hb1 (by simp [hne]) (by rw [List.length_append, entsAt_length, hc]; omega)
    refine ⟨m2, q1, by rw [accD, ← List.append_assoc]; exact q2, ?_⟩
    rw [show items (r1 ++ r2) ++ items last = items r1 ++ (items r2 ++ items last) by rw [items, List.map_append, List.append_assoc], hg]
    rw [show 399 * (c :: cs).length = 399 + 399 * cs.length by rw [List.length_cons]; omega, accD, accS, ← List.append_assoc, show k + 51 * (c :: cs).length = k + 3 * c.length + 51 * cs.length by rw [List.length_cons, hc]; omega,
      show mid ++ dO (entsAt k c) :: accS (k + 3 * c.length) cs = (mid ++ [dO (entsAt k c)]) ++ accS (k + 3 * c.length) cs by rw [List.append_assoc]; rfl]
    refine R.forIn_cons (b' := (some l.length, [])) (s1 := S os (l ++ dO (es ++ entsAt k c) :: (mid ++ [dO (entsAt k c)])) (k + 3 * c.length)) ?_ q3
    rw [hx p run' l.length hr, ← e]
    have hs := sub17 (os := os) (k := k) (l := l ++ dO es :: mid) h1 a1 (by rw [List.length_append]; omega) hc
    rw [List.append_assoc, List.cons_append] at hs
    refine R.bind (c1 := 291) (c2 := 108) (R.holding hs) ?_
    refine R.bind (c1 := 108) (c2 := 0) (a := ()) (R.onRaise (R.holding ?_)) R.pure
    have hm := merge (w := w) (os := os) (k := k + 51) (mid := mid) hl hne hb (asc_at (k := k) a1) (by rw [entsAt_length, hc]; omega)
    rw [entsAt_length, hc] at hm
    rw [hc]
    exact hm
end
end Mine
end
section
open PySem PySem.W PySem.Calls PyProof.Rows
set_option maxRecDepth 100000
set_option Elab.async false
set_option maxHeartbeats 2000000
namespace Mine
section
variable {w : World} {os : OsState}
noncomputable def dispD (k : Nat) (c0 : List (Nat × Str)) (cs : List (List (Nat × Str))) (q : List (Nat × Str)) : List DictEntry := entsAt k c0 ++ accD (k + 51) cs ++ entsS (k + 51 + 51 * cs.length) q
noncomputable def dispS (k : Nat) (cs : List (List (Nat × Str))) (q : List (Nat × Str)) : List Obj := accS (k + 51) cs ++ [dO (entsS (k + 51 + 51 * cs.length) q)]
theorem acc_below : ∀ (cs : List (List (Nat × Str))) (es : List DictEntry) (k : Nat) (m : Int) (q : List (Nat × Str)), Asc m (cs.flatten ++ q) → below m es → ∃ m', Asc m' q ∧ below m' (es ++ accD k cs)
  | [], es, k, m, q, h, hb => ⟨m, h, by rw [accD, List.append_nil]; exact hb⟩
  | c :: cs, es, k, m, q, h, hb => by
    rw [List.flatten_cons, List.append_assoc] at h
    obtain ⟨m1, lm, a1, b1, a2⟩ := h.split
    obtain ⟨m', x, y⟩ := acc_below cs (es ++ entsAt k c) (k + 3 * c.length) m1 q a2 (fun x hx => by
      rcases List.mem_append.mp hx with hx | hx
      · have := hb x hx; omega
      · exact b1 k x hx)
    exact ⟨m', x, by rw [accD, ← List.append_assoc]; exact y⟩
theorem accD_length : ∀ (cs : List (List (Nat × Str))) (k : Nat), unit17 cs → (accD k cs).length = 17 * cs.length
  | [], _, _ => rfl
  | c :: cs, k, h => by rw [accD, List.length_append, entsAt_length, accD_length cs _ (fun x hx => h x (List.mem_cons_of_mem _ hx)), h c (List.mem_cons_self ..), List.length_cons]; omega
theorem loop_all {f : Body} {X : Addr → Value → Sem Unit} (hf : BGather f) (h1f : BFirst f) (hx : BNext f X) {l : List Obj} (hl : 11 ≤ l.length) {r1 r2 r3 : Run} {c0 : List (Nat × Str)} {cs : List (List (Nat × Str))} {q : List (Nat × Str)} {k : Nat} {m m1 : Int}
    (h1 : RunOk w r1 c0) (h2 : RunOk w r2 cs.flatten) (h3 : r3.length < 17) (h0 : c0.length = 17) (hu : unit17 cs) (a1 : Asc m c0) (b1 : below m1 (entsAt k c0)) (a2 : Asc m1 (cs.flatten ++ q)) (hn : cs.length < 200) :
    R w (291 + 399 * cs.length) (forIn (items (r1 ++ (r2 ++ r3))) (none, []) f) (S os l k) (some l.length, r3) (S os (l ++ dO (entsAt k c0 ++ accD (k + 51) cs) :: accS (k + 51) cs) (k + 51 + 51 * cs.length)) := by
  have hne : entsAt k c0 ≠ [] := by
    intro q; have := congrArg List.length q
    rw [entsAt_length, h0] at this; cases this
  obtain ⟨run', p, e, hr, hg⟩ := gather17 hf (main := none) (rest := items r2 ++ items r3) (h1.length.trans h0)
  rw [show items (r1 ++ (r2 ++ r3)) = items r1 ++ (items r2 ++ items r3) by rw [items, List.map_append, List.map_append], hg]
  obtain ⟨m2, _, _, q3⟩ := chunks (w := w) (os := os) hf hx hl cs r2 r3 (entsAt k c0) [] (k + 51) m1 q hu h2 h3 a2 b1 hne (by rw [entsAt_length, h0]; omega)
  rw [List.nil_append] at q3
  refine R.forIn_cons (b' := (some l.length, [])) (s1 := S os (l ++ [dO (entsAt k c0)]) (k + 51)) ?_ q3
  rw [h1f p run' hr, ← e]
  exact R.bind (c1 := 291) (c2 := 0) (sub17 h1 a1 hl h0) R.pure
theorem display {l : List Obj} (hl : 11 ≤ l.length) {run : Run} {c0 : List (Nat × Str)} {cs : List (List (Nat × Str))} {q : List (Nat × Str)} {k : Nat} {m : Int} (h : RunOk w run (c0 ++ (cs.flatten ++ q)))
    (h0 : c0.length = 17) (hu : unit17 cs) (hq : q.length ≤ 15) (hq0 : q ≠ []) (ha : Asc m (c0 ++ (cs.flatten ++ q))) (hn : cs.length < 200) :
    R w (1000 + 399 * cs.length) (dictDisplay (items run)) (S os l k) (.ref l.length) (S os (l ++ dO (dispD k c0 cs q) :: dispS k cs q) (k + 51 + 51 * cs.length + 3 * q.length)) := by
  obtain ⟨r1, r2, rfl, h1, h2⟩ := h.split
  obtain ⟨r2, r3, rfl, h2, h3⟩ := h2.split
  obtain ⟨m1, lm, a1, b1, a2⟩ := ha.split
  have hne : entsAt k c0 ≠ [] := by
    intro q; have := congrArg List.length q
    rw [entsAt_length, h0] at this; cases this
  have b0 := b1 k
  obtain ⟨m', aq, bq⟩ := acc_below cs (entsAt k c0) (k + 51) m1 q a2 b0
  have hl3 := h3.length
  unfold dictDisplay
  dsimp only
  refine R.mono (c := 291 + 399 * cs.length + (17 * q.length + 2 + (6 + 6 * q.length + 0 + 0))) ?_ (by omega)
  refine R.bind (a := (some l.length, r3)) (s1 := S os (l ++ dO (entsAt k c0 ++ accD (k + 51) cs) :: accS (k + 51) cs) (k + 51 + 51 * cs.length)) ?_ ?_
  · refine loop_all (X := fun d x => do let _ ← PySem.holding [.ref d, x] (runValue (.builtin "proto.let_go" {}))) ?_ ?_ ?_ hl h1 h2 (by omega) h0 hu a1 b0 a2 hn
    · intro p run main hlen
      dsimp only
      rw [if_neg (by rw [beq_iff_eq, List.length_append, List.length_singleton]; omega)]
    · intro p run hlen
      dsimp only
      rw [if_pos (by rw [beq_iff_eq, List.length_append, List.length_singleton]; omega), if_neg (by simp)]
      simp only [bind_assoc, pure_bind]
    · intro p run d hlen
      dsimp only
      rw [if_pos (by rw [beq_iff_eq, List.length_append, List.length_singleton]; omega), if_neg (by simp)]
      simp only [bind_assoc, pure_bind]
  · dsimp only
    rw [if_neg (by cases r3 with | nil => exact absurd (List.eq_nil_of_length_eq_zero h3.length.symm) hq0 | cons => exact Bool.false_ne_true)]
    simp only [bind_assoc, pure_bind]
    have hs := sub_short (w := w) (os := os) (l := l ++ dO (entsAt k c0 ++ accD (k + 51) cs) :: accS (k + 51) cs) (k := k + 51 + 51 * cs.length) h3 aq (by rw [List.length_append]; omega) (by omega) (by omega)
    rw [List.append_assoc, List.cons_append] at hs
    refine R.bind (R.holding hs) ?_
    refine R.bind (c2 := 0) (a := ()) (R.onRaise (R.holding ?_)) R.pure
    have hm := merge (w := w) (os := os) (l := l) (k := k + 51 + 51 * cs.length + 3 * q.length) (mid := accS (k + 51) cs) hl (by simp [hne]) bq (asc_S (k := k + 51 + 51 * cs.length) aq) (by rw [List.length_append, entsAt_length, entsS_length, h0, accD_length _ _ hu]; omega)
    rw [entsS_length] at hm
    exact hm
end
end Mine
end
section
open PySem PySem.W PySem.Calls PyProof.Rows
set_option maxRecDepth 100000
set_option Elab.async false
set_option maxHeartbeats 0
namespace Mine
noncomputable def tree3b (P : Params) : BT := (.node (boot_o_0 P) (.node (boot_o_1 P) (.node (o3v18 P) (.node (boot_o_7 P) (.node (o15v7 P) (.node (o31v25 P) (.node (o63v58 P) .nil .nil) .nil) (.node (o47v42 P) .nil .nil)) (.node (o23v15 P) (.node (o39v34 P) (.node (o71v66 P) .nil .nil) .nil) (.node (o55v50 P) .nil .nil))) (.node (o11v1 P) (.node (o19v11 P) (.node (o35v30 P) (.node (o67v62 P) .nil .nil) .nil) (.node (o51v46 P) .nil .nil)) (.node (o27v21 P) (.node (o43v38 P) .nil .nil) (.node (o59v54 P) .nil .nil)))) (.node (boot_o_5 P) (.node (boot_o_9 P) (.node (o17v9 P) (.node (o33v28 P) (.node (o65v60 P) .nil .nil) .nil) (.node (o49v44 P) .nil .nil)) (.node (o25v17 P) (.node (o41v36 P) .nil .nil) (.node (o57v52 P) .nil .nil))) (.node (o13v3 P) (.node (o21v13 P) (.node (o37v32 P) (.node (o69v64 P) .nil .nil) .nil) (.node (o53v48 P) .nil .nil)) (.node (o29v23 P) (.node (o45v40 P) .nil .nil) (.node (o61v56 P) .nil .nil))))) (.node (boot_o_2 P) (.node (boot_o_4 P) (.node (boot_o_8 P) (.node (o16v8 P) (.node (o32v26 P) (.node (o64v59 P) .nil .nil) .nil) (.node (o48v43 P) .nil .nil)) (.node (o24v16 P) (.node (o40v35 P) .nil .nil) (.node (o56v51 P) .nil .nil))) (.node (o12v19 P) (.node (o20v12 P) (.node (o36v31 P) (.node (o68v63 P) .nil .nil) .nil) (.node (o52v47 P) .nil .nil)) (.node (o28v22 P) (.node (o44v39 P) .nil .nil) (.node (o60v55 P) .nil .nil)))) (.node (boot_o_6 P) (.node (boot_o_10 P) (.node (o18v10 P) (.node (o34v29 P) (.node (o66v61 P) .nil .nil) .nil) (.node (o50v45 P) .nil .nil)) (.node (o26v20 P) (.node (o42v37 P) .nil .nil) (.node (o58v53 P) .nil .nil))) (.node (o14v4 P) (.node (o22v14 P) (.node (o38v33 P) (.node (o70v65 P) .nil .nil) .nil) (.node (o54v49 P) .nil .nil)) (.node (o30v24 P) (.node (o46v41 P) .nil .nil) (.node (o62v57 P) .nil .nil))))))
noncomputable def base3 (w : World) : List Obj := (tree3 w.params).list 33
noncomputable def tgtOf : Stmt → Expr
  | .Assign (t :: _) _ _ => t
  | _ => .Constant .none 0 ⟨0, 0, 0, 0⟩
noncomputable def posAOf : Stmt → Pos
  | .Assign _ _ p => p
  | _ => ⟨0, 0, 0, 0⟩
noncomputable def posDOf : Stmt → Pos
  | .Assign _ (.Dict _ _ p) _ => p
  | _ => ⟨0, 0, 0, 0⟩
noncomputable abbrev st3 : Stmt := nthS 3 pw.main.body
theorem shape3 : st3 = .Assign [tgtOf st3] (.Dict (keysOf st3) (valsOf st3) (posDOf st3)) (posAOf st3) := by kernel_rfl
noncomputable def ch0 : List (Nat × Str) := b3Table.take 17
noncomputable def chs : List (List (Nat × Str)) := (List.range 37).map fun i => (b3Table.drop (17 * (i + 1))).take 17
noncomputable def chQ : List (Nat × Str) := b3Table.drop 646
theorem lit3 : litOk (keysOf st3) (valsOf st3) (ch0 ++ (chs.flatten ++ chQ)) = true := by decide +kernel
theorem asc3 : ascB 0 (ch0 ++ (chs.flatten ++ chQ)) = true := by decide +kernel
theorem len3 : ch0.length = 17 ∧ chQ.length = 4 ∧ chs.length = 37 ∧ chs.all (fun c => c.length == 17) = true := by decide +kernel
end Mine
end
section
open PySem PySem.W PySem.Calls PyProof.Rows
set_option maxRecDepth 100000
set_option Elab.async false
set_option maxHeartbeats 0
namespace Mine
theorem F1 : dispD 256 ch0 chs chQ = b3E 0 650 := by kernel_rfl
theorem F0 : (b3E 0 650).length = 650 := by decide +kernel
theorem F2 : dispS 256 chs chQ = ((List.range 37).map fun i => dO (b3E (17 * (i + 1)) 17)) ++ [dO (b3E 646 4)] := by kernel_rfl
end Mine
end
section
open PySem PySem.W PySem.Calls PyProof.Rows
set_option maxRecDepth 100000
set_option Elab.async false
set_option maxHeartbeats 0
namespace Mine
theorem F3 (w : World) : (tree3b w.params).list 72 = (tree3 w.params).list 33 ++ dO (b3E 0 650) :: (((List.range 37).map fun i => dO (b3E (17 * (i + 1)) 17)) ++ [dO (b3E 646 4)]) := by kernel_rfl
theorem base_len (w : World) : (base3 w).length = 33 := by unfold base3 BT.list; rw [List.length_map, List.length_range]
theorem pre3 (w : World) (os : OsState) : (ST tree3 33 256 w os).abs = Mine.S os (base3 w) 256 := rfl
theorem post3 (w : World) (os : OsState) : Mine.S os (base3 w ++ dO (dispD 256 ch0 chs chQ) :: dispS 256 chs chQ) 2206 = (ST tree3b 72 2206 w os).abs := by
  rw [F1, F2]
  show (⟨mkH (base3 w ++ dO (b3E 0 650) :: (((List.range 37).map fun i => dO (b3E (17 * (i + 1)) 17)) ++ [dO (b3E 646 4)])), gens0, boot_drawn, 2206, os⟩ : Shared) = ⟨⟨((tree3b w.params).list 72).toArray, life0⟩, gens0, boot_drawn, 2206, os⟩
  rw [F3]
  rfl
noncomputable def rest3 (v : Value) : Sem Flow := do
  let sw ← swappedStores [tgtOf st3] (.Dict (keysOf st3) (valsOf st3) (posDOf st3)) envH
  assignStores envH v sw ((assignEach [tgtOf st3] envH).map (·.2))
noncomputable def kont3 (f : Flow) : Sem Fin := match f with | .next => (execs [] envH).wrap doneF deadEnd id id | f => doneF f
theorem exec3 : exec st3 envH = ((standAt (posAOf st3) >>= fun _ => eval (.Dict (keysOf st3) (valsOf st3) (posDOf st3)) envH) >>= rest3) := by
  refine (congrArg (fun s => exec s envH) shape3).trans ?_
  show exec (.Assign [tgtOf st3] (.Dict (keysOf st3) (valsOf st3) (posDOf st3)) (posAOf st3)) envH = _
  rw [arm_exec_Assign, bind_assoc]
  have e : swapsWithSole [tgtOf st3] (.Dict (keysOf st3) (valsOf st3) (posDOf st3)) (posAOf st3).line envH = Pure.pure false := rfl
  rw [e]
  refine bind_congr fun _ => ?_
  rw [pure_bind, if_neg Bool.false_ne_true]
  rfl
theorem tail3 (w : World) (q : Pos) : (fun os => segRunT treeTable pw w 11 ann0 1 30 (ST tree3b 72 2206 w os) ⟨(rest3 (.ref 33)).wrap kont3 deadEnd id id, cE, q, B0⟩) = fun os => some (.next, ST tree4 72 2207 w os, cE, ⟨5, 0, 5, 13⟩) := by
  kernel_rfl
theorem display3 (w : World) (os : OsState) : R w 15764 (eval (.Dict (keysOf st3) (valsOf st3) (posDOf st3)) envH) (ST tree3 33 256 w os).abs (.ref 33) (ST tree3b 72 2206 w os).abs := by
  obtain ⟨pairs, e, ok⟩ := lit_items (w := w) (env := envH) (p := posDOf st3) _ _ _ lit3
  obtain ⟨a0, a1, a2, a3⟩ := len3
  rw [arm_eval_Dict, e, pre3, ← post3]
  have h := display (w := w) (os := os) (l := base3 w) (k := 256) (by rw [base_len]; decide) ok a0 (fun c hc => beq_iff_eq.mp (List.all_eq_true.mp a3 c hc)) (by rw [a1]; decide) (by intro q; rw [q] at a1; cases a1) (ascB_ok asc3) (by rw [a2]; decide)
  rw [base_len, a2, a1] at h
  exact R.bind (c1 := 1) (c2 := 15763) R.at h
theorem seg3 (w : World) (os : OsState) : ∃ n, n ≤ 15765 ∧ segRun treeTable pw w 11 ann0 1 (n + 30) (ST tree3 33 256 w os).abs (thr [st3] ⟨3, 0, 4, 30⟩) = some (.next, (ST tree4 72 2207 w os).abs, cE, ⟨5, 0, 5, 13⟩) := by
  have h : R w (1 + 15764) (standAt (posAOf st3) >>= fun _ => eval (.Dict (keysOf st3) (valsOf st3) (posDOf st3)) envH) _ _ _ := R.bind R.at (display3 w os)
  obtain ⟨n, q, l, k⟩ := h.go (fun a => (rest3 a).wrap kont3 deadEnd id id) (fun e => (Sem.raise e : Sem Flow).wrap kont3 deadEnd id id) (fun g => id (id g)) (fun l => id (id l)) ⟨3, 0, 4, 30⟩
  refine ⟨n, l, ?_⟩
  have e : thr [st3] ⟨3, 0, 4, 30⟩ = ⟨(standAt (posAOf st3) >>= fun _ => eval (.Dict (keysOf st3) (valsOf st3) (posDOf st3)) envH).wrap (fun a => (rest3 a).wrap kont3 deadEnd id id) (fun e => (Sem.raise e : Sem Flow).wrap kont3 deadEnd id id) (fun g => id (id g)) (fun l => id (id l)), cE, ⟨3, 0, 4, 30⟩, B0⟩ := by
    show (⟨(execs [st3] envH).wrap doneF deadEnd id id, cE, ⟨3, 0, 4, 30⟩, B0⟩ : Thread) = _
    rw [execs_cons_wrap, exec3, Sem.bind_eq_wrap', Sem.wrap_wrap]
    rfl
  rw [e]
  exact k 30 _ (segRun_of (congrFun (tail3 w q) os))
end Mine
end
section
open PySem PySem.W PySem.Calls PyProof.Rows
set_option maxRecDepth 100000
set_option Elab.async false
set_option maxHeartbeats 0
namespace Mine
theorem body_eq : bodyH = sts [0] ++ (sts [1] ++ (sts [2] ++ ([st3] ++ (sts [4, 5, 6, 7, 8, 9, 10, 11, 12, 13, 14, 15, 16, 17, 18, 19] ++ (sts [20, 21, 22] ++ []))))) := by kernel_rfl
theorem h_run (w : World) (os : OsState) : topRun treeTable pw w 11 ann0 NN ⟨boot_heap w.params, gens0, boot_drawn, boot_toks, os⟩ (topStub pw) = some ⟨heapF w.params, gens0, boot_drawn, 2327, os⟩ := by
  obtain ⟨n, l, k⟩ := seg3 w os
  have h := go_top (congrFun (h_pre w) os) (piece_block (congrFun (h_block w) os) (body_eq ▸ piece_app (l := sts [0]) (segRun_of (congrFun (seg0 w) os)) (piece_app (l := sts [1]) (segRun_of (congrFun (seg1 w) os)) (piece_app (l := sts [2]) (segRun_of (congrFun (seg2 w) os))
    (piece_app (l := [st3]) k (piece_app (segRun_of (congrFun (seg4 w) os)) (piece_app (segRun_of (congrFun (seg5 w) os)) (piece_nil (congrFun (h_fin w) os)))))))))
  have := topRun_mono (NN - (12 + (1 + (10 + (999 + (30 + (n + 30 + (383 + (87 + 2))))))))) _ _ _ _ h
  rw [show 12 + (1 + (10 + (999 + (30 + (n + 30 + (383 + (87 + 2))))))) + (NN - (12 + (1 + (10 + (999 + (30 + (n + 30 + (383 + (87 + 2))))))))) = NN by unfold NN; omega] at this
  exact this
end Mine
end
section
open PySem PySem.W PySem.Calls PyProof.Rows
set_option maxRecDepth 100000
set_option Elab.async false
set_option maxHeartbeats 0
namespace Mine
noncomputable def datP (p : Nat × Str) : PyData × PyData := (.int p.1, .str p.2)
theorem no_key : ∀ (ps : List (Nat × Str)) (m k : Int), Asc m ps → k ≤ m → hasIntKey k (ps.map datP) = false
  | [], _, _, _, _ => rfl
  | (i, y) :: ps, m, k, h, hk => by
    have h1 := h.1
    show (((i : Int) == k) || hasIntKey k (ps.map datP)) = false
    rw [no_key ps i k h.2.2 (by omega), Bool.or_false, beq_eq_false_iff_ne]
    omega
theorem keys_apart : ∀ (ps : List (Nat × Str)) (m : Int), Asc m ps → keysApartInt (ps.map datP) = true
  | [], _, _ => rfl
  | (i, y) :: ps, _, h => by
    show (!hasIntKey (i : Int) (ps.map datP) && keysApartInt (ps.map datP)) = true
    rw [no_key ps i i h.2.2 (Int.le_refl _), keys_apart ps i h.2.2]; rfl
noncomputable def tabF (h : Heap) (x : Str) : Bool :=
  (match tupIntsOf q x with | some ns => h.tupIntsOk x ns | none => true) &&
  (match tupStrsOf q x with | some ss => h.tupStrsOk x ss | none => true) &&
  (match tabIntOf q x with | some D => h.tabIntOk x D | none => true)
theorem val_names : valNames q = (["b1_set", "b3_exceptions", "ELLIPSIS_MARKER"] : List Str) := by kernel_rfl
theorem tab_tf1 (w : World) : (fun os => tabF (endS w os).heap "b1_set") = fun _ => true := by kernel_rfl
theorem tab_tf3 (w : World) : (fun os => tabF (endS w os).heap "ELLIPSIS_MARKER") = fun _ => true := by kernel_rfl
theorem tab_tfa : tupIntsOf q "b3_exceptions" = none := by kernel_rfl
theorem tab_tfb : tupStrsOf q "b3_exceptions" = none := by kernel_rfl
theorem tab_tfc : tabIntOf q "b3_exceptions" = some (b3Table.map datP) := by kernel_rfl
theorem tab_tfn (w : World) : (fun os => (endS w os).heap.nsMap mainGlobals "b3_exceptions") = fun _ => some (.ref 33) := by kernel_rfl
theorem tab_tfg (w : World) : (fun os => (endS w os).heap.get? 33) = fun _ => some (o33v28 w.params) := by kernel_rfl
theorem tab_tfe : entriesAreInt (b3E 0 650).toArray.toList (b3Table.map datP) = true := by kernel_rfl
theorem asc_tab : ascB 0 b3Table = true := by decide +kernel
theorem tab_tf2 (w : World) (os : OsState) : tabF (endS w os).heap "b3_exceptions" = true := by
  unfold tabF
  rw [tab_tfa, tab_tfb, tab_tfc]
  show (true && true && (endS w os).heap.tabIntOk "b3_exceptions" (b3Table.map datP)) = true
  have e1 : (endS w os).heap.nsMap mainGlobals "b3_exceptions" = some (.ref 33) := congrFun (tab_tfn w) os
  have e2 : (endS w os).heap.get? 33 = some (o33v28 w.params) := congrFun (tab_tfg w) os
  unfold Heap.tabIntOk
  rw [e1]
  dsimp only
  rw [e2]
  show (true && true && ((true && true) && entriesAreInt (b3E 0 650).toArray.toList (b3Table.map datP) && keysApartInt (b3Table.map datP) && true)) = true
  rw [tab_tfe, keys_apart _ _ (ascB_ok asc_tab)]
  rfl
theorem sight1 (w : World) : (fun os => seen ((recsOf q).map (·.name)) (ownsOf q) [] { endS w os with gens := #[] }) = fun _ => expectedOf q := by kernel_rfl
theorem sight2 (w : World) : (fun os => (endS w os).heap.bltView) = fun _ => bltViewBooted := by kernel_rfl
theorem sight3 (w : World) : (fun os => (endS w os).heap.keysOk (looseW q loose) ((recsOf q).map (·.name)) ((litsOf q).map (·.1)) ((clssOf q (looseW q loose)).map (·.name))) = fun _ => true := by kernel_rfl
theorem sight4 (w : World) : (fun os => (endS w os).heap.accountedOkI (importedModules pw.main.body)) = fun _ => true := by kernel_rfl
theorem sight4a (w : World) : (fun os => (endS w os).heap.isNs mainGlobals) = fun _ => true := by kernel_rfl
theorem sight4b (w : World) : (fun os => (endS w os).heap.isNs builtinsNs) = fun _ => true := by kernel_rfl
theorem sight5 (w : World) (os : OsState) : tablesOk q (endS w os).heap = true := by
  show (valNames q).all (tabF (endS w os).heap) = true
  rw [val_names]
  have a : tabF (endS w os).heap "b1_set" = true := congrFun (tab_tf1 w) os
  have c : tabF (endS w os).heap "ELLIPSIS_MARKER" = true := congrFun (tab_tf3 w) os
  rw [List.all_cons, List.all_cons, List.all_cons, List.all_nil, a, tab_tf2 w os, c]
  rfl
theorem sight6 (w : World) : (fun os => xlAt q [] (endS w os) && recOk [] (endS w os)) = fun _ => true := by kernel_rfl
theorem sight6a (w : World) : (fun os => (if true then (endS w os).gens.size == 0 else !leftWithCleanup (endS w os).gens)) = fun _ => true := by kernel_rfl
theorem sight7 (w : World) : (fun os => tabsOk q (endS w os)) = fun _ => true := by kernel_rfl
theorem sight8 (w : World) : (fun os => pinSeenD q (drecsOf q) (endS w os)) = fun _ => pinGoodD (drecsOf q) := by kernel_rfl
theorem sight9 (w : World) : (fun os => plainSeenE q (looseW q loose) (endS w os)) = fun _ => plainGoodE q (looseW q loose) := by kernel_rfl
theorem sight10 (w : World) : (fun os => plainSeenD q loose (endS w os)) = fun _ => plainGoodD q loose := by kernel_rfl
theorem sight11 (w : World) : (fun os => wideSeen q (endS w os)) = fun _ => wideGood q := by kernel_rfl
theorem sight12 (w : World) : (fun os => clsSeenW q loose (endS w os)) = fun _ => clsGoodW q loose := by kernel_rfl
theorem band {a b : Bool} (x : a = true) (y : b = true) : (a && b) = true := by rw [x, y]; rfl
theorem look2 (w : World) : (fun os => openSeen q loose (importedModules pw.main.body) (fun s => xlAt q [] s && recOk [] s) true (endS w os)) = fun _ => openGood q loose := funext fun os => by
  have h1 := congrFun (sight1 w) os
  have h2 := congrFun (sight2 w) os
  have h3 := congrFun (sight3 w) os
  have h4 := congrFun (sight4 w) os
  have h4a := congrFun (sight4a w) os
  have h4b := congrFun (sight4b w) os
  have h5 := sight5 w os
  have h6 := congrFun (sight6 w) os
  have h6a := congrFun (sight6a w) os
  have h7 := congrFun (sight7 w) os
  have h8 := congrFun (sight8 w) os
  have h9 := congrFun (sight9 w) os
  have h10 := congrFun (sight10 w) os
  have h11 := congrFun (sight11 w) os
  have h12 := congrFun (sight12 w) os
  unfold openSeen openGood
  exact congr (congrArg Prod.mk h1) (congr (congrArg Prod.mk h2) (congr (congrArg Prod.mk (band (band (band (band (band (band h3 h4) h4a) h4b) h5) h6) h6a)) (congr (congrArg Prod.mk h7) (congr (congrArg Prod.mk h8) (congr (congrArg Prod.mk h9) (congr (congrArg Prod.mk h10) (congr (congrArg Prod.mk h11) h12)))))))
end Mine
end
section
open PySem PySem.W PyProof.Rows PySem.Calls
set_option Elab.async false
set_option maxRecDepth 100000
set_option maxHeartbeats 0
namespace Mine
noncomputable abbrev Seen := Option Value × Option Value × Option Obj × Option Obj × Bool × Option Value
noncomputable def obs (s : Shared) : Seen := (s.heap.nsMap mainGlobals "b1_set", s.heap.nsMap mainGlobals "b3_exceptions", s.heap.get? 22, s.heap.get? 33, s.heap.isNs mainGlobals && s.heap.isNs cStatics, s.heap.nsMap cStatics sharingNotToldKey)
noncomputable def val (w : World) : Seen := (some (.ref 22), some (.ref 33), some (o22v14 w.params), some (o33v28 w.params), true, none)
noncomputable def says (w : World) (h : Heap) : Prop := (∃ m, h.Ns mainGlobals m ∧ m "b1_set" = some (.ref 22) ∧ m "b3_exceptions" = some (.ref 33)) ∧ h.get? 22 = some (o22v14 w.params) ∧ h.get? 33 = some (o33v28 w.params) ∧ NoneBooked h
theorem says_of (w : World) (s : Shared) (e : obs s = val w) : says w s.heap := by
  unfold obs val at e
  simp only [Prod.mk.injEq] at e
  obtain ⟨e1, e2, e3, e4, e5, e6⟩ := e
  rw [Bool.and_eq_true] at e5
  exact ⟨⟨_, .of_isNs e5.1, e1, e2⟩, e3, e4, ⟨_, .of_isNs e5.2, e6⟩⟩
theorem says_keeps (w : World) (h h' : Heap) (x : says w h) (k : ∀ b o, h.get? b = some o → h'.get? b = some o) : says w h' := by
  obtain ⟨⟨m, h1, h2, h3⟩, h4, h5, mc, h6, h7⟩ := x
  exact ⟨⟨m, h1.keeps k, h2, h3⟩, k _ _ h4, k _ _ h5, mc, h6.keeps k, h7⟩
noncomputable def hook : Hook := ⟨Seen, obs, val, says, says_of, says_keeps⟩
noncomputable abbrev Look3 (w : World) : Prop := (fun os => obs (endS w os)) = fun _ => val w
theorem look3f (w : World) : Look3 (w.withFollow "set-order" false) := by kernel_rfl
theorem look3t (w : World) : Look3 (w.withFollow "set-order" true) := by kernel_rfl
theorem look3 (w : World) : Look3 w := byRow2 "set-order" (P := Look3) look3f look3t w
end Mine
end
section
open PySem PySem.W PyProof.Rows PySem.Calls
set_option Elab.async false
set_option maxRecDepth 100000
set_option maxHeartbeats 0
namespace Mine
theorem looks (w : World) : (fun os => ((staticsOk (importedModules pw.main.body) (boot_heap w.params) (heapF w.params) && namesBound pw (heapF w.params) && gensDone (endS w os) && laidKept (boot_heap w.params) (heapF w.params)),
    openSeen q loose (importedModules pw.main.body) (fun s => xlAt q [] s && recOk [] s) true (endS w os), obs (endS w os))) = fun _ => (true, openGood q loose, val w) :=
  funext fun os => Prod.ext (congrFun (look1 w) os) (Prod.ext (congrFun (look2 w) os) (congrFun (look3 w) os))
theorem leftO : LeftO pw q loose (fun s => xlAt q [] s && recOk [] s) obs val NN :=
  LeftO.of_pieces h_open h_size h_run (by decide) looks
end Mine
end
section
open PySem PySem.W PyProof.Rows PySem.Calls
set_option Elab.async false
set_option maxRecDepth 100000
set_option maxHeartbeats 2000000
namespace Mine
noncomputable def codesT : List (Int × Nat) := [(65024, 205), (65025, 206), (65026, 207), (65027, 208), (65028, 209), (65029, 210), (6150, 191), (65030, 211), (65031, 212), (65032, 213), (65033, 214), (6155, 192), (6156, 193), (6157, 194), (8203, 195), (8204, 196), (8205, 197), (65034, 215), (65035, 216), (65036, 217), (65037, 218), (65038, 219), (65039, 220), (173, 189), (847, 190), (8288, 198), (65279, 199)]
noncomputable def setEs : List (Int × Value) := codesT.map fun p => (p.1, .int p.1 p.2)
noncomputable def setTab (b : Bool) : SetTable := ⟨127, #[0, 1, 2, 3, 4, 5, 6, 7, 8, 9, 10, 11, 12, 13, 14, 15, 16, 17, 18, 19, 20, 21, 22, 45, 79, 96, 127], #[], 0, b, 2, true⟩
theorem hashInt_small {k : Nat} (hk : k < 2000000) : hashInt (k : Int) = k := by
  have hr : rawHash (k : Int) = k := by
    unfold rawHash
    have e : (((k : Int).natAbs : Int) % ((2 ^ 61 - 1 : Nat) : Int)) = k := by rw [Int.natAbs_natCast]; exact Int.emod_eq_of_lt (by omega) (by omega)
    have h1 : ¬ ((k : Int) < 0) := by omega
    have h2 : ¬ (((k : Int) == -1) = true) := by rw [beq_iff_eq]; omega
    dsimp only
    rw [e, if_neg h1, if_neg h2]
  unfold hashInt
  have h2 : ¬ (((k : Int) == -1) = true) := by rw [beq_iff_eq]; omega
  rw [hr, if_neg h2]
theorem codes_small : ∀ p ∈ codesT, 0 ≤ p.1 ∧ p.1 < 2000000 := by decide
theorem codes_in : ∀ p ∈ codesT, S1 p.1 = true := by decide +kernel
theorem in_codes : ∀ k ∈ codesL, ∃ p ∈ codesT, p.1 = k := by decide +kernel
theorem set_elems {w : World} : ElemsOf (intKind pw w) setEs := fun e he => by
  obtain ⟨p, hp, rfl⟩ := List.mem_map.mp he
  obtain ⟨h1, h2⟩ := codes_small p hp
  refine ⟨⟨p.1, beq_self_eq_true _, ?_⟩, rfl⟩
  obtain ⟨n, hn⟩ := Int.eq_ofNat_of_zero_le h1
  show p.1 = hashInt p.1
  rw [hn, hashInt_small (by omega)]
theorem set_mem {w : World} (k : Int) : S1 k = true ↔ ∃ e ∈ setEs, (intKind pw w).is k e.2 = true := by
  constructor
  · intro h
    obtain ⟨p, hp, rfl⟩ := in_codes k (List.contains_iff_mem.mp h)
    exact ⟨_, List.mem_map.mpr ⟨p, hp, rfl⟩, beq_self_eq_true _⟩
  · rintro ⟨e, he, hk⟩
    obtain ⟨p, hp, rfl⟩ := List.mem_map.mp he
    have : p.1 = k := beq_iff_eq.mp hk
    exact this ▸ codes_in p hp
theorem setOf22 {w : World} {h : Heap} (e : h.get? 22 = some (o22v14 w.params)) : h.SetOf (intKind pw w) 22 S1 27 := by
  have : ∃ b, o22v14 w.params = ⟨.type "set", none, .set setEs.toArray 29 (setTab b), #[]⟩ := by
    unfold o22v14
    cases w.params.followText "set-order"
    · exact ⟨true, rfl⟩
    · exact ⟨false, rfl⟩
  obtain ⟨b, eb⟩ := this
  rw [eb] at e
  exact ⟨_, _, _, _, e, ⟨rfl, rfl, rfl⟩, rfl, set_elems, set_mem, by decide, by cases b <;> decide, rfl⟩
noncomputable def b3Kv (q : (Nat × Str) × Nat) : Int × Value := ((q.1.1 : Int), .str q.1.2 (tokK q.2 + 1))
theorem b3E_eq : b3E 0 650 = b3Table.zipIdx.map b3Ent := by kernel_rfl
theorem asc_b3 : ascB 0 b3Table = true := by decide +kernel
theorem asc_all : ∀ {ps : List (Nat × Str)} {m : Int}, Asc m ps → ∀ p ∈ ps, m < (p.1 : Int) ∧ p.1 < 2000000
  | [], _, _, _, h => nomatch h
  | (i, y) :: ps, m, h, p, hp => by
    rcases List.mem_cons.mp hp with rfl | hp
    · exact ⟨h.1, h.2.1⟩
    · have := asc_all h.2.2 p hp
      have h1 := h.1
      exact ⟨by omega, this.2⟩
theorem asc_nodup : ∀ {ps : List (Nat × Str)} {m : Int} (j : Nat), Asc m ps → (((ps.zipIdx j).map b3Kv).map (·.1)).Nodup
  | [], _, _, _ => List.nodup_nil
  | (i, y) :: ps, m, j, h => by
    rw [List.zipIdx_cons, List.map_cons, List.map_cons, List.nodup_cons]
    refine ⟨fun q => ?_, asc_nodup (j + 1) h.2.2⟩
    obtain ⟨a, ha, e⟩ := List.mem_map.mp q
    obtain ⟨b, hb, rfl⟩ := List.mem_map.mp ha
    have hb' : b.1 ∈ ps := by
      have := List.mem_map_of_mem (f := Prod.fst) hb
      rwa [List.zipIdx_map_fst] at this
    have := (asc_all h.2.2 b.1 hb').1
    have e' : (b.1.1 : Int) = i := e
    omega
theorem b3_pairs {w : World} : ∀ (ps : List (Nat × Str)) (j : Nat), Pairs (intKind pw w) ((ps.zipIdx j).map b3Ent) ((ps.zipIdx j).map b3Kv)
  | [], _ => .nil
  | (i, y) :: ps, j => .cons (beq_self_eq_true _) rfl (b3_pairs ps (j + 1))
theorem b3_val : ∀ (ps : List (Nat × Str)) (j : Nat) (c : Nat), (∀ x, ps.lookup c = some x → ∃ t, valueAt ((ps.zipIdx j).map b3Kv) (c : Int) = some (.str x t)) ∧ (ps.lookup c = none → valueAt ((ps.zipIdx j).map b3Kv) (c : Int) = none)
  | [], _, _ => ⟨fun _ e => (nomatch e), fun _ => rfl⟩
  | (i, y) :: ps, j, c => by
    have ih := b3_val ps (j + 1) c
    rw [List.zipIdx_cons, List.map_cons, List.lookup_cons]
    have hv : valueAt (b3Kv ((i, y), j) :: (ps.zipIdx (j + 1)).map b3Kv) (c : Int) = if (i : Int) = (c : Int) then some (.str y (tokK j + 1)) else valueAt ((ps.zipIdx (j + 1)).map b3Kv) (c : Int) := by
      unfold valueAt
      rw [List.find?_cons]
      show Option.map _ (match decide ((i : Int) = (c : Int)) with | true => _ | false => _) = _
      by_cases q : (i : Int) = (c : Int)
      · rw [if_pos q, decide_eq_true q]; rfl
      · rw [if_neg q, decide_eq_false q]
    rw [hv]
    by_cases q : c = i
    · subst q
      rw [if_pos rfl, beq_self_eq_true]
      exact ⟨fun x e => by cases e; exact ⟨_, rfl⟩, fun e => nomatch e⟩
    · have q' : (c == i) = false := by simpa using q
      rw [if_neg (by omega), q']
      exact ih
theorem b3_at {w : World} {h : Heap} (e : h.get? 33 = some (o33v28 w.params)) : B3At w h 33 b3T := by
  have e' : h.get? 33 = some ⟨.type "dict", none, .dict (b3Table.zipIdx.map b3Ent).toArray 650, #[]⟩ := by
    rw [e]; unfold o33v28; rw [b3E_eq]
  have asc := ascB_ok asc_b3
  refine ⟨⟨b3Table.zipIdx.map b3Kv, ⟨_, _, _, e', ⟨rfl, rfl, rfl⟩, rfl, fun x hx => ?_, b3_pairs b3Table 0, asc_nodup 0 asc⟩, fun c => b3_val b3Table 0 c⟩, ⟨_, e', rfl⟩, by decide⟩
  obtain ⟨b, hb, rfl⟩ := List.mem_map.mp (List.mem_toArray.mp hx)
  have hb' : b.1 ∈ b3Table := by
    have := List.mem_map_of_mem (f := Prod.fst) hb
    rwa [List.zipIdx_map_fst] at this
  exact ⟨(b.1.1 : Int), beq_self_eq_true _, (hashInt_small (asc_all asc b.1 hb').2).symm⟩
end Mine
end
section
open PySem PySem.W PyProof.Rows PySem.Calls
set_option Elab.async false
set_option maxRecDepth 100000
set_option maxHeartbeats 2000000
namespace Mine
section
variable {w : World} {g : Heap} {A : Around} {mg mb : Str → Option Value}
/-- a function of the program, by its body, from a state that may have drawn no mark yet -/
theorem call_fn0 {a : Addr} {o : Obj} {fd : FuncData} {body : List Stmt} {ps : List PV} {names : List Str} {out : Out} (T : Tops w g mg mb) (hroom : A.depth < recursionLimit) (ho : g.get? a = some o) (hd : o.data = .func fd) (hcode : g.CodeRec fd.code fd.qualname)
    (hbody : fd.body = .stmts body) (hglob : fd.globals = mainGlobals) (hblt : fd.builtins = builtinsNs) (hclo : fd.closure = []) (hk : fd.scope.kind = .function) (hco : fd.scope.isCoroutine = false) (hgen : fd.scope.isGenerator = false)
    (hbind : ∀ vals : List Value, vals.length = names.length → bindArgs fd ⟨vals, []⟩ = pure (names.zip vals)) (hlen : names.length = ps.length) (hnd : names.Nodup)
    (hkind : ∀ n ∈ names, fd.scope.names.lookup n = some .local ∨ fd.scope.names.lookup n = some .cell)
    (hb : ∀ env, Ex0 w g (A.deeper env) fd.scope (names.zip ps) none body out) {L : Addr} {s : Shared} {vs : List Value} {Q E : Value → Shared → Prop} (hg : ∀ b o, g.get? b = some o → s.heap.get? b = some o) (hr : RepAll w s.heap L ps vs)
    (k : ∀ env, OutOk w g (fun b o => s.heap.get? b = some o) fd.scope env s (fun f s' => Q (match f with | .ret v => v | _ => .none) s') out) : wpAny (model pw w) A (call (.ref a) vs) Q E s := by
  have hvl : vs.length = names.length := by rw [hr.length, hlen]
  have hzn := zip_names (names := names) (vs := vs) hvl.symm
  have hbk : ∀ x ∈ names.zip vs, fd.scope.names.lookup x.1 = some .local ∨ (fd.scope.names.lookup x.1 = some .cell ∧ ((cellsFrom (s.heap.objs.size + 1) fd.scope.names []).lookup x.1).isSome = true) := fun x hx => by
    have : x.1 ∈ names := by rw [← hzn]; exact List.mem_map.mpr ⟨x, hx, rfl⟩
    exact (hkind _ this).imp id fun q => ⟨q, cellsFrom_has _ _ _ _ (.inl (mem_lookup q))⟩
  refine wpAny_call (codeAny_call_function hroom (hg a o ho) hd hco hgen hbody (hcode.keeps hg) ?_)
  rw [hbind vs hvl, hclo]
  refine wpAny_pure (wpAny_newFunctionEnv_cells hk hbk fun env he s' x => ?_)
  refine ⟨(T.nolimit.keeps hg).keeps x.toInCall.keep, codeAny_func ?_⟩
  obtain ⟨h1, t1, rfl⟩ := x.toInCall.same
  have hsc : env.scope = fd.scope := by rw [he]; rfl
  have hkE : ∀ n, env.kindOf n = fd.scope.names.lookup n := fun n => by show env.scope.names.lookup n = _; rw [hsc]
  have hloc : env.locals = s.heap.objs.size := by rw [he]; rfl
  have hcs : env.cells = cellsFrom (s.heap.objs.size + 1) fd.scope.names [] := by rw [he]; rfl
  have none_of : ∀ {b : Addr}, s.heap.objs.size ≤ b → ∀ o, ¬ s.heap.get? b = some o := fun {b} hb o e => absurd (Heap.lt_size e) (Nat.not_lt.mpr hb)
  have F : FInv w g (fun b o => s.heap.get? b = some o) fd.scope env h1 (names.zip ps) := by
    refine ⟨⟨hsc, hk, by rw [he]; exact hglob, by rw [he]; exact hblt, fun b o e => x.toInCall.keep b o (hg b o e), ?_, ⟨_, x.toInCall.ns⟩, fun y pv' hy => ?_⟩, hg, x.toInCall.keep, fun o => none_of (by rw [hloc]; exact Nat.le_refl _) o,
      fun n c hc => ⟨fun o => none_of (by have := x.above n c (mem_of_lookup hc); rw [hloc] at this; exact Nat.le_of_lt this) o, _, x.cell n c hc⟩,
      fun n n' c h1 h2 => name_of_addr x.apart (mem_of_lookup h1) (mem_of_lookup h2), fun n hn => ?_⟩
    · rw [hloc]
      cases e : g.get? s.heap.objs.size with
      | none => rfl
      | some o => exact absurd (hg _ _ e) (none_of (Nat.le_refl _) o)
    · obtain ⟨v, hv, Rv⟩ := zip_at names ps vs y pv' hr hy
      obtain ⟨b1, b2⟩ := bind_at (k := env.kindOf) (names.zip vs) (fun _ => none) (fun _ => none) y v (by rw [hzn]; exact hnd) hv
      have hyn : y ∈ names := by rw [← hzn]; exact List.mem_map.mpr ⟨(y, v), mem_of_lookup hv, rfl⟩
      have Rg : Rep w h1 pv' v := by
        refine Rv.keepAt fun a o e h _ => x.toInCall.keep a o h
      have nv : v ≠ .ref env.locals := by
        intro q; subst q
        rw [hloc] at Rv
        cases pv' with
        | sc a => cases a <;> first | (cases Rv; done) | (obtain ⟨_, q⟩ := Rv; cases q)
        | list xs => obtain ⟨a', vs, q, ⟨o, ho, _⟩, _⟩ := Rv; cases q; exact none_of (Nat.le_refl _) o ho
        | tuple xs => obtain ⟨a', vs, q, ⟨o, ho, _⟩, _⟩ := Rv; cases q; exact none_of (Nat.le_refl _) o ho
        | dict xs => obtain ⟨a', vs, q, ⟨o, _, _, ho, _⟩, _⟩ := Rv; cases q; exact none_of (Nat.le_refl _) o ho
        | range _ _ _ => obtain ⟨a', _, _, _, q, ho⟩ := Rv; cases q; exact none_of (Nat.le_refl _) _ ho
      refine ⟨v, ?_, Rg, nv⟩
      rcases hkind y hyn with q | q
      · exact .inl ⟨by rw [hkE]; exact q, _, x.toInCall.ns, b1 (by rw [hkE]; exact q)⟩
      · have hcell := cellsFrom_has _ (s.heap.objs.size + 1) ([] : List (Str × Addr)) _ (.inl (mem_lookup q))
        obtain ⟨c, hc⟩ := Option.isSome_iff_exists.mp hcell
        have hc' : env.cells.lookup y = some c := by rw [hcs]; exact hc
        have := x.cell y c hc'
        rw [b2 (by rw [hkE, q]; nofun)] at this
        exact .inr ⟨.inl (by rw [hkE]; exact q), c, hc', this⟩
    · have hcell := cellsFrom_has _ (s.heap.objs.size + 1) ([] : List (Str × Addr)) _ (.inl (mem_lookup hn))
      obtain ⟨c, hc⟩ := Option.isSome_iff_exists.mp hcell
      exact ⟨c, by rw [hcs]; exact hc⟩
  refine (hb env).run _ env { s with heap := h1, toks := t1 } _ _ ⟨F, fun _ _ e => nomatch e⟩ ?_
  have k' := k env
  cases out with
  | next ρ ow => exact fun h' t' j O => k' h' t' j O
  | brk ρ ow => exact fun h' t' j O => k' h' t' j O
  | ret pv => exact fun v h' t' j b R n => k' v h' t' j b R n
  | retP P => exact fun v h' t' j b R => k' v h' t' j b R
  | retN pv => exact fun v h' t' j b R n => k' v h' t' j b R n
end
end Mine
end
section
open PySem PySem.W PyProof.Rows PySem.Calls
set_option Elab.async false
set_option maxRecDepth 100000
set_option maxHeartbeats 2000000
namespace Mine
noncomputable abbrev lawR : RowW := PySem.Challenge.rw_ti0064_01.row.toRowW
theorem args_of {args : List WData} (h : lawR.claim.pre args = true) : ∃ ns : List Int, args = [.list (ns.map .int)] ∧ ns.length ≤ 63 := by
  have hs := (pre_splitW h).1
  have hc := (pre_splitW h).2
  have hs' : WShape.hasAll [] args [.list .int] = true := hs
  obtain ⟨d, r, rfl, h1, h2⟩ := hasAllW_cons hs'
  obtain rfl := hasAllW_nil h2
  obtain ⟨xs, rfl, h3⟩ := hasW_list h1
  have allI : ∀ ys : List WData, WShape.hasItems [] ys .int = true → ∃ ns : List Int, ys = ns.map .int := by
    intro ys
    induction ys with
    | nil => exact fun _ => ⟨[], rfl⟩
    | cons y ys ih =>
      intro q
      obtain ⟨q1, q2⟩ := Bool.and_eq_true_iff.mp q
      obtain ⟨i, rfl⟩ := hasW_int q1
      obtain ⟨ns, rfl⟩ := ih q2
      exact ⟨i :: ns, rfl⟩
  obtain ⟨ns, rfl⟩ := allI xs h3
  refine ⟨ns, rfl, ?_⟩
  have h63 := (holds_andW (a := .not (.lt (.lit (.int 63)) (.len (.arg 0)))) hc).1
  unfold WTm.holds at h63
  simp [WTm.value] at h63
  have e : less? (.int 63) (.int (ns.length : Int)) = some (decide ((63 : Int) < ns.length)) := rfl
  rw [e] at h63
  by_cases q : (63 : Int) < ns.length
  · rw [decide_eq_true q] at h63; cases h63
  · omega
theorem reads_ints {R : WRecords} {cl : Str → Option Addr} {h : Heap} : ∀ {ns : List Int} {vs : List Value} {as : List Addr}, ReadsAllW R cl h vs (ns.map .int) as → AllIs (ns.map .int) vs
  | [], vs, as, r => by obtain ⟨rfl, _⟩ := readsAllW_nil_inv r; trivial
  | n :: ns, vs, as, r => by
    obtain ⟨v, vs', a1, a2, rfl, _, r1, r2⟩ := readsAllW_cons_inv r
    obtain ⟨t, rfl, _⟩ := readsW_int_inv r1
    exact ⟨⟨t, rfl⟩, reads_ints r2⟩
theorem reads_list {R : WRecords} {cl : Str → Option Addr} {h : Heap} {v : Value} {xs : List WData} {as : List Addr} (r : ReadsW R cl h v (.list xs) as) : ∃ a o vs n bs, v = .ref a ∧ h.get? a = some o ∧ o.cls = .type "list" ∧ o.data = .seq vs n ∧ ReadsAllW R cl h vs.toList xs bs := by
  cases r with
  | list ha hc hs hr => exact ⟨_, _, _, _, _, rfl, ha, hc, hs, hr⟩
theorem free_names : ∀ x ∈ bltNames, (x ∉ startupNames ∧ x ∉ looseW q loose ∧ x ∉ (recsOf q).map (·.name)) ∧ x ∉ (litsOf q).map (·.1) ∧ x ∉ (clssOf q (looseW q loose)).map (·.name) ∧ x ≠ "__name__" := by decide +kernel
theorem val_dots : PyProof.Rows.valOf q "ELLIPSIS_MARKER" = some (PyData.str dots) := by kernel_rfl
theorem walkO : WalkO q loose (XL q []) says lawR (recOf sLaw) [] (fun f vs => PySem.call f vs) := by
  intro w s₀ s₁ mg mb G Y a o pm cd doc dV kV ho hd hcd hD hmg hg args vals as hpre hlay hrd hwl hlo
  obtain ⟨ns, rfl, h63⟩ := args_of hpre
  obtain ⟨v, vs', a1, a2, rfl, _, r1, r2⟩ := readsAllW_cons_inv hrd
  obtain ⟨rfl, _⟩ := readsAllW_nil_inv r2
  have T := G.T
  obtain ⟨⟨m, hm, m1, m2⟩, g22, g33, nb⟩ := Y
  obtain rfl := ns_inj hm T.g
  have GD : Gd w s₁.heap m mb := ⟨⟨T.g, T.b, T.nolimit, nb⟩, fun x hx => by
    obtain ⟨⟨n1, n2, n3⟩, n4, n5, _⟩ := free_names x hx
    exact T.free x n1 n2 n3 n4 n5, fun x hx => T.builtins x (free_names x hx).2.2.2⟩
  have hell : ∃ t, m "ELLIPSIS_MARKER" = some (.str dots t) := by
    obtain ⟨v, hv, hr⟩ := T.const _ _ val_dots
    have := hr s₁.heap
    cases this
    exact ⟨_, hv⟩
  obtain ⟨r, p, k, pair, seed, L⟩ := law_ok ns
  obtain rfl : dV = .none := Dflts.none hD rfl
  obtain rfl : kV = .none := hD.kw.elim (·.2) fun y => absurd rfl y.1
  have hbody : ∀ env, Ex0 w s₁.heap (callerA.deeper env) scLaw [("script", .list (ns.map .int))] none (bodyOf sLaw) (.ret (.sc (.bool true))) := fun env =>
    law_call T GD hell m1 (setOf22 g22) m2 (b3_at g33) rfl (by show 1 + claimMargin + 1 + 1 < recursionLimit; decide) (by show 4 + 3 < cLine; decide) (by show 4 + 3 + 1 + 64 < cLine; decide) (by omega) rfl L
  obtain ⟨a', o', xs', n', as', rfl, ha, hc, hs, hr⟩ := reads_list r1
  refine call_fn0 (A := callerA) (g := s₁.heap) (names := ["script"]) (ps := [.list (ns.map .int)]) (L := a' + 1) GD.T (by decide) ho hd hcd rfl rfl rfl rfl plain_law.kind plain_law.co plain_law.gen (plain_law.bind pm cd doc) rfl plain_law.nd plain_law.names hbody (fun _ _ e => e)
    ⟨⟨⟨a', xs'.toList, rfl, ⟨_, ha, hc, n', hs⟩, reads_ints hr⟩, fun e => by cases e⟩, trivial⟩ fun env => ?_
  intro v' h' t' j keep R nn
  obtain rfl : v' = .bool true := R
  refine ⟨.inl ⟨_, .bool true, [], rfl, fun cls => ?_, .bool true, ?_, fun _ => ⟨List.nodup_nil, fun a ha => nomatch ha⟩⟩, .of_keep keep, rfl, .of_eq hg⟩
  · rfl
  · exact postW_of (r := lawR) (X := same (.bool true) (.bool true)) (by wrow_shape) rfl (same_self _)
end Mine
end
section
open PySem PySem.W PyProof.Rows PySem.Calls
set_option Elab.async false
set_option maxRecDepth 100000
set_option maxHeartbeats 0
namespace Mine
theorem said1 : sreFenced pw.main = true := by kernel_rfl
theorem said2 : ((moduleNames pw.main.body).isEmpty || lookedIntoSs (moduleNames pw.main.body) pw.main.body) = true := by kernel_rfl
theorem said3 : namesResolve pw = true := by kernel_rfl
theorem said4 : pw.boundNames.all (fun n => !worldNames.contains n) = true := by kernel_rfl
theorem said5 : noRoadLSs { strict := !(importedModules pw.main.body).all cThrough.contains, foot := none, bare := (["vars", "dir", "locals"] : List Str).filter (readsOut pw pw.main.body) } pw.main.body = true := by kernel_rfl
theorem said6 : (namesMeet pw pw.main.body fun _ n => attrL n) = true := by kernel_rfl
theorem said_looks : looksOpen pw = true := by
  unfold looksOpen
  exact band (band (band (band (band said1 said2) said3) said4) said5) said6
theorem said_row : PySem.Challenge.rw_ti0064_01.row.wellSaid = true := by
  have e : looksOpen PySem.Challenge.rw_ti0064_01.row.toRowW.prog = true := said_looks
  unfold OpenRow.wellSaid OpenRow.partSaid
  rw [e]
  kernel_rfl
theorem said_ok : PySem.Challenge.rw_ti0064_01.wellSaid = true := by
  unfold OpenLaw.wellSaid
  rw [said_row]
  kernel_rfl
end Mine
end
section
open PySem PySem.W PyProof.Rows PySem.Calls
set_option maxRecDepth 100000
set_option maxHeartbeats 8000000
namespace Mine
theorem law_holds : PySem.Challenge.rw_ti0064_01.Holds := by
  refine holds_law said_ok fun said => ?_
  refine holds_open (q := q) (loose := loose) (d := recOf sLaw) (kwd := []) (Xt := fun s => xlAt q [] s && recOk [] s) (XP := XL q []) (Yf := obs) (Ya := val) (YP := says) (N := NN) leftO says_of says_keeps (fun s e => xl_of s (Bool.and_eq_true_iff.mp e).1) XL.keeps (by kernel_rfl) (by kernel_rfl) (by kernel_rfl) (fun s e => recFacts_of (Bool.and_eq_true_iff.mp e).2) (by rfl) said (by decide +kernel) ⟨rfl, rfl, rfl, rfl, rfl, by decide +kernel⟩ ?hw walkO
  case hw => w_witness2
end Mine
end
theorem PySem.Challenge.cw_ti0064_01_holds : PySem.Challenge.rw_ti0064_01.Holds := by
  exact Mine.law_holds
