import PyProof.Rows.All
import Wide.All
import OpenK.AllK
import Wide.FinOn
import Lean
import PySem.Challenge.RW_il0005_01

section
open PySem PySem.W PyProof.Rows
set_option Elab.async false
set_option maxRecDepth 100000
set_option maxHeartbeats 8000000
namespace Mine
open_top hd for PySem.Challenge.rw_il0005_01
end Mine
end

section
open PySem PySem.W PyProof.Rows PySem.Calls
set_option Elab.async false
set_option maxRecDepth 100000
namespace Mine

/-- all that stood stands -/
def Ext (h h' : Heap) : Prop := ∀ b o, h.get? b = some o → h'.get? b = some o
theorem Ext.refl (h : Heap) : Ext h h := fun _ _ e => e
theorem Ext.trans {a b c : Heap} (x : Ext a b) (y : Ext b c) : Ext a c := fun i o e => y i o (x i o e)
theorem Ext.push {a b : Heap} (x : Ext a b) (o : Obj) : Ext a (b.push o) := fun i ob e => Heap.get?_push_of_some _ (x i ob e)

/-- from any state above h the tree ends, raises nothing, and the heap only grows -/
def Runs {α : Type} (M : Model) (A : Around) (h : Heap) (t : Sem α) (R : Heap → α → Prop) : Prop :=
  ∀ (s : Shared) (E : Value → Shared → Prop), Ext h s.heap → wpAny M A t (fun v s' => R s'.heap v ∧ Keeps s s') E s

section
variable {α β : Type} {M : Model} {A : Around} {h : Heap} {t : Sem α} {R R' : Heap → α → Prop}

theorem Runs.use (r : Runs M A h t R) {s : Shared} {E : Value → Shared → Prop} {Q : α → Shared → Prop} (he : Ext h s.heap)
    (hQ : ∀ v h' tk, Ext s.heap h' → R h' v → Q v { s with heap := h', toks := tk }) : wpAny M A t Q E s :=
  wpAny_mono (r s E he) (fun v s' hv => by obtain ⟨hr, h', tk, rfl, hk⟩ := hv; exact hQ v h' tk hk hr) fun _ _ x => x

theorem Runs.intro (f : ∀ (s : Shared) (E : Value → Shared → Prop) (Q : α → Shared → Prop), Ext h s.heap →
    (∀ v h' tk, Ext s.heap h' → R h' v → Q v { s with heap := h', toks := tk }) → wpAny M A t Q E s) : Runs M A h t R :=
  fun s E he => f s E _ he fun v h' tk hk hr => ⟨hr, h', tk, rfl, hk⟩

theorem Runs.conseq (r : Runs M A h t R) (hR : ∀ h' v, Ext h h' → R h' v → R' h' v) : Runs M A h t R' :=
  .intro fun _ _ _ he hQ => r.use he fun v h' tk hk hr => hQ v h' tk hk (hR _ _ (he.trans hk) hr)
theorem Runs.up {h' : Heap} (r : Runs M A h t R) (e : Ext h h') : Runs M A h' t R := fun s E he => r s E (e.trans he)
theorem Runs.and_ext (r : Runs M A h t R) : Runs M A h t (fun h' v => R h' v ∧ Ext h h') :=
  .intro fun _ _ _ he hQ => r.use he fun v h' tk hk hr => hQ v h' tk hk ⟨hr, he.trans hk⟩
end

/-- a list of texts -/
def TL (h : Heap) (a : Addr) (xs : List Str) : Prop := ∃ vs, h.IsList a (List.toArray vs) ∧ StrsAre vs xs
/-- a plain one: no dict of its own -/
def PL (h : Heap) (a : Addr) (xs : List Str) : Prop := ∃ vs, h.PlainList a (List.toArray vs) ∧ StrsAre vs xs
theorem PL.tl {h : Heap} {a : Addr} {xs : List Str} (x : PL h a xs) : TL h a xs := let ⟨vs, p, v⟩ := x; ⟨vs, p.isList, v⟩
theorem PL.ext {h h' : Heap} {a : Addr} {xs : List Str} (e : Ext h h') (x : PL h a xs) : PL h' a xs := let ⟨vs, p, v⟩ := x; ⟨vs, p.at (e a), v⟩
def BL (h : Heap) (a : Addr) (bs : List Bool) : Prop := h.IsList a (bs.map Value.bool).toArray
theorem islist_ext {h h' : Heap} {a : Addr} {vs : Array Value} (e : Ext h h') (x : h.IsList a vs) : h'.IsList a vs := let ⟨o, ho, r⟩ := x; ⟨o, e _ _ ho, r⟩
theorem TL.ext {h h' : Heap} {a : Addr} {xs : List Str} (e : Ext h h') (x : TL h a xs) : TL h' a xs := let ⟨vs, hl, hv⟩ := x; ⟨vs, islist_ext e hl, hv⟩

/-- a list of lists of texts -/
inductive TLs (h : Heap) : List Value → List (List Str) → Prop
  | nil : TLs h [] []
  | cons {a : Addr} {xs : List Str} {vs : List Value} {xss : List (List Str)} : TL h a xs → TLs h vs xss → TLs h (.ref a :: vs) (xs :: xss)
theorem TLs.ext {h h' : Heap} (e : Ext h h') : ∀ {vs : List Value} {xss : List (List Str)}, TLs h vs xss → TLs h' vs xss
  | _, _, .nil => .nil
  | _, _, .cons x r => .cons (x.ext e) (r.ext e)
def LL (h : Heap) (a : Addr) (xss : List (List Str)) : Prop := ∃ vs, h.IsList a (List.toArray vs) ∧ TLs h vs xss
theorem LL.ext {h h' : Heap} {a : Addr} {xs : List (List Str)} (e : Ext h h') (x : LL h a xs) : LL h' a xs := let ⟨vs, hl, hv⟩ := x; ⟨vs, islist_ext e hl, hv.ext e⟩

/-- what a value is -/
inductive D where
  | str (x : Str) | int (i : Int) | bool (b : Bool) | none | val (v : Value)
  | tl (xs : List Str) | pl (xs : List Str) | bl (bs : List Bool) | ll (xss : List (List Str)) | il (ns : List Int)
def Is (h : Heap) (v : Value) : D → Prop
  | .str x => ∃ t, v = .str x t
  | .int i => ∃ t, v = .int i t
  | .bool b => v = .bool b
  | .none => v = .none
  | .val u => v = u
  | .tl xs => ∃ a, v = .ref a ∧ TL h a xs
  | .pl xs => ∃ a, v = .ref a ∧ PL h a xs
  | .bl bs => ∃ a, v = .ref a ∧ BL h a bs
  | .ll xss => ∃ a, v = .ref a ∧ LL h a xss
  | .il ns => ∃ a vs, v = .ref a ∧ h.IsList a (List.toArray vs) ∧ IntsAre vs ns
theorem Is.ext {h h' : Heap} {v : Value} {d : D} (e : Ext h h') (x : Is h v d) : Is h' v d := by
  cases d with
  | tl xs => obtain ⟨a, rfl, y⟩ := x; exact ⟨a, rfl, y.ext e⟩
  | pl xs => obtain ⟨a, rfl, y⟩ := x; exact ⟨a, rfl, y.ext e⟩
  | bl xs => obtain ⟨a, rfl, y⟩ := x; exact ⟨a, rfl, islist_ext e y⟩
  | ll xs => obtain ⟨a, rfl, y⟩ := x; exact ⟨a, rfl, y.ext e⟩
  | il ns => obtain ⟨a, vs, rfl, y, z⟩ := x; exact ⟨a, vs, rfl, islist_ext e y, z⟩
  | _ => exact x

/-- an expression's value -/
def Ev (M : Model) (A : Around) (h : Heap) (e : Expr) (env : Env) (d : D) : Prop := Runs M A h (eval e env) fun h' v => Is h' v d
/-- a test's answer -/
def Tst (M : Model) (A : Around) (h : Heap) (e : Expr) (env : Env) (b : Bool) : Prop := Runs M A h (isTrue e env (eval e env)) fun _ c => c = b
theorem Ev.up {M : Model} {A : Around} {h h' : Heap} {e : Expr} {env : Env} {d : D} (r : Ev M A h e env d) (x : Ext h h') : Ev M A h' e env d := Runs.up r x
theorem Tst.up {M : Model} {A : Around} {h h' : Heap} {e : Expr} {env : Env} {d : Bool} (r : Tst M A h e env d) (x : Ext h h') : Tst M A h' e env d := Runs.up r x

section
variable {prog : Program} {w : World} {A : Around} {h : Heap} {env : Env}

/-- a binary rule that turns no heap -/
theorem ev_const_str {x : Str} {k : Nat} {pos : Pos} : Ev (model prog w) A h (.Constant (.str x) k pos) env (.str x) :=
  .intro fun s _ _ _ hQ => Constant_str (hQ _ s.heap (s.toks + 1) (Ext.refl _) ⟨_, rfl⟩)
theorem ev_const_int {i : Int} {k : Nat} {pos : Pos} : Ev (model prog w) A h (.Constant (.int i) k pos) env (.int i) :=
  .intro fun s _ _ _ hQ => wpAny_Constant_int (hQ _ s.heap (s.toks + 1) (Ext.refl _) ⟨_, rfl⟩)
theorem ev_const_bool {b : Bool} {k : Nat} {pos : Pos} : Ev (model prog w) A h (.Constant (.bool b) k pos) env (.bool b) :=
  .intro fun s _ _ _ hQ => Constant_bool (hQ _ s.heap s.toks (Ext.refl _) rfl)
theorem ev_local {x : Str} {pos : Pos} {m : Str → Option Value} {v : Value} {d : D} (hk : env.scope.kind = .function) (hl : env.kindOf x = some .local) (hn : h.Ns env.locals m) (hv : m x = some v) (hd : Is h v d)
    (hb : (x == ("__debug__" : Str)) = false := by decide) : Ev (model prog w) A h (.Name x pos) env d :=
  .intro fun s _ _ he hQ => wpAny_Name (wpAny_loadName_local hk hl (hn.keeps he) hv (hQ _ s.heap s.toks (Ext.refl _) (hd.ext he))) hb
theorem ev_cell {x : Str} {pos : Pos} {c : Addr} {v : Value} {d : D} (hk : env.scope.kind = .function) (hl : env.kindOf x = some .cell) (hc : env.cells.lookup x = some c) (hn : h.IsCell c (some v)) (hd : Is h v d)
    (hb : (x == ("__debug__" : Str)) = false := by decide) : Ev (model prog w) A h (.Name x pos) env d :=
  .intro fun s _ _ he hQ => wpAny_Name (wpAny_loadName_cell hk hl hc (hn.keeps he) (hQ _ s.heap s.toks (Ext.refl _) (hd.ext he))) hb
theorem ev_free {x : Str} {pos : Pos} {c : Addr} {v : Value} {d : D} (hk : env.scope.kind = .function) (hl : env.kindOf x = some .free) (hc : env.cells.lookup x = some c) (hn : h.IsCell c (some v)) (hd : Is h v d)
    (hb : (x == ("__debug__" : Str)) = false := by decide) (hcd : (x == ("__classdict__" : Str)) = false := by decide) : Ev (model prog w) A h (.Name x pos) env d :=
  .intro fun s _ _ he hQ => wpAny_Name (wpAny_loadName_free hk hl hc (hn.keeps he) (hQ _ s.heap s.toks (Ext.refl _) (hd.ext he)) hcd) hb
theorem ev_global {x : Str} {pos : Pos} {mg : Str → Option Value} {v : Value} (hk : env.scope.kind = .function) (hl : env.kindOf x = some .globalImplicit) (hn : h.Ns env.globals mg) (hv : mg x = some v)
    (hb : (x == ("__debug__" : Str)) = false := by decide) : Ev (model prog w) A h (.Name x pos) env (.val v) :=
  .intro fun s _ _ he hQ => Name_function_global hk hl (loadGlobal_global (hn.keeps he) hv (hQ _ s.heap s.toks (Ext.refl _) rfl)) hb
theorem ev_builtin {x : Str} {pos : Pos} {mg mb : Str → Option Value} {v : Value} (hk : env.scope.kind = .function) (hl : env.kindOf x = some .globalImplicit) (hn : h.Ns env.globals mg) (hv : mg x = none) (hb' : h.Ns env.builtins mb) (hm : mb x = some v)
    (hb : (x == ("__debug__" : Str)) = false := by decide) : Ev (model prog w) A h (.Name x pos) env (.val v) :=
  .intro fun s _ _ he hQ => Name_function_global hk hl (loadGlobal_builtin (hn.keeps he) hv (hb'.keeps he) hm (hQ _ s.heap s.toks (Ext.refl _) rfl)) hb

/-- two parts, then a rule on their values -/
theorem ev_binop {l r : Expr} {op : Operator} {pos : Pos} {d₁ d₂ d : D} (hl : Ev (model prog w) A h l env d₁) (hr : Ev (model prog w) A h r env d₂)
    (h3 : ∀ a b h₂, Ext h h₂ → Is h₂ a d₁ → Is h₂ b d₂ → Runs (model prog w) A h₂ (binaryOp op a b) fun h' v => Is h' v d) : Ev (model prog w) A h (.BinOp l op r pos) env d :=
  .intro fun s _ _ he hQ => wpAny_BinOp (hl.use he fun a h₁ tk₁ e₁ ha => hr.use (he.trans e₁) fun b h₂ tk₂ e₂ hb =>
    (h3 a b h₂ ((he.trans e₁).trans e₂) (ha.ext e₂) hb).use (Ext.refl _) fun v h₃ tk₃ e₃ hv => hQ v h₃ tk₃ ((e₁.trans e₂).trans e₃) hv)
theorem ev_compare {l r : Expr} {op : CmpOp} {pos : Pos} {d₁ d₂ : D} {c : Bool} (hl : Ev (model prog w) A h l env d₁) (hr : Ev (model prog w) A h r env d₂)
    (h3 : ∀ a b h₂, Ext h h₂ → Is h₂ a d₁ → Is h₂ b d₂ → Runs (model prog w) A h₂ (compareOp op a b) fun _ v => v = .bool c) (hm : behindInMarks op r = false) : Ev (model prog w) A h (.Compare l [op] [r] pos) env (.bool c) :=
  .intro fun s _ _ he hQ => wpAny_Compare1 (hl.use he fun a h₁ tk₁ e₁ ha => hr.use (he.trans e₁) fun b h₂ tk₂ e₂ hb =>
    (h3 a b h₂ ((he.trans e₁).trans e₂) (ha.ext e₂) hb).use (Ext.refl _) fun v h₃ tk₃ e₃ hv => hQ v h₃ tk₃ ((e₁.trans e₂).trans e₃) hv) hm
theorem tst_compare {l r : Expr} {op : CmpOp} {pos : Pos} {d₁ d₂ : D} {c : Bool} (hl : Ev (model prog w) A h l env d₁) (hr : Ev (model prog w) A h r env d₂)
    (h3 : ∀ a b h₂, Ext h h₂ → Is h₂ a d₁ → Is h₂ b d₂ → Runs (model prog w) A h₂ (compareOp op a b) fun _ v => v = .bool c) (hm : behindInMarks op r = false) : Tst (model prog w) A h (.Compare l [op] [r] pos) env c :=
  .intro fun s _ _ he hQ => wpAny_isTrue_Compare1 (hl.use he fun a h₁ tk₁ e₁ ha => hr.use (he.trans e₁) fun b h₂ tk₂ e₂ hb =>
    (h3 a b h₂ ((he.trans e₁).trans e₂) (ha.ext e₂) hb).use (Ext.refl _) fun v h₃ tk₃ e₃ hv => by subst hv; exact wpAny_truthy_bool (hQ c h₃ tk₃ ((e₁.trans e₂).trans e₃) rfl)) hm
theorem tst_not {x : Expr} {pos : Pos} {b : Bool} (hx : Tst (model prog w) A h x env b) : Tst (model prog w) A h (.UnaryOp .Not x pos) env (!b) :=
  .intro fun s _ _ he hQ => isTrue_not (hx.use he fun v h₁ tk₁ e₁ hv => by subst hv; exact hQ _ h₁ tk₁ e₁ rfl)
theorem tst_or_nil {pos : Pos} : Tst (model prog w) A h (.BoolOp .Or [] pos) env false :=
  .intro fun s _ _ _ hQ => isTrue_or_nil (hQ _ s.heap s.toks (Ext.refl _) rfl)
theorem tst_and_nil {pos : Pos} : Tst (model prog w) A h (.BoolOp .And [] pos) env true :=
  .intro fun s _ _ _ hQ => isTrue_and_nil (hQ _ s.heap s.toks (Ext.refl _) rfl)
theorem tst_or {x : Expr} {rest : List Expr} {pos : Pos} {a b : Bool} (hx : Tst (model prog w) A h x env a) (hr : a = false → Tst (model prog w) A h (.BoolOp .Or rest pos) env b) : Tst (model prog w) A h (.BoolOp .Or (x :: rest) pos) env (a || b) :=
  .intro fun s _ _ he hQ => isTrue_or (hx.use he fun v h₁ tk₁ e₁ hv => by
    subst hv
    cases v with
    | true => exact hQ _ h₁ tk₁ e₁ rfl
    | false => exact (hr rfl).use (he.trans e₁) fun u h₂ tk₂ e₂ hu => hQ _ h₂ tk₂ (e₁.trans e₂) (by subst hu; rfl))
theorem tst_and {x : Expr} {rest : List Expr} {pos : Pos} {a b : Bool} (hx : Tst (model prog w) A h x env a) (hr : a = true → Tst (model prog w) A h (.BoolOp .And rest pos) env b) : Tst (model prog w) A h (.BoolOp .And (x :: rest) pos) env (a && b) :=
  .intro fun s _ _ he hQ => isTrue_and (hx.use he fun v h₁ tk₁ e₁ hv => by
    subst hv
    cases v with
    | false => exact hQ _ h₁ tk₁ e₁ rfl
    | true => exact (hr rfl).use (he.trans e₁) fun u h₂ tk₂ e₂ hu => hQ _ h₂ tk₂ (e₁.trans e₂) (by subst hu; rfl))
theorem tst_bool {e : Expr} {b : Bool} (hx : Ev (model prog w) A h e env (.bool b)) (he : ∀ whole, isTrue e env whole = (do let v ← whole; standAt e.pos; holding [v] (truthy v)) := by intro _; rfl) : Tst (model prog w) A h e env b :=
  .intro fun s _ _ hx' hQ => isTrue_plain (hx.use hx' fun v h₁ tk₁ e₁ hv => by obtain rfl : v = .bool b := hv; exact wpAny_truthy_bool (hQ b h₁ tk₁ e₁ rfl)) (he _)
theorem ev_ifexp {t b o : Expr} {pos : Pos} {c : Bool} {d : D} (ht : Tst (model prog w) A h t env c) (hb : c = true → Ev (model prog w) A h b env d) (ho : c = false → Ev (model prog w) A h o env d) : Ev (model prog w) A h (.IfExp t b o pos) env d :=
  .intro fun s _ _ he hQ => IfExp_ (ht.use he fun v h₁ tk₁ e₁ hv => by
    subst hv
    cases v with
    | true => exact (hb rfl).use (he.trans e₁) fun u h₂ tk₂ e₂ hu => hQ _ h₂ tk₂ (e₁.trans e₂) hu
    | false => exact (ho rfl).use (he.trans e₁) fun u h₂ tk₂ e₂ hu => hQ _ h₂ tk₂ (e₁.trans e₂) hu)
end
end Mine
end

section
open PySem PySem.W PyProof.Rows PySem.Calls
set_option Elab.async false
set_option maxRecDepth 100000
namespace Mine

abbrev testsOf (ifs : List Expr) (env : Env) : Sem Bool :=
  forIn ifs true fun c r => if r = true then do let ok ← isTrue c env (eval c env); pure (ForInStep.yield ok) else pure (ForInStep.yield r)

section
variable {prog : Program} {w : World} {A : Around} {h : Heap} {env : Env}

theorem tests_none {E : Env} {h : Heap} : Runs (model prog w) A h (testsOf [] E) fun _ ok => ok = true :=
  .intro fun s _ _ _ hQ => wpAny_tests_nil (hQ _ s.heap s.toks (Ext.refl _) rfl)
theorem tests_one {E : Env} {h : Heap} {c : Expr} {b : Bool} (ht : Tst (model prog w) A h c E b) : Runs (model prog w) A h (testsOf [c] E) fun _ ok => ok = b :=
  .intro fun _ _ _ he hQ => wpAny_tests_one (ht.use he fun v h' tk e hv => hQ v h' tk e hv)

/-- a comprehension over a list, one name -/
theorem comp_list {elt iter : Expr} {x : Str} {px : Pos} {ifs : List Expr} {scope : Scope} {cl : List (Str × Addr)} {pos : Pos} (Ok : List Value → Prop) (p : Value → Bool) (F : Value → Value → Prop)
    (hh : A.handled = none) (hclos : closureFor scope env = pure cl) (hcell : ∀ y ∈ scope.names, y.2 ≠ .cell) (hkind : scope.kind = .function)
    (hnames : ∀ y ∈ scope.names, y.2 = .local → scope.names.lookup y.1 = some .local) (hx : scope.names.lookup x = some .local)
    (hi : Runs (model prog w) A h (eval iter env) fun h' v => ∃ a items, v = .ref a ∧ h'.IsList a (List.toArray items) ∧ Ok items ∧ items.length ≤ sizeLine)
    (ht : ∀ items C v h₂ m, Ok items → v ∈ items → Ext h h₂ → h₂.Ns C m → m x = some v → Runs (model prog w) A h₂ (testsOf ifs (compEnvC scope cl C env)) fun _ ok => ok = p v)
    (he : ∀ items C v h₂ m, Ok items → v ∈ items → p v = true → Ext h h₂ → h₂.Ns C m → m x = some v → Runs (model prog w) A h₂ (eval elt (compEnvC scope cl C env)) fun _ y => F v y)
    (hs : ∀ x, foldedSetIterable iter env x = pure x := by intro _; rfl) :
    Runs (model prog w) A h (eval (.ListComp elt [⟨.Name x px, iter, ifs, 0⟩] scope pos) env) fun h' v =>
      ∃ a ys items, v = .ref a ∧ h.get? a = none ∧ h'.PlainList a (List.toArray ys) ∧ Ok items ∧ Paired F (items.filter p) ys := by
  refine .intro fun s E Q hle hQ => ?_
  refine wpAny_ListComp_free p F hclos hcell hkind hnames hx ?_ hs
  refine hi.use hle fun xv h₁ tk₁ e₁ h₁' => ?_
  obtain ⟨a, items, rfl, hl, hok, hsz⟩ := h₁'
  refine wpAny_pyIter_list hl ?_
  have hlt : a < h₁.objs.size := by obtain ⟨_, e, _⟩ := hl; exact Heap.lt_size e
  have up : Ext h₁ (h₁.push { cls := .type "list_iterator", data := .fields #[.ref a, .int 0 0] }) := fun b o e => Heap.get?_push_of_some _ e
  refine ⟨_, _, _, _, _, _, rfl, Walks.list hh h₁.objs.size a (Nat.ne_of_lt hlt) items.toArray, by simpa using hsz, ⟨⟨_, Heap.get?_push_size _ rfl, rfl, rfl⟩, hl.push _⟩, ?_, ⟨?_, ?_⟩, ?_⟩
  · intro b hb
    show b < (h₁.push _).objs.size
    rw [Heap.size_push]
    rcases List.mem_cons.mp hb with rfl | hb
    · exact Nat.lt_succ_self _
    · rw [List.mem_singleton.mp hb]; exact Nat.lt_succ_of_lt hlt
  · intro C i v s₃ m₃ E' _ hv hn hm hk _
    have e3 : Ext h s₃.heap := fun b o e => hk b o (by simpa using Nat.ne_of_lt (Heap.lt_size ((hle.trans e₁) b o e))) (up b o ((hle.trans e₁) b o e))
    exact wpAny_mono (ht items C v s₃.heap m₃ hok (List.mem_of_getElem? (by simpa using hv)) e3 hn hm s₃ E' (Ext.refl _)) (fun ok s₄ h₄ => h₄) fun _ _ x => x
  · intro C i v s₃ m₃ E' _ hv hp hn hm hk _
    have e3 : Ext h s₃.heap := fun b o e => hk b o (by simpa using Nat.ne_of_lt (Heap.lt_size ((hle.trans e₁) b o e))) (up b o ((hle.trans e₁) b o e))
    exact wpAny_mono (he items C v s₃.heap m₃ hok (List.mem_of_getElem? (by simpa using hv)) hp e3 hn hm s₃ E' (Ext.refl _)) (fun ok s₄ h₄ => h₄) fun _ _ x => x
  · intro D h' tk ys vs hD _ hl' hlen hP hF hk
    have hvs : vs = items := by
      apply List.ext_getElem?
      intro j
      cases hj : vs[j]? with
      | none =>
        have : vs.length ≤ j := by simpa using hj
        rw [hlen] at this
        exact (List.getElem?_eq_none (by simpa using this)).symm
      | some v => have := hP j v hj; simpa using this.symm
    subst hvs
    refine hQ _ h' tk (fun b o e => hk b o (by simpa using Nat.ne_of_lt (Heap.lt_size (e₁ b o e))) (up b o (e₁ b o e))) ⟨D, ys.toList, vs, rfl, ?_, by simpa using hl', hok, hF⟩
    cases e : h.get? D with
    | none => rfl
    | some o => have := up D o (e₁ D o (hle D o e)); rw [hD] at this; cases this

/-- texts to texts -/
def strP (p : Str → Bool) : Value → Bool
  | .str x _ => p x
  | _ => false
theorem strs_mem : ∀ {vs : List Value} {xs : List Str} {v : Value}, StrsAre vs xs → v ∈ vs → ∃ x t, x ∈ xs ∧ v = .str x t
  | _, _, _, .cons y t r, hm => by
    rcases List.mem_cons.mp hm with rfl | hm
    · exact ⟨y, t, List.mem_cons_self, rfl⟩
    · obtain ⟨x, u, hx, e⟩ := strs_mem r hm; exact ⟨x, u, List.mem_cons_of_mem _ hx, e⟩
theorem strs_paired {f : Str → Str} {p : Str → Bool} : ∀ {vs : List Value} {xs : List Str} {ys : List Value}, StrsAre vs xs → Paired (fun v y => ∀ x t, v = .str x t → ∃ u, y = .str (f x) u) (vs.filter (strP p)) ys → StrsAre ys ((xs.filter p).map f)
  | _, _, _, .nil, h => by cases h; exact .nil
  | _, _, _, .cons x t r, h => by
    cases hp : p x with
    | true =>
      have hs : strP p (.str x t) = true := hp
      rw [List.filter_cons_of_pos hs] at h
      rw [List.filter_cons_of_pos hp]
      cases h with | cons hy ht => obtain ⟨u, rfl⟩ := hy x t rfl; exact .cons _ _ (strs_paired r ht)
    | false =>
      have hs : ¬ strP p (.str x t) = true := by show ¬ p x = true; rw [hp]; exact Bool.false_ne_true
      rw [List.filter_cons_of_neg hs] at h
      rw [List.filter_cons_of_neg (by rw [hp]; exact Bool.false_ne_true)]
      exact strs_paired r h
theorem bools_paired {f : Str → Bool} {p : Str → Bool} : ∀ {vs : List Value} {xs : List Str} {ys : List Value}, StrsAre vs xs → Paired (fun v y => ∀ x t, v = .str x t → y = .bool (f x)) (vs.filter (strP p)) ys → ys = ((xs.filter p).map f).map Value.bool
  | _, _, _, .nil, h => by cases h; rfl
  | _, _, _, .cons x t r, h => by
    cases hp : p x with
    | true =>
      have hs : strP p (.str x t) = true := hp
      rw [List.filter_cons_of_pos hs] at h
      rw [List.filter_cons_of_pos hp]
      cases h with | cons hy ht => rw [hy x t rfl, bools_paired r ht]; rfl
    | false =>
      have hs : ¬ strP p (.str x t) = true := by show ¬ p x = true; rw [hp]; exact Bool.false_ne_true
      rw [List.filter_cons_of_neg hs] at h
      rw [List.filter_cons_of_neg (by rw [hp]; exact Bool.false_ne_true)]
      exact bools_paired r h

/-- a new list of texts -/
def NewTL (h h' : Heap) (v : Value) (xs : List Str) : Prop := ∃ a, v = .ref a ∧ h.get? a = none ∧ PL h' a xs
def NewBL (h h' : Heap) (v : Value) (xs : List Bool) : Prop := ∃ a, v = .ref a ∧ h.get? a = none ∧ BL h' a xs
theorem NewTL.is {h h' : Heap} {v : Value} {xs : List Str} (x : NewTL h h' v xs) : Is h' v (.tl xs) := let ⟨a, e, _, t⟩ := x; ⟨a, e, t.tl⟩
theorem NewTL.isp {h h' : Heap} {v : Value} {xs : List Str} (x : NewTL h h' v xs) : Is h' v (.pl xs) := let ⟨a, e, _, t⟩ := x; ⟨a, e, t⟩
theorem NewBL.is {h h' : Heap} {v : Value} {xs : List Bool} (x : NewBL h h' v xs) : Is h' v (.bl xs) := let ⟨a, e, _, t⟩ := x; ⟨a, e, t⟩

structure CompOk (scope : Scope) (env : Env) (cl : List (Str × Addr)) (x : Str) : Prop where
  clos : closureFor scope env = pure cl
  cell : ∀ y ∈ scope.names, y.2 ≠ .cell
  kind : scope.kind = .function
  names : ∀ y ∈ scope.names, y.2 = .local → scope.names.lookup y.1 = some .local
  own : scope.names.lookup x = some .local

theorem comp_tt {elt iter : Expr} {x : Str} {px : Pos} {ifs : List Expr} {scope : Scope} {cl : List (Str × Addr)} {pos : Pos} {xs : List Str} (p : Str → Bool) (f : Str → Str)
    (hh : A.handled = none) (ck : CompOk scope env cl x) (hsz : xs.length ≤ sizeLine)
    (hi : Ev (model prog w) A h iter env (.tl xs))
    (ht : ∀ C y t h₂ m, y ∈ xs → Ext h h₂ → h₂.Ns C m → m x = some (.str y t) → Runs (model prog w) A h₂ (testsOf ifs (compEnvC scope cl C env)) fun _ ok => ok = p y)
    (he : ∀ C y t h₂ m, y ∈ xs → p y = true → Ext h h₂ → h₂.Ns C m → m x = some (.str y t) → Ev (model prog w) A h₂ elt (compEnvC scope cl C env) (.str (f y)))
    (hs : ∀ x, foldedSetIterable iter env x = pure x := by intro _; rfl) :
    Runs (model prog w) A h (eval (.ListComp elt [⟨.Name x px, iter, ifs, 0⟩] scope pos) env) fun h' v => NewTL h h' v ((xs.filter p).map f) := by
  refine (comp_list (fun vs => StrsAre vs xs) (strP p) (fun v y => ∀ x t, v = .str x t → ∃ u, y = .str (f x) u) hh ck.clos ck.cell ck.kind ck.names ck.own
    (hi.conseq fun h' v _ hv => ?_) (fun items C v h₂ m hok hm e hn hx => ?_) (fun items C v h₂ m hok hm hp e hn hx => ?_) hs).conseq fun h' v _ hv => ?_
  · obtain ⟨a, rfl, vs, hl, hv⟩ := hv
    exact ⟨a, vs, rfl, hl, hv, by rw [hv.length]; exact hsz⟩
  · obtain ⟨y, t, hy, rfl⟩ := strs_mem hok hm
    exact ht C y t h₂ m hy e hn hx
  · obtain ⟨y, t, hy, rfl⟩ := strs_mem hok hm
    refine Runs.conseq (he C y t h₂ m hy hp e hn hx) fun h' v _ hv => ?_
    intro x u hxu
    cases hxu
    exact hv
  · obtain ⟨a, ys, items, rfl, hn, hl, hok, hF⟩ := hv
    exact ⟨a, rfl, hn, ys, hl, strs_paired hok hF⟩
theorem comp_tb {elt iter : Expr} {x : Str} {px : Pos} {ifs : List Expr} {scope : Scope} {cl : List (Str × Addr)} {pos : Pos} {xs : List Str} (p : Str → Bool) (f : Str → Bool)
    (hh : A.handled = none) (ck : CompOk scope env cl x) (hsz : xs.length ≤ sizeLine)
    (hi : Ev (model prog w) A h iter env (.tl xs))
    (ht : ∀ C y t h₂ m, y ∈ xs → Ext h h₂ → h₂.Ns C m → m x = some (.str y t) → Runs (model prog w) A h₂ (testsOf ifs (compEnvC scope cl C env)) fun _ ok => ok = p y)
    (he : ∀ C y t h₂ m, y ∈ xs → p y = true → Ext h h₂ → h₂.Ns C m → m x = some (.str y t) → Ev (model prog w) A h₂ elt (compEnvC scope cl C env) (.bool (f y)))
    (hs : ∀ x, foldedSetIterable iter env x = pure x := by intro _; rfl) :
    Runs (model prog w) A h (eval (.ListComp elt [⟨.Name x px, iter, ifs, 0⟩] scope pos) env) fun h' v => NewBL h h' v ((xs.filter p).map f) := by
  refine (comp_list (fun vs => StrsAre vs xs) (strP p) (fun v y => ∀ x t, v = .str x t → y = .bool (f x)) hh ck.clos ck.cell ck.kind ck.names ck.own
    (hi.conseq fun h' v _ hv => ?_) (fun items C v h₂ m hok hm e hn hx => ?_) (fun items C v h₂ m hok hm hp e hn hx => ?_) hs).conseq fun h' v _ hv => ?_
  · obtain ⟨a, rfl, vs, hl, hv⟩ := hv
    exact ⟨a, vs, rfl, hl, hv, by rw [hv.length]; exact hsz⟩
  · obtain ⟨y, t, hy, rfl⟩ := strs_mem hok hm
    exact ht C y t h₂ m hy e hn hx
  · obtain ⟨y, t, hy, rfl⟩ := strs_mem hok hm
    refine Runs.conseq (he C y t h₂ m hy hp e hn hx) fun h' v _ hv => ?_
    intro x u hxu
    cases hxu
    exact hv
  · obtain ⟨a, ys, items, rfl, hn, hl, hok, hF⟩ := hv
    refine ⟨a, rfl, hn, ?_⟩
    show h'.IsList a _
    rw [← bools_paired hok hF]; exact hl.isList
end
end Mine
end

section
open PySem PySem.W PyProof.Rows PySem.Calls
set_option Elab.async false
set_option maxRecDepth 100000
namespace Mine

theorem TL.pushed {h : Heap} {xs : List Str} {vs : List Value} {n : Nat} {a : Addr} (hv : StrsAre vs xs) (ha : h.objs.size = a) : PL (h.push { cls := .type "list", data := .seq (List.toArray vs) n }) a xs :=
  ⟨vs, ⟨_, by subst ha; exact Heap.get?_push_size _ rfl⟩, hv⟩
theorem none_size {h h' : Heap} (e : Ext h h') : h.get? h'.objs.size = none := by
  cases q : h.get? h'.objs.size with
  | none => rfl
  | some o => exact absurd (Heap.lt_size (e _ _ q)) (Nat.lt_irrefl _)
theorem none_size' {h h' : Heap} (e : Ext h h') {n : Nat} (hn : h'.objs.size ≤ n) : h.get? n = none := by
  cases q : h.get? n with
  | none => rfl
  | some o => exact absurd (Heap.lt_size (e _ _ q)) (Nat.not_lt.mpr hn)
theorem keeps_kept (s : Shared) : KeptByPush (PySem.Keeps s) := fun s' ob k ⟨h', _, e, x⟩ => by subst e; exact ⟨h'.push ob, k, rfl, fun b o q => Heap.get?_push_of_some _ (x b o q)⟩
theorem keeps_refl (s : Shared) : PySem.Keeps s s := ⟨s.heap, s.toks, rfl, fun _ _ e => e⟩

section
variable {prog : Program} {w : World} {A : Around} {h : Heap} {env : Env}

-- ints
theorem r_add {a b : Value} {x y : Int} (ha : Is h a (.int x)) (hb : Is h b (.int y)) : Runs (model prog w) A h (binaryOp .Add a b) fun h' v => Is h' v (.int (x + y)) := by
  obtain ⟨t, rfl⟩ := ha; obtain ⟨u, rfl⟩ := hb
  exact .intro fun s _ _ _ hQ => add_int (hQ _ s.heap (s.toks + 1) (Ext.refl _) ⟨_, rfl⟩)
theorem r_sub {a b : Value} {x y : Int} (ha : Is h a (.int x)) (hb : Is h b (.int y)) : Runs (model prog w) A h (binaryOp .Sub a b) fun h' v => Is h' v (.int (x - y)) := by
  obtain ⟨t, rfl⟩ := ha; obtain ⟨u, rfl⟩ := hb
  exact .intro fun s _ _ _ hQ => sub_int (hQ _ s.heap (s.toks + 1) (Ext.refl _) ⟨_, rfl⟩)
theorem r_mod {a b : Value} {x y : Int} (ha : Is h a (.int x)) (hb : Is h b (.int y)) (hy : y ≠ 0) : Runs (model prog w) A h (binaryOp .Mod a b) fun h' v => Is h' v (.int (x.fmod y)) := by
  obtain ⟨t, rfl⟩ := ha; obtain ⟨u, rfl⟩ := hb
  exact .intro fun s _ _ _ hQ => mod_int hy (hQ _ s.heap (s.toks + 1) (Ext.refl _) ⟨_, rfl⟩)
theorem r_div {a b : Value} {x y : Int} (ha : Is h a (.int x)) (hb : Is h b (.int y)) (hy : y ≠ 0) (hp : Builtin.divisionGoesByPylong x y = false) : Runs (model prog w) A h (binaryOp .FloorDiv a b) fun h' v => Is h' v (.int (x.fdiv y)) := by
  obtain ⟨t, rfl⟩ := ha; obtain ⟨u, rfl⟩ := hb
  exact .intro fun s _ _ _ hQ => floordiv_int hy (hQ _ s.heap (s.toks + 1) (Ext.refl _) ⟨_, rfl⟩) (.inl hp)
theorem r_lt {a b : Value} {x y : Int} (ha : Is h a (.int x)) (hb : Is h b (.int y)) : Runs (model prog w) A h (compareOp .Lt a b) fun _ v => v = .bool (decide (x < y)) := by
  obtain ⟨t, rfl⟩ := ha; obtain ⟨u, rfl⟩ := hb
  exact .intro fun s _ _ _ hQ => lt_int (hQ _ s.heap s.toks (Ext.refl _) rfl)
theorem r_gt {a b : Value} {x y : Int} (ha : Is h a (.int x)) (hb : Is h b (.int y)) : Runs (model prog w) A h (compareOp .Gt a b) fun _ v => v = .bool (decide (y < x)) := by
  obtain ⟨t, rfl⟩ := ha; obtain ⟨u, rfl⟩ := hb
  exact .intro fun s _ _ _ hQ => gt_int (hQ _ s.heap s.toks (Ext.refl _) rfl)
theorem r_ge {a b : Value} {x y : Int} (ha : Is h a (.int x)) (hb : Is h b (.int y)) : Runs (model prog w) A h (compareOp .GtE a b) fun _ v => v = .bool (decide (y ≤ x)) := by
  obtain ⟨t, rfl⟩ := ha; obtain ⟨u, rfl⟩ := hb
  exact .intro fun s _ _ _ hQ => ge_int (hQ _ s.heap s.toks (Ext.refl _) rfl)
theorem r_eqi {a b : Value} {x y : Int} (ha : Is h a (.int x)) (hb : Is h b (.int y)) : Runs (model prog w) A h (compareOp .Eq a b) fun _ v => v = .bool (x == y) := by
  obtain ⟨t, rfl⟩ := ha; obtain ⟨u, rfl⟩ := hb
  exact .intro fun s _ _ _ hQ => eq_int (hQ _ s.heap s.toks (Ext.refl _) rfl)

-- texts
theorem str_beq (x y : Str) : (x.cps.toList == y.cps.toList) = (x == y) := by
  cases hxy : x == y with
  | true => have := eq_of_beq hxy; subst this; simp
  | false =>
    have hne : x ≠ y := fun e => by subst e; simp at hxy
    simp only [beq_eq_false_iff_ne, ne_eq]
    intro e
    apply hne
    cases x; cases y
    simp only at e
    rw [Str.mk.injEq]
    exact Array.toList_inj.mp e
theorem str_bne (x y : Str) : (x.cps.toList != y.cps.toList) = (x != y) := by unfold bne; rw [str_beq]
theorem r_eqs {a b : Value} {x y : Str} (ha : Is h a (.str x)) (hb : Is h b (.str y)) : Runs (model prog w) A h (compareOp .Eq a b) fun _ v => v = .bool (x == y) := by
  obtain ⟨t, rfl⟩ := ha; obtain ⟨u, rfl⟩ := hb
  exact .intro fun s _ _ _ hQ => eq_str (hQ _ s.heap s.toks (Ext.refl _) rfl)
theorem r_nes {a b : Value} {x y : Str} (ha : Is h a (.str x)) (hb : Is h b (.str y)) : Runs (model prog w) A h (compareOp .NotEq a b) fun _ v => v = .bool (x != y) := by
  obtain ⟨t, rfl⟩ := ha; obtain ⟨u, rfl⟩ := hb
  exact .intro fun s _ _ _ hQ => ne_str (hQ _ s.heap s.toks (Ext.refl _) rfl)
theorem r_adds {a b : Value} {x y : Str} (ha : Is h a (.str x)) (hb : Is h b (.str y)) (hz : x.length + y.length ≤ sizeLine) : Runs (model prog w) A h (binaryOp .Add a b) fun h' v => Is h' v (.str (x ++ y)) := by
  obtain ⟨t, rfl⟩ := ha; obtain ⟨u, rfl⟩ := hb
  exact .intro fun s _ _ _ hQ => add_str (fun t' tk => hQ _ s.heap tk (Ext.refl _) ⟨_, rfl⟩) hz

-- lists of texts
theorem r_in {a b : Value} {k : Str} {ys : List Str} (ha : Is h a (.str k)) (hb : Is h b (.tl ys)) : Runs (model prog w) A h (compareOp .In a b) fun _ v => v = .bool (ys.any (· == k)) := by
  obtain ⟨t, rfl⟩ := ha; obtain ⟨l, rfl, vs, hl, hv⟩ := hb
  exact .intro fun s _ _ he hQ => in_list_strs (islist_ext he hl) hv (hQ _ s.heap s.toks (Ext.refl _) rfl)
theorem r_notin {a b : Value} {k : Str} {ys : List Str} (ha : Is h a (.str k)) (hb : Is h b (.tl ys)) : Runs (model prog w) A h (compareOp .NotIn a b) fun _ v => v = .bool (!ys.any (· == k)) := by
  obtain ⟨t, rfl⟩ := ha; obtain ⟨l, rfl, vs, hl, hv⟩ := hb
  exact .intro fun s _ _ he hQ => notin_list_strs (islist_ext he hl) hv (hQ _ s.heap s.toks (Ext.refl _) rfl)
theorem r_addl {a b : Value} {xs ys : List Str} (ha : Is h a (.tl xs)) (hb : Is h b (.tl ys)) (hz : xs.length + ys.length ≤ sizeLine) : Runs (model prog w) A h (binaryOp .Add a b) fun h' v => NewTL h h' v (xs ++ ys) := by
  obtain ⟨l, rfl, vs, hl, hv⟩ := ha; obtain ⟨b, rfl, ws, hb, hw⟩ := hb
  refine .intro fun s _ _ he hQ => ?_
  obtain ⟨⟨cls, dd, data, sl⟩, ho, hc, n, hd⟩ := islist_ext he hl
  obtain ⟨⟨cls2, dd2, data2, sl2⟩, ho2, hc2, n2, hd2⟩ := islist_ext he hb
  simp only at hc hd hc2 hd2
  subst hc hd hc2 hd2
  have e : vs.toArray ++ ws.toArray = (vs ++ ws).toArray := by simp
  refine concat_meets ⟨_, ho, rfl⟩ ⟨_, ho2, rfl⟩ noFill_list_add seq_list_add PySem.F.slot_list_add PySem.F.entry_list_add (PySem.F.args_list_add_2 _ _) (list_addW l b vs.toArray ws.toArray n n2 dd dd2 sl sl2 (by simpa [hv.length, hw.length] using hz)) ⟨ho, ho2, ?_⟩
  rw [e]
  exact hQ _ _ s.toks ((Ext.refl _).push _) ⟨_, rfl, none_size he, TL.pushed (StrsAre.append' hv hw) rfl⟩

-- a list of ints and a written list of ints
theorem r_addi {a b : Value} {xs ys : List Int} (ha : Is h a (.il xs)) (hb : Is h b (.il ys)) (hz : xs.length + ys.length ≤ sizeLine) : Runs (model prog w) A h (binaryOp .Add a b) fun h' v => Is h' v (.il (xs ++ ys)) := by
  obtain ⟨l, vs, rfl, hl, hv⟩ := ha; obtain ⟨b, ws, rfl, hb, hw⟩ := hb
  refine .intro fun s _ _ he hQ => ?_
  obtain ⟨⟨cls, dd, data, sl⟩, ho, hc, n, hd⟩ := islist_ext he hl
  obtain ⟨⟨cls2, dd2, data2, sl2⟩, ho2, hc2, n2, hd2⟩ := islist_ext he hb
  simp only at hc hd hc2 hd2
  subst hc hd hc2 hd2
  have e : vs.toArray ++ ws.toArray = (vs ++ ws).toArray := by simp
  refine concat_meets ⟨_, ho, rfl⟩ ⟨_, ho2, rfl⟩ noFill_list_add seq_list_add PySem.F.slot_list_add PySem.F.entry_list_add (PySem.F.args_list_add_2 _ _) (list_addW l b vs.toArray ws.toArray n n2 dd dd2 sl sl2 (by simpa [hv.length, hw.length] using hz)) ⟨ho, ho2, ?_⟩
  rw [e]
  exact hQ _ _ s.toks ((Ext.refl _).push _) ⟨_, vs ++ ws, rfl, ⟨_, Heap.get?_push_size _ rfl, rfl, _, rfl⟩, hv.append hw⟩

-- equality
theorem carried_strs : ∀ {vs : List Value} {xs : List Str}, StrsAre vs xs → CarriedAll vs (xs.map PyData.str)
  | _, _, .nil => .nil
  | _, _, .cons _ t r => .cons (.str _ t) (carried_strs r)
/-- texts of everyday signs -/
def TOk (xs : List Str) : Prop := ∀ x ∈ xs, PyData.strOk x = true
theorem canLay_strs : ∀ {xs : List Str}, TOk xs → PyData.canLayAll0 (xs.map PyData.str) = true
  | [], _ => rfl
  | x :: r, hk => by simp [PyData.canLayAll0, PyData.canLay0, canLay_strs (xs := r) (fun y hy => hk y (List.mem_cons_of_mem _ hy)), hk x List.mem_cons_self]
theorem depth_strs : ∀ xs : List Str, PyData.depthAll (xs.map PyData.str) = 0
  | [] => rfl
  | _ :: r => by simp [PyData.depthAll, PyData.depth, depth_strs r]
theorem shaped_strs {xs : List Str} (hk : TOk xs) : SeqAt.shaped (.list (xs.map PyData.str)) = true := by
  simp [SeqAt.shaped, PyData.canLay0, PyData.depth, canLay_strs hk, depth_strs]
theorem eqv_strs : ∀ xs ys : List Str, PyData.eqvAll (xs.map PyData.str) (ys.map PyData.str) = (xs == ys)
  | [], [] => by simp [PyData.eqvAll]
  | [], _ :: _ => by simp [PyData.eqvAll]
  | _ :: _, [] => by simp [PyData.eqvAll]
  | a :: r, b :: t => by
    simp only [List.map_cons, PyData.eqvAll, PyData.eqv, eqv_strs r t]
    rfl
theorem TL.reads {h : Heap} {a : Addr} {xs : List Str} (x : TL h a xs) : Reads h (.ref a) (.list (xs.map PyData.str)) [a] := let ⟨_, hl, hv⟩ := x; reads_newData hl (carried_strs hv)
theorem r_eql {a b : Value} {xs ys : List Str} (ha : Is h a (.tl xs)) (hb : Is h b (.tl ys)) (hu : A.units + 64 < cLine) (kx : TOk xs) (ky : TOk ys) : Runs (model prog w) A h (compareOp .Eq a b) fun _ v => v = .bool (xs == ys) := by
  obtain ⟨l, rfl, ha⟩ := ha; obtain ⟨b, rfl, hb⟩ := hb
  exact .intro fun s _ _ he hQ => eq_dataH (ha.ext he).reads (hb.ext he).reads (shaped_strs kx) (shaped_strs ky) hu (hQ _ s.heap s.toks (Ext.refl _) (by show Value.bool (PyData.eqvAll _ _) = _; rw [eqv_strs]))
theorem r_nel {a b : Value} {xs ys : List Str} (ha : Is h a (.tl xs)) (hb : Is h b (.tl ys)) (hu : A.units + 64 < cLine) (kx : TOk xs) (ky : TOk ys) : Runs (model prog w) A h (compareOp .NotEq a b) fun _ v => v = .bool (xs != ys) := by
  obtain ⟨l, rfl, ha⟩ := ha; obtain ⟨b, rfl, hb⟩ := hb
  exact .intro fun s _ _ he hQ => ne_dataH (ha.ext he).reads (hb.ext he).reads (shaped_strs kx) (shaped_strs ky) hu (hQ _ s.heap s.toks (Ext.refl _) (by show Value.bool (!PyData.eqvAll _ _) = _; rw [eqv_strs]; rfl))
theorem carried_bools : ∀ bs : List Bool, CarriedAll (bs.map Value.bool) (bs.map PyData.bool)
  | [] => .nil
  | b :: r => .cons (.bool b) (carried_bools r)
theorem canLay_bools : ∀ xs : List Bool, PyData.canLayAll0 (xs.map PyData.bool) = true
  | [] => rfl
  | _ :: r => by simp [PyData.canLayAll0, PyData.canLay0, canLay_bools r]
theorem depth_bools : ∀ xs : List Bool, PyData.depthAll (xs.map PyData.bool) = 0
  | [] => rfl
  | _ :: r => by simp [PyData.depthAll, PyData.depth, depth_bools r]
theorem shaped_bools (xs : List Bool) : SeqAt.shaped (.list (xs.map PyData.bool)) = true := by
  simp [SeqAt.shaped, PyData.canLay0, PyData.depth, canLay_bools, depth_bools]
theorem eqv_bools : ∀ xs ys : List Bool, PyData.eqvAll (xs.map PyData.bool) (ys.map PyData.bool) = (xs == ys)
  | [], [] => by simp [PyData.eqvAll]
  | [], _ :: _ => by simp [PyData.eqvAll]
  | _ :: _, [] => by simp [PyData.eqvAll]
  | a :: r, b :: t => by
    simp only [List.map_cons, PyData.eqvAll, PyData.eqv, eqv_bools r t]
    rfl
theorem r_neb {a b : Value} {xs ys : List Bool} (ha : Is h a (.bl xs)) (hb : Is h b (.bl ys)) (hu : A.units + 64 < cLine) : Runs (model prog w) A h (compareOp .NotEq a b) fun _ v => v = .bool (xs != ys) := by
  obtain ⟨l, rfl, ha⟩ := ha; obtain ⟨b, rfl, hb⟩ := hb
  exact .intro fun s _ _ he hQ => ne_dataH (reads_newData (islist_ext he ha) (carried_bools xs)) (reads_newData (islist_ext he hb) (carried_bools ys)) (shaped_bools _) (shaped_bools _) hu (hQ _ s.heap s.toks (Ext.refl _) (by show Value.bool (!PyData.eqvAll _ _) = _; rw [eqv_bools]; rfl))

-- calls
theorem ev_call1 {func e : Expr} {pos : Pos} {f : Addr} {o : Obj} {fd : FuncData} {d : D} {R : Heap → Value → Prop} (hf : Ev (model prog w) A h func env (.val (.ref f))) (ho : h.get? f = some o) (hdat : o.data = .func fd)
    (he : Ev (model prog w) A h e env d) (hc : ∀ a h₂, Ext h h₂ → Is h₂ a d → Runs (model prog w) A h₂ (call (.ref f) [a]) R)
    (he1 : eval (.Call func [e] [] pos) env = (do callWith pos (← eval func env) [] (backTo pos (starEach [e] env)) (backToKw pos (keywordEach [] env))) := by rfl)
    (he2 : starEach [e] env = (false, eval e env) :: starEach [] env := by rfl) : Runs (model prog w) A h (eval (.Call func [e] [] pos) env) R := by
  refine .intro fun s E Q hle hQ => Call_ (hf.use hle fun v h₁ tk₁ e₁ hv => ?_) he1
  obtain rfl : v = .ref f := hv
  refine callWith_def hdat ?_ he2
  refine args_cons ?_ he2
  refine he.use (hle.trans e₁) fun a h₂ tk₂ e₂ ha => args_nil ⟨((hle.trans e₁).trans e₂) _ _ ho, ?_⟩
  exact (hc a h₂ ((hle.trans e₁).trans e₂) ha).use (Ext.refl _) fun u h₃ tk₃ e₃ hu => hQ u h₃ tk₃ ((e₁.trans e₂).trans e₃) hu
theorem ev_call2 {func e e' : Expr} {pos : Pos} {f : Addr} {o : Obj} {fd : FuncData} {d d' : D} {R : Heap → Value → Prop} (hf : Ev (model prog w) A h func env (.val (.ref f))) (ho : h.get? f = some o) (hdat : o.data = .func fd)
    (he : Ev (model prog w) A h e env d) (he' : Ev (model prog w) A h e' env d') (hc : ∀ a b h₂, Ext h h₂ → Is h₂ a d → Is h₂ b d' → Runs (model prog w) A h₂ (call (.ref f) [a, b]) R)
    (he1 : eval (.Call func [e, e'] [] pos) env = (do callWith pos (← eval func env) [] (backTo pos (starEach [e, e'] env)) (backToKw pos (keywordEach [] env))) := by rfl)
    (he2 : starEach [e, e'] env = (false, eval e env) :: starEach [e'] env := by rfl) (he3 : starEach [e'] env = (false, eval e' env) :: starEach [] env := by rfl) : Runs (model prog w) A h (eval (.Call func [e, e'] [] pos) env) R := by
  refine .intro fun s E Q hle hQ => Call_ (hf.use hle fun v h₁ tk₁ e₁ hv => ?_) he1
  obtain rfl : v = .ref f := hv
  refine callWith_def hdat ?_ he2
  refine args_cons ?_ he2
  refine he.use (hle.trans e₁) fun a h₂ tk₂ e₂ ha => args_cons ?_ he3
  refine he'.use ((hle.trans e₁).trans e₂) fun b h₃ tk₃ e₃ hb => args_nil ⟨(((hle.trans e₁).trans e₂).trans e₃) _ _ ho, ?_⟩
  exact (hc a b h₃ (((hle.trans e₁).trans e₂).trans e₃) (ha.ext e₃) hb).use (Ext.refl _) fun u h₄ tk₄ e₄ hu => hQ u h₄ tk₄ (((e₁.trans e₂).trans e₃).trans e₄) hu
theorem ev_bcall1 {func e : Expr} {pos : Pos} {id : String} {d : D} {R : Heap → Value → Prop} (hf : Ev (model prog w) A h func env (.val (.builtin id)))
    (he : Ev (model prog w) A h e env d) (hc : ∀ a h₂, Ext h h₂ → Is h₂ a d → Runs (model prog w) A h₂ (call (.builtin id) [a]) R)
    (he1 : eval (.Call func [e] [] pos) env = (do callWith pos (← eval func env) [] (backTo pos (starEach [e] env)) (backToKw pos (keywordEach [] env))) := by rfl)
    (he2 : starEach [e] env = (false, eval e env) :: starEach [] env := by rfl) : Runs (model prog w) A h (eval (.Call func [e] [] pos) env) R := by
  refine .intro fun s E Q hle hQ => Call_ (hf.use hle fun v h₁ tk₁ e₁ hv => ?_) he1
  obtain rfl : v = .builtin id := hv
  refine PyProof.Rows.callWith_builtin1 ?_ he2 rfl
  refine args_cons ?_ he2
  refine he.use (hle.trans e₁) fun a h₂ tk₂ e₂ ha => args_nil ?_
  exact (hc a h₂ ((hle.trans e₁).trans e₂) ha).use (Ext.refl _) fun u h₃ tk₃ e₃ hu => hQ u h₃ tk₃ ((e₁.trans e₂).trans e₃) hu
theorem ev_bcall2 {func e e' : Expr} {pos : Pos} {id : String} {d d' : D} {R : Heap → Value → Prop} (hf : Ev (model prog w) A h func env (.val (.builtin id)))
    (he : Ev (model prog w) A h e env d) (he' : Ev (model prog w) A h e' env d') (hc : ∀ a b h₂, Ext h h₂ → Is h₂ a d → Is h₂ b d' → Runs (model prog w) A h₂ (call (.builtin id) [a, b]) R)
    (he1 : eval (.Call func [e, e'] [] pos) env = (do callWith pos (← eval func env) [] (backTo pos (starEach [e, e'] env)) (backToKw pos (keywordEach [] env))) := by rfl)
    (he2 : starEach [e, e'] env = (false, eval e env) :: starEach [e'] env := by rfl) (he3 : starEach [e'] env = (false, eval e' env) :: starEach [] env := by rfl) : Runs (model prog w) A h (eval (.Call func [e, e'] [] pos) env) R := by
  refine .intro fun s E Q hle hQ => Call_ (hf.use hle fun v h₁ tk₁ e₁ hv => ?_) he1
  obtain rfl : v = .builtin id := hv
  refine PyProof.Rows.callWith_builtin1 ?_ he2 (by rw [he3]; rfl)
  refine args_cons ?_ he2
  refine he.use (hle.trans e₁) fun a h₂ tk₂ e₂ ha => args_cons ?_ he3
  refine he'.use ((hle.trans e₁).trans e₂) fun b h₃ tk₃ e₃ hb => args_nil ?_
  exact (hc a b h₃ (((hle.trans e₁).trans e₂).trans e₃) (ha.ext e₃) hb).use (Ext.refl _) fun u h₄ tk₄ e₄ hu => hQ u h₄ tk₄ (((e₁.trans e₂).trans e₃).trans e₄) hu

-- methods of a text
theorem fit_of {n : Nat} (hz : n ≤ sizeLine) : Builtin.Str.tooLong n = false := by
  unfold Builtin.Str.tooLong
  simpa using hz
theorem ev_lower {o : Expr} {apos pos : Pos} {x : Str} (ho : Ev (model prog w) A h o env (.str x)) (hz : (Txt.lower x).length ≤ sizeLine)
    (hbase : attributeBase o "lower" env (eval o env) = eval o env) (hline : (apos.endLine == pos.line) = true) : Ev (model prog w) A h (.Call (.Attribute o "lower" apos) [] [] pos) env (.str (Txt.lower x)) :=
  .intro fun s _ _ he hQ => Call_method0 hbase hline (ho.use he fun v h₁ tk₁ e₁ hv => by
    obtain ⟨t, rfl⟩ := hv
    exact SB.lower (fit_of hz) (hQ _ h₁ (tk₁ + 1) e₁ ⟨_, rfl⟩))
theorem ev_upper {o : Expr} {apos pos : Pos} {x : Str} (ho : Ev (model prog w) A h o env (.str x)) (hz : (Txt.upper x).length ≤ sizeLine)
    (hbase : attributeBase o "upper" env (eval o env) = eval o env) (hline : (apos.endLine == pos.line) = true) : Ev (model prog w) A h (.Call (.Attribute o "upper" apos) [] [] pos) env (.str (Txt.upper x)) :=
  .intro fun s _ _ he hQ => Call_method0 hbase hline (ho.use he fun v h₁ tk₁ e₁ hv => by
    obtain ⟨t, rfl⟩ := hv
    exact SB.upper (fit_of hz) (hQ _ h₁ (tk₁ + 1) e₁ ⟨_, rfl⟩))
theorem ev_startswith {o e : Expr} {apos pos : Pos} {x y : Str} (ho : Ev (model prog w) A h o env (.str x)) (hy : Ev (model prog w) A h e env (.str y))
    (hbase : attributeBase o "startswith" env (eval o env) = eval o env) (hs : starEach [e] env = [(false, eval e env)]) (hline : (apos.endLine == pos.line) = true) : Ev (model prog w) A h (.Call (.Attribute o "startswith" apos) [e] [] pos) env (.bool (Txt.startswith x y)) :=
  .intro fun s _ _ he hQ => Call_method1 hbase hs hline (ho.use he fun v h₁ tk₁ e₁ hv => by
    obtain ⟨t, rfl⟩ := hv
    exact SB.startswith (hy.use (he.trans e₁) fun u h₂ tk₂ e₂ hu => by obtain ⟨t', rfl⟩ := hu; exact ⟨_, _, rfl, hQ _ h₂ tk₂ (e₁.trans e₂) rfl⟩))
theorem ev_endswith {o e : Expr} {apos pos : Pos} {x y : Str} (ho : Ev (model prog w) A h o env (.str x)) (hy : Ev (model prog w) A h e env (.str y))
    (hbase : attributeBase o "endswith" env (eval o env) = eval o env) (hs : starEach [e] env = [(false, eval e env)]) (hline : (apos.endLine == pos.line) = true) : Ev (model prog w) A h (.Call (.Attribute o "endswith" apos) [e] [] pos) env (.bool (Txt.endswith x y)) :=
  .intro fun s _ _ he hQ => Call_method1 hbase hs hline (ho.use he fun v h₁ tk₁ e₁ hv => by
    obtain ⟨t, rfl⟩ := hv
    exact SB.endswith (hy.use (he.trans e₁) fun u h₂ tk₂ e₂ hu => by obtain ⟨t', rfl⟩ := hu; exact ⟨_, _, rfl, hQ _ h₂ tk₂ (e₁.trans e₂) rfl⟩))
theorem ev_find {o e : Expr} {apos pos : Pos} {x y : Str} (ho : Ev (model prog w) A h o env (.str x)) (hy : Ev (model prog w) A h e env (.str y))
    (hbase : attributeBase o "find" env (eval o env) = eval o env) (hs : starEach [e] env = [(false, eval e env)]) (hline : (apos.endLine == pos.line) = true) : Ev (model prog w) A h (.Call (.Attribute o "find" apos) [e] [] pos) env (.int (Txt.find x y)) :=
  .intro fun s _ _ he hQ => Call_method1 hbase hs hline (ho.use he fun v h₁ tk₁ e₁ hv => by
    obtain ⟨t, rfl⟩ := hv
    exact SB.find (hy.use (he.trans e₁) fun u h₂ tk₂ e₂ hu => by obtain ⟨t', rfl⟩ := hu; exact ⟨_, _, rfl, hQ _ h₂ (tk₂ + 1) (e₁.trans e₂) ⟨_, rfl⟩⟩))
theorem strsAre_vals {l : List (Str × Tok)} {xs : List Str} (e : l.map (·.1) = xs) : StrsAre (strValues l) xs := e ▸ PyProof.Rows.strsAre_of_values l
theorem ev_split {o e : Expr} {apos pos : Pos} {x y : Str} (ho : Ev (model prog w) A h o env (.str x)) (hy : Ev (model prog w) A h e env (.str y)) (hne : (y.length == 0) = false) (hx : x.length ≤ sizeLine)
    (hn : (Builtin.Str.partsBetween x (Builtin.Str.occurrences x y 0 x.length (x.length + 1)) y.length).length ≤ sizeLine)
    (hbase : attributeBase o "split" env (eval o env) = eval o env) (hs : starEach [e] env = [(false, eval e env)]) (hline : (apos.endLine == pos.line) = true) : Ev (model prog w) A h (.Call (.Attribute o "split" apos) [e] [] pos) env (.tl (Txt.split x y)) :=
  .intro fun s _ _ he hQ => Call_method1 hbase hs hline (ho.use he fun v h₁ tk₁ e₁ hv => by
    obtain ⟨t, rfl⟩ := hv
    refine SBG.split1 (keeps_kept { s with heap := h₁, toks := tk₁ }) (hy.use (he.trans e₁) fun u h₂ tk₂ e₂ hu => ?_) hx
    obtain ⟨t', rfl⟩ := hu
    refine ⟨_, _, rfl, hne, ⟨h₂, tk₂, rfl, e₂⟩, hn, fun D l s' hl hk hL => ?_⟩
    obtain ⟨h', tk, rfl, e3⟩ := hk
    exact hQ _ h' tk (e₁.trans e3) ⟨D, rfl, _, hL, strsAre_vals hl⟩)
theorem ev_join {o e : Expr} {apos pos : Pos} {x : Str} {ys : List Str} (ho : Ev (model prog w) A h o env (.str x)) (hy : Ev (model prog w) A h e env (.tl ys)) (hok : (ys.map (·.length)).sum + ys.length * x.length ≤ 16777216)
    (hbase : attributeBase o "join" env (eval o env) = eval o env) (hs : starEach [e] env = [(false, eval e env)]) (hline : (apos.endLine == pos.line) = true) : Ev (model prog w) A h (.Call (.Attribute o "join" apos) [e] [] pos) env (.str (Txt.join x ys)) :=
  .intro fun s _ _ he hQ => Call_method1 hbase hs hline (ho.use he fun v h₁ tk₁ e₁ hv => by
    obtain ⟨t, rfl⟩ := hv
    refine ⟨"str", _, F.plainAttrs_str, F.slot_str_join, F.type_str_join, typeIs_str _ _ _, (fun _ e => nomatch e), ?_⟩
    refine callWith_builtin rfl (evalArgs_plain (spliced_cons (hy.use (he.trans e₁) fun u h₂ tk₂ e₂ hu => spliced_nil ?_)))
    obtain ⟨a, rfl, vs, hl, hv⟩ := hu
    exact join_list hl (by simpa using hv) hok fun t' k => hQ _ h₂ k (e₁.trans e₂) ⟨_, rfl⟩)
end
end Mine
end

section
open PySem PySem.W PyProof.Rows PySem.Calls
set_option Elab.async false
set_option maxRecDepth 100000
namespace Mine

section
variable {prog : Program} {w : World} {A : Around} {h : Heap} {env : Env}

theorem list_pushed {h : Heap} {vs : List Value} {n : Nat} {a : Addr} (ha : h.objs.size = a) : (h.push { cls := .type "list", data := .seq (List.toArray vs) n }).IsList a (List.toArray vs) :=
  ⟨_, by subst ha; exact Heap.get?_push_size _ rfl, rfl, _, rfl⟩
theorem plain_pushed {h : Heap} {vs : List Value} {n : Nat} {a : Addr} (ha : h.objs.size = a) : (h.push { cls := .type "list", data := .seq (List.toArray vs) n }).PlainList a (List.toArray vs) :=
  ⟨_, by subst ha; exact Heap.get?_push_size _ rfl⟩
theorem ev_subscript {value slice : Expr} {pos : Pos} {d₁ d₂ : D} {R : Heap → Value → Prop} (hv : Ev (model prog w) A h value env d₁) (hs : Ev (model prog w) A h slice env d₂)
    (h3 : ∀ o i h₂, Ext h h₂ → Is h₂ o d₁ → Is h₂ i d₂ → Runs (model prog w) A h₂ (subscriptTail value slice o i) R) : Runs (model prog w) A h (eval (.Subscript value slice pos) env) R :=
  .intro fun s _ _ he hQ => Subscript_ (hv.use he fun o h₁ tk₁ e₁ ho => hs.use (he.trans e₁) fun i h₂ tk₂ e₂ hi =>
    (h3 o i h₂ ((he.trans e₁).trans e₂) (ho.ext e₂) hi).use (Ext.refl _) fun v h₃ tk₃ e₃ hv => hQ v h₃ tk₃ ((e₁.trans e₂).trans e₃) hv)

theorem r_item_str {value slice : Expr} {o i : Value} {x : Str} {k : Int} (ho : Is h o (.str x)) (hi : Is h i (.int k)) (hr : fitsSsize k = true) (h1 : -(x.length : Int) ≤ k) (h2 : k < (x.length : Int))
    (hs : ∀ o i, subscripted slice false o i = operate [o, i] (getItem o i)) (ht : ∀ x t r, letTemporaryGo value (.str x t) r = pure ()) :
    Runs (model prog w) A h (subscriptTail value slice o i) fun h' v => Is h' v (.str (Txt.item x k)) := by
  obtain ⟨t, rfl⟩ := ho; obtain ⟨u, rfl⟩ := hi
  exact .intro fun s _ _ _ hQ => item_str hr h1 h2 (fun _ => hQ _ s.heap (s.toks + 1) (Ext.refl _) ⟨_, rfl⟩) (hs _ _) (ht _ _)
theorem r_item_list {value slice : Expr} {i : Value} {l : Addr} {vs : List Value} {k : Int} {x : Value} (hl : h.IsList l (List.toArray vs)) (hi : Is h i (.int k)) (h0 : 0 ≤ k) (hf : k < 2 ^ 63) (hx : vs[k.toNat]? = some x)
    (hs : ∀ o i, subscripted slice false o i = operate [o, i] (getItem o i)) : Runs (model prog w) A h (subscriptTail value slice (.ref l) i) fun _ v => v = x := by
  obtain ⟨u, rfl⟩ := hi
  exact .intro fun s _ _ he hQ => tail_any (islist_ext he hl).typeIs list_getitem_lookup (wpAny_getItem_list (islist_ext he hl) h0 hf (by simpa using hx) (hQ _ s.heap s.toks (Ext.refl _) rfl)) (hs _ _)
theorem r_item_list_neg {value slice : Expr} {i : Value} {l : Addr} {vs : List Value} {k : Int} {x : Value} (hl : h.IsList l (List.toArray vs)) (hi : Is h i (.int k)) (h0 : k < 0) (h1 : -(vs.length : Int) ≤ k) (hf : -2 ^ 63 ≤ k) (hx : vs[(k + (vs.length : Int)).toNat]? = some x)
    (hs : ∀ o i, subscripted slice false o i = operate [o, i] (getItem o i)) : Runs (model prog w) A h (subscriptTail value slice (.ref l) i) fun _ v => v = x := by
  obtain ⟨u, rfl⟩ := hi
  exact .intro fun s _ _ he hQ => tail_any (islist_ext he hl).typeIs list_getitem_lookup (wpAny_getItem_list_neg (islist_ext he hl) h0 (by simpa using h1) hf (by simpa using hx) (hQ _ s.heap s.toks (Ext.refl _) rfl)) (hs _ _)

theorem ev_neg {x : Expr} {pos : Pos} {k : Int} (hx : Ev (model prog w) A h x env (.int k)) : Ev (model prog w) A h (.UnaryOp .USub x pos) env (.int (-k)) :=
  .intro fun s _ _ he hQ => UnaryOp_ (hx.use he fun v h₁ tk₁ e₁ hv => by obtain ⟨t, rfl⟩ := hv; exact neg_int (hQ _ h₁ (tk₁ + 1) e₁ ⟨_, rfl⟩))

-- slices of a list
theorem ev_slice_to {value e : Expr} {p pos : Pos} {xs : List Str} {k : Int} (hv : Ev (model prog w) A h value env (.tl xs)) (hk : Ev (model prog w) A h e env (.int k)) (h0 : 0 ≤ k) (hz : xs.length ≤ sizeLine)
    (ht : ∀ o r, letTemporaryGo value o r = pure ()) : Runs (model prog w) A h (eval (.Subscript value (.Slice none (some e) none p) pos) env) fun h' v => NewTL h h' v (xs.take k.toNat) :=
  .intro fun s _ _ he hQ => wpAny_Subscript_list_slice (hv.use he fun o h₁ tk₁ e₁ ho => wpAny_evalPart_none (wpAny_evalPart_some (hk.use (he.trans e₁) fun i h₂ tk₂ e₂ hi => by
    obtain ⟨l, rfl, vs, hl, hx⟩ := ho.ext e₂
    obtain ⟨t, rfl⟩ := hi
    refine ⟨l, _, none, some k, rfl, hl, by simpa [hx.length] using hz, by first | exact rfl | constructor, by first | exact rfl | constructor, ?_⟩
    have e : slicePick (List.toArray vs) none (some k) none = (vs.take k.toNat).toArray := by
      have e : sliceBounds none (some k) none vs.toArray.size = (((0 : Nat) : Int), ((min k.toNat vs.toArray.size : Nat) : Int), 1) := by
        simp only [sliceBounds, Option.getD_none, show (1 : Int) > 0 by decide, if_true, if_neg (show ¬ (k < 0) by omega)]
        congr 1; congr 1; omega
      rw [kmk_pick_nat _ e]
      show ((vs.drop 0).take (min k.toNat vs.toArray.size - 0)).toArray = _
      rw [List.drop_zero, Nat.sub_zero, List.size_toArray, kmk_take_min]
    rw [e]
    exact hQ _ _ tk₂ (((e₁.trans e₂).push _).push _) ⟨_, rfl, none_size' ((he.trans e₁).trans e₂) (Nat.le_succ _), TL.pushed (hx.take' _) (Heap.size_push _ _)⟩))) ht
theorem ev_slice_from {value e : Expr} {p pos : Pos} {xs : List Str} {k : Int} (hv : Ev (model prog w) A h value env (.tl xs)) (hk : Ev (model prog w) A h e env (.int k)) (h0 : 0 ≤ k) (hz : xs.length ≤ sizeLine)
    (ht : ∀ o r, letTemporaryGo value o r = pure ()) : Runs (model prog w) A h (eval (.Subscript value (.Slice (some e) none none p) pos) env) fun h' v => NewTL h h' v (xs.drop k.toNat) :=
  .intro fun s _ _ he hQ => wpAny_Subscript_list_slice (hv.use he fun o h₁ tk₁ e₁ ho => wpAny_evalPart_some (hk.use (he.trans e₁) fun i h₂ tk₂ e₂ hi => wpAny_evalPart_none (by
    obtain ⟨l, rfl, vs, hl, hx⟩ := ho.ext e₂
    obtain ⟨t, rfl⟩ := hi
    refine ⟨l, _, some k, none, rfl, hl, by simpa [hx.length] using hz, by first | exact rfl | constructor, by first | exact rfl | constructor, ?_⟩
    have e : slicePick (List.toArray vs) (some k) none none = (vs.drop k.toNat).toArray := by
      have e : sliceBounds (some k) none none vs.toArray.size = (((min k.toNat vs.toArray.size : Nat) : Int), ((vs.toArray.size : Nat) : Int), 1) := by
        simp only [sliceBounds, Option.getD_none, show (1 : Int) > 0 by decide, if_true, if_neg (show ¬ (k < 0) by omega)]
        congr 1; omega
      rw [kmk_pick_nat _ e]
      show ((vs.drop (min k.toNat vs.toArray.size)).take (vs.toArray.size - min k.toNat vs.toArray.size)).toArray = _
      rw [List.size_toArray, kmk_drop_min, List.take_of_length_le (by rw [List.length_drop]; omega)]
    rw [e]
    exact hQ _ _ tk₂ (((e₁.trans e₂).push _).push _) ⟨_, rfl, none_size' ((he.trans e₁).trans e₂) (Nat.le_succ _), TL.pushed (hx.drop' _) (Heap.size_push _ _)⟩))) ht
theorem ev_slice_ints {value e : Expr} {p pos : Pos} {ns : List Int} {k : Int} (hv : Ev (model prog w) A h value env (.il ns)) (hk : Ev (model prog w) A h e env (.int k)) (h0 : 0 ≤ k) (hz : ns.length ≤ sizeLine)
    (ht : ∀ o r, letTemporaryGo value o r = pure ()) : Runs (model prog w) A h (eval (.Subscript value (.Slice none (some e) none p) pos) env) fun h' v => Is h' v (.il (ns.take k.toNat)) :=
  .intro fun s _ _ he hQ => wpAny_Subscript_list_slice (hv.use he fun o h₁ tk₁ e₁ ho => wpAny_evalPart_none (wpAny_evalPart_some (hk.use (he.trans e₁) fun i h₂ tk₂ e₂ hi => by
    obtain ⟨l, vs, rfl, hl, hx⟩ := ho.ext e₂
    obtain ⟨t, rfl⟩ := hi
    refine ⟨l, _, none, some k, rfl, hl, by simpa [hx.length] using hz, by first | exact rfl | constructor, by first | exact rfl | constructor, ?_⟩
    have e : slicePick (List.toArray vs) none (some k) none = (vs.take k.toNat).toArray := by
      have e : sliceBounds none (some k) none vs.toArray.size = (((0 : Nat) : Int), ((min k.toNat vs.toArray.size : Nat) : Int), 1) := by
        simp only [sliceBounds, Option.getD_none, show (1 : Int) > 0 by decide, if_true, if_neg (show ¬ (k < 0) by omega)]
        congr 1; congr 1; omega
      rw [kmk_pick_nat _ e]
      show ((vs.drop 0).take (min k.toNat vs.toArray.size - 0)).toArray = _
      rw [List.drop_zero, Nat.sub_zero, List.size_toArray, kmk_take_min]
    rw [e]
    exact hQ _ _ tk₂ (((e₁.trans e₂).push _).push _) ⟨_, vs.take k.toNat, rfl, list_pushed (Heap.size_push _ _), hx.take _⟩))) ht

-- a slice of a text, from a place
theorem ev_slice_str {value e : Expr} {p pos : Pos} {x : Str} {k : Int} (hv : Ev (model prog w) A h value env (.str x)) (hk : Ev (model prog w) A h e env (.int k)) (hz : x.length ≤ sizeLine)
    : Ev (model prog w) A h (.Subscript value (.Slice (some e) none none p) pos) env (.str (Txt.slice x (some k) none)) :=
  .intro fun s _ _ he hQ => Subscript_ (hv.use he fun o h₁ tk₁ e₁ ho => wpAny_Slice (wpAny_evalPart_some (hk.use (he.trans e₁) fun i h₂ tk₂ e₂ hi => wpAny_evalPart_none (wpAny_evalPart_none (by
    obtain ⟨t, rfl⟩ := ho
    obtain ⟨u, rfl⟩ := hi
    obtain ⟨T, id, l, ty, g⟩ := SBG.sliceItem_sn (prog := prog) (w := w) (A := A) (E := fun _ _ => False) (s := { s with heap := h₂, toks := tk₂ }) (x := x) (t := t) (i := k) (ui := u) (keeps_kept s) ⟨h₂, tk₂, rfl, e₁.trans e₂⟩ (Q := fun v s' => ∃ t', v = .str (Txt.slice x (some k) none) t' ∧ PySem.Keeps s s') (fun s' t' hs => ⟨t', rfl, hs⟩) hz
    exact tail_any ty l (wpAny_mono g (fun v s' hv => by obtain ⟨t', rfl, h', tk', rfl, hk'⟩ := hv; exact hQ _ h' tk' hk' ⟨_, rfl⟩) fun _ _ f => f.elim) rfl)))))
end
end Mine
end

section
open PySem PySem.W PyProof.Rows PySem.Calls
set_option Elab.async false
set_option maxRecDepth 100000
namespace Mine

/-- what the top left -/
structure Bs (w : World) (b : Heap) : Prop where
  K : (hd.heap_39 w.params).In b
  g : ∃ mg, b.Ns mainGlobals mg
  bi : ∃ mb, b.Ns builtinsNs mb ∧ ∀ x : Str, x ≠ "__name__" → mb x = bootBuiltins x
  lim : b.NoLimit
theorem Bs.up {w : World} {b h : Heap} (B : Bs w b) (e : Ext b h) : Bs w h :=
  ⟨B.K.keeps e, (let ⟨mg, x⟩ := B.g; ⟨mg, x.keeps e⟩), (let ⟨mb, x, y⟩ := B.bi; ⟨mb, x.keeps e, y⟩), B.lim.keeps e⟩

def stAt (n : Nat) : Stmt := PySem.Challenge.pw_il0005_01.main.body.getD n (.Pass ⟨0, 0, 0, 0⟩)
def fnName : Stmt → Str | .FunctionDef n .. => n | _ => ""
def fnBody : Stmt → List Stmt | .FunctionDef _ _ b .. => b | _ => []
def fnArgs : Stmt → Arguments | .FunctionDef _ a .. => a | _ => default
def fnScope : Stmt → Scope | .FunctionDef _ _ _ _ _ _ s .. => s | _ => default

section
variable {prog : Program} {w : World} {A : Around} {h : Heap} {env : Env}

theorem ev_g {b : Heap} {x : Str} {pos : Pos} {v : Value} (B : Bs w b) (he : Ext b h) (hk : env.scope.kind = .function) (hl : env.kindOf x = some .globalImplicit) (hg : env.globals = mainGlobals)
    (hv : nsIn (hd.heap_39 w.params) mainGlobals x = some (some v)) (hb : (x == ("__debug__" : Str)) = false := by decide) : Ev (model prog w) A h (.Name x pos) env (.val v) :=
  let ⟨_, hn⟩ := B.g
  ev_global hk hl (hg ▸ hn.keeps he) (mg_of B.K hn hv) hb
theorem ev_bi {b : Heap} {x : Str} {pos : Pos} {v : Value} (B : Bs w b) (he : Ext b h) (hk : env.scope.kind = .function) (hl : env.kindOf x = some .globalImplicit) (hg : env.globals = mainGlobals) (hbi : env.builtins = builtinsNs)
    (hv : nsIn (hd.heap_39 w.params) mainGlobals x = some none) (hbv : bootBuiltins x = some v) (hn' : x ≠ "__name__") (hb : (x == ("__debug__" : Str)) = false := by decide) : Ev (model prog w) A h (.Name x pos) env (.val v) :=
  let ⟨_, hn⟩ := B.g
  let ⟨_, hm, hm'⟩ := B.bi
  ev_builtin hk hl (hg ▸ hn.keeps he) (mg_none_of B.K hn hv) (hbi ▸ hm.keeps he) ((hm' x hn').trans hbv) hb

/-- the rest of a def's body, from a heap: it gives back what R says, or goes on where K holds -/
def Bd (M : Model) (A : Around) (h₀ : Heap) (env : Env) (R : Heap → Value → Prop) (K : Heap → Prop) (ss : List Stmt) (h : Heap) : Prop :=
  ∀ (s : Shared), s.heap = h → wpAny M A (execs ss env) (fun f s' => ∃ h' tk, s' = { s with heap := h', toks := tk } ∧ Ext h₀ h' ∧ match f with | .ret v => R h' v | .next => K h' | _ => False) (fun _ _ => False) s

theorem bd_nil {h₀ : Heap} {R : Heap → Value → Prop} {K : Heap → Prop} (he : Ext h₀ h) (hk : K h) : Bd (model prog w) A h₀ env R K [] h := by
  rintro s rfl
  exact wpAny_execs_nil ⟨s.heap, s.toks, rfl, he, hk⟩
theorem bd_ret {h₀ : Heap} {R : Heap → Value → Prop} {K : Heap → Prop} {e : Expr} {pos : Pos} {rest : List Stmt} (he : Ext h₀ h) (hr : Runs (model prog w) A h (eval e env) R) : Bd (model prog w) A h₀ env R K (.Return (some e) pos :: rest) h := by
  rintro s rfl
  refine wpAny_execs_cons (wpAny_Return_some (hr.use (Ext.refl _) fun v h' tk e' hv => ?_))
  exact ⟨h', tk, rfl, he.trans e', hv⟩
theorem bd_if {h₀ : Heap} {R : Heap → Value → Prop} {K : Heap → Prop} {t : Expr} {b o rest : List Stmt} {pos : Pos} {c : Bool} (ht : Tst (model prog w) A h t env c)
    (h1 : ∀ h', Ext h h' → c = true → Bd (model prog w) A h₀ env R (fun h'' => Bd (model prog w) A h₀ env R K rest h'') b h') (h2 : ∀ h', Ext h h' → c = false → Bd (model prog w) A h₀ env R (fun h'' => Bd (model prog w) A h₀ env R K rest h'') o h') :
    Bd (model prog w) A h₀ env R K (.If t b o pos :: rest) h := by
  rintro s rfl
  refine wpAny_execs_cons (wpAny_If (ht.use (Ext.refl _) fun v h' tk e' hv => ?_))
  subst hv
  have go : ∀ ss : List Stmt, Bd (model prog w) A h₀ env R (fun h'' => Bd (model prog w) A h₀ env R K rest h'') ss h' → wpAny (model prog w) A (execs ss env) (fun f s'' => match f with
      | .next => wpAny (model prog w) A (execs rest env) (fun f s' => ∃ h' tk, s' = { s with heap := h', toks := tk } ∧ Ext h₀ h' ∧ match f with | .ret v => R h' v | .next => K h' | _ => False) (fun _ _ => False) s''
      | f => ∃ h' tk, s'' = { s with heap := h', toks := tk } ∧ Ext h₀ h' ∧ match f with | .ret v => R h' v | .next => K h' | _ => False) (fun _ _ => False) { s with heap := h', toks := tk } := by
    intro ss hb
    refine wpAny_mono (hb _ rfl) (fun f s'' hf => ?_) fun _ _ x => x
    obtain ⟨h₂, tk₂, rfl, e₂, hf⟩ := hf
    cases f with
    | next => exact wpAny_mono (hf _ rfl) (fun f s₃ hf => by obtain ⟨h₃, tk₃, rfl, r⟩ := hf; exact ⟨h₃, tk₃, rfl, r⟩) fun _ _ x => x
    | ret v => exact ⟨h₂, tk₂, rfl, e₂, hf⟩
    | brk => exact hf.elim
    | cont => exact hf.elim
  cases v with
  | true => exact go b (h1 h' e' rfl)
  | false => exact go o (h2 h' e' rfl)
theorem ns_not_list {h : Heap} {L a : Addr} {m : Str → Option Value} {its : Array Value} (hn : h.Ns L m) (hl : h.IsList a its) : a ≠ L := by
  rintro rfl
  obtain ⟨o, es, ep, ho, hd, _⟩ := hn
  obtain ⟨o', ho', _, n, hd'⟩ := hl
  rw [ho] at ho'; cases ho'
  rw [hd] at hd'; cases hd'
theorem islist_but {h h' : Heap} {L a : Addr} {its : Array Value} (hs : Heap.SameBut L h h') (hne : a ≠ L) (hl : h.IsList a its) : h'.IsList a its := let ⟨o, ho, r⟩ := hl; ⟨o, (hs.2 a hne).trans ho, r⟩
theorem TL.but {h h' : Heap} {L a : Addr} {xs : List Str} (hs : Heap.SameBut L h h') (hne : a ≠ L) (hl : TL h a xs) : TL h' a xs := let ⟨vs, x, y⟩ := hl; ⟨vs, islist_but hs hne x, y⟩
theorem TL.ne {h : Heap} {L a : Addr} {m : Str → Option Value} {xs : List Str} (hn : h.Ns L m) (hl : TL h a xs) : a ≠ L := let ⟨_, x, _⟩ := hl; ns_not_list hn x
theorem TLs.but {h h' : Heap} {L : Addr} {m : Str → Option Value} (hn : h.Ns L m) (hs : Heap.SameBut L h h') : ∀ {vs : List Value} {xss : List (List Str)}, TLs h vs xss → TLs h' vs xss
  | _, _, .nil => .nil
  | _, _, .cons x r => .cons (x.but hs (x.ne hn)) (r.but hn hs)
theorem Is.but {h h' : Heap} {L : Addr} {m : Str → Option Value} {v : Value} {d : D} (hn : h.Ns L m) (hs : Heap.SameBut L h h') (x : Is h v d) : Is h' v d := by
  cases d with
  | tl xs => obtain ⟨a, rfl, y⟩ := x; exact ⟨a, rfl, y.but hs (y.ne hn)⟩
  | pl xs => obtain ⟨a, rfl, vs, ⟨n, p⟩, z⟩ := x; exact ⟨a, rfl, vs, ⟨n, (hs.2 a (ns_not_list hn ⟨_, p, rfl, n, rfl⟩)).trans p⟩, z⟩
  | bl xs => obtain ⟨a, rfl, y⟩ := x; exact ⟨a, rfl, islist_but hs (ns_not_list hn y) y⟩
  | ll xs => obtain ⟨a, rfl, vs, y, z⟩ := x; exact ⟨a, rfl, vs, islist_but hs (ns_not_list hn y) y, z.but hn hs⟩
  | il ns => obtain ⟨a, vs, rfl, y, z⟩ := x; exact ⟨a, vs, rfl, islist_but hs (ns_not_list hn y) y, z⟩
  | _ => exact x
theorem bd_assign {h₀ : Heap} {L : Addr} {m : Str → Option Value} {R : Heap → Value → Prop} {K : Heap → Prop} {x : Str} {value : Expr} {px pos : Pos} {rest : List Stmt} {d : D} (hL : env.locals = L) (F : Fr h₀ L h m) (hv : Ev (model prog w) A h value env d) (hl : env.kindOf x = some .local)
    (hr : ∀ h' v, Fr h₀ L h' (fun y => if y = x then some v else m y) → Is h' v d → (∀ u d', Is h u d' → Is h' u d') → Bd (model prog w) A h₀ env R K rest h')
    (hp : (env.scope.kind == .class || (env.scope.kind == .module && env.locals != env.globals)) = false) (hsw : swapsWith value (some (.Name x px)) pos.line env = pure false) : Bd (model prog w) A h₀ env R K (.Assign [.Name x px] value pos :: rest) h := by
  subst hL
  rintro s rfl
  refine wpAny_execs_cons (wpAny_Assign_Name (hv.use (Ext.refl _) fun v h₁ tk₁ e₁ hv' => ?_) hsw)
  refine wpAny_storeName_local hl (F.ns.keeps e₁) (fun h' hn hs => ?_) hp
  have F' := (F.keeps e₁).set hn hs
  exact wpAny_mono (hr h' v F' (hv'.but (F.ns.keeps e₁) hs) (fun u d' hu => (hu.ext e₁).but (F.ns.keeps e₁) hs) _ rfl) (fun f s₃ hf => by obtain ⟨h₃, tk₃, rfl, r⟩ := hf; exact ⟨h₃, tk₃, rfl, r⟩) fun _ _ x => x

theorem fr_ext {h₀ : Heap} {L : Addr} {m : Str → Option Value} (F : Fr h₀ L h m) : Ext h₀ h := F.keep
/-- a call of a def of the text's, all names local -/
theorem fn_run {b : Heap} {f : Addr} {args : List Value} {binds : List (Str × Value)} {name : Str} {params : Arguments} {body : List Stmt} {scope : Scope} {pm cd doc oc : Value} {od : Option Addr} {osl : Array (Option Value)} {R : Heap → Value → Prop}
    (B : Bs w b) (he : Ext b h) (hK : (hd.heap_39 w.params).lookup f = some ⟨oc, od, .func (docDef name params body scope pm cd doc), osl⟩) (hcd : codeIn (hd.heap_39 w.params) cd name = true)
    (hroom : A.depth < recursionLimit) (hbind : bindArgs (docDef name params body scope pm cd doc) ⟨args, []⟩ = pure binds) (hloc : ∀ x ∈ binds, scope.names.lookup x.1 = some .local)
    (hbody : ∀ hp h₁, Ext h hp → Fr hp hp.objs.size h₁ (fun x => binds.reverse.lookup x) → Bd (model prog w) (A.deeper (envOf name scope hp.objs.size f cd)) hp (envOf name scope hp.objs.size f cd) R (fun _ => False) body h₁)
    (hco : scope.isCoroutine = false := by rfl) (hgen : scope.isGenerator = false := by rfl) (hk : scope.kind = .function := by rfl) (hcell : ∀ x ∈ scope.names, x.2 ≠ .cell := by decide) :
    Runs (model prog w) A h (call (.ref f) args) R := by
  refine .intro fun s E Q hle hQ => wpAny_call ?_
  have B' := B.up (he.trans hle)
  refine call_plain_ret hroom (B'.K _ _ hK) rfl B'.lim (codeRec_of B'.K hcd) hbind hloc (fun h₁ F => ?_) hco hgen hk hcell
  refine wpAny_mono (hbody s.heap h₁ hle F _ rfl) (fun fl s' hf => ?_) fun _ _ x => x
  obtain ⟨h', tk, rfl, e', hf⟩ := hf
  cases fl with
  | ret v => exact hQ v h' tk e' hf
  | next => exact hf.elim
  | brk => exact hf.elim
  | cont => exact hf.elim
end
end Mine
end

section
open PySem PySem.W PyProof.Rows PySem.Calls
set_option Elab.async false
set_option maxRecDepth 100000
set_option maxHeartbeats 1000000
namespace Mine

section
variable {prog : Program} {w : World} {A : Around} {h : Heap} {env : Env}

theorem sl_ok {n : Nat} (h : n ≤ 4096) : n ≤ sizeLine := by rw [sizeLine_eq]; omega
theorem r_len_str {a : Value} {x : Str} (ha : Is h a (.str x)) (hx : x.length ≤ 4096) : Runs (model prog w) A h (call (.builtin "len") [a]) fun h' v => Is h' v (.int (x.length : Int)) := by
  obtain ⟨t, rfl⟩ := ha
  exact .intro fun s _ _ _ hQ => len_str (by omega) (hQ _ s.heap (s.toks + 1 + 1) (Ext.refl _) ⟨_, rfl⟩)

def matchedF (x y : Str) : Bool :=
  bif (Txt.item y 0 != Str.ofString ".") || ((Txt.slice y (some (-2)) none == Str.ofString ".7") || (decide (((x.length : Nat) : Int) < ((y.length : Nat) : Int)) || false)) then x == y
  else Txt.slice x (some (((x.length : Nat) : Int) - ((y.length : Nat) : Int))) none == y

theorem loc1 {sc : Scope} {n : Str} {u : Value} (h : sc.names.lookup n = some .local) : ∀ x ∈ [(n, u)], sc.names.lookup x.1 = some .local := by
  intro x hx; rw [List.mem_singleton.mp hx]; exact h
theorem loc2 {sc : Scope} {n m : Str} {u v : Value} (h : sc.names.lookup n = some .local) (h' : sc.names.lookup m = some .local) : ∀ x ∈ [(n, u), (m, v)], sc.names.lookup x.1 = some .local := by
  intro x hx
  rcases List.mem_cons.mp hx with rfl | hx
  · exact h
  · rw [List.mem_singleton.mp hx]; exact h'

theorem matched_call {b : Heap} {x y : Str} (B : Bs w b) (he : Ext b h) {u v : Value} (hu : Is h u (.str x)) (hv : Is h v (.str y)) (hx : x.length ≤ 4096) (hy : y.length ≤ 4096) (hy0 : 0 < y.length)
    (hroom : A.depth < recursionLimit) : Runs (model prog w) A h (call (.ref 120) [u, v]) fun _ r => r = .bool (matchedF x y) := by
  refine fn_run B he (name := fnName (stAt 13)) (params := fnArgs (stAt 13)) (body := fnBody (stAt 13)) (scope := fnScope (stAt 13)) (binds := [(Str.ofString "host", u), (Str.ofString "name", v)]) rfl rfl hroom rfl (loc2 rfl rfl) ?_
  intro hp h₁ e₁ F
  generalize hA' : A.deeper _ = A'
  have E1 : Ext b h₁ := (he.trans e₁).trans (fr_ext F)
  have nm : ∀ h', Ext h₁ h' → ∀ pos, Ev (model prog w) A' h' (.Name (Str.ofString "name") pos) (envOf (fnName (stAt 13)) (fnScope (stAt 13)) hp.objs.size 120 (.ref 119)) (.str y) :=
    fun h' e pos => ev_local rfl rfl (F.ns.keeps e) rfl (((hv.ext e₁).ext (fr_ext F)).ext e)
  have hs : ∀ h', Ext h₁ h' → ∀ pos, Ev (model prog w) A' h' (.Name (Str.ofString "host") pos) (envOf (fnName (stAt 13)) (fnScope (stAt 13)) hp.objs.size 120 (.ref 119)) (.str x) :=
    fun h' e pos => ev_local rfl rfl (F.ns.keeps e) rfl (((hu.ext e₁).ext (fr_ext F)).ext e)
  have ln : ∀ h', Ext h₁ h' → ∀ pos, Ev (model prog w) A' h' (.Name (Str.ofString "len") pos) (envOf (fnName (stAt 13)) (fnScope (stAt 13)) hp.objs.size 120 (.ref 119)) (.val (.builtin "len")) :=
    fun h' e pos => ev_bi B (E1.trans e) rfl rfl rfl rfl rfl (by decide +kernel) (by decide)
  refine bd_if (c := (Txt.item y 0 != Str.ofString ".") || ((Txt.slice y (some (-2)) none == Str.ofString ".7") || (decide (((x.length : Nat) : Int) < ((y.length : Nat) : Int)) || false))) ?_ ?_ ?_
  · refine tst_or (tst_compare (ev_subscript (nm _ (Ext.refl _) _) ev_const_int fun o i h₂ e ho hi => r_item_str ho hi (by decide) (by omega) (by omega) (fun _ _ => rfl) (fun _ _ _ => rfl)) ev_const_str (fun _ _ _ _ ha hb => r_nes ha hb) rfl) fun _ => ?_
    refine tst_or (tst_compare (ev_slice_str (nm _ (Ext.refl _) _) (ev_neg ev_const_int) (sl_ok hy)) ev_const_str (fun _ _ _ _ ha hb => r_eqs ha hb) rfl) fun _ => ?_
    refine tst_or (tst_compare (ev_bcall1 (ln _ (Ext.refl _) _) (nm _ (Ext.refl _) _) fun a h₂ e ha => r_len_str ha hy) (ev_bcall1 (ln _ (Ext.refl _) _) (hs _ (Ext.refl _) _) fun a h₂ e ha => r_len_str ha hx) (fun _ _ _ _ ha hb => r_gt ha hb) rfl) fun _ => tst_or_nil
  · intro h' e' hc
    refine bd_ret ((fr_ext F).trans e') ((ev_compare (hs _ e' _) (nm _ e' _) (fun _ _ _ _ ha hb => r_eqs ha hb) rfl).conseq fun _ _ _ hv => ?_)
    rw [matchedF, hc]
    exact hv
  · intro h' e' hc
    refine bd_nil ((fr_ext F).trans e') ?_
    refine bd_ret ((fr_ext F).trans e') ((ev_compare (ev_slice_str (hs _ e' _) (ev_binop (ev_bcall1 (ln _ e' _) (hs _ e' _) fun a h₂ e ha => r_len_str ha hx) (ev_bcall1 (ln _ e' _) (nm _ e' _) fun a h₂ e ha => r_len_str ha hy) fun _ _ _ _ ha hb => r_sub ha hb) (sl_ok hx)) (nm _ e' _) (fun _ _ _ _ ha hb => r_eqs ha hb) rfl).conseq fun _ _ _ hv => ?_)
    rw [matchedF, hc]
    exact hv
end
end Mine
end

section
open PySem PySem.W PyProof.Rows PySem.Calls
set_option Elab.async false
set_option maxRecDepth 100000
set_option maxHeartbeats 1000000
namespace Mine

theorem pa_pattern : PlainAttrs "re.Pattern" :=
  ⟨⟨"object.__getattribute__", by rw [typeLookup_type, builtinLookup_eq_fast]; kernel_rfl, by decide +kernel⟩, by rw [typeLookup_type, builtinLookup_eq_fast]; kernel_rfl⟩
theorem slot_search : Slot "re.Pattern" "search" "re.Pattern.search" :=
  .of (owner := "re.Pattern") (n := "search") (by rw [typeLookup_type, builtinLookup_eq_fast]; kernel_rfl) (by decide +kernel) (by decide +kernel) (by decide +kernel)
    (by first | exact .inl (by decide +kernel) | exact .inr (by decide +kernel)) (by rw [isSubtype_type]; kernel_rfl)
theorem type_search : typeOf (.builtin "re.Pattern.search") = pure (.type "method_descriptor") := by show builtinType _ = _; rw [builtinType_eq_fast]; kernel_rfl
theorem entry_search : entryFor table "re.Pattern.search" = some Builtin.«re.Pattern.search» := by
  first | exact entryFor_of_fast (by kernel_rfl) | exact entryFor_of_tree (by kernel_rfl)
theorem owner_pattern : Manifest.owners.lookup (String.ofList ['n', 'r', 'e', 't', 't', 'a', 'P', '.', 'e', 'r'].reverse) = some Manifest.sig_re_Pattern := by kernel_rfl
theorem args_search (a b : Value) : argsOk "re.Pattern.search" ⟨[a, b], []⟩ := by
  unfold argsOk
  rw [show Manifest.signature? "re.Pattern.search" = Manifest.sig_re_Pattern.lookup "search" from by kernel_rfl]
  kernel_rfl

def reCode : Array Nat := #[14, 8, 1, 2, 4294967295, 1, 1, 46, 0, 16, 46, 24, 9, 1, 4294967295, 13, 4, 8, 0, 0, 1, 6, 5, 1]
noncomputable def drive : Nat → Sre.M → Option Sre.M
  | 0, _ => none
  | n + 1, m => if (m.runFor 4).outcome.isSome then some (m.runFor 4) else drive n (m.runFor 4)

section
variable {prog : Program} {w : World} {A : Around} {E : Value → Shared → Prop} {s : Shared}
open Builtin.Re in
theorem drive_wp {m' : Sre.M} {Q : Sre.M → Shared → Prop} : ∀ (n t : Nat) (m : Sre.M), drive n m = some m' → n ≤ t → Q m' s → wpAny (model prog w) A (reDrive t m) Q E s
  | 0, _, _, h, _, _ => by cases h
  | n + 1, 0, _, _, h, _ => by omega
  | n + 1, t + 1, m, h, hle, hq => by
    unfold drive at h
    unfold reDrive
    dsimp only [reTurnSteps]
    cases hc : (m.runFor 4).outcome.isSome with
    | true => rw [if_pos hc] at h; cases h; simp only [if_true]; exact wpAny_pure hq
    | false =>
      rw [if_neg (by rw [hc]; exact Bool.false_ne_true)] at h
      simp only [Bool.false_eq_true, if_false]
      exact wpAny_bind (wpAny_rule (drive_wp n t _ h (by omega) hq))
theorem rules_wp {c : Nat → Bool} {tag : Nat → String} {Q : PUnit → Shared → Prop} : ∀ (l : List Nat), Q PUnit.unit s →
    wpAny (model prog w) A (forIn l PUnit.unit fun i _ => if c i = true then (do rule (tag i); pure (ForInStep.yield PUnit.unit)) else pure (ForInStep.yield PUnit.unit)) Q E s
  | [], hq => wpAny_pure hq
  | i :: r, hq => by
    rw [List.forIn_cons]
    refine wpAny_bind ?_
    split
    · exact wpAny_bind (wpAny_rule (wpAny_pure (rules_wp r hq)))
    · exact wpAny_pure (rules_wp r hq)

theorem run_wp {m m' : Sre.M} {n : Nat} {Q : Option Sre.M → Shared → Prop} (hd : drive n m = some m') (hn : n ≤ 1000) (hq : match m'.outcome with | some .matched => Q (some m') s | some .failed => Q none s | _ => False) :
    wpAny (model prog w) A (Builtin.Re.reRunToEnd m) Q E s := by
  unfold Builtin.Re.reRunToEnd
  refine wpAny_bind (drive_wp n _ m hd (by omega) ?_)
  refine wpAny_bind ?_
  refine rules_wp _ ?_
  split at hq
  · rename_i h; rw [h]; exact wpAny_pure hq
  · rename_i h; rw [h]; exact wpAny_pure hq
  · exact hq.elim

def patObj : Obj := { cls := Value.type "re.Pattern", data := Data.fields #[Value.str (Str.ofString "\\.\\d+$") 347, Value.int 256 374, Value.int 0 0, Value.none, Value.none, Value.ref 79, Value.int 0 0] }
def codeObj : Obj := { cls := Value.type "tuple", data := Data.seq #[Value.int 14 0, Value.int 8 0, Value.int 1 0, Value.int 2 0, Value.int 4294967295 0, Value.int 1 0, Value.int 1 0, Value.int 46 0, Value.int 0 0, Value.int 16 0, Value.int 46 0, Value.int 24 0, Value.int 9 0, Value.int 1 0, Value.int 4294967295 0, Value.int 13 0, Value.int 4 0, Value.int 8 0, Value.int 0 0, Value.int 0 0, Value.int 1 0, Value.int 6 0, Value.int 5 0, Value.int 1 0] }
theorem named_search (v : Value) : Builtin.Re.reNamed "re.Pattern.search" "search" ["string", "pos", "endpos"] 1 [v] [] = pure [some v, none, none] := by rfl

theorem target_wp {prog : Program} {w : World} {A : Around} {E : Value → Shared → Prop} {s : Shared} {x : Str} {t : Tok} (hx : x.length ≤ 4096) (h80 : s.heap.get? 80 = some patObj) (h79 : s.heap.get? 79 = some codeObj) :
    wpAny (model prog w) A (Builtin.Re.reTarget "re.Pattern.search" "search" ⟨[.ref 80, .str x t], []⟩) (fun r s' => r = { pattern := .ref 80, string := .str x t, code := reCode, text := x.cps, kind := 0, groups := 0, pos := 0, lim := x.cps.size } ∧ s' = s) E s := by
  unfold Builtin.Re.reTarget
  dsimp only
  rw [named_search]
  refine wpAny_bind (wpAny_pure ?_)
  dsimp only
  refine wpAny_bind (wpAny_pure (wpAny_bind (wpAny_pure ?_)))
  refine wpAny_bind (wpAny_fieldsOf h80 rfl ?_)
  refine wpAny_bind (wpAny_pure ?_)
  refine wpAny_ite ?_
  split
  · rename_i hc; exact absurd hc Bool.false_ne_true
  refine wpAny_ite ?_
  split
  · rename_i hc; exact absurd hc Bool.false_ne_true
  refine wpAny_bind (m := Builtin.Re.reNoCollectionInside (Value.str x t) 0) (wpAny_pure ?_)
  refine wpAny_bind (wpAny_bind (m := seqItems? (.ref 79)) (wpAny_bind (wpAny_load h79 (wpAny_pure (wpAny_pure (wpAny_pure ?_))))))
  have hlim : min (2 ^ 63 - 1 : Int).toNat x.cps.size = x.cps.size := by
    have : x.cps.size ≤ 4096 := hx
    omega
  refine ⟨?_, rfl⟩
  simp only [Builtin.Re.ReTarget.mk.injEq]
  exact ⟨trivial, trivial, by decide +kernel, trivial, trivial, rfl, Nat.zero_min _, hlim⟩
theorem search_meets {x : Str} {t : Tok} {m' : Sre.M} {n : Nat} (hx : x.length ≤ 4096) (hd : drive n (Sre.forSearch reCode x.cps 0 0 x.cps.size false) = some m') (hn : n ≤ 1000) :
    Meets (Builtin.«re.Pattern.search» ⟨[.ref 80, .str x t], []⟩) (fun _ R s => s.heap.get? 80 = some patObj ∧ s.heap.get? 79 = some codeObj ∧
      match m'.outcome with | some .matched => (∀ h' a, Ext s.heap h' → (∃ o, h'.get? a = some o ∧ o.cls = .type "re.Match") → R (.ok (.ret (.ref a))) { s with heap := h' }) | some .failed => R (.ok (.ret .none)) s | _ => False) :=
  .of_wp fun prog w A R s h => by
    obtain ⟨h80, h79, h⟩ := h
    unfold Builtin.«re.Pattern.search»
    refine wpAny_bind (wpAny_mono (target_wp hx h80 h79) (fun r s' hr => ?_) fun _ _ x => x)
    obtain ⟨rfl, rfl⟩ := hr
    unfold Builtin.Re.reAnswer
    refine wpAny_bind (run_wp hd hn ?_)
    split at h
    · dsimp only
      refine wpAny_bind ?_
      unfold Builtin.Re.reNewMatch
      dsimp only
      refine wpAny_ite ?_
      split
      · rename_i hc; exact absurd hc Bool.false_ne_true
      refine wpAny_bind (wpAny_newObj_type ?_ (by show Array.size _ ≤ sizeLine; rw [sizeLine_eq]; exact Nat.le_of_ble_eq_true rfl))
      refine wpAny_newObj_type ?_ (by show Array.size _ ≤ sizeLine + 2; rw [sizeLine_eq]; exact Nat.le_of_ble_eq_true rfl)
      refine wpAny_pure ⟨_, rfl, ?_⟩
      exact h _ _ (((Ext.refl _).push _).push _) ⟨_, Heap.get?_push_size _ rfl, rfl⟩
    · exact wpAny_pure ⟨_, rfl, h⟩
    · exact h.elim
end
end Mine
end

section
open PySem PySem.W PyProof.Rows PySem.Calls
set_option Elab.async false
set_option maxRecDepth 100000
set_option maxHeartbeats 1000000
namespace Mine

noncomputable def hitF (x : Str) : Option Bool := (drive 100 (Sre.forSearch reCode x.cps 0 0 x.cps.size false)).bind fun m => match m.outcome with | some .matched => some true | some .failed => some false | _ => none

/-- the labels, the names -/
def labF (i : Nat) : Str := match i with | 0 => ⟨#[97]⟩ | 1 => ⟨#[98, 97]⟩ | 2 => ⟨#[108, 111, 99, 97, 108]⟩ | _ => ⟨#[55]⟩
def mkN (d : Bool) (ds : List Nat) : Str := (if d then ⟨#[46]⟩ else ⟨#[]⟩ : Str) ++ Txt.join ⟨#[46]⟩ (ds.map labF)
def digs : List Nat := [0, 1, 2, 3]
def allDs : List (List Nat) := digs.map (fun a => [a]) ++ (digs.flatMap fun a => digs.map fun b => [a, b]) ++ (digs.flatMap fun a => digs.flatMap fun b => digs.map fun c => [a, b, c])
def allN : List Str := [true, false].flatMap fun d => allDs.map (mkN d)

def tab : List (List Str) := [
  [⟨#[46, 97]⟩, ⟨#[46, 98, 97]⟩, ⟨#[46, 108, 111, 99, 97, 108]⟩, ⟨#[46, 55]⟩, ⟨#[46, 97, 46, 97]⟩, ⟨#[46, 97, 46, 98, 97]⟩, ⟨#[46, 97, 46, 108, 111, 99, 97, 108]⟩, ⟨#[46, 97, 46, 55]⟩, ⟨#[46, 98, 97, 46, 97]⟩, ⟨#[46, 98, 97, 46, 98, 97]⟩, ⟨#[46, 98, 97, 46, 108, 111, 99, 97, 108]⟩, ⟨#[46, 98, 97, 46, 55]⟩],
  [⟨#[46, 108, 111, 99, 97, 108, 46, 97]⟩, ⟨#[46, 108, 111, 99, 97, 108, 46, 98, 97]⟩, ⟨#[46, 108, 111, 99, 97, 108, 46, 108, 111, 99, 97, 108]⟩, ⟨#[46, 108, 111, 99, 97, 108, 46, 55]⟩, ⟨#[46, 55, 46, 97]⟩, ⟨#[46, 55, 46, 98, 97]⟩, ⟨#[46, 55, 46, 108, 111, 99, 97, 108]⟩, ⟨#[46, 55, 46, 55]⟩, ⟨#[46, 97, 46, 97, 46, 97]⟩, ⟨#[46, 97, 46, 97, 46, 98, 97]⟩, ⟨#[46, 97, 46, 97, 46, 108, 111, 99, 97, 108]⟩, ⟨#[46, 97, 46, 97, 46, 55]⟩],
  [⟨#[46, 97, 46, 98, 97, 46, 97]⟩, ⟨#[46, 97, 46, 98, 97, 46, 98, 97]⟩, ⟨#[46, 97, 46, 98, 97, 46, 108, 111, 99, 97, 108]⟩, ⟨#[46, 97, 46, 98, 97, 46, 55]⟩, ⟨#[46, 97, 46, 108, 111, 99, 97, 108, 46, 97]⟩, ⟨#[46, 97, 46, 108, 111, 99, 97, 108, 46, 98, 97]⟩, ⟨#[46, 97, 46, 108, 111, 99, 97, 108, 46, 108, 111, 99, 97, 108]⟩, ⟨#[46, 97, 46, 108, 111, 99, 97, 108, 46, 55]⟩, ⟨#[46, 97, 46, 55, 46, 97]⟩, ⟨#[46, 97, 46, 55, 46, 98, 97]⟩, ⟨#[46, 97, 46, 55, 46, 108, 111, 99, 97, 108]⟩, ⟨#[46, 97, 46, 55, 46, 55]⟩],
  [⟨#[46, 98, 97, 46, 97, 46, 97]⟩, ⟨#[46, 98, 97, 46, 97, 46, 98, 97]⟩, ⟨#[46, 98, 97, 46, 97, 46, 108, 111, 99, 97, 108]⟩, ⟨#[46, 98, 97, 46, 97, 46, 55]⟩, ⟨#[46, 98, 97, 46, 98, 97, 46, 97]⟩, ⟨#[46, 98, 97, 46, 98, 97, 46, 98, 97]⟩, ⟨#[46, 98, 97, 46, 98, 97, 46, 108, 111, 99, 97, 108]⟩, ⟨#[46, 98, 97, 46, 98, 97, 46, 55]⟩, ⟨#[46, 98, 97, 46, 108, 111, 99, 97, 108, 46, 97]⟩, ⟨#[46, 98, 97, 46, 108, 111, 99, 97, 108, 46, 98, 97]⟩, ⟨#[46, 98, 97, 46, 108, 111, 99, 97, 108, 46, 108, 111, 99, 97, 108]⟩, ⟨#[46, 98, 97, 46, 108, 111, 99, 97, 108, 46, 55]⟩],
  [⟨#[46, 98, 97, 46, 55, 46, 97]⟩, ⟨#[46, 98, 97, 46, 55, 46, 98, 97]⟩, ⟨#[46, 98, 97, 46, 55, 46, 108, 111, 99, 97, 108]⟩, ⟨#[46, 98, 97, 46, 55, 46, 55]⟩, ⟨#[46, 108, 111, 99, 97, 108, 46, 97, 46, 97]⟩, ⟨#[46, 108, 111, 99, 97, 108, 46, 97, 46, 98, 97]⟩, ⟨#[46, 108, 111, 99, 97, 108, 46, 97, 46, 108, 111, 99, 97, 108]⟩, ⟨#[46, 108, 111, 99, 97, 108, 46, 97, 46, 55]⟩, ⟨#[46, 108, 111, 99, 97, 108, 46, 98, 97, 46, 97]⟩, ⟨#[46, 108, 111, 99, 97, 108, 46, 98, 97, 46, 98, 97]⟩, ⟨#[46, 108, 111, 99, 97, 108, 46, 98, 97, 46, 108, 111, 99, 97, 108]⟩, ⟨#[46, 108, 111, 99, 97, 108, 46, 98, 97, 46, 55]⟩],
  [⟨#[46, 108, 111, 99, 97, 108, 46, 108, 111, 99, 97, 108, 46, 97]⟩, ⟨#[46, 108, 111, 99, 97, 108, 46, 108, 111, 99, 97, 108, 46, 98, 97]⟩, ⟨#[46, 108, 111, 99, 97, 108, 46, 108, 111, 99, 97, 108, 46, 108, 111, 99, 97, 108]⟩, ⟨#[46, 108, 111, 99, 97, 108, 46, 108, 111, 99, 97, 108, 46, 55]⟩, ⟨#[46, 108, 111, 99, 97, 108, 46, 55, 46, 97]⟩, ⟨#[46, 108, 111, 99, 97, 108, 46, 55, 46, 98, 97]⟩, ⟨#[46, 108, 111, 99, 97, 108, 46, 55, 46, 108, 111, 99, 97, 108]⟩, ⟨#[46, 108, 111, 99, 97, 108, 46, 55, 46, 55]⟩, ⟨#[46, 55, 46, 97, 46, 97]⟩, ⟨#[46, 55, 46, 97, 46, 98, 97]⟩, ⟨#[46, 55, 46, 97, 46, 108, 111, 99, 97, 108]⟩, ⟨#[46, 55, 46, 97, 46, 55]⟩],
  [⟨#[46, 55, 46, 98, 97, 46, 97]⟩, ⟨#[46, 55, 46, 98, 97, 46, 98, 97]⟩, ⟨#[46, 55, 46, 98, 97, 46, 108, 111, 99, 97, 108]⟩, ⟨#[46, 55, 46, 98, 97, 46, 55]⟩, ⟨#[46, 55, 46, 108, 111, 99, 97, 108, 46, 97]⟩, ⟨#[46, 55, 46, 108, 111, 99, 97, 108, 46, 98, 97]⟩, ⟨#[46, 55, 46, 108, 111, 99, 97, 108, 46, 108, 111, 99, 97, 108]⟩, ⟨#[46, 55, 46, 108, 111, 99, 97, 108, 46, 55]⟩, ⟨#[46, 55, 46, 55, 46, 97]⟩, ⟨#[46, 55, 46, 55, 46, 98, 97]⟩, ⟨#[46, 55, 46, 55, 46, 108, 111, 99, 97, 108]⟩, ⟨#[46, 55, 46, 55, 46, 55]⟩],
  [⟨#[97]⟩, ⟨#[98, 97]⟩, ⟨#[108, 111, 99, 97, 108]⟩, ⟨#[55]⟩, ⟨#[97, 46, 97]⟩, ⟨#[97, 46, 98, 97]⟩, ⟨#[97, 46, 108, 111, 99, 97, 108]⟩, ⟨#[97, 46, 55]⟩, ⟨#[98, 97, 46, 97]⟩, ⟨#[98, 97, 46, 98, 97]⟩, ⟨#[98, 97, 46, 108, 111, 99, 97, 108]⟩, ⟨#[98, 97, 46, 55]⟩],
  [⟨#[108, 111, 99, 97, 108, 46, 97]⟩, ⟨#[108, 111, 99, 97, 108, 46, 98, 97]⟩, ⟨#[108, 111, 99, 97, 108, 46, 108, 111, 99, 97, 108]⟩, ⟨#[108, 111, 99, 97, 108, 46, 55]⟩, ⟨#[55, 46, 97]⟩, ⟨#[55, 46, 98, 97]⟩, ⟨#[55, 46, 108, 111, 99, 97, 108]⟩, ⟨#[55, 46, 55]⟩, ⟨#[97, 46, 97, 46, 97]⟩, ⟨#[97, 46, 97, 46, 98, 97]⟩, ⟨#[97, 46, 97, 46, 108, 111, 99, 97, 108]⟩, ⟨#[97, 46, 97, 46, 55]⟩],
  [⟨#[97, 46, 98, 97, 46, 97]⟩, ⟨#[97, 46, 98, 97, 46, 98, 97]⟩, ⟨#[97, 46, 98, 97, 46, 108, 111, 99, 97, 108]⟩, ⟨#[97, 46, 98, 97, 46, 55]⟩, ⟨#[97, 46, 108, 111, 99, 97, 108, 46, 97]⟩, ⟨#[97, 46, 108, 111, 99, 97, 108, 46, 98, 97]⟩, ⟨#[97, 46, 108, 111, 99, 97, 108, 46, 108, 111, 99, 97, 108]⟩, ⟨#[97, 46, 108, 111, 99, 97, 108, 46, 55]⟩, ⟨#[97, 46, 55, 46, 97]⟩, ⟨#[97, 46, 55, 46, 98, 97]⟩, ⟨#[97, 46, 55, 46, 108, 111, 99, 97, 108]⟩, ⟨#[97, 46, 55, 46, 55]⟩],
  [⟨#[98, 97, 46, 97, 46, 97]⟩, ⟨#[98, 97, 46, 97, 46, 98, 97]⟩, ⟨#[98, 97, 46, 97, 46, 108, 111, 99, 97, 108]⟩, ⟨#[98, 97, 46, 97, 46, 55]⟩, ⟨#[98, 97, 46, 98, 97, 46, 97]⟩, ⟨#[98, 97, 46, 98, 97, 46, 98, 97]⟩, ⟨#[98, 97, 46, 98, 97, 46, 108, 111, 99, 97, 108]⟩, ⟨#[98, 97, 46, 98, 97, 46, 55]⟩, ⟨#[98, 97, 46, 108, 111, 99, 97, 108, 46, 97]⟩, ⟨#[98, 97, 46, 108, 111, 99, 97, 108, 46, 98, 97]⟩, ⟨#[98, 97, 46, 108, 111, 99, 97, 108, 46, 108, 111, 99, 97, 108]⟩, ⟨#[98, 97, 46, 108, 111, 99, 97, 108, 46, 55]⟩],
  [⟨#[98, 97, 46, 55, 46, 97]⟩, ⟨#[98, 97, 46, 55, 46, 98, 97]⟩, ⟨#[98, 97, 46, 55, 46, 108, 111, 99, 97, 108]⟩, ⟨#[98, 97, 46, 55, 46, 55]⟩, ⟨#[108, 111, 99, 97, 108, 46, 97, 46, 97]⟩, ⟨#[108, 111, 99, 97, 108, 46, 97, 46, 98, 97]⟩, ⟨#[108, 111, 99, 97, 108, 46, 97, 46, 108, 111, 99, 97, 108]⟩, ⟨#[108, 111, 99, 97, 108, 46, 97, 46, 55]⟩, ⟨#[108, 111, 99, 97, 108, 46, 98, 97, 46, 97]⟩, ⟨#[108, 111, 99, 97, 108, 46, 98, 97, 46, 98, 97]⟩, ⟨#[108, 111, 99, 97, 108, 46, 98, 97, 46, 108, 111, 99, 97, 108]⟩, ⟨#[108, 111, 99, 97, 108, 46, 98, 97, 46, 55]⟩],
  [⟨#[108, 111, 99, 97, 108, 46, 108, 111, 99, 97, 108, 46, 97]⟩, ⟨#[108, 111, 99, 97, 108, 46, 108, 111, 99, 97, 108, 46, 98, 97]⟩, ⟨#[108, 111, 99, 97, 108, 46, 108, 111, 99, 97, 108, 46, 108, 111, 99, 97, 108]⟩, ⟨#[108, 111, 99, 97, 108, 46, 108, 111, 99, 97, 108, 46, 55]⟩, ⟨#[108, 111, 99, 97, 108, 46, 55, 46, 97]⟩, ⟨#[108, 111, 99, 97, 108, 46, 55, 46, 98, 97]⟩, ⟨#[108, 111, 99, 97, 108, 46, 55, 46, 108, 111, 99, 97, 108]⟩, ⟨#[108, 111, 99, 97, 108, 46, 55, 46, 55]⟩, ⟨#[55, 46, 97, 46, 97]⟩, ⟨#[55, 46, 97, 46, 98, 97]⟩, ⟨#[55, 46, 97, 46, 108, 111, 99, 97, 108]⟩, ⟨#[55, 46, 97, 46, 55]⟩],
  [⟨#[55, 46, 98, 97, 46, 97]⟩, ⟨#[55, 46, 98, 97, 46, 98, 97]⟩, ⟨#[55, 46, 98, 97, 46, 108, 111, 99, 97, 108]⟩, ⟨#[55, 46, 98, 97, 46, 55]⟩, ⟨#[55, 46, 108, 111, 99, 97, 108, 46, 97]⟩, ⟨#[55, 46, 108, 111, 99, 97, 108, 46, 98, 97]⟩, ⟨#[55, 46, 108, 111, 99, 97, 108, 46, 108, 111, 99, 97, 108]⟩, ⟨#[55, 46, 108, 111, 99, 97, 108, 46, 55]⟩, ⟨#[55, 46, 55, 46, 97]⟩, ⟨#[55, 46, 55, 46, 98, 97]⟩, ⟨#[55, 46, 55, 46, 108, 111, 99, 97, 108]⟩, ⟨#[55, 46, 55, 46, 55]⟩]]
def row (k : Nat) : List Str := tab.getD k []
theorem allN_tab : allN = tab.flatten := by decide +kernel
theorem all_of {p : Str → Bool} (h : ∀ k, k < 14 → (row k).all p = true) : allN.all p = true := by
  rw [allN_tab, List.all_eq_true]
  intro x hx
  obtain ⟨l, hl, hxl⟩ := List.mem_flatten.mp hx
  obtain ⟨i, hi, rfl⟩ := List.getElem_of_mem hl
  have := h i hi
  unfold row at this
  rw [List.getD_eq_getElem?_getD, List.getElem?_eq_getElem hi] at this
  exact List.all_eq_true.mp this x hxl
noncomputable def hitB (x : Str) : Bool := hitF x == some (Txt.slice x (some (-2)) none == ⟨#[46, 55]⟩)
theorem hits_0 : (row 0).all hitB = true := by decide +kernel
theorem hits_1 : (row 1).all hitB = true := by decide +kernel
theorem hits_2 : (row 2).all hitB = true := by decide +kernel
theorem hits_3 : (row 3).all hitB = true := by decide +kernel
theorem hits_4 : (row 4).all hitB = true := by decide +kernel
theorem hits_5 : (row 5).all hitB = true := by decide +kernel
theorem hits_6 : (row 6).all hitB = true := by decide +kernel
theorem hits_7 : (row 7).all hitB = true := by decide +kernel
theorem hits_8 : (row 8).all hitB = true := by decide +kernel
theorem hits_9 : (row 9).all hitB = true := by decide +kernel
theorem hits_10 : (row 10).all hitB = true := by decide +kernel
theorem hits_11 : (row 11).all hitB = true := by decide +kernel
theorem hits_12 : (row 12).all hitB = true := by decide +kernel
theorem hits_13 : (row 13).all hitB = true := by decide +kernel
theorem hits_row : ∀ k, k < 14 → (row k).all hitB = true := by
  intro k hk
  match k, hk with
  | 0, _ => exact hits_0
  | 1, _ => exact hits_1
  | 2, _ => exact hits_2
  | 3, _ => exact hits_3
  | 4, _ => exact hits_4
  | 5, _ => exact hits_5
  | 6, _ => exact hits_6
  | 7, _ => exact hits_7
  | 8, _ => exact hits_8
  | 9, _ => exact hits_9
  | 10, _ => exact hits_10
  | 11, _ => exact hits_11
  | 12, _ => exact hits_12
  | 13, _ => exact hits_13
theorem hits_all : (allN.all hitB) = true := all_of hits_row
theorem len_all : (allN.all fun x => decide (0 < x.length) && decide (x.length ≤ 20)) = true := by decide +kernel
theorem ok_all : (allN.all PyData.strOk) = true := by decide +kernel
end Mine
end

section
open PySem PySem.W PyProof.Rows PySem.Calls
set_option Elab.async false
set_option maxRecDepth 100000
set_option maxHeartbeats 1000000
namespace Mine
section
variable {prog : Program} {w : World} {A : Around} {h : Heap} {env : Env}
theorem spec_bool : typeLookup (.type "re.Match") "__bool__" = pure none := by rw [typeLookup_type, builtinLookup_eq_fast]; kernel_rfl
theorem spec_len : typeLookup (.type "re.Match") "__len__" = pure none := by rw [typeLookup_type, builtinLookup_eq_fast]; kernel_rfl
theorem truthy_match {E : Value → Shared → Prop} {s : Shared} {a : Addr} {Q : Bool → Shared → Prop} (ho : ∃ o, s.heap.get? a = some o ∧ o.cls = .type "re.Match") (hq : Q true s) : wpAny (model prog w) A (truthy (.ref a)) Q E s := by
  have hT : s.TypeIs (.ref a) "re.Match" := ho
  unfold truthy
  refine wpAny_bind (wpAny_callSpecial?_none hT spec_bool ?_)
  exact wpAny_bind (wpAny_specialOf hT spec_len (wpAny_pure hq))

theorem hit_drive {x : Str} {c : Bool} (hh : hitF x = some c) : ∃ m', drive 100 (Sre.forSearch reCode x.cps 0 0 x.cps.size false) = some m' ∧ ((m'.outcome = some .matched ∧ c = true) ∨ (m'.outcome = some .failed ∧ c = false)) := by
  unfold hitF at hh
  cases hd : drive 100 (Sre.forSearch reCode x.cps 0 0 x.cps.size false) with
  | none => rw [hd] at hh; cases hh
  | some m' =>
    rw [hd] at hh
    refine ⟨m', rfl, ?_⟩
    simp only [Option.bind_some] at hh
    split at hh
    · rename_i ho; cases hh; exact .inl ⟨ho, rfl⟩
    · rename_i ho; cases hh; exact .inr ⟨ho, rfl⟩
    · cases hh

theorem tst_search {b : Heap} {o e : Expr} {apos pos : Pos} {x : Str} {c : Bool} (B : Bs w b) (hb : Ext b h) (ho : Ev (model prog w) A h o env (.val (.ref 80))) (hx : Ev (model prog w) A h e env (.str x)) (hz : x.length ≤ 4096) (hh : hitF x = some c)
    (hbase : attributeBase o "search" env (eval o env) = eval o env) (hs : starEach [e] env = [(false, eval e env)]) (hline : (apos.endLine == pos.line) = true)
    (ht : ∀ whole, isTrue (.Call (.Attribute o "search" apos) [e] [] pos) env whole = (do let v ← whole; standAt (Expr.Call (.Attribute o "search" apos) [e] [] pos).pos; holding [v] (truthy v))) : Tst (model prog w) A h (.Call (.Attribute o "search" apos) [e] [] pos) env c := by
  refine .intro fun s E Q he hQ => ?_
  have K := (B.up (hb.trans he)).K
  refine isTrue_plain ?_ (ht _)
  refine Call_method1 hbase hs hline (ho.use he fun v h₁ tk₁ e₁ hv => ?_)
  obtain rfl : v = .ref 80 := hv
  have g80 : s.heap.get? 80 = some patObj := K _ _ rfl
  have g79 : s.heap.get? 79 = some codeObj := K _ _ rfl
  refine ⟨"re.Pattern", _, pa_pattern, slot_search, type_search, ⟨_, e₁ _ _ g80, rfl⟩, fun a ha => by cases ha; exact ⟨_, e₁ _ _ g80, rfl⟩, ?_⟩
  obtain ⟨m', hd, hm⟩ := hit_drive hh
  refine method1_meets slot_search entry_search (hx.use (he.trans e₁) fun u h₂ tk₂ e₂ hu => ?_)
  obtain ⟨t, rfl⟩ := hu
  refine ⟨⟨_, e₂ _ _ (e₁ _ _ g80), rfl⟩, args_search _ _, _, search_meets hz hd (by omega), e₂ _ _ (e₁ _ _ g80), e₂ _ _ (e₁ _ _ g79), ?_⟩
  rcases hm with ⟨hm, rfl⟩ | ⟨hm, rfl⟩
  · rw [hm]
    intro h' a e' ha
    exact truthy_match ha (hQ _ h' tk₂ ((e₁.trans e₂).trans e') rfl)
  · rw [hm]
    exact truthy_none (hQ _ h₂ tk₂ (e₁.trans e₂) rfl)
end
end Mine
end

section
open PySem PySem.W PyProof.Rows PySem.Calls
set_option Elab.async false
set_option maxRecDepth 100000
set_option maxHeartbeats 1000000
namespace Mine

def hitN (x : Str) : Bool := Txt.slice x (some (-2)) none == Str.ofString ".7"
def hdnF (x : Str) : Bool := bif hitN x then false else bif x == Str.ofString "" then false else bif (Txt.item x 0 == Str.ofString ".") || ((Txt.item x (-1) == Str.ofString ".") || false) then false else true
def udmF (x y : Str) : Bool :=
  bif !((!hitN x) && ((!hitN y) && true)) then (bif x == y then true else false)
  else bif Txt.startswith y (Str.ofString ".") && (Txt.endswith x y && true) then true
  else bif (!Txt.startswith y (Str.ofString ".")) && ((x == y) && true) then true else false
def reachF (x : Str) : Str :=
  bif decide (0 ≤ Txt.find x (Str.ofString ".")) then
    bif hdnF x && (((decide (0 ≤ Txt.find (Txt.slice x (some (Txt.find x (Str.ofString ".") + 1)) none) (Str.ofString "."))) || ((Txt.slice x (some (Txt.find x (Str.ofString ".") + 1)) none == Str.ofString "local") || false)) && true)
    then Str.ofString "." ++ Txt.slice x (some (Txt.find x (Str.ofString ".") + 1)) none else x
  else x

section
variable {prog : Program} {w : World} {A : Around} {h : Heap} {env : Env}

theorem lib_call {b : Heap} {x : Str} (B : Bs w b) (he : Ext b h) {u : Value} (hu : Is h u (.str x)) (hx : x.length ≤ 4096) (hh : hitF x = some (hitN x))
    (hroom : A.depth < recursionLimit) : Runs (model prog w) A h (call (.ref 94) [u]) fun _ r => r = .bool (!hitN x) := by
  refine fn_run B he (name := fnName (stAt 8)) (params := fnArgs (stAt 8)) (body := fnBody (stAt 8)) (scope := fnScope (stAt 8)) (binds := [(Str.ofString "text", u)]) rfl rfl hroom rfl (loc1 rfl) ?_
  intro hp h₁ e₁ F
  generalize hA' : A.deeper _ = A'
  have E1 : Ext b h₁ := (he.trans e₁).trans (fr_ext F)
  have tx : ∀ h', Ext h₁ h' → ∀ pos, Ev (model prog w) A' h' (.Name (Str.ofString "text") pos) (envOf (fnName (stAt 8)) (fnScope (stAt 8)) hp.objs.size 94 (.ref 93)) (.str x) :=
    fun h' e pos => ev_local rfl rfl (F.ns.keeps e) rfl (((hu.ext e₁).ext (fr_ext F)).ext e)
  refine bd_if (tst_search B E1 (ev_g B E1 rfl rfl rfl rfl) (tx _ (Ext.refl _) _) hx hh rfl rfl rfl (fun _ => rfl)) ?_ ?_
  · intro h' e' hc
    refine bd_ret ((fr_ext F).trans e') (ev_const_bool.conseq fun _ _ _ hv => ?_)
    rw [hc]; exact hv
  · intro h' e' hc
    refine bd_nil ((fr_ext F).trans e') (bd_ret ((fr_ext F).trans e') (ev_const_bool.conseq fun _ _ _ hv => ?_))
    rw [hc]; exact hv

theorem hdn_call {b : Heap} {x : Str} (B : Bs w b) (he : Ext b h) {u : Value} (hu : Is h u (.str x)) (hx : x.length ≤ 4096) (hx0 : 0 < x.length) (hh : hitF x = some (hitN x))
    (hroom : A.depth < recursionLimit) : Runs (model prog w) A h (call (.ref 87) [u]) fun _ r => r = .bool (hdnF x) := by
  refine fn_run B he (name := fnName (stAt 7)) (params := fnArgs (stAt 7)) (body := fnBody (stAt 7)) (scope := fnScope (stAt 7)) (binds := [(Str.ofString "text", u)]) rfl rfl hroom rfl (loc1 rfl) ?_
  intro hp h₁ e₁ F
  generalize hA' : A.deeper _ = A'
  have E1 : Ext b h₁ := (he.trans e₁).trans (fr_ext F)
  have tx : ∀ h', Ext h₁ h' → ∀ pos, Ev (model prog w) A' h' (.Name (Str.ofString "text") pos) (envOf (fnName (stAt 7)) (fnScope (stAt 7)) hp.objs.size 87 (.ref 86)) (.str x) :=
    fun h' e pos => ev_local rfl rfl (F.ns.keeps e) rfl (((hu.ext e₁).ext (fr_ext F)).ext e)
  refine bd_if (tst_search B E1 (ev_g B E1 rfl rfl rfl rfl) (tx _ (Ext.refl _) _) hx hh rfl rfl rfl (fun _ => rfl)) ?_ ?_
  · intro h' e' hc
    refine bd_ret ((fr_ext F).trans e') (ev_const_bool.conseq fun _ _ _ hv => ?_)
    rw [hdnF, hc]; exact hv
  · intro h' e' hc
    refine bd_nil ((fr_ext F).trans e') ?_
    refine bd_if (tst_compare (tx _ e' _) ev_const_str (fun _ _ _ _ ha hb => r_eqs ha hb) rfl) ?_ ?_
    · intro h₂ e₂ hc₂
      refine bd_ret (((fr_ext F).trans e').trans e₂) (ev_const_bool.conseq fun _ _ _ hv => ?_)
      rw [hdnF, hc, hc₂]; exact hv
    · intro h₂ e₂ hc₂
      refine bd_nil (((fr_ext F).trans e').trans e₂) ?_
      refine bd_if (c := (Txt.item x 0 == Str.ofString ".") || ((Txt.item x (-1) == Str.ofString ".") || false)) ?_ ?_ ?_
      · refine tst_or (tst_compare (ev_subscript (tx _ (e'.trans e₂) _) ev_const_int fun o i h₂ e ho hi => r_item_str ho hi (by decide) (by omega) (by omega) (fun _ _ => rfl) (fun _ _ _ => rfl)) ev_const_str (fun _ _ _ _ ha hb => r_eqs ha hb) rfl) fun _ => ?_
        refine tst_or (tst_compare (ev_subscript (tx _ (e'.trans e₂) _) (ev_neg ev_const_int) fun o i h₂ e ho hi => r_item_str ho hi (by decide) (by omega) (by omega) (fun _ _ => rfl) (fun _ _ _ => rfl)) ev_const_str (fun _ _ _ _ ha hb => r_eqs ha hb) rfl) fun _ => tst_or_nil
      · intro h₃ e₃ hc₃
        refine bd_ret ((((fr_ext F).trans e').trans e₂).trans e₃) (ev_const_bool.conseq fun _ _ _ hv => ?_)
        rw [hdnF, hc, hc₂, hc₃]; exact hv
      · intro h₃ e₃ hc₃
        refine bd_nil ((((fr_ext F).trans e').trans e₂).trans e₃) (bd_ret ((((fr_ext F).trans e').trans e₂).trans e₃) (ev_const_bool.conseq fun _ _ _ hv => ?_))
        rw [hdnF, hc, hc₂, hc₃]; exact hv

theorem udm_call {b : Heap} {x y p q : Str} (B : Bs w b) (he : Ext b h) {u v : Value} (hu : Is h u (.str p)) (hv : Is h v (.str q)) (hp' : Txt.lower p = x) (hq' : Txt.lower q = y) (hx : x.length ≤ 4096) (hy : y.length ≤ 4096)
    (hhx : hitF x = some (hitN x)) (hhy : hitF y = some (hitN y)) (hroom : A.depth + 1 < recursionLimit) : Runs (model prog w) A h (call (.ref 101) [u, v]) fun _ r => r = .bool (udmF x y) := by
  refine fn_run B he (name := fnName (stAt 9)) (params := fnArgs (stAt 9)) (body := fnBody (stAt 9)) (scope := fnScope (stAt 9)) (binds := [(Str.ofString "A", u), (Str.ofString "B", v)]) rfl rfl (by omega) rfl (loc2 rfl rfl) ?_
  intro hp h₁ e₁ F
  have hA : (A.deeper (envOf (fnName (stAt 9)) (fnScope (stAt 9)) hp.objs.size 101 (.ref 100))).depth < recursionLimit := hroom
  generalize A.deeper _ = A' at hA ⊢
  have E1 : Ext b h₁ := (he.trans e₁).trans (fr_ext F)
  refine bd_assign rfl F (d := .str x) (hp' ▸ ev_lower (ev_local rfl rfl F.ns rfl ((hu.ext e₁).ext (fr_ext F))) (by rw [hp']; exact sl_ok hx) rfl rfl) rfl (fun h₂ v₂ F₂ hv₂ up₂ => ?_) rfl rfl
  refine bd_assign rfl F₂ (d := .str y) (hq' ▸ ev_lower (ev_local rfl rfl F₂.ns rfl (up₂ _ _ ((hv.ext e₁).ext (fr_ext F)))) (by rw [hq']; exact sl_ok hy) rfl rfl) rfl (fun h₃ v₃ F₃ hv₃ up₃ => ?_) rfl rfl
  have E3 : Ext b h₃ := (he.trans e₁).trans (fr_ext F₃)
  have hv₂' := up₃ _ _ hv₂
  have nA : ∀ h', Ext h₃ h' → ∀ pos, Ev (model prog w) A' h' (.Name (Str.ofString "A") pos) (envOf (fnName (stAt 9)) (fnScope (stAt 9)) hp.objs.size 101 (.ref 100)) (.str x) :=
    fun h' e pos => ev_local rfl rfl (F₃.ns.keeps e) rfl (hv₂'.ext e)
  have nB : ∀ h', Ext h₃ h' → ∀ pos, Ev (model prog w) A' h' (.Name (Str.ofString "B") pos) (envOf (fnName (stAt 9)) (fnScope (stAt 9)) hp.objs.size 101 (.ref 100)) (.str y) :=
    fun h' e pos => ev_local rfl rfl (F₃.ns.keeps e) rfl (hv₃.ext e)
  have ret : ∀ (h' : Heap) (c : Bool) (k : Nat) (pos : Pos) (rest : List Stmt) (pos' : Pos) (K : Heap → Prop), Ext h₃ h' → udmF x y = c → Bd (model prog w) A' hp (envOf (fnName (stAt 9)) (fnScope (stAt 9)) hp.objs.size 101 (.ref 100)) (fun _ r => r = .bool (udmF x y)) K (.Return (some (.Constant (.bool c) k pos)) pos' :: rest) h' :=
    fun h' c k pos rest pos' K e hc => bd_ret ((fr_ext F₃).trans e) (ev_const_bool.conseq fun _ _ _ hv => by rw [hc]; exact hv)
  refine bd_if (c := !((!hitN x) && ((!hitN y) && true))) ?_ ?_ ?_
  · refine tst_not ?_
    refine tst_and (tst_bool (ev_call1 (ev_g B E3 rfl rfl rfl rfl) (E3 _ _ (B.K _ _ rfl)) rfl (nA _ (Ext.refl _) _) fun a h' e ha => lib_call B (E3.trans e) ha hx hhx hA)) fun _ => ?_
    exact tst_and (tst_bool (ev_call1 (ev_g B E3 rfl rfl rfl rfl) (E3 _ _ (B.K _ _ rfl)) rfl (nB _ (Ext.refl _) _) fun a h' e ha => lib_call B (E3.trans e) ha hy hhy hA)) fun _ => tst_and_nil
  · intro h₄ e₄ hc
    refine bd_if (tst_compare (nA _ e₄ _) (nB _ e₄ _) (fun _ _ _ _ ha hb => r_eqs ha hb) rfl) ?_ ?_
    · intro h₅ e₅ hc₂
      exact ret _ _ _ _ _ _ _ (e₄.trans e₅) (by rw [udmF, hc, hc₂]; rfl)
    · intro h₅ e₅ hc₂
      exact bd_nil ((fr_ext F₃).trans (e₄.trans e₅)) (ret _ _ _ _ _ _ _ (e₄.trans e₅) (by rw [udmF, hc, hc₂]; rfl))
  · intro h₄ e₄ hc
    refine bd_nil ((fr_ext F₃).trans e₄) ?_
    refine bd_assign rfl (F₃.keeps e₄) (d := .bool (Txt.startswith y (Str.ofString "."))) (ev_startswith (nB _ e₄ _) ev_const_str rfl rfl rfl) rfl (fun h₅ v₅ F₅ hv₅ up₅ => ?_) rfl rfl
    have hx₅ := up₅ _ _ (hv₂'.ext e₄)
    have hy₅ := up₅ _ _ (hv₃.ext e₄)
    have nA : ∀ h', Ext h₅ h' → ∀ pos, Ev (model prog w) A' h' (.Name (Str.ofString "A") pos) (envOf (fnName (stAt 9)) (fnScope (stAt 9)) hp.objs.size 101 (.ref 100)) (.str x) :=
      fun h' e pos => ev_local rfl rfl (F₅.ns.keeps e) rfl (hx₅.ext e)
    have nB : ∀ h', Ext h₅ h' → ∀ pos, Ev (model prog w) A' h' (.Name (Str.ofString "B") pos) (envOf (fnName (stAt 9)) (fnScope (stAt 9)) hp.objs.size 101 (.ref 100)) (.str y) :=
      fun h' e pos => ev_local rfl rfl (F₅.ns.keeps e) rfl (hy₅.ext e)
    have nD : ∀ h', Ext h₅ h' → ∀ pos, Ev (model prog w) A' h' (.Name (Str.ofString "initial_dot") pos) (envOf (fnName (stAt 9)) (fnScope (stAt 9)) hp.objs.size 101 (.ref 100)) (.bool (Txt.startswith y (Str.ofString "."))) :=
      fun h' e pos => ev_local rfl rfl (F₅.ns.keeps e) rfl (hv₅.ext e)
    have ret : ∀ (h' : Heap) (c : Bool) (k : Nat) (pos : Pos) (rest : List Stmt) (pos' : Pos) (K : Heap → Prop), Ext h₅ h' → udmF x y = c → Bd (model prog w) A' hp (envOf (fnName (stAt 9)) (fnScope (stAt 9)) hp.objs.size 101 (.ref 100)) (fun _ r => r = .bool (udmF x y)) K (.Return (some (.Constant (.bool c) k pos)) pos' :: rest) h' :=
      fun h' c k pos rest pos' K e hc => bd_ret ((fr_ext F₅).trans e) (ev_const_bool.conseq fun _ _ _ hv => by rw [hc]; exact hv)
    refine bd_if (c := Txt.startswith y (Str.ofString ".") && (Txt.endswith x y && true)) (tst_and (tst_bool (nD _ (Ext.refl _) _)) fun _ => tst_and (tst_bool (ev_endswith (nA _ (Ext.refl _) _) (nB _ (Ext.refl _) _) rfl rfl rfl)) fun _ => tst_and_nil) ?_ ?_
    · intro h₆ e₆ hc₂
      exact ret _ _ _ _ _ _ _ e₆ (by rw [udmF, hc, hc₂]; rfl)
    · intro h₆ e₆ hc₂
      refine bd_nil ((fr_ext F₅).trans e₆) ?_
      refine bd_if (c := (!Txt.startswith y (Str.ofString ".")) && ((x == y) && true)) (tst_and (tst_not (tst_bool (nD _ e₆ _))) fun _ => tst_and (tst_compare (nA _ e₆ _) (nB _ e₆ _) (fun _ _ _ _ ha hb => r_eqs ha hb) rfl) fun _ => tst_and_nil) ?_ ?_
      · intro h₇ e₇ hc₃
        exact ret _ _ _ _ _ _ _ (e₆.trans e₇) (by rw [udmF, hc, hc₂, hc₃]; rfl)
      · intro h₇ e₇ hc₃
        exact bd_nil ((fr_ext F₅).trans (e₆.trans e₇)) (ret _ _ _ _ _ _ _ (e₆.trans e₇) (by rw [udmF, hc, hc₂, hc₃]; rfl))

theorem reach_call {b : Heap} {x : Str} (B : Bs w b) (he : Ext b h) {u : Value} (hu : Is h u (.str x)) (hx : x.length ≤ 4000) (hx0 : 0 < x.length) (hh : hitF x = some (hitN x)) (hsl : ∀ k, (Txt.slice x (some k) none).length ≤ x.length)
    (hroom : A.depth + 1 < recursionLimit) : Runs (model prog w) A h (call (.ref 108) [u]) fun h' r => Is h' r (.str (reachF x)) := by
  refine fn_run B he (name := fnName (stAt 10)) (params := fnArgs (stAt 10)) (body := fnBody (stAt 10)) (scope := fnScope (stAt 10)) (binds := [(Str.ofString "h", u)]) rfl rfl (by omega) rfl (loc1 rfl) ?_
  intro hp h₁ e₁ F
  have hA : (A.deeper (envOf (fnName (stAt 10)) (fnScope (stAt 10)) hp.objs.size 108 (.ref 107))).depth < recursionLimit := hroom
  generalize A.deeper _ = A' at hA ⊢
  have E1 : Ext b h₁ := (he.trans e₁).trans (fr_ext F)
  refine bd_assign rfl F (d := .int (Txt.find x (Str.ofString "."))) (ev_find (ev_local rfl rfl F.ns rfl ((hu.ext e₁).ext (fr_ext F))) ev_const_str rfl rfl rfl) rfl (fun h₂ v₂ F₂ hv₂ up₂ => ?_) rfl rfl
  have hu₂ := up₂ _ _ ((hu.ext e₁).ext (fr_ext F))
  have nh : ∀ h', Ext h₂ h' → ∀ pos, Ev (model prog w) A' h' (.Name (Str.ofString "h") pos) (envOf (fnName (stAt 10)) (fnScope (stAt 10)) hp.objs.size 108 (.ref 107)) (.str x) :=
    fun h' e pos => ev_local rfl rfl (F₂.ns.keeps e) rfl (hu₂.ext e)
  refine bd_if (tst_compare (ev_local rfl rfl F₂.ns rfl hv₂) ev_const_int (fun _ _ _ _ ha hb => r_ge ha hb) rfl) ?_ ?_
  · intro h₃ e₃ hc
    refine bd_assign rfl (F₂.keeps e₃) (d := .str (Txt.slice x (some (Txt.find x (Str.ofString ".") + 1)) none)) (ev_slice_str (nh _ e₃ _) (ev_binop (ev_local rfl rfl (F₂.ns.keeps e₃) rfl (hv₂.ext e₃)) ev_const_int fun _ _ _ _ ha hb => r_add ha hb) (sl_ok (by omega))) rfl (fun h₄ v₄ F₄ hv₄ up₄ => ?_) rfl rfl
    refine bd_assign rfl F₄ (d := .int (Txt.find (Txt.slice x (some (Txt.find x (Str.ofString ".") + 1)) none) (Str.ofString "."))) (ev_find (ev_local rfl rfl F₄.ns rfl hv₄) ev_const_str rfl rfl rfl) rfl (fun h₅ v₅ F₅ hv₅ up₅ => ?_) rfl rfl
    have hu₅ := up₅ _ _ (up₄ _ _ (hu₂.ext e₃))
    have hv₄' := up₅ _ _ hv₄
    have E5 : Ext b h₅ := (he.trans e₁).trans (fr_ext F₅)
    refine bd_if (c := hdnF x && (((decide (0 ≤ Txt.find (Txt.slice x (some (Txt.find x (Str.ofString ".") + 1)) none) (Str.ofString "."))) || ((Txt.slice x (some (Txt.find x (Str.ofString ".") + 1)) none == Str.ofString "local") || false)) && true)) ?_ ?_ ?_
    · refine tst_and (tst_bool (ev_call1 (ev_g B E5 rfl rfl rfl rfl) (E5 _ _ (B.K _ _ rfl)) rfl (ev_local rfl rfl F₅.ns rfl hu₅) fun a h' e ha => hdn_call B (E5.trans e) ha (by omega) hx0 hh hA)) fun _ => ?_
      refine tst_and ?_ fun _ => tst_and_nil
      refine tst_or (tst_compare (ev_local rfl rfl F₅.ns rfl hv₅) ev_const_int (fun _ _ _ _ ha hb => r_ge ha hb) rfl) fun _ => ?_
      exact tst_or (tst_compare (ev_local rfl rfl F₅.ns rfl hv₄') ev_const_str (fun _ _ _ _ ha hb => r_eqs ha hb) rfl) fun _ => tst_or_nil
    · intro h₆ e₆ hc₂
      have hz : (Str.ofString ".").length + (Txt.slice x (some (Txt.find x (Str.ofString ".") + 1)) none).length ≤ 4096 := by
        have := hsl (Txt.find x (Str.ofString ".") + 1)
        have h1 : (Str.ofString ".").length = 1 := by decide
        omega
      refine bd_ret ((fr_ext F₅).trans e₆) ((ev_binop ev_const_str (ev_local rfl rfl (F₅.ns.keeps e₆) rfl (hv₄'.ext e₆)) fun _ _ _ _ ha hb => r_adds ha hb (sl_ok hz)).conseq fun _ _ _ hv => ?_)
      rw [reachF, hc, hc₂]; exact hv
    · intro h₆ e₆ hc₂
      refine bd_nil ((fr_ext F₅).trans e₆) ?_
      refine bd_nil ((fr_ext F₅).trans e₆) ?_
      refine bd_ret ((fr_ext F₅).trans e₆) (Runs.conseq (ev_local rfl rfl (F₅.ns.keeps e₆) rfl (hu₅.ext e₆)) fun _ _ _ hv => ?_)
      rw [reachF, hc, hc₂]; exact hv
  · intro h₃ e₃ hc
    refine bd_nil ((fr_ext F₂).trans e₃) ?_
    refine bd_ret ((fr_ext F₂).trans e₃) (Runs.conseq (nh _ e₃ _) fun _ _ _ hv => ?_)
    rw [reachF, hc]; exact hv
end
end Mine
end

section
open PySem PySem.W PyProof.Rows PySem.Calls
set_option Elab.async false
set_option maxRecDepth 100000
set_option maxHeartbeats 1000000
namespace Mine

/-- what pyIter hands on: a walk over n items -/
def SrcOk (prog : Program) (w : World) (A : Around) (h : Heap) (xv : Value) (n : Nat) (P : Nat → Value → Prop) : Prop :=
  ∀ (s : Shared) (E : Value → Shared → Prop) (Q : Value → Shared → Prop), s.heap = h →
    (∀ I fp wr St h₂, Walks prog w A I fp wr n P St → Ext h h₂ → (∀ b ∈ wr, h.get? b = none) → (∀ b ∈ fp, b < h₂.objs.size) → St 0 h₂ → Q (.ref I) { s with heap := h₂ }) → wpAny (model prog w) A (pyIter xv) Q E s

section
variable {prog : Program} {w : World} {A : Around} {h : Heap} {env : Env}

theorem src_list {a : Addr} {items : List Value} (hh : A.handled = none) (hl : h.IsList a (List.toArray items)) : SrcOk prog w A h (.ref a) items.length (fun i v => items[i]? = some v) := by
  rintro s E Q rfl hQ
  refine wpAny_pyIter_list hl ?_
  have hlt : a < s.heap.objs.size := by obtain ⟨_, e, _⟩ := hl; exact Heap.lt_size e
  have W := Walks.list (prog := prog) (w := w) hh s.heap.objs.size a (Nat.ne_of_lt hlt) items.toArray
  simp only [List.size_toArray, List.getElem?_toArray] at W
  refine hQ _ _ _ _ _ W ((Ext.refl _).push _) ?_ ?_ ⟨⟨_, Heap.get?_push_size _ rfl, rfl, rfl⟩, hl.push _⟩
  · intro b hb
    rw [List.mem_singleton.mp hb]
    exact none_size (Ext.refl _)
  · intro b hb
    show b < (s.heap.push _).objs.size
    rw [Heap.size_push]
    rcases List.mem_cons.mp hb with rfl | hb
    · exact Nat.lt_succ_self _
    · rw [List.mem_singleton.mp hb]; exact Nat.lt_succ_of_lt hlt
theorem src_range {r : Addr} {n : Nat} {t u v : Tok} (hh : A.handled = none) (hr : IsRange h r 0 (n : Int) 1 t u v) (hn : n ≤ 4096) : SrcOk prog w A h (.ref r) n (fun i v => i < n ∧ ∃ t, v = .int (0 + (i : Int)) t) := by
  rintro s E Q rfl hQ
  have hsz : Builtin.Range.rangeSize 0 (n : Int) 1 = (n : Int) := by rw [rangeSize_nat]; omega
  refine wpAny_pyIter_range hr (small_one (by omega) (by omega) (by omega) (by omega)) ?_
  refine hQ _ _ _ _ _ (LCg.range_walks hh 0 n).bound ((Ext.refl _).push _) ?_ ?_ (by show IsRangeIter _ _ _ _ _; rw [hsz]; simpa using Heap.get?_push_size _ rfl)
  · intro b hb
    rw [List.mem_singleton.mp hb]
    exact none_size (Ext.refl _)
  · intro b hb
    show b < (s.heap.push _).objs.size
    rw [Heap.size_push, List.mem_singleton.mp hb]
    exact Nat.lt_succ_self _

/-- a comprehension stored in a local name of the frame's -/
theorem asg_comp {elt iter : Expr} {x y : Str} {px py : Pos} {ifs : List Expr} {scope : Scope} {cl : List (Str × Addr)} {pos spos : Pos} {n : Nat} {P : Nat → Value → Prop} {m : Str → Option Value} {s : Shared} {E : Value → Shared → Prop} {Q : Flow → Shared → Prop} (p : Value → Bool) (F : Value → Value → Prop)
    (hsw : swapsWith (.ListComp elt [⟨.Name x px, iter, ifs, 0⟩] scope pos) (some (.Name y py)) spos.line env = pure true)
    (ck : CompOk scope env cl x) (hy : env.kindOf y = some .local) (hp : (env.scope.kind == .class || (env.scope.kind == .module && env.locals != env.globals)) = false) (hn : n ≤ 4096)
    (hns : s.heap.Ns env.locals m)
    (hi : Runs (model prog w) A s.heap (eval iter env) fun h' v => SrcOk prog w A h' v n P)
    (ht : ∀ C i v h₂ m, P i v → Ext s.heap h₂ → h₂.Ns C m → m x = some v → Runs (model prog w) A h₂ (testsOf ifs (compEnvC scope cl C env)) fun _ ok => ok = p v)
    (he : ∀ C i v h₂ m, P i v → p v = true → Ext s.heap h₂ → h₂.Ns C m → m x = some v → Runs (model prog w) A h₂ (eval elt (compEnvC scope cl C env)) fun _ y => F v y)
    (hQ : ∀ (a : Addr) (h' : Heap) (tk : Nat) (ys vs : List Value), s.heap.get? a = none → h'.IsList a (List.toArray ys) → vs.length = n → (∀ j v, vs[j]? = some v → P j v) → Paired F (vs.filter p) ys →
      h'.Ns env.locals (fun z => if z = y then some (.ref a) else m z) → (∀ b o, b ≠ env.locals → s.heap.get? b = some o → h'.get? b = some o) → Q .next { s with heap := h', toks := tk })
    (hs : ∀ x, foldedSetIterable iter env x = pure x := by intro _; rfl) :
    wpAny (model prog w) A (exec (.Assign [.Name y py] (.ListComp elt [⟨.Name x px, iter, ifs, 0⟩] scope pos) spos) env) Q E s := by
  refine wpAny_Assign_ListComp_free p F hsw ck.clos ck.cell ck.kind ck.names ck.own hy hp (hi.use (Ext.refl _) fun xv h₁ tk₁ e₁ hsrc => ?_) hs
  refine hsrc _ _ _ rfl fun I fp wr St h₂ W e₂ hwr hfp hst => ?_
  have hlt := hns.lt
  have hLw : env.locals ∉ wr := fun hm => by
    obtain ⟨o, _, _, ho, _⟩ := hns.keeps e₁
    rw [hwr _ hm] at ho; cases ho
  have up : ∀ (h₃ : Heap), (∀ b o, b ∉ wr → h₂.get? b = some o → h₃.get? b = some o) → Ext s.heap h₃ := fun h₃ hk b o e => hk b o (fun hm => by have := e₁ b o e; rw [hwr b hm] at this; cases this) (e₂ b o (e₁ b o e))
  refine ⟨I, fp, wr, n, P, St, m, rfl, W, by rw [sizeLine_eq]; omega, hst, hfp, hLw, (hns.keeps e₁).keeps e₂, ⟨?_, ?_⟩, ?_⟩
  · intro C i v s₃ m₃ E' _ hv hn' hm hk _
    exact ht C i v s₃.heap m₃ hv (up _ hk) hn' hm s₃ E' (Ext.refl _)
  · intro C i v s₃ m₃ E' _ hv hpv hn' hm hk _
    exact he C i v s₃.heap m₃ hv hpv (up _ hk) hn' hm s₃ E' (Ext.refl _)
  · intro D h' tk ys vs hD hl _ hlen hP hF hn' hk
    refine hQ D h' tk ys.toList vs ?_ (by simpa using hl) hlen hP hF hn' fun b o hb e => hk b o hb (fun hm => by have := e₁ b o e; rw [hwr b hm] at this; cases this) (e₂ b o (e₁ b o e))
    cases e : s.heap.get? D with
    | none => rfl
    | some o => have := e₂ D o (e₁ D o e); rw [hD] at this; cases this

/-- lists written out -/
noncomputable def IsAll (h : Heap) : List Value → List D → Prop
  | [], [] => True
  | v :: vs, d :: ds => Is h v d ∧ IsAll h vs ds
  | _, _ => False
theorem IsAll.ext {h h' : Heap} (e : Ext h h') : ∀ {vs : List Value} {ds : List D}, IsAll h vs ds → IsAll h' vs ds
  | [], [], x => x
  | _ :: _, _ :: _, x => ⟨x.1.ext e, IsAll.ext e x.2⟩
inductive EvL (M : Model) (A : Around) (h : Heap) (env : Env) : List Expr → List D → Prop
  | nil : EvL M A h env [] []
  | cons {e : Expr} {d : D} {es : List Expr} {ds : List D} : Ev M A h e env d → starEach (e :: es) env = (false, eval e env) :: starEach es env → EvL M A h env es ds → EvL M A h env (e :: es) (d :: ds)
theorem run_all {pos : Pos} : ∀ {es : List Expr} {ds : List D} {h : Heap}, EvL (model prog w) A h env es ds → Runs (model prog w) A h (spliced (backTo pos (starEach es env))) fun h' vs => IsAll h' vs ds
  | _, _, h, .nil => .intro fun s _ _ _ hQ => args_nil (hQ [] s.heap s.toks (Ext.refl _) trivial)
  | _, _, h, .cons he hs r => .intro fun s _ _ hle hQ => args_cons (he.use hle fun v h₁ tk₁ e₁ hv => (run_all r).use (hle.trans e₁) fun vs h₂ tk₂ e₂ hvs => hQ (v :: vs) h₂ tk₂ (e₁.trans e₂) ⟨hv.ext e₂, hvs⟩) hs
theorem isall_len {h : Heap} : ∀ {vs : List Value} {ds : List D}, IsAll h vs ds → vs.length = ds.length
  | [], [], _ => rfl
  | _ :: _, _ :: _, x => by simp [isall_len x.2]
/-- a written list -/
theorem ev_list {es : List Expr} {ds : List D} {pos : Pos} (hes : EvL (model prog w) A h env es ds) (hz : ds.length ≤ 4096) :
    Runs (model prog w) A h (eval (.List es pos) env) fun h' v => ∃ a vs, v = .ref a ∧ h.get? a = none ∧ h'.PlainList a (List.toArray vs) ∧ IsAll h' vs ds :=
  .intro fun s _ _ hle hQ => List_ ((run_all hes).use hle fun vs h₁ tk₁ e₁ hvs => wpAny_newObj_type (hQ _ _ tk₁ (e₁.push _) ⟨_, vs, rfl, none_size (hle.trans e₁), plain_pushed rfl, hvs.ext ((Ext.refl _).push _)⟩) (by show vs.toArray.size ≤ sizeLine; rw [List.size_toArray, isall_len hvs, sizeLine_eq]; omega))
theorem isall_strs {h : Heap} : ∀ {vs : List Value} {xs : List Str}, IsAll h vs (xs.map D.str) → StrsAre vs xs
  | [], [], _ => .nil
  | _ :: _, x :: xs, y => by obtain ⟨⟨t, rfl⟩, z⟩ := y; exact .cons x t (isall_strs z)
theorem isall_ints {h : Heap} : ∀ {vs : List Value} {xs : List Int}, IsAll h vs (xs.map D.int) → IntsAre vs xs
  | [], [], _ => .nil
  | _ :: _, x :: xs, y => by obtain ⟨⟨t, rfl⟩, z⟩ := y; exact .cons x t (isall_ints z)
theorem isall_tls {h : Heap} : ∀ {vs : List Value} {xss : List (List Str)}, IsAll h vs (xss.map D.tl) → TLs h vs xss
  | [], [], _ => .nil
  | _ :: _, x :: xs, y => by obtain ⟨⟨a, rfl, ht⟩, z⟩ := y; exact .cons ht (isall_tls z)
theorem ev_list_strs {es : List Expr} {xs : List Str} {pos : Pos} (hes : EvL (model prog w) A h env es (xs.map D.str)) (hz : xs.length ≤ 4096) : Runs (model prog w) A h (eval (.List es pos) env) fun h' v => NewTL h h' v xs :=
  (ev_list hes (by simpa using hz)).conseq fun _ _ _ hv => by obtain ⟨a, vs, rfl, hn, hl, hi⟩ := hv; exact ⟨a, rfl, hn, vs, hl, isall_strs hi⟩
theorem ev_list_ints {es : List Expr} {xs : List Int} {pos : Pos} (hes : EvL (model prog w) A h env es (xs.map D.int)) (hz : xs.length ≤ 4096) : Ev (model prog w) A h (.List es pos) env (.il xs) :=
  (ev_list hes (by simpa using hz)).conseq fun _ _ _ hv => by obtain ⟨a, vs, rfl, hn, hl, hi⟩ := hv; exact ⟨a, vs, rfl, hl.isList, isall_ints hi⟩
theorem NewTL.ev {e : Expr} {xs : List Str} (r : Runs (model prog w) A h (eval e env) fun h' v => NewTL h h' v xs) : Ev (model prog w) A h e env (.tl xs) := r.conseq fun _ _ _ hv => hv.is
theorem r_len_tl {a : Value} {xs : List Str} (ha : Is h a (.tl xs)) (hx : xs.length ≤ 4096) : Runs (model prog w) A h (call (.builtin "len") [a]) fun h' v => Is h' v (.int (xs.length : Int)) := by
  obtain ⟨l, rfl, vs, hl, hv⟩ := ha
  have e : (vs.toArray.size : Int) = (xs.length : Int) := by simp [hv.length]
  exact .intro fun s _ _ he hQ => call_len_list (islist_ext he hl) (by omega) (by rw [e]; exact hQ _ s.heap (s.toks + 1 + 1) (Ext.refl _) ⟨_, rfl⟩)
theorem ev_tcall1 {func e : Expr} {pos : Pos} {T : String} {d : D} {R : Heap → Value → Prop} (hf : Ev (model prog w) A h func env (.val (.type T)))
    (he : Ev (model prog w) A h e env d) (hc : ∀ a h₂, Ext h h₂ → Is h₂ a d → Runs (model prog w) A h₂ (call (.type T) [a]) R)
    (he1 : eval (.Call func [e] [] pos) env = (do callWith pos (← eval func env) [] (backTo pos (starEach [e] env)) (backToKw pos (keywordEach [] env))) := by rfl)
    (he2 : starEach [e] env = (false, eval e env) :: starEach [] env := by rfl) : Runs (model prog w) A h (eval (.Call func [e] [] pos) env) R := by
  refine .intro fun s E Q hle hQ => Call_ (hf.use hle fun v h₁ tk₁ e₁ hv => ?_) he1
  obtain rfl : v = .type T := hv
  refine PyProof.Rows.callWith_type1 ?_ he2 rfl
  refine args_cons ?_ he2
  refine he.use (hle.trans e₁) fun a h₂ tk₂ e₂ ha => args_nil ?_
  exact (hc a h₂ ((hle.trans e₁).trans e₂) ha).use (Ext.refl _) fun u h₃ tk₃ e₃ hu => hQ u h₃ tk₃ ((e₁.trans e₂).trans e₃) hu
theorem ev_tcall2 {func e e' : Expr} {pos : Pos} {T : String} {d d' : D} {R : Heap → Value → Prop} (hf : Ev (model prog w) A h func env (.val (.type T)))
    (he : Ev (model prog w) A h e env d) (he' : Ev (model prog w) A h e' env d') (hc : ∀ a b h₂, Ext h h₂ → Is h₂ a d → Is h₂ b d' → Runs (model prog w) A h₂ (call (.type T) [a, b]) R)
    (he1 : eval (.Call func [e, e'] [] pos) env = (do callWith pos (← eval func env) [] (backTo pos (starEach [e, e'] env)) (backToKw pos (keywordEach [] env))) := by rfl)
    (he2 : starEach [e, e'] env = (false, eval e env) :: starEach [e'] env := by rfl) (he3 : starEach [e'] env = (false, eval e' env) :: starEach [] env := by rfl) : Runs (model prog w) A h (eval (.Call func [e, e'] [] pos) env) R := by
  refine .intro fun s E Q hle hQ => Call_ (hf.use hle fun v h₁ tk₁ e₁ hv => ?_) he1
  obtain rfl : v = .type T := hv
  refine PyProof.Rows.callWith_type1 ?_ he2 (by rw [he3]; rfl)
  refine args_cons ?_ he2
  refine he.use (hle.trans e₁) fun a h₂ tk₂ e₂ ha => args_cons ?_ he3
  refine he'.use ((hle.trans e₁).trans e₂) fun b h₃ tk₃ e₃ hb => args_nil ?_
  exact (hc a b h₃ (((hle.trans e₁).trans e₂).trans e₃) (ha.ext e₃) hb).use (Ext.refl _) fun u h₄ tk₄ e₄ hu => hQ u h₄ tk₄ (((e₁.trans e₂).trans e₃).trans e₄) hu
end
end Mine
end

section
open PySem PySem.W PyProof.Rows PySem.Calls
set_option Elab.async false
set_option maxRecDepth 100000
set_option maxHeartbeats 1000000
namespace Mine

def lawReachF (x : Str) : Str :=
  bif ((Txt.split x (Str.ofString ".")).getD 0 Str.empty != Str.ofString "") && ((Txt.slice x (some (-2)) none != Str.ofString ".7") && ((decide ((2 : Int) < ((Txt.split x (Str.ofString ".")).length : Int)) || ((((Txt.split x (Str.ofString ".")).drop 1) == [Str.ofString "local"]) || false)) && true))
  then Str.ofString "." ++ Txt.join (Str.ofString ".") ((Txt.split x (Str.ofString ".")).drop 1) else x

/-- what is asked of a name for _law_reach's walk -/
structure SplitOk (x : Str) : Prop where
  len : x.length ≤ 4000
  parts : (Builtin.Str.partsBetween x (Builtin.Str.occurrences x (Str.ofString ".") 0 x.length (x.length + 1)) (Str.ofString ".").length).length ≤ 4096
  some : 0 < (Txt.split x (Str.ofString ".")).length
  few : (Txt.split x (Str.ofString ".")).length ≤ 4096
  ok : TOk (Txt.split x (Str.ofString "."))
  join : (((Txt.split x (Str.ofString ".")).drop 1).map (·.length)).sum + ((Txt.split x (Str.ofString ".")).drop 1).length * (Str.ofString ".").length ≤ 4000
  joined : (Txt.join (Str.ofString ".") ((Txt.split x (Str.ofString ".")).drop 1)).length ≤ 4000

section
variable {prog : Program} {w : World} {A : Around} {h : Heap} {env : Env}

theorem r_item_tl {value slice : Expr} {o i : Value} {xs : List Str} {k : Int} (ho : Is h o (.tl xs)) (hi : Is h i (.int k)) (h0 : 0 ≤ k) (hk : k < (xs.length : Int)) (hf : k < 2 ^ 63)
    (hs : ∀ o i, subscripted slice false o i = operate [o, i] (getItem o i)) : Runs (model prog w) A h (subscriptTail value slice o i) fun h' v => Is h' v (.str (xs.getD k.toNat Str.empty)) := by
  obtain ⟨l, rfl, vs, hl, hv⟩ := ho
  have hlt : k.toNat < xs.length := by omega
  obtain ⟨t, ht⟩ := StrsAre.at hv (List.getElem?_eq_getElem hlt)
  refine (r_item_list hl hi h0 hf ht hs).conseq fun _ _ _ hv => ⟨t, ?_⟩
  rw [hv, List.getD_eq_getElem?_getD, List.getElem?_eq_getElem hlt]; rfl

theorem tok_drop {xs : List Str} (h : TOk xs) (n : Nat) : TOk (xs.drop n) := fun x hx => h x (List.mem_of_mem_drop hx)

theorem lawreach_call {b : Heap} {x : Str} (B : Bs w b) (he : Ext b h) {u : Value} (hu : Is h u (.str x)) (S : SplitOk x) (hroom : A.depth < recursionLimit) (hun : A.units + 70 < cLine) :
    Runs (model prog w) A h (call (.ref 127) [u]) fun h' r => Is h' r (.str (lawReachF x)) := by
  refine fn_run B he (name := fnName (stAt 14)) (params := fnArgs (stAt 14)) (body := fnBody (stAt 14)) (scope := fnScope (stAt 14)) (binds := [(Str.ofString "name", u)]) rfl rfl (by omega) rfl (loc1 rfl) ?_
  intro hp h₁ e₁ F
  have hA : (A.deeper (envOf (fnName (stAt 14)) (fnScope (stAt 14)) hp.objs.size 127 (.ref 126))).units + 64 < cLine := by show A.units + 3 + 64 < cLine; omega
  generalize A.deeper _ = A' at hA ⊢
  have E1 : Ext b h₁ := (he.trans e₁).trans (fr_ext F)
  have l1 : (Str.ofString ".").length = 1 := by decide
  refine bd_assign rfl F (d := .tl (Txt.split x (Str.ofString "."))) (ev_split (ev_local rfl rfl F.ns rfl ((hu.ext e₁).ext (fr_ext F))) ev_const_str (by decide) (sl_ok (by have := S.len; omega)) (sl_ok S.parts) rfl rfl rfl) rfl (fun h₂ v₂ F₂ hv₂ up₂ => ?_) rfl rfl
  have hu₂ := up₂ _ _ ((hu.ext e₁).ext (fr_ext F))
  have E2 : Ext b h₂ := (he.trans e₁).trans (fr_ext F₂)
  have nn : ∀ h', Ext h₂ h' → ∀ pos, Ev (model prog w) A' h' (.Name (Str.ofString "name") pos) (envOf (fnName (stAt 14)) (fnScope (stAt 14)) hp.objs.size 127 (.ref 126)) (.str x) :=
    fun h' e pos => ev_local rfl rfl (F₂.ns.keeps e) rfl (hu₂.ext e)
  have nl : ∀ h', Ext h₂ h' → ∀ pos, Ev (model prog w) A' h' (.Name (Str.ofString "labels") pos) (envOf (fnName (stAt 14)) (fnScope (stAt 14)) hp.objs.size 127 (.ref 126)) (.tl (Txt.split x (Str.ofString "."))) :=
    fun h' e pos => ev_local rfl rfl (F₂.ns.keeps e) rfl (hv₂.ext e)
  have sl : ∀ h', Ext h₂ h' → ∀ k p q r, Ev (model prog w) A' h' (.Subscript (.Name (Str.ofString "labels") p) (.Slice (some (.Constant (.int 1) k q)) none none r) p) (envOf (fnName (stAt 14)) (fnScope (stAt 14)) hp.objs.size 127 (.ref 126)) (.tl ((Txt.split x (Str.ofString ".")).drop 1)) :=
    fun h' e k p q r => NewTL.ev (ev_slice_from (k := 1) (nl _ e _) ev_const_int (by omega) (sl_ok S.few) (fun _ _ => rfl))
  have sl' : ∀ h', Ext h₂ h' → ∀ k p q r s, Ev (model prog w) A' h' (.Subscript (.Name (Str.ofString "labels") p) (.Slice (some (.Constant (.int 1) k q)) none none r) s) (envOf (fnName (stAt 14)) (fnScope (stAt 14)) hp.objs.size 127 (.ref 126)) (.tl ((Txt.split x (Str.ofString ".")).drop 1)) :=
    fun h' e k p q r s => NewTL.ev (ev_slice_from (k := 1) (nl _ e _) ev_const_int (by omega) (sl_ok S.few) (fun _ _ => rfl))
  refine bd_if (c := ((Txt.split x (Str.ofString ".")).getD 0 Str.empty != Str.ofString "") && ((Txt.slice x (some (-2)) none != Str.ofString ".7") && ((decide ((2 : Int) < ((Txt.split x (Str.ofString ".")).length : Int)) || ((((Txt.split x (Str.ofString ".")).drop 1) == [Str.ofString "local"]) || false)) && true))) ?_ ?_ ?_
  · refine tst_and (tst_compare (ev_subscript (nl _ (Ext.refl _) _) ev_const_int fun o i h₂ e ho hi => r_item_tl ho hi (by omega) (by have := S.some; omega) (by omega) (fun _ _ => rfl)) ev_const_str (fun _ _ _ _ ha hb => r_nes ha hb) rfl) fun _ => ?_
    refine tst_and (tst_compare (ev_slice_str (nn _ (Ext.refl _) _) (ev_neg ev_const_int) (sl_ok (by have := S.len; omega))) ev_const_str (fun _ _ _ _ ha hb => r_nes ha hb) rfl) fun _ => ?_
    refine tst_and ?_ fun _ => tst_and_nil
    refine tst_or (tst_compare (ev_bcall1 (ev_bi B E2 rfl rfl rfl rfl rfl (by decide +kernel) (by decide)) (nl _ (Ext.refl _) _) fun a h₂ e ha => r_len_tl ha S.few) ev_const_int (fun _ _ _ _ ha hb => r_gt ha hb) rfl) fun _ => ?_
    refine tst_or (tst_compare (sl' _ (Ext.refl _) _ _ _ _ _) (NewTL.ev (ev_list_strs (xs := [Str.ofString "local"]) (.cons ev_const_str rfl .nil) (by decide))) (fun _ _ _ _ ha hb => r_eql ha hb hA (tok_drop S.ok 1) (by intro y hy; rw [List.mem_singleton.mp hy]; decide +kernel)) rfl) fun _ => tst_or_nil
  · intro h₃ e₃ hc
    refine bd_ret ((fr_ext F₂).trans e₃) ((ev_binop ev_const_str (ev_join ev_const_str (sl' _ e₃ _ _ _ _ _) (by have := S.join; omega) rfl rfl rfl) fun _ _ _ _ ha hb => r_adds ha hb (sl_ok (by have := S.joined; omega))).conseq fun _ _ _ hv => ?_)
    rw [lawReachF, hc]; exact hv
  · intro h₃ e₃ hc
    refine bd_nil ((fr_ext F₂).trans e₃) (bd_ret ((fr_ext F₂).trans e₃) (Runs.conseq (nn _ e₃ _) fun _ _ _ hv => ?_))
    rw [lawReachF, hc]; exact hv

theorem r_pow4 {a b : Value} {i : Nat} (hi : i < 3) (ha : Is h a (.int 4)) (hb : Is h b (.int (0 + (i : Int)))) : Runs (model prog w) A h (binaryOp .Pow a b) fun h' v => Is h' v (.int (4 ^ i)) := by
  obtain ⟨t, rfl⟩ := ha; obtain ⟨u, rfl⟩ := hb
  refine .intro fun s _ _ _ hQ => AutoIntOpsIf.pow ?_
  match i, hi with
  | 0, _ => exact hQ _ s.heap (s.toks + 1) (Ext.refl _) ⟨_, rfl⟩
  | 1, _ => exact hQ _ s.heap (s.toks + 1) (Ext.refl _) ⟨_, rfl⟩
  | 2, _ => exact hQ _ s.heap (s.toks + 1) (Ext.refl _) ⟨_, rfl⟩
end
end Mine
end

section
open PySem PySem.W PyProof.Rows PySem.Calls PySem.StrLaws
set_option Elab.async false
set_option maxRecDepth 100000
set_option maxHeartbeats 1000000
namespace Mine

def digF (x : Int) (i : Nat) : Nat := (((x.fdiv 6).fdiv (4 ^ i)).fmod 4).toNat
def lawNameF (x : Int) : Str := mkN ((x.fdiv 3).fmod 2 == 0) ((List.range (1 + x.fmod 3).toNat).map (digF x))
def labs : List Str := [Str.ofString "a", Str.ofString "ba", Str.ofString "local", Str.ofString "7"]
theorem labs_get : ∀ k, k < 4 → labs.getD k Str.empty = labF k := by decide +kernel
theorem lit_dot : Str.ofString "." = (⟨#[46]⟩ : Str) := by decide +kernel
theorem lit_nil : Str.ofString "" = (⟨#[]⟩ : Str) := by decide +kernel

theorem join_len (sep : Str) (xs : List Str) : (Txt.join sep xs).length ≤ (xs.map (·.length)).sum + xs.length * sep.length := by
  unfold Txt.join
  rw [size_glued]
  have : (xs.length - 1) * sep.length ≤ xs.length * sep.length := Nat.mul_le_mul_right _ (by omega)
  omega
theorem mod3 (x : Int) : 0 ≤ x.fmod 3 ∧ x.fmod 3 < 3 := ⟨Int.fmod_nonneg_of_pos _ (by omega), Int.fmod_lt_of_pos _ (by omega)⟩
theorem digF_lt (x : Int) (i : Nat) : digF x i < 4 := by
  unfold digF
  have h1 : 0 ≤ ((x.fdiv 6).fdiv (4 ^ i)).fmod 4 := Int.fmod_nonneg_of_pos _ (by omega)
  have h2 : ((x.fdiv 6).fdiv (4 ^ i)).fmod 4 < 4 := Int.fmod_lt_of_pos _ (by omega)
  omega

theorem vals_labs {g : Nat → Str} : ∀ {vs ys : List Value} {a : Nat}, (∀ (j : Nat) (v : Value), vs[j]? = some v → ∃ t, v = .int (0 + ((a + j : Nat) : Int)) t) → Paired (fun (v y : Value) => ∀ (i : Nat) t, v = .int (0 + (i : Int)) t → ∃ t', y = .str (g i) t') vs ys → StrsAre ys ((List.range' a vs.length).map g)
  | [], _, _, _, h => by cases h; exact .nil
  | v :: vs, _, a, hv, h => by
    cases h with | cons hy ht =>
    obtain ⟨t, e⟩ := hv 0 v rfl
    obtain ⟨t', rfl⟩ := hy a t (by simpa using e)
    rw [List.length_cons, List.range'_succ, List.map_cons]
    exact .cons _ _ (vals_labs (a := a + 1) (fun j u hj => by
      obtain ⟨t, e⟩ := hv (j + 1) u (by simpa using hj)
      exact ⟨t, by rw [e]; congr 2; omega⟩) ht)

section
variable {prog : Program} {w : World} {A : Around} {h : Heap} {env : Env}

theorem lawname_call {b : Heap} {x : Int} (B : Bs w b) (he : Ext b h) {u : Value} (hu : Is h u (.int x)) (hh : A.handled = none) (hroom : A.depth < recursionLimit) :
    Runs (model prog w) A h (call (.ref 113) [u]) fun h' r => Is h' r (.str (lawNameF x)) := by
  refine .intro fun s E Q hle hQ => wpAny_call ?_
  have B' := B.up (he.trans hle)
  refine call_cellsN_ret (name := fnName (stAt 12)) (params := fnArgs (stAt 12)) (body := fnBody (stAt 12)) (scope := fnScope (stAt 12)) (binds := [(Str.ofString "x", u)]) hroom (B'.K 113 _ rfl) rfl B'.lim (codeRec_of B'.K rfl) rfl ?_ (by decide +kernel) ?_
  · intro y hy
    rw [List.mem_singleton.mp hy]
    exact .inr ⟨rfl, rfl⟩
  intro h₁ tk cells F N hcells
  have hA : (A.deeper (envOfC (fnName (stAt 12)) (fnScope (stAt 12)) s.heap.objs.size 113 (.ref 112))).handled = none := hh
  generalize A.deeper _ = A' at hA ⊢
  obtain ⟨o, rfl, hod⟩ := CellsAre.one (n := Str.ofString "x") (c := s.heap.objs.size + 1) hcells
  have hcell : h₁.IsCell (s.heap.objs.size + 1) (some u) := ⟨o, (N _ List.mem_cons_self).1, hod⟩
  have hu₁ : Is h₁ u (.int x) := (hu.ext hle).ext (fr_ext F)
  have E1 : Ext b h₁ := (he.trans hle).trans (fr_ext F)
  have hm3 := mod3 x
  have nx : ∀ h', Ext h₁ h' → ∀ pos, Ev (model prog w) A' h' (.Name (Str.ofString "x") pos) (envOfC (fnName (stAt 12)) (fnScope (stAt 12)) s.heap.objs.size 113 (.ref 112)) (.int x) :=
    fun h' e pos => ev_cell rfl rfl rfl (hcell.keeps e) (hu₁.ext e)
  refine wpAny_execs_cons ?_
  refine asg_comp (n := (1 + x.fmod 3).toNat) (P := fun i v => i < (1 + x.fmod 3).toNat ∧ ∃ t, v = .int (0 + (i : Int)) t) (cl := [(Str.ofString "x", s.heap.objs.size + 1)]) (fun _ => true)
    (fun v y => ∀ (i : Nat) t, v = .int (0 + (i : Int)) t → ∃ t', y = .str (labF (digF x i)) t') rfl ⟨rfl, by decide +kernel, rfl, by decide +kernel, rfl⟩ rfl rfl (by omega) F.ns ?_ ?_ ?_ ?_
  · refine ev_tcall1 (T := "range") (ev_bi B E1 rfl rfl rfl rfl rfl (by decide +kernel) (by decide)) (ev_binop ev_const_int (ev_binop (nx _ (Ext.refl _) _) ev_const_int fun _ _ _ _ ha hb => r_mod ha hb (by omega)) fun _ _ _ _ ha hb => r_add ha hb) fun a h₂ e ha => ?_
    obtain ⟨t, rfl⟩ := ha
    refine .intro fun s _ _ _ hQ => call_range_1 (hQ _ _ (s.toks + 1 + 1) ((Ext.refl _).push _) ?_)
    have hr : IsRange (s.heap.push { cls := .type "range", data := .fields #[.int 0 s.toks, .int (1 + x.fmod 3) t, .int 1 (s.toks + 1)] }) s.heap.objs.size 0 (((1 + x.fmod 3).toNat : Nat) : Int) 1 s.toks t (s.toks + 1) := by
      rw [show (((1 + x.fmod 3).toNat : Nat) : Int) = 1 + x.fmod 3 by omega]
      exact Heap.get?_push_size _ rfl
    exact src_range hA hr (by omega)
  · intro C i v h₂ m _ _ _ _
    exact tests_none
  · rintro C i v h₂ m ⟨hi, t, rfl⟩ _ e hC hk
    have hi3 : i < 3 := by omega
    refine Runs.conseq (R := fun h' y => Is h' y (.str (labF (digF x i)))) ?_ fun h' y _ hy => ?_
    · refine ev_subscript (d₁ := .tl labs) (d₂ := .int (((x.fdiv 6).fdiv (4 ^ i)).fmod 4)) (NewTL.ev (ev_list_strs (.cons ev_const_str rfl (.cons ev_const_str rfl (.cons ev_const_str rfl (.cons ev_const_str rfl .nil)))) (by decide))) ?_ ?_
      · refine ev_binop (ev_binop (ev_binop (ev_cell rfl rfl rfl ((hcell.keeps e)) (hu₁.ext e)) ev_const_int fun _ _ _ _ ha hb => r_div ha hb (by omega) (PyProof.noPylong_small (by decide))) (ev_binop ev_const_int (ev_local (d := .int (0 + (i : Int))) rfl rfl hC hk ⟨t, rfl⟩) fun _ _ _ _ ha hb => r_pow4 hi3 ha hb) fun _ _ _ _ ha hb => r_div ha hb ?_ ?_) ev_const_int fun _ _ _ _ ha hb => r_mod ha hb (by omega)
        · match i, hi3 with
          | 0, _ => decide
          | 1, _ => decide
          | 2, _ => decide
        · match i, hi3 with
          | 0, _ => exact PyProof.noPylong_small (by decide)
          | 1, _ => exact PyProof.noPylong_small (by decide)
          | 2, _ => exact PyProof.noPylong_small (by decide)
      · intro o i' h₃ e₃ ho hi'
        have hlt := digF_lt x i
        have hnn : 0 ≤ ((x.fdiv 6).fdiv (4 ^ i)).fmod 4 := Int.fmod_nonneg_of_pos _ (by omega)
        have hlt' : ((x.fdiv 6).fdiv (4 ^ i)).fmod 4 < 4 := Int.fmod_lt_of_pos _ (by omega)
        refine (r_item_tl ho hi' hnn (by show _ < ((4 : Nat) : Int); omega) (by omega) (fun _ _ => rfl)).conseq fun h' y _ hy => ?_
        have e := labs_get _ hlt
        unfold digF at e
        rw [e] at hy
        exact hy
    · intro j t' hj
      have : j = i := by
        simp only [Value.int.injEq] at hj
        omega
      subst this
      exact hy
  · intro a h' tk' ys vs hn hl hlen hP hF hn' hk
    have hvs : vs.filter (fun _ => true) = vs := List.filter_eq_self.mpr fun _ _ => rfl
    rw [hvs] at hF
    have hstr : StrsAre ys ((List.range (1 + x.fmod 3).toNat).map fun i => labF (digF x i)) := by
      have := vals_labs (g := fun i => labF (digF x i)) (a := 0) (fun j v hj => by obtain ⟨_, t, e⟩ := hP j v hj; exact ⟨t, by rw [e]; simp⟩) hF
      rw [hlen, ← List.range_eq_range'] at this
      exact this
    have keep : Ext s.heap h' := fun b o e => hk b o (fun q => by
      have := Heap.lt_size e
      rw [q] at this
      exact Nat.lt_irrefl _ this) (F.keep b o e)
    have hcell' : h'.IsCell (s.heap.objs.size + 1) (some u) := by
      obtain ⟨o, ho, hd⟩ := hcell
      exact ⟨o, hk _ _ (Nat.succ_ne_self _) ho, hd⟩
    have hu' : Is h' u (.int x) := (hu.ext hle).ext keep
    have E' : Ext b h' := (he.trans hle).trans keep
    have nx' : ∀ pos, Ev (model prog w) A' h' (.Name (Str.ofString "x") pos) (envOfC (fnName (stAt 12)) (fnScope (stAt 12)) s.heap.objs.size 113 (.ref 112)) (.int x) :=
      fun pos => ev_cell rfl rfl rfl hcell' hu'
    have hlen' : ((List.range (1 + x.fmod 3).toNat).map fun i => labF (digF x i)).length ≤ 3 := by rw [List.length_map, List.length_range]; omega
    have hsum : ∀ l : List Nat, ((l.map fun i => labF (digF x i)).map (·.length)).sum ≤ 5 * l.length := by
      intro l
      induction l with
      | nil => exact Nat.le_refl _
      | cons i r ih =>
        have h5 : ∀ k, (labF k).length ≤ 5 := fun k => by unfold labF; split <;> decide
        simp only [List.map_cons, List.sum_cons, List.length_cons]
        have := h5 (digF x i)
        omega
    have hsum' := hsum (List.range (1 + x.fmod 3).toNat)
    rw [List.length_range] at hsum'
    have l1 : (Str.ofString ".").length = 1 := by decide
    have hj : ((((List.range (1 + x.fmod 3).toNat).map fun i => labF (digF x i)).map (·.length)).sum + ((List.range (1 + x.fmod 3).toNat).map fun i => labF (digF x i)).length * (Str.ofString ".").length) ≤ 16777216 := by
      rw [l1]; omega
    have hjl : (Txt.join (Str.ofString ".") ((List.range (1 + x.fmod 3).toNat).map fun i => labF (digF x i))).length ≤ 4000 := by
      have := join_len (Str.ofString ".") ((List.range (1 + x.fmod 3).toNat).map fun i => labF (digF x i))
      rw [l1] at this
      omega
    refine wpAny_execs_cons (wpAny_Return_some (Runs.use (R := fun h' r => Is h' r (.str (lawNameF x))) ?_ (Ext.refl _) fun v h'' tk'' e'' hv => hQ v h'' _ (keep.trans e'') hv))
    refine ev_binop (d₁ := .str (if ((x.fdiv 3).fmod 2 == 0) = true then ⟨#[46]⟩ else ⟨#[]⟩)) (d₂ := .str (Txt.join (Str.ofString ".") ((List.range (1 + x.fmod 3).toNat).map fun i => labF (digF x i)))) ?_ ?_ ?_
    · refine ev_ifexp (c := (x.fdiv 3).fmod 2 == 0) (tst_compare (ev_binop (ev_binop (nx' _) ev_const_int fun _ _ _ _ ha hb => r_div ha hb (by omega) (PyProof.noPylong_small (by decide))) ev_const_int fun _ _ _ _ ha hb => r_mod ha hb (by omega)) ev_const_int (fun _ _ _ _ ha hb => r_eqi ha hb) rfl) (fun hc => ?_) (fun hc => ?_)
      · rw [hc, if_pos rfl, ← lit_dot]; exact ev_const_str
      · rw [hc, if_neg Bool.false_ne_true, ← lit_nil]; exact ev_const_str
    · exact ev_join ev_const_str (ev_local rfl rfl hn' rfl ⟨a, rfl, ys, hl, hstr⟩) hj rfl rfl rfl
    · intro a' b' h₂ _ ha hb
      have hz : (if ((x.fdiv 3).fmod 2 == 0) = true then (⟨#[46]⟩ : Str) else ⟨#[]⟩).length ≤ 1 := by split <;> decide
      refine (r_adds ha hb (sl_ok (by omega))).conseq fun _ _ _ hv => ?_
      have e : lawNameF x = (if ((x.fdiv 3).fmod 2 == 0) = true then (⟨#[46]⟩ : Str) else ⟨#[]⟩) ++ Txt.join (Str.ofString ".") ((List.range (1 + x.fmod 3).toNat).map fun i => labF (digF x i)) := by
        unfold lawNameF mkN
        rw [lit_dot, List.map_map]
        rfl
      rw [e]; exact hv
end
end Mine
end

section
open PySem PySem.W PyProof.Rows PySem.Calls
set_option Elab.async false
set_option maxRecDepth 100000
set_option maxHeartbeats 2000000
namespace Mine

theorem lk_contains : typeLookup (.type "list") "__contains__" = pure (some (.builtin "list.__contains__")) := by rw [typeLookup_type, builtinLookup_eq_fast]; kernel_rfl
theorem ty_contains : typeOf (.builtin "list.__contains__") = pure (.type "wrapper_descriptor") := by show builtinType _ = _; rw [builtinType_eq_fast]; kernel_rfl
theorem lk_wget : typeLookup (.type "wrapper_descriptor") "__get__" = pure (some (.builtin "wrapper_descriptor.__get__")) := by rw [typeLookup_type, builtinLookup_eq_fast]; kernel_rfl
theorem lk_wset : typeLookup (.type "wrapper_descriptor") "__set__" = pure none := by rw [typeLookup_type, builtinLookup_eq_fast]; kernel_rfl
theorem lk_wdel : typeLookup (.type "wrapper_descriptor") "__delete__" = pure none := by rw [typeLookup_type, builtinLookup_eq_fast]; kernel_rfl
theorem slot_wget : Slot "wrapper_descriptor" "__get__" "wrapper_descriptor.__get__" :=
  .of (owner := "wrapper_descriptor") (n := "__get__") (by rw [typeLookup_type, builtinLookup_eq_fast]; kernel_rfl) (by decide +kernel) (by decide +kernel) (by decide +kernel)
    (by first | exact .inl (by decide +kernel) | exact .inr (by decide +kernel)) (by rw [isSubtype_type]; kernel_rfl)
theorem entry_wget : entryFor table "wrapper_descriptor.__get__" = some Builtin.«wrapper_descriptor.__get__» := by
  first | exact entryFor_of_fast (by kernel_rfl) | exact entryFor_of_tree (by kernel_rfl)
theorem args_wget (a b c : Value) : argsOk "wrapper_descriptor.__get__" ⟨[a, b, c], []⟩ := by unfold argsOk; kernel_rfl

/-- the bound «in» of a list -/
def boundIn (l : Addr) : Obj := { cls := .type "method-wrapper", data := .fields #[.builtin "list.__contains__", .ref l] }

section
variable {prog : Program} {w : World} {A : Around} {E : Value → Shared → Prop} {h : Heap} {g : Array GenState} {d : Drawn} {t : Nat} {os : OsState} {a : Addr}

theorem wget_wp {R : Result → Shared → Prop} {its : Array Value} {n : Nat} (hx : h.get? a = some { cls := .type "list", data := .seq its n }) (hq : R (.ok (.ret (.ref h.objs.size))) ⟨h.push (boundIn a), g, d, t, os⟩) :
    codeAny (model prog w) A (.call (.builtin "wrapper_descriptor.__get__") ⟨[.builtin "list.__contains__", .ref a, .type "list"], []⟩) R ⟨h, g, d, t, os⟩ := by
  have hT : (⟨h, g, d, t, os⟩ : Shared).TypeIs (.ref a) "list" := ⟨_, hx, rfl⟩
  have hT5 : (⟨h, g, d, t, os⟩ : Shared).TypeIs (.builtin "list.__contains__") "wrapper_descriptor" := ty_contains
  have f8 : isSubtype (.type "list") (.type (".".intercalate ("list.__contains__".cutAt '.').dropLast)) = pure true := by
    rw [show ".".intercalate ("list.__contains__".cutAt '.').dropLast = "list" from by decide +kernel, isSubtype_type]; kernel_rfl
  refine codeAny_call_builtin slot_wget.plain entry_wget (slot_wget.check _ _ _ _ _ _ _ _ hT5 (args_wget _ _ _) ?_)
  repeat (any_goals (first | assumption | wp_step))

theorem contains_entry {tk : Tok} {Q : Fin → Shared → Prop} {its : Array Value} {n : Nat} (hx : h.get? a = some { cls := .type "list", data := .seq its n }) (hq : Q (.done (.ret (.ref h.objs.size))) ⟨h.push (boundIn a), g, d, t, os⟩) :
    wpAny (model prog w) A (Builtin.«object.__getattribute__» ⟨[.ref a, .str "__contains__" tk], []⟩) Q E ⟨h, g, d, t, os⟩ := by
  have hT : (⟨h, g, d, t, os⟩ : Shared).TypeIs (.ref a) "list" := ⟨_, hx, rfl⟩
  have hT5 : (⟨h, g, d, t, os⟩ : Shared).TypeIs (.builtin "list.__contains__") "wrapper_descriptor" := ty_contains
  have f4 := lk_contains
  have f5 := ty_contains
  have f6 := lk_wget
  have f7 := lk_wset
  have f8 := lk_wdel
  repeat (any_goals (first | assumption | wp_step))
  refine wget_wp hx ?_
  repeat (any_goals (first | assumption | wp_step))
theorem contains_call {tk : Tok} {R : Result → Shared → Prop} {its : Array Value} {n : Nat} (hx : h.get? a = some { cls := .type "list", data := .seq its n }) (hq : R (.ok (.ret (.ref h.objs.size))) ⟨h.push (boundIn a), g, d, t, os⟩) :
    codeAny (model prog w) A (.call (.builtin "list.__getattribute__") ⟨[.ref a, .str "__contains__" tk], []⟩) R ⟨h, g, d, t, os⟩ :=
  codeAny_call_builtin F.slot_list_getattribute.plain F.entry_list_ga (F.slot_list_getattribute.check _ _ _ _ _ _ _ _ (show (⟨h, g, d, t, os⟩ : Shared).TypeIs (.ref a) "list" from ⟨_, hx, rfl⟩) (F.args_list_getattribute_2 _ _) (contains_entry hx hq))
end
section
variable {prog : Program} {w : World} {A : Around} {E : Value → Shared → Prop} {s : Shared} {a : Addr}
theorem getattr_contains {Q : Value → Shared → Prop} {its : Array Value} {n : Nat} (hx : s.heap.get? a = some { cls := .type "list", data := .seq its n }) (hq : ∀ tk, Q (.ref s.heap.objs.size) { s with heap := s.heap.push (boundIn a), toks := tk }) :
    wpAny (model prog w) A (getAttr (.ref a) "__contains__" true) Q E s := by
  obtain ⟨h, g, d, t, os⟩ := s
  have hT : ∀ tk', (⟨h, g, d, tk', os⟩ : Shared).TypeIs (.ref a) "list" := fun _ => ⟨_, hx, rfl⟩
  have f2 := F.slot_list_getattribute.lookup
  have f3 := F.slot_list_getattribute.bind (.ref a)
  unfold getAttr getAttrBy
  repeat (any_goals (first | assumption | exact hT _ | ((with_reducible show wpAny _ _ (call (Value.builtin "list.__getattribute__") _ _) _ _ _); refine wpAny_call (contains_call hx ?_)) | wp_step))
  exact hq _
end
end Mine
end

section
open PySem PySem.W PyProof.Rows PySem.Calls
set_option Elab.async false
set_option maxRecDepth 100000
set_option maxHeartbeats 2000000
namespace Mine
theorem checkBound_contains (a x : Value) : checkBoundCall "list.__contains__" ⟨[a, x], []⟩ = pure () := by
  unfold checkBoundCall
  rw [show Manifest.signature? "list.__contains__" = Manifest.sig_list.lookup "__contains__" from by kernel_rfl]
  kernel_rfl
end Mine
end

section
open PySem PySem.W PyProof.Rows PySem.Calls
set_option Elab.async false
set_option maxRecDepth 100000
set_option maxHeartbeats 2000000
namespace Mine
section
variable {prog : Program} {w : World} {A : Around} {h : Heap}
theorem bound_data {l : Addr} : (boundIn l).data = .fields #[.builtin "list.__contains__", .ref l] := rfl
theorem in_call {bx l : Addr} {x : Str} {ys : List Str} {v : Value} (hb : h.get? bx = some (boundIn l)) (hl : TL h l ys) (hv : Is h v (.str x)) :
    Runs (model prog w) A h (call (.ref bx) [v]) fun _ r => r = .bool (ys.any (· == x)) := by
  obtain ⟨t, rfl⟩ := hv
  obtain ⟨vs, hl, hvs⟩ := hl
  obtain ⟨⟨cls, dd, data, sl⟩, ho, hc, n, hd⟩ := hl
  simp only at hc hd
  subst hc hd
  refine .intro fun s E Q he hQ => wpAny_call (codeAny_of_tree ?_)
  show wpAny _ _ (callAny (.ref bx) ⟨[.str x t], []⟩) _ _ _
  unfold callAny
  refine wpAny_bind (wpAny_load (he _ _ hb) ?_)
  simp only [bound_data]
  show wpAny _ _ (checkBoundCall "list.__contains__" ⟨[.ref l, .str x t], []⟩ >>= fun _ => again (.builtin "list.__contains__" ⟨[.ref l, .str x t], []⟩)) _ _ _
  rw [checkBound_contains]
  refine wpAny_bind (wpAny_pure (a := ()) ?_)
  refine wpAny_pure ⟨Code.quiet_builtin _ (by decide +kernel), codeAny_builtin F.entry_list_contains ?_⟩
  rw [Around.under_plainId F.slot_list_contains.plain _]
  have e : (Array.any (List.toArray vs) (isStrOf x)) = ys.any (· == x) := by rw [← any_isStrOf x hvs]; simp
  refine SeqInW.list_containsW l (List.toArray vs) n dd sl (.str x t) (isStrOf x) (fun y hy => eq_isStrOf x t hvs y (by simpa using hy)) prog w A _ s ⟨he _ _ ho, ?_⟩
  rw [e]
  exact hQ _ s.heap s.toks (Ext.refl _) rfl
end
end Mine
end

section
open PySem PySem.W PyProof.Rows PySem.Calls
set_option Elab.async false
set_option maxRecDepth 100000
set_option maxHeartbeats 2000000
namespace Mine
section
variable {prog : Program} {w : World} {A : Around} {E : Value → Shared → Prop} {s : Shared}
theorem iter_list {l : Addr} {items : Array Value} {Q : Value → Shared → Prop} (hl : s.heap.IsList l items)
    (hQ : Q (.ref s.heap.objs.size) { s with heap := s.heap.push { cls := .type "list_iterator", data := .fields #[.ref l, .int 0 0] } }) :
    wpAny (model prog w) A (call (.builtin "iter") [.ref l]) Q E s := by
  refine call_function_entry (by decide +kernel) (by decide +kernel) kdk_entry_iter (kdk_args_iter _) ?_
  unfold Builtin.«iter»
  refine wpAny_bind (m := someArgs "iter" 1 2 _) (wpAny_of_eq (a := [Value.ref l]) (by first | rfl | kernel_rfl!) ?_)
  show wpAny _ _ (pyIter (.ref l) >>= _) _ _ _
  exact wpAny_bind (wpAny_pyIter_list hl (wpAny_pure ⟨_, rfl, hQ⟩))

theorem next_item {it l : Addr} {i : Nat} {items : Array Value} {x : Value} {Q : Value → Shared → Prop} (hit : s.heap.IsListIter it l i)
    (hl : s.heap.IsList l items) (hx : items[i]? = some x)
    (hQ : ∀ h', h'.IsListIter it l (i + 1) → Heap.SameBut it s.heap h' → Q x { s with heap := h' }) :
    wpAny (model prog w) A (call (.builtin "next") [.ref it]) Q E s := by
  obtain ⟨o, ho, hc, hd⟩ := id hit
  obtain ⟨ol, hol, _, nl, hdl⟩ := hl
  refine call_function_entry (by decide +kernel) (by decide +kernel) kdk_entry_next (kdk_args_next _) ?_
  unfold Builtin.«next»
  refine wpAny_bind (m := someArgs "next" 1 2 _) (wpAny_of_eq (a := [Value.ref it]) (by first | rfl | kernel_rfl!) ?_)
  dsimp only
  refine wpAny_bind (wpAny_specialOf (name := Str.ofString "__next__") hit.typeIs slot_listiter_next.lookup ?_)
  refine wpAny_ite_split (fun hab => absurd hab (by decide)) (fun _ => ?_)
  refine wpAny_bind (wpAny_callSpecial?_slot (name := Str.ofString "__next__") hit.typeIs slot_listiter_next
    (wpAny_call_entry slot_listiter_next hit.typeIs entry_listiter_next ?_ (args_listiter_next _)))
  show wpAny _ _ (field (.ref it) 0 >>= _) _ _ s
  refine wpAny_bind (wpAny_field ho hd (x := .ref l) rfl ?_)
  show wpAny _ _ (if (Value.ref l == Value.none) = true then _ else _) _ _ s
  rw [if_neg (show ¬ ((Value.ref l == Value.none) = true) from Bool.false_ne_true)]
  show wpAny _ _ (field (.ref it) 1 >>= _) _ _ s
  refine wpAny_bind (wpAny_field ho hd (x := .int i 0) rfl ?_)
  show wpAny _ _ (seqItems? (.ref l) >>= _) _ _ s
  refine wpAny_bind (wpAny_seqItems hol hdl ?_)
  simp only [Int.toNat_natCast, hx]
  refine wpAny_bind (wpAny_setField ho hd (by simp) (wpAny_pure ⟨x, rfl, wpAny_pure ⟨x, rfl, hQ _ ?_ (Heap.SameBut.update ..)⟩⟩))
  exact ⟨_, Heap.get?_update_self _ ho (Obj.isFreed_of_fields (Obj.data_mapFields hd _)), (Obj.cls_mapFields ..).trans hc, by
    rw [Obj.data_mapFields hd]; simp [rawInt]⟩

theorem next_end {it l : Addr} {i : Nat} {items : Array Value} {Q : Value → Shared → Prop} (hh : A.handled = none)
    (hit : s.heap.IsListIter it l i) (hl : s.heap.IsList l items) (hx : items[i]? = none)
    (hE : ∀ h₁ h' e, Heap.SameBut it s.heap h₁ → Heap.MadeExcOf h₁ h' e (.type "StopIteration") [] → E (.ref e) { s with heap := h' }) :
    wpAny (model prog w) A (call (.builtin "next") [.ref it]) Q E s := by
  obtain ⟨o, ho, hc, hd⟩ := id hit
  obtain ⟨ol, hol, _, nl, hdl⟩ := hl
  refine call_function_entry (by decide +kernel) (by decide +kernel) kdk_entry_next (kdk_args_next _) ?_
  unfold Builtin.«next»
  refine wpAny_bind (m := someArgs "next" 1 2 _) (wpAny_of_eq (a := [Value.ref it]) (by first | rfl | kernel_rfl!) ?_)
  dsimp only
  refine wpAny_bind (wpAny_specialOf (name := Str.ofString "__next__") hit.typeIs slot_listiter_next.lookup ?_)
  refine wpAny_ite_split (fun hab => absurd hab (by decide)) (fun _ => ?_)
  refine wpAny_bind (wpAny_callSpecial?_slot (name := Str.ofString "__next__") hit.typeIs slot_listiter_next
    (wpAny_call_entry slot_listiter_next hit.typeIs entry_listiter_next ?_ (args_listiter_next _)))
  show wpAny _ _ (field (.ref it) 0 >>= _) _ _ s
  refine wpAny_bind (wpAny_field ho hd (x := .ref l) rfl ?_)
  show wpAny _ _ (if (Value.ref l == Value.none) = true then _ else _) _ _ s
  rw [if_neg (show ¬ ((Value.ref l == Value.none) = true) from Bool.false_ne_true)]
  show wpAny _ _ (field (.ref it) 1 >>= _) _ _ s
  refine wpAny_bind (wpAny_field ho hd (x := .int i 0) rfl ?_)
  show wpAny _ _ (seqItems? (.ref l) >>= _) _ _ s
  refine wpAny_bind (wpAny_seqItems hol hdl ?_)
  simp only [Int.toNat_natCast, hx]
  refine wpAny_bind (wpAny_rule (wpAny_bind (wpAny_setField ho hd (by simp) ?_)))
  show wpAny _ _ (newExc (.type "StopIteration") [] >>= _) _ _ _
  refine wpAny_bind ?_
  simp only [newExc, newTuple]
  refine wpAny_bind (wpAny_newObj_type ?_ (by size_fits))
  refine wpAny_bind (m := firstArgMember _ _) (wpAny_of_eq (a := Value.none) (by first | rfl | (simp only [firstArgMember]; rfl)) ?_)
  refine wpAny_newObj_type ?_ (by size_fits)
  simp only [raiseNew]
  refine wpAny_bind (wpAny_handled ?_)
  first | rw [show A.in1.in1.handled = none from hh] | rw [show A.in1.handled = none from hh] | rw [hh]
  refine wpAny_bind (wpAny_pure (wpAny_throw ?_))
  refine hE _ _ _ (Heap.SameBut.update ..) ⟨fun b o hb => Heap.get?_push_of_some _ (Heap.get?_push_of_some _ hb), Heap.get?_none_of_le (by rw [Heap.size_push]; exact Nat.le_succ _), _, Heap.get?_push_size _ rfl, Heap.get?_none_of_le (Nat.le_refl _), ?_⟩
  exact Heap.get?_push_of_some _ (Heap.get?_push_size _ rfl)
end
end Mine
end

section
open PySem PySem.W PyProof.Rows PySem.Calls
set_option Elab.async false
set_option maxRecDepth 100000
set_option maxHeartbeats 2000000
namespace Mine

def clsSt (n : Nat) : Stmt := (match stAt 2 with | .ClassDef _ _ _ b .. => b | _ => []).getD n (.Pass ⟨0, 0, 0, 0⟩)
/-- an object of the class -/
def ffObj (dx : Addr) (u : Value) (it : Addr) : Obj := { cls := .ref 64, dict := some dx, data := .plain, slots := #[some u, some (.ref it)] }
def ffHalf (dx : Addr) (it : Addr) : Obj := { cls := .ref 64, dict := some dx, data := .plain, slots := #[none, some (.ref it)] }

section
variable {prog : Program} {w : World} {A : Around} {E : Value → Shared → Prop} {s : Shared}
theorem ff_makes : makesIn (hd.heap_39 w.params) 64 = true := by rfl
theorem ff_init : findIn (hd.heap_39 w.params) (.ref 64) "__init__" = some (some (.ref 46)) := by rfl
theorem ff_initfn : typeIn (hd.heap_39 w.params) (.ref 46) = some (.type "function") := by rfl
theorem ff_setattr : findIn (hd.heap_39 w.params) (.ref 64) "__setattr__" = some (some (.builtin "object.__setattr__")) := by rfl
theorem ff_over : plainOver (hd.heap_39 w.params) 64 = true := by rfl
theorem ff_tk_it : takerIn (hd.heap_39 w.params) 64 "_it" = some (some (.ref 66)) := by rfl
theorem ff_tk_func : takerIn (hd.heap_39 w.params) 64 "_func" = some (some (.ref 65)) := by rfl
theorem ff_ty_it : typeIn (hd.heap_39 w.params) (.ref 66) = some (.type "member_descriptor") := by rfl
theorem ff_ty_func : typeIn (hd.heap_39 w.params) (.ref 65) = some (.type "member_descriptor") := by rfl
theorem ff_slot_it : slotIn (hd.heap_39 w.params) 66 64 = some 1 := by rfl
theorem ff_slot_func : slotIn (hd.heap_39 w.params) 65 64 = some 0 := by rfl

theorem inst_at {h : Heap} {x dx : Addr} {sl : Array (Option Value)} (hx : h.get? x = some { cls := .ref 64, dict := some dx, data := .plain, slots := sl }) (hd : h.get? dx = some emptyDict) :
    InstAt h x { cls := .ref 64, dict := some dx, data := .plain, slots := sl } 64 (some emptyDict) := ⟨hx, rfl, rfl, hd⟩

theorem make_ff {b : Heap} {u : Value} {l : Addr} {items : Array Value} {Q : Value → Shared → Prop} (B : Bs w b) (he : Ext b s.heap) (hl : s.heap.IsList l items) (hroom : A.depth + 4 < recursionLimit)
    (hQ : ∀ h' x dx it tk, Ext s.heap h' → s.heap.get? x = none → s.heap.get? dx = none → s.heap.get? it = none → x ≠ it → dx ≠ it → h'.get? x = some (ffObj dx u it) → h'.get? dx = some emptyDict → h'.IsListIter it l 0 →
      Q (.ref x) { s with heap := h', toks := tk }) : wpAny (model prog w) A (call (.ref 64) [u, .ref l]) Q E s := by
  obtain ⟨hp, g, d, t, os⟩ := s
  have B' := B.up he
  have X := B'.K
  refine wpAny_call ?_
  refine make_core (makes_of X ff_makes) (looks_findIn X ff_init) (fun self => bind_fn X self ff_initfn) (.inl rfl) ?_
  have e2 : Ext hp ((hp.push emptyDict).push (instObj 64 hp.objs.size)) := ((Ext.refl _).push _).push _
  have B2 := B'.up e2
  refine codeAny_call_def (s := ⟨(hp.push emptyDict).push (instObj 64 hp.objs.size), g, d, t, os⟩) (binds := [(Str.ofString "self", .ref (hp.objs.size + 1)), (Str.ofString "function", u), (Str.ofString "iterable", .ref l)]) (body := fnBody (clsSt 1))
    (fd := fnOf (fnName (clsSt 1)) "filterfalse.__init__" (fnArgs (clsSt 1)) (fnBody (clsSt 1)) (fnScope (clsSt 1)) .none .none .none (.str "itertools" 282) none (.ref 45) .none) ?_ (B2.K _ _ rfl) rfl B2.lim (codeRec_of B2.K rfl) rfl (.of_eq rfl) (by decide) (locs rfl) (fun h₁ hns hk => ?_)
  · show A.depth + 1 < recursionLimit
    omega
  dsimp only at hns ⊢
  have hL : ((hp.push emptyDict).push (instObj 64 hp.objs.size)).objs.size = hp.objs.size + 2 := by simp [Heap.size_push]
  rw [hL] at hns ⊢
  generalize hA' : Around.deeper _ _ = A'
  have e1 : Ext hp h₁ := e2.trans hk
  have F : Fr hp (hp.objs.size + 2) h₁ (fun x => List.lookup x [(Str.ofString "iterable", Value.ref l), (Str.ofString "function", u), (Str.ofString "self", .ref (hp.objs.size + 1))]) := by
    refine ⟨?_, e1, Nat.le_add_right _ _⟩
    exact hns
  have hx0 : ((hp.push emptyDict).push (instObj 64 hp.objs.size)).get? (hp.objs.size + 1) = some (instObj 64 hp.objs.size) := by heap_get
  have hd0 : ((hp.push emptyDict).push (instObj 64 hp.objs.size)).get? hp.objs.size = some emptyDict := by heap_get
  have N : News hp (hp.objs.size + 2) h₁ [(hp.objs.size + 1, instObj 64 hp.objs.size), (hp.objs.size, emptyDict)] := by
    intro p hp'
    rcases List.mem_cons.mp hp' with rfl | hp'
    · exact ⟨hk _ _ hx0, by simp, Heap.get?_none_of_le (by simp)⟩
    · rw [List.mem_singleton.mp hp']
      exact ⟨hk _ _ hd0, by simp, Heap.get?_none_of_le (Nat.le_refl _)⟩
  show wpAny (model prog w) A' (execs _ (envOf "filterfalse.__init__" (fnScope (clsSt 1)) (hp.objs.size + 2) 46 (.ref 45))) _ _ _
  have er : Runs (model prog w) A' h₁ (eval (.Call (.Name (Str.ofString "iter") ⟨7, 19, 7, 23⟩) [.Name (Str.ofString "iterable") ⟨7, 24, 7, 32⟩] [] ⟨7, 19, 7, 33⟩) (envOf "filterfalse.__init__" (fnScope (clsSt 1)) (hp.objs.size + 2) 46 (.ref 45)))
      fun h' v => ∃ it, v = .ref it ∧ h₁.get? it = none ∧ h'.get? it = some { cls := .type "list_iterator", data := .fields #[.ref l, .int 0 0] } :=
    ev_bcall1 (id := "iter") (d := .val (.ref l)) (ev_bi B' e1 rfl rfl rfl rfl rfl (by decide +kernel) (by decide)) (ev_local rfl rfl F.ns rfl rfl) fun a h₂ e₂ ha => by
      obtain rfl : a = .ref l := ha
      exact .intro fun s E Q hle hQ => iter_list (islist_ext (e1.trans (e₂.trans hle)) hl) (hQ _ _ s.toks ((Ext.refl _).push _) ⟨_, rfl, none_size (e₂.trans hle), Heap.get?_push_size _ rfl⟩)
  refine wpAny_execs_cons (plainObj_wpAny_Assign_Attribute ?_)
  refine er.use (Ext.refl _) fun v h₂ tk₂ e₂ hv => ?_
  obtain ⟨it, rfl, hitn, hit⟩ := hv
  have F₂ := F.keeps e₂
  refine ((ev_local (d := .val (.ref (hp.objs.size + 1))) rfl rfl F₂.ns rfl rfl : Ev (model prog w) A' h₂ _ _ _)).use (Ext.refl _) fun v h₃ tk₃ e₃ hv => ?_
  obtain rfl : v = .ref (hp.objs.size + 1) := hv
  have F₃ := F₂.keeps e₃
  have hlt : it ≠ hp.objs.size + 1 := fun q => by have := (N _ (.head _)).1; rw [← q, hitn] at this; cases this
  have hltd : it ≠ hp.objs.size := fun q => by have := (N _ (.tail _ (.head _))).1; rw [← q, hitn] at this; cases this
  have hLne : it ≠ hp.objs.size + 2 := by
    intro q
    obtain ⟨o, _, _, ho, _⟩ := F.ns
    rw [← q, hitn] at ho; cases ho
  have hpn : hp.get? it = none := by
    cases q : hp.get? it with
    | none => rfl
    | some o => have := e1 _ _ q; rw [hitn] at this; cases this
  have N₃ : News hp (hp.objs.size + 2) h₃ [(hp.objs.size + 1, instObj 64 hp.objs.size), (hp.objs.size, emptyDict), (it, { cls := .type "list_iterator", data := .fields #[.ref l, .int 0 0] })] := by
    intro p hp'
    rcases List.mem_cons.mp hp' with rfl | hp'
    · exact ⟨e₃ _ _ (e₂ _ _ (N _ (.head _)).1), (N _ (.head _)).2⟩
    rcases List.mem_cons.mp hp' with rfl | hp'
    · exact ⟨e₃ _ _ (e₂ _ _ (N _ (.tail _ (.head _))).1), (N _ (.tail _ (.head _))).2⟩
    · rw [List.mem_singleton.mp hp']
      exact ⟨e₃ _ _ hit, hLne, hpn⟩
  refine set_slot (i := 1) (ox' := ffHalf hp.objs.size it) (K := hd.heap_39 w.params) F₃ B'.K N₃ (inst_at (N₃ _ (.head _)).1 (N₃ _ (.tail _ (.head _))).1) ff_setattr ff_over ff_tk_it ff_ty_it ff_slot_it (by omega) rfl rfl
    (.head (by
      intro p hp'
      rcases List.mem_cons.mp hp' with rfl | hp'
      · simp
      · rw [List.mem_singleton.mp hp']; exact hlt)) (fun h₄ F₄ N₄ => ?_)
  refine wpAny_execs_cons (plainObj_wpAny_Assign_Attribute ?_)
  refine ((ev_local (d := .val u) rfl rfl F₄.ns rfl rfl : Ev (model prog w) A' h₄ _ _ _)).use (Ext.refl _) fun v h₅ tk₅ e₅ hv => ?_
  obtain rfl : v = u := hv
  have F₅ := F₄.keeps e₅
  refine ((ev_local (d := .val (.ref (hp.objs.size + 1))) rfl rfl F₅.ns rfl rfl : Ev (model prog w) A' h₅ _ _ _)).use (Ext.refl _) fun v' h₆ tk₆ e₆ hv => ?_
  obtain rfl : v' = .ref (hp.objs.size + 1) := hv
  have F₆ := F₅.keeps e₆
  have N₆ : News hp (hp.objs.size + 2) h₆ [(hp.objs.size + 1, ffHalf hp.objs.size it), (hp.objs.size, emptyDict), (it, { cls := .type "list_iterator", data := .fields #[.ref l, .int 0 0] })] := fun p hp' => ⟨e₆ _ _ (e₅ _ _ (N₄ p hp').1), (N₄ p hp').2⟩
  refine set_slot (i := 0) (ox' := ffObj hp.objs.size v it) (K := hd.heap_39 w.params) F₆ B'.K N₆ (inst_at (N₆ _ (.head _)).1 (N₆ _ (.tail _ (.head _))).1) ff_setattr ff_over ff_tk_func ff_ty_func ff_slot_func (by omega) rfl rfl
    (.head (by
      intro p hp'
      rcases List.mem_cons.mp hp' with rfl | hp'
      · simp
      · rw [List.mem_singleton.mp hp']; exact hlt)) (fun h₇ F₇ N₇ => ?_)
  refine wpAny_execs_nil ?_
  refine ⟨rfl, hQ h₇ (hp.objs.size + 1) hp.objs.size it _ F₇.keep (Heap.get?_none_of_le (by simp)) (Heap.get?_none_of_le (Nat.le_refl _)) hpn (Ne.symm hlt) (Ne.symm hltd) (N₇ _ (.head _)).1 (N₇ _ (.tail _ (.head _))).1 ?_⟩
  exact ⟨_, (N₇ _ (.tail _ (.tail _ (.head _)))).1, rfl, rfl⟩
end
end Mine
end

section
open PySem PySem.W PyProof.Rows PySem.Calls
set_option Elab.async false
set_option maxRecDepth 100000
set_option maxHeartbeats 2000000
namespace Mine
section
variable {prog : Program} {w : World} {A : Around} {h : Heap} {env : Env}
theorem callWith_wf {M : Model} {E : Value → Shared → Prop} {s : Shared} {pos : Pos} {u l : Addr} {args : List (Bool × Sem Value)} {Q : Value → Shared → Prop} (hplain : args.any (·.1) = false)
    (h : wpAny M A (evalArgs (.ref u) true args []) (fun x s₁ => s₁.heap.get? u = some (boundIn l) ∧ wpAny M A (call (.ref u) ([] ++ x.pos) x.kw) Q E s₁) E s) : wpAny M A (callWith pos (.ref u) [] args []) Q E s := by
  unfold callWith
  refine wpAny_bind (wpAny_holding (wpAny_mono h (fun x s₁ h₁ => wpAny_bind (wpAny_standAt ?_)) fun _ _ x => x))
  obtain ⟨ho, hcall⟩ := h₁
  simp only [hplain, List.any_nil, Bool.or_false]
  refine wpAny_bind (m := keeperOf (.ref u)) ?_
  unfold keeperOf
  refine wpAny_bind (wpAny_load ho ?_)
  simp only [boundIn, show (Value.type "method-wrapper" != Value.type "method") = true by decide, show (Value.type "method-wrapper" == Value.type "builtin_function_or_method" || Value.type "method-wrapper" == Value.type "method-wrapper") = true by decide, if_true]
  refine wpAny_pure ?_
  exact wpAny_bind (wpAny_mono hcall (fun r s₂ hr => wpAny_bind (wpAny_holding (wpAny_point (wpAny_pure hr)))) fun _ _ x => x)
theorem callWith_wrap {M : Model} {E : Value → Shared → Prop} {s : Shared} {pos : Pos} {u l : Addr} {e : Expr} {rest : List Expr} {Q : Value → Shared → Prop}
    (h : wpAny M A (spliced (backTo pos (starEach (e :: rest) env))) (fun vs s₁ => s₁.heap.get? u = some (boundIn l) ∧ wpAny M A (call (.ref u) ([] ++ vs)) Q E s₁) E s)
    (he : starEach (e :: rest) env = (false, eval e env) :: starEach rest env := by rfl) (hplain : (backTo pos (starEach rest env)).any (·.1) = false := by rfl) :
    wpAny M A (callWith pos (.ref u) [] (backTo pos (starEach (e :: rest) env)) []) Q E s := by
  rw [he] at h ⊢
  refine callWith_wf (l := l) (by show (false || (backTo pos (starEach rest env)).any (·.1)) = false; rw [hplain]; rfl) ?_
  exact evalArgs_plain h

theorem ev_mcall1 {func e : Expr} {pos : Pos} {u l : Addr} {x : Str} {ys : List Str} (hf : Ev (model prog w) A h func env (.val (.ref u))) (hu : h.get? u = some (boundIn l)) (hl : TL h l ys)
    (he : Ev (model prog w) A h e env (.str x))
    (he1 : eval (.Call func [e] [] pos) env = (do callWith pos (← eval func env) [] (backTo pos (starEach [e] env)) (backToKw pos (keywordEach [] env))) := by rfl)
    (he2 : starEach [e] env = (false, eval e env) :: starEach [] env := by rfl) : Ev (model prog w) A h (.Call func [e] [] pos) env (.bool (ys.any (· == x))) := by
  refine .intro fun s E Q hle hQ => Call_ (hf.use hle fun v h₁ tk₁ e₁ hv => ?_) he1
  obtain rfl : v = .ref u := hv
  refine callWith_wrap (l := l) ?_ he2
  refine args_cons ?_ he2
  refine he.use (hle.trans e₁) fun a h₂ tk₂ e₂ ha => args_nil ⟨((hle.trans e₁).trans e₂) _ _ hu, ?_⟩
  exact (in_call (((hle.trans e₁).trans e₂) _ _ hu) (hl.ext ((hle.trans e₁).trans e₂)) ha).use (Ext.refl _) fun u h₃ tk₃ e₃ hu => hQ u h₃ tk₃ ((e₁.trans e₂).trans e₃) hu
theorem ev_const_none {k : Nat} {pos : Pos} : Ev (model prog w) A h (.Constant .none k pos) env (.val .none) :=
  .intro fun s _ _ _ hQ => Constant_none (hQ _ s.heap s.toks (Ext.refl _) rfl)
theorem r_is {a b u v : Value} {c : Bool} (ha : Is h a (.val u)) (hb : Is h b (.val v)) (hc : compareOp .Is u v = pure (.bool c)) : Runs (model prog w) A h (compareOp .Is a b) fun _ r => r = .bool c := by
  obtain rfl : a = u := ha
  obtain rfl : b = v := hb
  exact .intro fun s _ _ _ hQ => by rw [hc]; exact wpAny_pure (hQ _ s.heap s.toks (Ext.refl _) rfl)
theorem fr_it {H h' : Heap} {L it : Addr} {m : Str → Option Value} (F : Fr H L h m) (hs : Heap.SameBut it h h') (hne : it ≠ L) (hn : H.get? it = none) : Fr H L h' m := by
  obtain ⟨o, es, ep, ho, r⟩ := F.ns
  refine ⟨⟨o, es, ep, (hs.2 L (Ne.symm hne)).trans ho, r⟩, fun b o e => (hs.2 b fun q => ?_).trans (F.keep b o e), F.above⟩
  rw [q, hn] at e; cases e
end

section
variable {prog : Program} {w : World}
theorem ff_get : plainGet (hd.heap_39 w.params) 64 "_it" = true := by rfl
theorem ff_getf : plainGet (hd.heap_39 w.params) 64 "_func" = true := by rfl
theorem ff_iscls : isClsIn (hd.heap_39 w.params) 64 = true := by rfl
theorem ff_f_it : findIn (hd.heap_39 w.params) (.ref 64) "_it" = some (some (.ref 66)) := by rfl
theorem ff_f_func : findIn (hd.heap_39 w.params) (.ref 64) "_func" = some (some (.ref 65)) := by rfl
theorem ff_n_it : specialIn (hd.heap_39 w.params) (.ref 66) "__get__" = some (some (.builtin "member_descriptor.__get__")) := by rfl
theorem ff_n_func : specialIn (hd.heap_39 w.params) (.ref 65) "__get__" = some (some (.builtin "member_descriptor.__get__")) := by rfl
theorem ff_t_it : takesIn (hd.heap_39 w.params) (.ref 66) = some true := by rfl
theorem ff_t_func : takesIn (hd.heap_39 w.params) (.ref 65) = some true := by rfl
end
end Mine
end

section
open PySem PySem.W PyProof.Rows PySem.Calls
set_option Elab.async false
set_option maxRecDepth 100000
set_option maxHeartbeats 2000000
namespace Mine
abbrev nextEnv (L : Addr) : Env := envOf "filterfalse.__next__" (fnScope (clsSt 3)) L 60 (.ref 59)
def whTest : Stmt → Expr | .While t _ _ _ => t | _ => .Constant .none 0 ⟨0, 0, 0, 0⟩
def whBody : Stmt → List Stmt | .While _ b _ _ => b | _ => []
def nextWh : Stmt := (fnBody (clsSt 3)).getD 1 (.Pass ⟨0, 0, 0, 0⟩)
/-- the walk's objects -/
structure FF (H : Heap) (x dx it bx l2 l : Addr) (ys xs : List Str) (vs : List Value) : Prop where
  x : H.get? x = some (ffObj dx (.ref bx) it)
  dx : H.get? dx = some emptyDict
  bx : H.get? bx = some (boundIn l2)
  ys : TL H l2 ys
  l : H.IsList l vs.toArray
  vs : StrsAre vs xs
  it : H.get? it = none
theorem strs_at : ∀ {vs : List Value} {xs : List Str} {i : Nat} {y : Str}, StrsAre vs xs → xs[i]? = some y → ∃ t, vs[i]? = some (.str y t)
  | _, _, 0, _, .cons n t h, e => by cases e; exact ⟨t, rfl⟩
  | _, _, i + 1, _, .cons n t h, e => strs_at (i := i) h e
theorem strs_end : ∀ {vs : List Value} {xs : List Str} {i : Nat}, StrsAre vs xs → xs[i]? = none → vs[i]? = none
  | _, _, _, .nil, _ => rfl
  | _, _, 0, .cons n t h, e => by cases e
  | _, _, i + 1, .cons n t h, e => strs_end (i := i) h e
def keepF (ys : List Str) (y : Str) : Bool := !ys.any (· == y)

section
variable {prog : Program} {w : World} {A : Around} {E : Value → Shared → Prop} {Q : Flow → Shared → Prop} {s₀ : Shared}
theorem next_turn {H : Heap} {x dx it bx l2 l L : Addr} {ys xs : List Str} {vs : List Value} {T : List Str} (B : Bs w H) (f : FF H x dx it bx l2 l ys xs vs) (hh : A.handled = none)
    (hp : PassesOwn (model prog w) A (nextEnv L) E) (hLi : it ≠ L)
    (hQ : ∀ j h' tk v y, Ext H h' → h'.IsListIter it l (j + 1) → vs[j]? = some v → xs[j]? = some y → T = y :: (xs.drop (j + 1)).filter (keepF ys) → Q (.ret v) { s₀ with heap := h', toks := tk })
    (hE : ∀ h₁ h' e tk m, T = [] → Fr H L h₁ m → Heap.MadeExcOf h₁ h' e (.type "StopIteration") [] → E (.ref e) { s₀ with heap := h', toks := tk }) 
    (i : Nat) (h : Heap) (tk : Nat) (m : Str → Option Value) (ih : ∀ (h : Heap) (tk : Nat) (m : Str → Option Value), i < xs.length → (xs.drop (i + 1)).filter (keepF ys) = T → Fr H L h m → m "self" = some (.ref x) → m "func" = some (.ref bx) → h.IsListIter it l (i + 1) →
      WhlRest prog w A E (nextEnv L) (whTest nextWh) (whBody nextWh) [] Q 100 { s₀ with heap := h, toks := tk })
    (hT : (xs.drop i).filter (keepF ys) = T) (F : Fr H L h m) (hms : m "self" = some (.ref x)) (hmf : m "func" = some (.ref bx)) (hit : h.IsListIter it l i) :
      WhlRest prog w A E (nextEnv L) (whTest nextWh) (whBody nextWh) [] Q 100 { s₀ with heap := h, toks := tk } := by
  refine whl_turn (k := 99) hp ?_
  refine (tst_bool ev_const_bool : Tst (model prog w) A h (.Constant (.bool true) 0 ⟨15, 14, 15, 18⟩) (nextEnv L) true).use (Ext.refl _) fun b h₁ tk₁ e₁ hb => ?_
  subst hb
  refine WhlIf.yes rfl ?_
  have F₁ := F.keeps e₁
  have hit₁ : h₁.IsListIter it l i := let ⟨o, ho, r⟩ := hit; ⟨o, e₁ _ _ ho, r⟩
  refine wpAny_execs_cons (wpAny_Assign_Name (Call_ ((ev_bi (h := h₁) (v := .builtin "next") B F₁.keep rfl rfl rfl rfl rfl (by decide +kernel) (by decide)).use (Ext.refl _) fun v h₂ tk₂ e₂ hv => ?_) rfl) rfl)
  obtain rfl : v = .builtin "next" := hv
  have F₂ := F₁.keeps e₂
  refine PyProof.Rows.callWith_builtin1 ?_ rfl rfl
  refine args_cons ?_ rfl
  refine Attribute_name ((ev_local (d := .val (.ref x)) rfl rfl F₂.ns hms rfl : Ev (model prog w) A h₂ _ _ _).use (Ext.refl _) fun v h₃ tk₃ e₃ hv => ?_)
  obtain rfl : v = .ref x := hv
  have F₃ := F₂.keeps e₃
  refine get_slot (i := 1) (v := .ref it) F₃ B.K (inst_at (sl := #[some (.ref bx), some (.ref it)]) (F₃.keep _ _ f.x) (F₃.keep _ _ f.dx)) ff_get ff_iscls ff_f_it ff_n_it ff_t_it ff_slot_it rfl rfl ?_
  refine args_nil ?_
  have hit₃ : h₃.IsListIter it l i := let ⟨o, ho, r⟩ := hit₁; ⟨o, e₃ _ _ (e₂ _ _ ho), r⟩
  cases hx : xs[i]? with
  | none =>
    refine next_end hh hit₃ (islist_ext F₃.keep f.l) (by rw [List.getElem?_toArray]; exact strs_end f.vs hx) fun h₄ h₅ e hs hm => ?_
    refine hE h₄ h₅ e _ m ?_ (fr_it F₃ hs hLi f.it) hm
    rw [← hT, List.drop_eq_nil_of_le (List.getElem?_eq_none_iff.mp hx)]
    rfl
  | some y =>
    obtain ⟨t, hv⟩ := strs_at f.vs hx
    have hi : i < xs.length := (List.getElem?_eq_some_iff.mp hx).1
    have hdr : xs.drop i = y :: xs.drop (i + 1) := by rw [List.drop_eq_getElem_cons hi, (List.getElem?_eq_some_iff.mp hx).2]
    refine next_item hit₃ (islist_ext F₃.keep f.l) (by rw [List.getElem?_toArray]; exact hv) fun h₄ hit₄ hs₄ => ?_
    have F₄ := fr_it F₃ hs₄ hLi f.it
    refine wpAny_storeName_local rfl F₄.ns (fun h₅ hn₅ hs₅ => ?_) rfl
    obtain ⟨m₅, F₅, hms₅, hmf₅, hmi₅⟩ : ∃ m₅ : Str → Option Value, Fr H L h₅ m₅ ∧ m₅ "self" = some (.ref x) ∧ m₅ "func" = some (.ref bx) ∧ m₅ "item" = some (.str y t) := ⟨_, F₄.set hn₅ hs₅, hms, hmf, rfl⟩
    have hit₅ : h₅.IsListIter it l (i + 1) := let ⟨o, ho, r⟩ := hit₄; ⟨o, (hs₅.2 it hLi).trans ho, r⟩
    refine wpAny_execs_cons (wpAny_If (Runs.use (R := fun _ c => c = (false || (false || false))) (h := h₅) (tst_or (tst_compare (ev_local (d := .val (.ref bx)) rfl rfl F₅.ns hmf₅ rfl) ev_const_none (fun a b h₂ _ ha hb => r_is ha hb rfl) rfl) fun _ =>
      tst_or (tst_compare (ev_local (d := .val (.ref bx)) rfl rfl F₅.ns hmf₅ rfl) (ev_bi (v := .type "bool") B F₅.keep rfl rfl rfl rfl rfl (by decide +kernel) (by decide)) (fun a b h₂ _ ha hb => r_is ha hb rfl) rfl) fun _ => tst_or_nil) (Ext.refl _) fun c h₆ tk₆ e₆ hc => ?_))
    subst hc
    have F₆ := F₅.keeps e₆
    have hit₆ : h₆.IsListIter it l (i + 1) := let ⟨o, ho, r⟩ := hit₅; ⟨o, e₆ _ _ ho, r⟩
    show wpAny (model prog w) A (execs [_] (nextEnv L)) _ _ _
    refine wpAny_execs_cons (wpAny_If (Runs.use (R := fun _ c => c = keepF ys y) (h := h₆) (tst_not (tst_bool (ev_mcall1 (ev_local (d := .val (.ref bx)) rfl rfl F₆.ns hmf₅ rfl) (F₆.keep _ _ f.bx) (f.ys.ext F₆.keep) (ev_local rfl rfl F₆.ns hmi₅ ⟨t, rfl⟩)))) (Ext.refl _) fun c h₇ tk₇ e₇ hc => ?_))
    subst hc
    have F₇ := F₆.keeps e₇
    have hit₇ : h₇.IsListIter it l (i + 1) := let ⟨o, ho, r⟩ := hit₆; ⟨o, e₇ _ _ ho, r⟩
    cases hk : keepF ys y with
    | true =>
      show wpAny (model prog w) A (execs [_] (nextEnv L)) _ _ _
      refine wpAny_execs_cons (wpAny_Return_some ((ev_local (d := .val (.str y t)) rfl rfl F₇.ns hmi₅ rfl : Ev (model prog w) A h₇ _ _ _).use (Ext.refl _) fun v h₈ tk₈ e₈ hv => ?_))
      obtain rfl : v = .str y t := hv
      refine hQ i h₈ _ _ y (F₇.keeps e₈).keep (let ⟨o, ho, r⟩ := hit₇; ⟨o, e₈ _ _ ho, r⟩) hv hx ?_
      rw [← hT, hdr, List.filter_cons_of_pos hk]
    | false =>
      show wpAny (model prog w) A (execs [] (nextEnv L)) _ _ _
      refine wpAny_execs_nil ?_
      refine wpAny_execs_nil ?_
      refine wpAny_execs_nil ?_
      refine ih h₇ _ _ hi ?_ F₇ hms₅ hmf₅ hit₇
      rw [← hT, hdr, List.filter_cons_of_neg (by rw [hk]; decide)]
theorem next_loop {H : Heap} {x dx it bx l2 l L : Addr} {ys xs : List Str} {vs : List Value} {T : List Str} (B : Bs w H) (f : FF H x dx it bx l2 l ys xs vs) (hh : A.handled = none)
    (hp : PassesOwn (model prog w) A (nextEnv L) E) (hLi : it ≠ L)
    (hQ : ∀ j h' tk v y, Ext H h' → h'.IsListIter it l (j + 1) → vs[j]? = some v → xs[j]? = some y → T = y :: (xs.drop (j + 1)).filter (keepF ys) → Q (.ret v) { s₀ with heap := h', toks := tk })
    (hE : ∀ h₁ h' e tk m, T = [] → Fr H L h₁ m → Heap.MadeExcOf h₁ h' e (.type "StopIteration") [] → E (.ref e) { s₀ with heap := h', toks := tk }) :
    ∀ (n i : Nat) (h : Heap) (tk : Nat) (m : Str → Option Value), xs.length - i = n → (xs.drop i).filter (keepF ys) = T → Fr H L h m → m "self" = some (.ref x) → m "func" = some (.ref bx) → h.IsListIter it l i →
      WhlRest prog w A E (nextEnv L) (whTest nextWh) (whBody nextWh) [] Q 100 { s₀ with heap := h, toks := tk } := by
  intro n
  induction n with
  | zero => exact fun i h tk m hn hT F hms hmf hit => next_turn B f hh hp hLi hQ hE i h tk m (fun _ _ _ hi => absurd hi (by omega)) hT F hms hmf hit
  | succ n ih => exact fun i h tk m hn hT F hms hmf hit => next_turn B f hh hp hLi hQ hE i h tk m (fun h tk m hi hT F hms hmf hit => ih (i + 1) h tk m (by omega) hT F hms hmf hit) hT F hms hmf hit
end
end Mine
end

section
open PySem PySem.W PyProof.Rows PySem.Calls
set_option Elab.async false
set_option maxRecDepth 100000
set_option maxHeartbeats 2000000
namespace Mine
/-- the frames on the stack -/
def frs (fl : List Env) : List Addr := fl.filterMap (·.frame)
def Stk (h : Heap) (fl : List Env) : Prop := ∀ env ∈ fl, env.scope.kind ≠ .module ∧ ∃ L o, env.frame = some L ∧ h.get? L = some o ∧ ∀ vs, o.data ≠ .fields vs
theorem Stk.fun {h base : Heap} : ∀ {fl : List Env}, Stk h fl → (∀ L ∈ frs fl, base.get? L = none) → h.FunFrames base fl
  | [], _, _ => trivial
  | env :: r, x, y => by
    obtain ⟨hk, L, o, hf, ho, hd⟩ := x env (.head _)
    refine ⟨hk, ⟨L, o, hf, y L (List.mem_filterMap.mpr ⟨env, .head _, hf⟩), ho, hd⟩, Stk.fun (fun e he => x e (.tail _ he)) fun L' hL' => y L' ?_⟩
    obtain ⟨e, he, hfe⟩ := List.mem_filterMap.mp hL'
    exact List.mem_filterMap.mpr ⟨e, .tail _ he, hfe⟩
theorem Stk.up {h h' : Heap} {fl : List Env} (x : Stk h fl) (k : ∀ b o, h.get? b = some o → (∀ vs, o.data ≠ .fields vs) → ∃ o', h'.get? b = some o' ∧ o'.data = o.data) : Stk h' fl := fun e he =>
  let ⟨hk, L, o, hf, ho, hd⟩ := x e he
  let ⟨o', ho', hd'⟩ := k L o ho hd
  ⟨hk, L, o', hf, ho', fun vs => hd' ▸ hd vs⟩
theorem Stk.notfields {h : Heap} {fl : List Env} {b : Addr} {o : Obj} {vs : Array Value} (x : Stk h fl) (ho : h.get? b = some o) (hd : o.data = .fields vs) : b ∉ frs fl := fun hm => by
  obtain ⟨e, he, hf⟩ := List.mem_filterMap.mp hm
  obtain ⟨_, L, o', hf', ho', hd'⟩ := x e he
  rw [hf] at hf'; cases hf'
  rw [ho] at ho'; cases ho'
  exact hd' vs hd
/-- all kept but the frames' own marks -/
structure ExtF (S : List Addr) (but : Addr → Prop) (h h' : Heap) : Prop where
  keep : ∀ b o, ¬ but b → b ∉ S → h.get? b = some o → h'.get? b = some o
  slots : ∀ b o, b ∈ S → ¬ but b → h.get? b = some o → ∃ sl, h'.get? b = some { o with slots := sl }

theorem FF.up {H H' : Heap} {x dx it bx l2 l : Addr} {ys xs : List Str} {vs : List Value} (f : FF H x dx it bx l2 l ys xs vs) (e : Ext H H') (hn : H'.get? it = none) : FF H' x dx it bx l2 l ys xs vs :=
  ⟨e _ _ f.x, e _ _ f.dx, e _ _ f.bx, f.ys.ext e, islist_ext e f.l, f.vs, hn⟩

section
variable {prog : Program} {w : World} {A : Around} {E : Value → Shared → Prop} {Q : Value → Shared → Prop} {s : Shared}
theorem next_call {H : Heap} {x dx it bx l2 l : Addr} {ys xs : List Str} {vs : List Value} {fl : List Env} {i : Nat} (B : Bs w H) (f : FF H x dx it bx l2 l ys xs vs) (he : Ext H s.heap)
    (hh : A.handled = none) (hroom : A.depth < recursionLimit) (hfr : A.frames = some fl) (hst : Stk s.heap fl) (hit : s.heap.IsListIter it l i)
    (hQ : ∀ j h' tk v y, (∀ b o, b ≠ it → s.heap.get? b = some o → h'.get? b = some o) → h'.IsListIter it l (j + 1) → vs[j]? = some v → xs[j]? = some y → (xs.drop i).filter (keepF ys) = y :: (xs.drop (j + 1)).filter (keepF ys) → Q v { s with heap := h', toks := tk })
    (hE : ∀ h' e tk, (xs.drop i).filter (keepF ys) = [] → ExtF (frs fl) (· = it) s.heap h' → (∃ ob, h'.get? e = some ob ∧ ob.cls = .type "StopIteration") → E (.ref e) { s with heap := h', toks := tk }) :
    wpAny (model prog w) A (call (.ref 60) [.ref x]) Q E s := by
  have B' := B.up he
  refine wpAny_call ?_
  refine codeAny_call_def (binds := [(Str.ofString "self", .ref x)]) (body := fnBody (clsSt 3))
    (fd := fnOf (fnName (clsSt 3)) "filterfalse.__next__" (fnArgs (clsSt 3)) (fnBody (clsSt 3)) (fnScope (clsSt 3)) .none .none .none (.str "itertools" 282) none (.ref 59) .none) hroom (B'.K _ _ rfl) rfl B'.lim (codeRec_of B'.K rfl) rfl (.of_eq rfl) (by decide) (locs rfl) (fun h₁ hns hk => ?_)
  show wpAny (model prog w) (A.deeper (nextEnv s.heap.objs.size)) (execs _ (nextEnv s.heap.objs.size)) _ (fun e s' => wpAny (model prog w) (A.deeper (nextEnv s.heap.objs.size)) (leaving (nextEnv s.heap.objs.size) e) (fun _ s'' => E e s'') (fun e' s'' => E e' s'') s') _
  generalize hL : s.heap.objs.size = L at hns ⊢
  have hitL : it ≠ L := by obtain ⟨o, ho, _⟩ := hit; rw [← hL]; exact Nat.ne_of_lt (Heap.lt_size ho)
  have F : Fr (s.heap.hide it) L h₁ (fun y => List.lookup y [(Str.ofString "self", Value.ref x)]) := ⟨hns, fun b o e => hk _ _ (Heap.of_hide e), by rw [Heap.hide_size, hL]; exact Nat.le_refl _⟩
  have eH : Ext H (s.heap.hide it) := fun b o e => (Heap.hide_ne _ fun q => by rw [q, f.it] at e; cases e).trans (he b o e)
  have BH := B.up eH
  have f' := f.up eH (Heap.hide_self _ _)
  have hit₁ : h₁.IsListIter it l i := let ⟨o, ho, r⟩ := hit; ⟨o, hk _ _ ho, r⟩
  refine wpAny_execs_cons (wpAny_Assign_Name (Attribute_name ((ev_local (d := .val (.ref x)) rfl rfl F.ns rfl rfl : Ev (model prog w) _ h₁ _ _ _).use (Ext.refl _) fun v h₂ tk₂ e₂ hv => ?_)) rfl)
  obtain rfl : v = .ref x := hv
  have F₂ := F.keeps e₂
  refine get_slot (i := 0) (v := .ref bx) F₂ BH.K (inst_at (sl := #[some (.ref bx), some (.ref it)]) (F₂.keep _ _ f'.x) (F₂.keep _ _ f'.dx)) ff_getf ff_iscls ff_f_func ff_n_func ff_t_func ff_slot_func rfl rfl ?_
  refine wpAny_storeName_local rfl F₂.ns (fun h₃ hn₃ hs₃ => ?_) rfl
  obtain ⟨m₃, F₃, hms, hmf⟩ : ∃ m₃ : Str → Option Value, Fr (s.heap.hide it) L h₃ m₃ ∧ m₃ "self" = some (.ref x) ∧ m₃ "func" = some (.ref bx) := ⟨_, F₂.set hn₃ hs₃, rfl, rfl⟩
  have hit₃ : h₃.IsListIter it l i := let ⟨o, ho, r⟩ := hit₁; ⟨o, (hs₃.2 it hitL).trans (e₂ _ _ ho), r⟩
  refine wpAny_execs_cons (whl_start 100 ?_)
  refine next_loop (A := A.deeper (nextEnv L)) (s₀ := s) BH f' hh PassesOwn.leaving hitL ?_ ?_ _ i h₃ _ m₃ rfl rfl F₃ hms hmf hit₃
  · intro j h' tk v y e hit' hv hy hT
    exact hQ j h' tk v y (fun b o hb ho => e _ _ ((Heap.hide_ne _ hb).trans ho)) hit' hv hy hT
  · intro h₄ h₅ e tk m hT F₄ hm
    have kS : ∀ b o, b ≠ it → s.heap.get? b = some o → h₄.get? b = some o := fun b o hb ho => F₄.keep _ _ ((Heap.hide_ne _ hb).trans ho)
    have hns₄ := F₄.ns
    have hst₄ : Stk h₄ (nextEnv L :: fl) := by
      intro env henv
      rcases List.mem_cons.mp henv with rfl | henv
      · obtain ⟨o, es, ep, ho, hd, _⟩ := hns₄
        exact ⟨(by show ScopeKind.function ≠ _; intro q; cases q), L, o, rfl, ho, (fun vs q => by rw [hd] at q; cases q)⟩
      · obtain ⟨hk', L', o, hf, ho, hd⟩ := hst env henv
        exact ⟨hk', L', o, hf, kS _ _ (fun q => by obtain ⟨oi, hoi, _, hdi⟩ := hit; rw [q, hoi] at ho; cases ho; exact hd _ hdi) ho, hd⟩
    have hLn : s.heap.get? L = none := Heap.get?_none_of_le (by rw [hL]; exact Nat.le_refl _)
    -- what stays to the sign
    have nb : ∀ L' ∈ frs (nextEnv L :: fl), (hideAll s.heap (it :: frs fl)).get? L' = none := by
      intro L' hL'
      rcases List.mem_cons.mp hL' with rfl | hL'
      · cases q : (hideAll s.heap (it :: frs fl)).get? L' with
        | none => rfl
        | some o => have := of_hideAll _ q; rw [hLn] at this; cases this
      · exact hideAll_none _ (.tail _ hL')
    refine wpAny_leaves_madeW (base := hideAll s.heap (it :: frs fl)) (Around.frames_deeper hfr) rfl (fun b o e => kS b o (fun q => by rw [q, hideAll_none _ (.head _)] at e; cases e) (of_hideAll _ e)) (hst₄.fun nb) hm fun h' t x1 x2 x3 x4 => ?_
    refine hE h' e _ hT ⟨fun b o hb hS ho => x1.1 b o (hideAll_get _ ho fun hm => ?_), fun b o hS hb ho => ?_⟩ x1.there
    · rcases List.mem_cons.mp hm with q | hm
      · exact hb q
      · exact hS hm
    · obtain ⟨env, henv, hf⟩ := List.mem_filterMap.mp hS
      obtain ⟨_, L', o', hf', ho', hd'⟩ := hst env henv
      rw [hf] at hf'; cases hf'
      rw [ho] at ho'; cases ho'
      exact x4 b o (hm.keeps _ _ (kS _ _ hb ho)) hd'
end
end Mine
end

section
open PySem PySem.W PyProof.Rows PySem.Calls
set_option Elab.async false
set_option maxRecDepth 100000
set_option maxHeartbeats 2000000
namespace Mine
section
variable {prog : Program} {w : World} {A : Around} {E : Value → Shared → Prop} {s : Shared}
theorem ff_f_next : findIn (hd.heap_39 w.params) (.ref 64) "__next__" = some (some (.ref 60)) := by rfl
theorem ff_f_iter : findIn (hd.heap_39 w.params) (.ref 64) "__iter__" = some (some (.ref 53)) := by rfl
theorem ff_fn_next : isFn (hd.heap_39 w.params) (.ref 60) = true := by rfl
theorem ff_fn_iter : isFn (hd.heap_39 w.params) (.ref 53) = true := by rfl

theorem next_py {H : Heap} {x dx it bx l2 l : Addr} {ys xs : List Str} {vs : List Value} {fl : List Env} {i : Nat} {Q : Option Value → Shared → Prop} (B : Bs w H) (f : FF H x dx it bx l2 l ys xs vs) (he : Ext H s.heap)
    (hh : A.handled = none) (hroom : A.depth < recursionLimit) (hfr : A.frames = some fl) (hst : Stk s.heap fl) (hit : s.heap.IsListIter it l i)
    (hQ : ∀ j h' tk v y, (∀ b o, b ≠ it → s.heap.get? b = some o → h'.get? b = some o) → h'.IsListIter it l (j + 1) → vs[j]? = some v → xs[j]? = some y → (xs.drop i).filter (keepF ys) = y :: (xs.drop (j + 1)).filter (keepF ys) → Q (some v) { s with heap := h', toks := tk })
    (hE : ∀ h' tk, (xs.drop i).filter (keepF ys) = [] → ExtF (frs fl) (· = it) s.heap h' → Q none { s with heap := h', toks := tk }) :
    wpAny (model prog w) A (pyNext (.ref x)) Q E s := by
  have X := (B.up he).K
  unfold pyNext
  refine wpAny_bind (wpAny_attempt (special_fn (name := "__next__") (args := []) X (inst_at (sl := #[some (.ref bx), some (.ref it)]) (he _ _ f.x) (he _ _ f.dx)) ff_f_next (beq_iff_eq.mp ff_fn_next) ?_))
  refine next_call B f he hh hroom hfr hst hit (fun j h' tk v y k1 k2 k3 k4 k5 => wpAny_pure (hQ j h' tk v y k1 k2 k3 k4 k5)) fun h' e tk hT hx hc => ?_
  obtain ⟨ob, ho, hoc⟩ := hc
  refine wpAny_bind (wpAny_isInstance (T := "StopIteration") (b := true) ⟨ob, ho, hoc⟩ isSubtype_stop ?_)
  exact wpAny_pure (hE h' tk hT hx)
theorem iter_py {H : Heap} {x dx it bx l2 l : Addr} {ys xs : List Str} {vs : List Value} {Q : Value → Shared → Prop} {h₀ : Heap} {L : Addr} {m : Str → Option Value} (B : Bs w H) (f : FF H x dx it bx l2 l ys xs vs) (he : Ext H s.heap) (F : Fr h₀ L s.heap m) (B₀ : Bs w h₀)
    (hroom : A.depth < recursionLimit) (hQ : ∀ h' tk, Ext s.heap h' → Q (.ref x) { s with heap := h', toks := tk }) :
    wpAny (model prog w) A (pyIter (.ref x)) Q E s := by
  have B' := B.up he
  have X := B'.K
  have I := fun (h' : Heap) (e : Ext s.heap h') => inst_at (sl := #[some (.ref bx), some (.ref it)]) (e _ _ (he _ _ f.x)) (e _ _ (he _ _ f.dx))
  have hcall : Runs (model prog w) A s.heap (call (.ref 53) [.ref x]) fun _ v => v = .ref x := by
    refine .intro fun s₁ E₁ Q₁ hle hQ₁ => wpAny_call ?_
    have B₁ := B'.up hle
    refine codeAny_call_def (binds := [(Str.ofString "self", .ref x)]) (body := fnBody (clsSt 2))
      (fd := fnOf (fnName (clsSt 2)) "filterfalse.__iter__" (fnArgs (clsSt 2)) (fnBody (clsSt 2)) (fnScope (clsSt 2)) .none .none .none (.str "itertools" 282) none (.ref 52) .none) hroom (B₁.K _ _ rfl) rfl B₁.lim (codeRec_of B₁.K rfl) rfl (.of_eq rfl) (by decide) (locs rfl) (fun h₁ hns hk => ?_)
    refine wpAny_execs_cons (wpAny_Return_some (Runs.use (ev_local (d := .val (.ref x)) rfl rfl hns rfl rfl) (Ext.refl _) fun v h₂ tk₂ e₂ hv => ?_))
    obtain rfl : v = .ref x := hv
    exact hQ₁ _ h₂ _ (Ext.trans hk e₂) rfl
  refine owit_iter F B₀.K (I _ (Ext.refl _)) ff_f_iter ff_fn_iter (hcall.use (Ext.refl _) fun v h' tk e hv => ?_)
  subst hv
  unfold OwitIt
  exact wpAny_bind ((I h' e).type.here ((looks_findIn (X.keeps e) ff_f_next).here (hQ h' tk e)))
end
end Mine
end

section
open PySem PySem.W PyProof.Rows PySem.Calls
set_option Elab.async false
set_option maxRecDepth 100000
set_option maxHeartbeats 2000000
namespace Mine
theorem strs_snoc {vs : List Value} {zs : List Str} {y : Str} {v : Value} {t : Tok} (h : StrsAre vs zs) (hv : v = .str y t) : StrsAre (vs ++ [v]) (zs ++ [y]) := by
  subst hv; exact StrsAre.append' h (.cons y t .nil)
theorem Stk.upf {h h' : Heap} {fl : List Env} (x : Stk h fl) (k : ∀ b o, b ∈ frs fl → h.get? b = some o → ∃ o', h'.get? b = some o' ∧ o'.data = o.data) : Stk h' fl := fun e he =>
  let ⟨hk, L, o, hf, ho, hd⟩ := x e he
  let ⟨o', ho', hd'⟩ := k L o (List.mem_filterMap.mpr ⟨e, he, hf⟩) ho
  ⟨hk, L, o', hf, ho', fun vs => hd' ▸ hd vs⟩
theorem drop_filter_lt {xs : List Str} {p : Str → Bool} {i j : Nat} {y : Str} (h : (xs.drop i).filter p = y :: (xs.drop (j + 1)).filter p) : i ≤ j := by
  rcases Nat.lt_or_ge j i with q | q
  · have := ((List.drop_sublist_drop_left xs (show j + 1 ≤ i from q)).filter p).length_le
    rw [h, List.length_cons] at this
    omega
  · exact q
theorem ExtF.of {S : List Addr} {but : Addr → Prop} {h h' : Heap} (k : ∀ b o, ¬ but b → h.get? b = some o → h'.get? b = some o) : ExtF S but h h' :=
  ⟨fun b o hb _ e => k b o hb e, fun b o _ hb e => ⟨o.slots, k b o hb e⟩⟩
theorem ExtF.trans {S : List Addr} {but : Addr → Prop} {a b c : Heap} (x : ExtF S but a b) (y : ExtF S but b c) : ExtF S but a c :=
  ⟨fun i o hb hs e => y.keep i o hb hs (x.keep i o hb hs e), fun i o hs hb e => let ⟨_, e₁⟩ := x.slots i o hs hb e; let ⟨sl, e₂⟩ := y.slots i _ hs hb e₁; ⟨sl, e₂⟩⟩
theorem ExtF.mono {S : List Addr} {but but' : Addr → Prop} {a b : Heap} (x : ExtF S but a b) (h : ∀ i, but i → but' i) : ExtF S but' a b :=
  ⟨fun i o hb hs e => x.keep i o (fun q => hb (h i q)) hs e, fun i o hs hb e => x.slots i o hs (fun q => hb (h i q)) e⟩

section
variable {prog : Program} {w : World} {A : Around} {R : Result → Shared → Prop} {s₀ : Shared}
theorem ext_loop {H : Heap} {x dx it bx l2 l S : Addr} {ys xs T : List Str} {vs : List Value} {fl : List Env} (B : Bs w H) (f : FF H x dx it bx l2 l ys xs vs)
    (hh : A.handled = none) (hroom : A.depth < recursionLimit) (hfr : A.frames = some fl) (hSn : H.get? S = none) (hSi : S ≠ it) (hSf : S ∉ frs fl) (hxs : xs.length ≤ 4096) 
    (hR : ∀ h' tk acc c, h'.get? S = some { cls := .type "list", data := .seq acc c } → StrsAre acc.toList T → ExtF (frs fl) (fun b => b = it ∨ b = S) s₀.heap h' → R (.ok (.ret .none)) { s₀ with heap := h', toks := tk }) :
    ∀ (n i : Nat) (h : Heap) (tk : Nat) (acc : Array Value) (c : Nat) (zs : List Str), xs.length - i = n → zs.length ≤ i → i ≤ xs.length → Ext H h → (∀ b o, b ≠ it → b ≠ S → s₀.heap.get? b = some o → h.get? b = some o) → Stk h fl → h.IsListIter it l i →
      h.get? S = some { cls := .type "list", data := .seq acc c } → StrsAre acc.toList zs → T = zs ++ (xs.drop i).filter (keepF ys) →
      codeAny (model prog w) A (.builtin "list.extend.loop" ⟨[.ref S, .ref x, .none], []⟩) R { s₀ with heap := h, toks := tk } := by
  intro n
  induction n using Nat.strongRecOn with
  | ind n ih =>
  intro i h tk acc c zs hn hz hi he hk hst hit hS hacc hT
  refine codeAny_builtin F.entry_extend_loop ?_
  rw [Around.under_plainId F.plain_extend_loop _]
  show wpAny _ A.in1 (pyNext (.ref x) >>= _) _ _ _
  have hif : it ∉ frs fl := by obtain ⟨o, ho, _, hd⟩ := hit; exact hst.notfields ho hd
  refine wpAny_bind (next_py (A := A.in1) B f he hh hroom hfr hst hit ?_ ?_)
  · intro j h' tk' v y k1 hit' hv hy hTj
    have hS' := k1 S _ hSi hS
    obtain ⟨t, hv'⟩ := strs_at f.vs hy
    rw [hv] at hv'
    have hj : j < xs.length := (List.getElem?_eq_some_iff.mp hy).1
    have hij : i ≤ j := drop_filter_lt hTj
    show wpAny _ A.in1 (updateSeq S (·.push v) >>= _) _ _ _
    refine wpAny_bind ?_
    have hal : acc.size = zs.length := by have := hacc.length; simpa using this
    refine wpAny_updateSeq hS' rfl (wpAny_pure ⟨plainId_quiet F.plain_extend_loop _, ih (xs.length - (j + 1)) (by omega) (j + 1) _ _ (acc.push v) _ (zs ++ [y]) rfl (by simp; omega) (by omega) ?_ ?_ ?_ ?_ (Heap.get?_update_self _ hS' rfl) ?_ ?_⟩)
      (by rw [sizeLine_eq]; omega) (by show (acc.push v).size ≤ sizeLine + 1; rw [Array.size_push, sizeLine_eq]; omega)
    · exact fun b o e => (Heap.get?_update_other _ _ (fun q : S = b => by rw [← q, hSn] at e; cases e)).trans (k1 _ _ (fun q => by rw [q, f.it] at e; cases e) (he _ _ e))
    · exact fun b o hb hbS e => (Heap.get?_update_other _ _ (Ne.symm hbS)).trans (k1 _ _ hb (hk _ _ hb hbS e))
    · exact hst.upf fun b o hb ho => ⟨o, (Heap.get?_update_other _ _ (fun q : S = b => hSf (q ▸ hb))).trans (k1 _ _ (fun q => hif (q ▸ hb)) ho), rfl⟩
    · obtain ⟨o, ho, r⟩ := hit'
      exact ⟨o, (Heap.get?_update_other _ _ hSi).trans ho, r⟩
    · rw [Array.toList_push]
      exact strs_snoc hacc (Option.some.inj hv')
    · rw [hT, hTj, List.append_assoc]; rfl
  · intro h' tk' hTn hx
    rw [hTn, List.append_nil] at hT
    subst hT
    exact wpAny_pure (hR h' tk' acc c (hx.keep _ _ hSi hSf hS) hacc ((ExtF.of fun b o hb e => hk b o (fun q => hb (.inl q)) (fun q => hb (.inr q)) e).trans (hx.mono fun _ => .inl)))
end
end Mine
end

section
open PySem PySem.W PyProof.Rows PySem.Calls
set_option Elab.async false
set_option maxRecDepth 100000
set_option maxHeartbeats 2000000
namespace Mine
section
variable {prog : Program} {w : World} {A : Around} {E : Value → Shared → Prop} {s : Shared}
theorem ff_no_len : findIn (hd.heap_39 w.params) (.ref 64) "__len__" = some none := by rfl
theorem ff_no_hint : findIn (hd.heap_39 w.params) (.ref 64) "__length_hint__" = some none := by rfl

theorem init_ff {R : Result → Shared → Prop} {H h₀ : Heap} {x dx it bx l2 l S L : Addr} {ys xs : List Str} {vs : List Value} {fl : List Env} {m : Str → Option Value} (B : Bs w H) (f : FF H x dx it bx l2 l ys xs vs) (he : Ext H s.heap)
    (hh : A.handled = none) (hroom : A.depth < recursionLimit) (hfr : A.frames = some fl) (hst : Stk s.heap fl) (F : Fr h₀ L s.heap m) (B₀ : Bs w h₀) (hSn₀ : h₀.get? S = none) (hSn : H.get? S = none) (hSi : S ≠ it) (hSL : S ≠ L) (hSx : S ≠ x) (hSf : S ∉ frs fl) (hxs : xs.length ≤ 4096) (hit : s.heap.IsListIter it l 0)
    (hS : s.heap.get? S = some { cls := .type "list", data := .seq #[] })
    (hR : ∀ h' tk acc c, h'.get? S = some { cls := .type "list", data := .seq acc c } → StrsAre acc.toList (xs.filter (keepF ys)) → ExtF (frs fl) (fun b => b = it ∨ b = S) s.heap h' → R (.ok (.ret .none)) { s with heap := h', toks := tk }) :
    wpAny (model prog w) A.in1 (Builtin.«list.__init__» ⟨[.ref S, .ref x], []⟩)
      (fun fin s' => match fin with | .done f => R (.ok f) s' | .again c' => c'.quiet = true ∧ codeAny (model prog w) A c' R s') (fun e s' => R (.error e) s') s := by
  show wpAny _ A.in1 (do let old ← Builtin.List.listItems (.ref S); Builtin.List.listUpdate (.ref S) (fun _ => #[]); letGo old.toList.reverse; Builtin.List.listExtendWith (.ref S) (.ref x) .none) _ _ s
  refine wpAny_bind ?_
  unfold Builtin.List.listItems
  refine wpAny_bind (wpAny_seqItems hS rfl (wpAny_pure ?_))
  show wpAny _ A.in1 (updateSeq S (fun _ => #[]) >>= fun _ => letGo (#[] : Array Value).toList.reverse >>= fun _ => Builtin.List.listExtendWith (.ref S) (.ref x) .none) _ _ s
  refine wpAny_bind (wpAny_updateSeq hS rfl ?_)
  have hS₂ := Heap.get?_update_self (Obj.mapSeq (fun _ => (#[] : Array Value))) hS rfl
  have oth : ∀ b o, b ≠ S → s.heap.get? b = some o → (s.heap.update S (Obj.mapSeq (fun _ => (#[] : Array Value)))).get? b = some o :=
    fun b o hb e => (Heap.get?_update_other _ _ (Ne.symm hb)).trans e
  refine wpAny_bind (wpAny_letGo ?_)
  generalize h₂e : s.heap.update S (Obj.mapSeq (fun _ => (#[] : Array Value))) = h₂ at hS₂ oth
  have F₂ : Fr h₀ L h₂ m := by
    obtain ⟨o, es, ep, ho, r⟩ := F.ns
    exact ⟨⟨o, es, ep, oth _ _ (Ne.symm hSL) ho, r⟩, fun b o e => oth b o (fun q => by rw [q, hSn₀] at e; cases e) (F.keep b o e), F.above⟩
  have he₂ : Ext H h₂ := fun b o e => oth b o (fun q => by rw [q, hSn] at e; cases e) (he _ _ e)
  have I := inst_at (sl := #[some (.ref bx), some (.ref it)]) (he₂ _ _ f.x) (he₂ _ _ f.dx)
  have X₂ := (B.up he₂).K
  unfold Builtin.List.listExtendWith
  refine wpAny_bind (I.type.here ?_)
  have h1 : Builtin.List.listSameRef (.ref S) (.ref x) = false := by simp [Builtin.List.listSameRef, hSx]
  have h2 : (Value.ref 64 == Value.type "list") = false := by decide
  have h3 : (Value.ref 64 == Value.type "tuple") = false := by decide
  simp only [h1, h2, h3, Bool.or_false, Bool.false_eq_true, if_false]
  refine wpAny_bind (iter_py (A := A.in1) (s := { s with heap := h₂ }) B f he₂ F₂ B₀ hroom fun h₃ tk₃ e₃ => ?_)
  refine wpAny_bind (wpAny_holding ?_)
  have I₃ := inst_at (sl := #[some (.ref bx), some (.ref it)]) (e₃ _ _ (he₂ _ _ f.x)) (e₃ _ _ (he₂ _ _ f.dx))
  have X₃ := X₂.keeps e₃
  unfold Builtin.List.listLengthHint
  refine wpAny_bind (wpAny_bind (I₃.type.here ((looks_findIn X₃ ff_no_len).here ?_)))
  show wpAny _ A.in1 (specialOf (Value.ref x) (Str.ofString "__length_hint__") >>= _) _ _ _
  refine wpAny_bind (wpAny_bind (I₃.type.here ((looks_findIn X₃ ff_no_hint).here ?_)))
  refine wpAny_pure ?_
  show wpAny _ A.in1 (rule "list.extend.makes-room" >>= fun _ => Builtin.List.listTouch (.ref S) >>= fun _ =>
    again (.builtin "list.extend.loop" ⟨[.ref S, .ref x, .none], []⟩)) _ _ _
  refine wpAny_bind (wpAny_rule ?_)
  refine wpAny_bind ?_
  show wpAny _ A.in1 (updateSeq S (·.push .none) >>= fun _ => updateSeq S (·.pop)) _ _ _
  have hS₃ := e₃ _ _ hS₂
  refine wpAny_bind (wpAny_updateSeq hS₃ rfl ?_)
  have hS₄ := Heap.get?_update_self (Obj.mapSeq (·.push Value.none)) hS₃ rfl
  refine wpAny_updateSeq (hz := by seq_fits) hS₄ rfl ?_
  have hS₅ := Heap.get?_update_self (Obj.mapSeq (·.pop)) hS₄ rfl
  have oth₅ : ∀ b o, b ≠ S → s.heap.get? b = some o → ((h₃.update S (Obj.mapSeq (·.push Value.none))).update S (Obj.mapSeq (·.pop))).get? b = some o :=
    fun b o hb e => (Heap.get?_update_other _ _ (Ne.symm hb)).trans ((Heap.get?_update_other _ _ (Ne.symm hb)).trans (e₃ _ _ (oth _ _ hb e)))
  refine wpAny_pure ⟨plainId_quiet PySem.F.plain_extend_loop _, ?_⟩
  have hit₅ : ((h₃.update S (Obj.mapSeq (·.push Value.none))).update S (Obj.mapSeq (·.pop))).IsListIter it l 0 := let ⟨o, ho, r⟩ := hit; ⟨o, oth₅ _ _ (Ne.symm hSi) ho, r⟩
  refine ext_loop (s₀ := s) B f hh hroom hfr hSn hSi hSf hxs hR xs.length 0 _ _ _ _ [] rfl (Nat.le_refl _) (Nat.zero_le _) (fun b o e => oth₅ b o (fun q => by rw [q, hSn] at e; cases e) (he _ _ e)) (fun b o _ hb e => oth₅ b o hb e)
    (hst.upf fun b o hb ho => ⟨o, oth₅ b o (fun q => hSf (q ▸ hb)) ho, rfl⟩) hit₅ hS₅ .nil rfl

theorem list_ff {Q : Value → Shared → Prop} {H h₀ : Heap} {x dx it bx l2 l L : Addr} {ys xs : List Str} {vs : List Value} {fl : List Env} {m : Str → Option Value} (B : Bs w H) (f : FF H x dx it bx l2 l ys xs vs) (he : Ext H s.heap)
    (hh : A.handled = none) (hroom : A.depth + 1 < recursionLimit) (hfr : A.frames = some fl) (hst : Stk s.heap fl) (Fm : Fr h₀ L s.heap m) (B₀ : Bs w h₀) (hxs : xs.length ≤ 4096) (hit : s.heap.IsListIter it l 0)
    (hQ : ∀ S h' tk acc c, s.heap.get? S = none → h'.get? S = some { cls := .type "list", data := .seq acc c } → StrsAre acc.toList (xs.filter (keepF ys)) → ExtF (frs fl) (· = it) s.heap h' → Q (.ref S) { s with heap := h', toks := tk }) :
    wpAny (model prog w) A (call (.type "list") [.ref x]) Q E s := by
  have hSn : s.heap.get? s.heap.objs.size = none := Heap.get?_none_of_le (Nat.le_refl _)
  have ne : ∀ b o, s.heap.get? b = some o → s.heap.objs.size ≠ b := fun b o e q => by rw [← q, hSn] at e; cases e
  refine callType_codes (Q₁ := fun obj s₁ => obj = .ref s.heap.objs.size ∧ s₁ = { s with heap := s.heap.push { cls := .type "list", data := .seq #[] } }) F.called_list (F.typeCall_list_1 _) F.entry_list_init
    (code_list_new _ ⟨rfl, rfl⟩) fun obj s₁ h₁ => ?_
  obtain ⟨rfl, rfl⟩ := h₁
  have hS : (s.heap.push { cls := .type "list", data := .seq #[] }).get? s.heap.objs.size = some { cls := .type "list", data := .seq #[] } := Heap.get?_push_size _ rfl
  have e₁ : Ext s.heap (s.heap.push { cls := .type "list", data := .seq #[] }) := (Ext.refl _).push _
  refine ⟨⟨_, hS, rfl⟩, F.args_list_init_2 _ _, ?_⟩
  refine init_ff (A := A.in1) (s := { s with heap := s.heap.push { cls := .type "list", data := .seq #[] } }) (S := s.heap.objs.size) B f (he.trans e₁) hh (Nat.lt_of_succ_lt hroom) hfr (hst.upf fun b o _ ho => ⟨o, e₁ _ _ ho, rfl⟩) (Fm.keeps e₁) B₀ (none_size' Fm.keep (Nat.le_refl _)) (none_size' he (Nat.le_refl _)) ?_ ?_ (ne _ _ (he _ _ f.x)) ?_ hxs
    (let ⟨o, ho, r⟩ := hit; ⟨o, e₁ _ _ ho, r⟩) hS fun h' tk acc c hS' hacc hx => ?_
  · obtain ⟨o, ho, _⟩ := hit; exact ne _ _ ho
  · exact Nat.ne_of_gt Fm.ns.lt
  · intro hm
    obtain ⟨e, he', hf⟩ := List.mem_filterMap.mp hm
    obtain ⟨_, L', o, hf', ho, _⟩ := hst e he'
    rw [hf] at hf'; cases hf'
    rw [hSn] at ho; cases ho
  · refine ⟨rfl, hQ _ h' tk acc c hSn hS' hacc ⟨fun b o hb hs e => hx.keep b o ?_ hs (e₁ _ _ e), fun b o hs hb e => hx.slots b o hs ?_ (e₁ _ _ e)⟩⟩
    · rintro (q | q)
      · exact hb q
      · exact ne _ _ e q.symm
    · rintro (q | q)
      · exact hb q
      · exact ne _ _ e q.symm
end
end Mine
end

section
open PySem PySem.W PyProof.Rows PySem.Calls
set_option Elab.async false
set_option maxRecDepth 100000
set_option maxHeartbeats 2000000
namespace Mine
section
variable {prog : Program} {w : World} {A : Around} {E : Value → Shared → Prop} {s : Shared}
theorem ff_keep : keepIn (hd.heap_39 w.params) (.ref 64) = true := by rfl
theorem fil_call {Q : Value → Shared → Prop} {b : Heap} {l l2 : Addr} {xs ys : List Str} {fl : List Env} (B : Bs w b) (he : Ext b s.heap) (hl : TL s.heap l xs) (hy : PL s.heap l2 ys)
    (hh : A.handled = none) (hroom : A.depth + 8 < recursionLimit) (hfr : A.frames = some fl) (hst : Stk s.heap fl) (hxs : xs.length ≤ 4096)
    (hQ : ∀ S h' tk, s.heap.get? S = none → PL h' S (xs.filter (keepF ys)) → ExtF (frs fl) (fun _ => False) s.heap h' → Q (.ref S) { s with heap := h', toks := tk }) :
    wpAny (model prog w) A (call (.ref 75) [.ref l, .ref l2]) Q E s := by
  have B' := B.up he
  obtain ⟨vs, hli, hvs⟩ := hl
  obtain ⟨ws, ⟨nw, hpl⟩, hws⟩ := id hy
  refine wpAny_call ?_
  refine call_plain_ret (name := fnName (stAt 4)) (params := fnArgs (stAt 4)) (body := fnBody (stAt 4)) (scope := fnScope (stAt 4)) (cd := .ref 74) (binds := [(Str.ofString "flist", .ref l), (Str.ofString "skip", .ref l2)]) (Nat.lt_of_le_of_lt (Nat.le_add_right _ 8) hroom) (B'.K _ _ rfl) rfl B'.lim (codeRec_of B'.K rfl) rfl (loc2 rfl rfl) (fun h₁ F => ?_)
  have hfr' := Around.frames_deeper (env := envOf (fnName (stAt 4)) (fnScope (stAt 4)) s.heap.objs.size 75 (.ref 74)) hfr
  have hh' : (A.deeper (envOf (fnName (stAt 4)) (fnScope (stAt 4)) s.heap.objs.size 75 (.ref 74))).handled = none := hh
  have hd' : (A.deeper (envOf (fnName (stAt 4)) (fnScope (stAt 4)) s.heap.objs.size 75 (.ref 74))).depth = A.depth + 1 := rfl
  generalize hA' : A.deeper _ = A' at hfr' hh' hd' ⊢
  have E1 : Ext s.heap h₁ := fr_ext F
  refine wpAny_execs_cons (wpAny_Return_some (Call_ ((ev_bi (h := h₁) (v := .type "list") B' E1 rfl rfl rfl rfl rfl (by decide +kernel) (by decide)).use (Ext.refl _) fun v h₂ tk₂ e₂ hv => ?_) rfl))
  obtain rfl : v = .type "list" := hv
  refine PyProof.Rows.callWith_type1 ?_ rfl rfl
  refine args_cons ?_ rfl
  refine Call_ ((ev_g (h := h₂) (v := .ref 64) B' (E1.trans e₂) rfl rfl rfl rfl).use (Ext.refl _) fun v h₃ tk₃ e₃ hv => ?_) rfl
  obtain rfl : v = .ref 64 := hv
  refine callWith_K (K := hd.heap_39 w.params) B'.K ff_keep ?_
  have E3 : Ext s.heap h₃ := (E1.trans e₂).trans e₃
  have F₃ := (F.keeps e₂).keeps e₃
  refine args_cons ?_ rfl
  refine Attribute_name ((ev_local (d := .val (.ref l2)) rfl rfl F₃.ns rfl rfl : Ev (model prog w) _ h₃ _ _ _).use (Ext.refl _) fun v h₄ tk₄ e₄ hv => ?_)
  obtain rfl : v = .ref l2 := hv
  have E4 : Ext s.heap h₄ := E3.trans e₄
  have F₄ := F₃.keeps e₄
  refine getattr_contains (E4 _ _ hpl) fun tk₅ => ?_
  have e₅ : Ext h₄ (h₄.push (boundIn l2)) := (Ext.refl _).push _
  have hbx : (h₄.push (boundIn l2)).get? h₄.objs.size = some (boundIn l2) := Heap.get?_push_size _ rfl
  generalize h₄.objs.size = bx at hbx ⊢
  generalize h₄.push (boundIn l2) = h₅ at e₅ hbx ⊢
  have F₅ := F₄.keeps e₅
  have E5 : Ext s.heap h₅ := E4.trans e₅
  refine args_cons ?_ rfl
  refine (ev_local (d := .val (.ref l)) rfl rfl F₅.ns rfl rfl : Ev (model prog w) _ h₅ _ _ _).use (Ext.refl _) fun v h₆ tk₆ e₆ hv => ?_
  obtain rfl : v = .ref l := hv
  have F₆ := F₅.keeps e₆
  have E6 : Ext s.heap h₆ := E5.trans e₆
  refine args_nil ⟨(B'.up E6).K, ?_⟩
  refine make_ff (A := A') (s := { s with heap := h₆, toks := _ }) B' E6 (islist_ext E6 hli) (by rw [hd']; omega) fun h₇ x dx it tk₇ e₇ hx hdx hit xi dxi ox odx oit => ?_
  have E7 : Ext s.heap h₇ := E6.trans e₇
  have F₇ := F₆.keeps e₇
  refine args_nil ?_
  have sit : s.heap.get? it = none := by
    cases q : s.heap.get? it with
    | none => rfl
    | some o => have := E6 _ _ q; rw [hit] at this; cases this
  have eH : Ext s.heap (h₇.hide it) := fun b o e => (Heap.hide_ne _ fun q => by rw [q, sit] at e; cases e).trans (E7 _ _ e)
  have ff : FF (h₇.hide it) x dx it bx l2 l ys xs vs :=
    ⟨(Heap.hide_ne _ xi).trans ox, (Heap.hide_ne _ dxi).trans odx, (Heap.hide_ne _ fun q => by have := e₆ _ _ hbx; rw [q, hit] at this; cases this).trans (e₇ _ _ (e₆ _ _ hbx)), hy.tl.ext eH, islist_ext eH hli, hvs, Heap.hide_self _ _⟩
  have hst₇ : Stk h₇ (envOf (fnName (stAt 4)) (fnScope (stAt 4)) s.heap.objs.size 75 (.ref 74) :: fl) := by
    intro env henv
    rcases List.mem_cons.mp henv with rfl | henv
    · obtain ⟨o, es, ep, ho, hd, _⟩ := F₇.ns
      exact ⟨(by show ScopeKind.function ≠ _; intro q; cases q), _, o, rfl, ho, (fun vs q => by rw [hd] at q; cases q)⟩
    · obtain ⟨hk', L', o, hf, ho, hd⟩ := hst env henv
      exact ⟨hk', L', o, hf, E7 _ _ ho, hd⟩
  refine list_ff (A := A') (s := { s with heap := h₇, toks := tk₇ }) (B'.up eH) ff (fun b o e => Heap.of_hide e) hh' (by rw [hd']; omega) hfr' hst₇ F₇ B' hxs oit fun S h' tk acc c hS hS' hacc hex => ?_
  have k : ∀ {b o}, s.heap.get? b = some o → b ≠ it := fun e q => by rw [q, sit] at e; cases e
  have kL : ∀ {b o}, s.heap.get? b = some o → b ≠ s.heap.objs.size := fun e q => Nat.lt_irrefl _ (q ▸ Heap.lt_size e)
  refine hQ S h' tk ?_ ⟨acc.toList, ⟨c, by simpa using hS'⟩, hacc⟩ ⟨fun b o _ hb e => hex.keep b o (k e) ?_ (E7 _ _ e), fun b o hb _ e => hex.slots b o (List.mem_cons_of_mem _ hb) (k e) (E7 _ _ e)⟩
  · cases q : s.heap.get? S with
    | none => rfl
    | some o => have := E7 _ _ q; rw [hS] at this; cases this
  · intro hm
    rcases List.mem_cons.mp hm with q | hm
    · exact kL e q
    · exact hb hm
end
end Mine
end

section
open PySem PySem.W PyProof.Rows PySem.Calls
set_option Elab.async false
set_option maxRecDepth 100000
set_option maxHeartbeats 2000000
namespace Mine

section
variable {prog : Program} {w : World} {A : Around} {R : Result → Shared → Prop}

/-- one turn's target: the next item is bound -/
def TurnOk (prog : Program) (w : World) (A : Around) (h₀ : Heap) (target : Expr) (I D : Addr) (cenv : Env) (n : Nat) (St Bound : Nat → Heap → Prop) : Prop :=
  ∀ (i : Nat) (s : Shared) (E : Value → Shared → Prop) (Q : Shared → Prop), i < n → Ext h₀ s.heap → St i s.heap →
    (∀ h' tk, Ext h₀ h' → St (i + 1) h' → Bound i h' → (∀ o, s.heap.get? D = some o → h'.get? D = some o) → Q { s with heap := h', toks := tk }) →
    wpAny (model prog w) A (pyNext (.ref I)) (fun r s₁ => ∃ v, r = some v ∧ wpAny (model prog w) A (letOwnedTupleGo target (.ref I) v) (fun _ s₂ => wpAny (model prog w) A (assign target cenv v) (fun _ s₃ => Q s₃) E s₂) E s₁) E s
def DoneOk (prog : Program) (w : World) (A : Around) (h₀ : Heap) (I D : Addr) (n : Nat) (St : Nat → Heap → Prop) (End : Heap → Prop) : Prop :=
  ∀ (s : Shared) (E : Value → Shared → Prop) (Q : Option Value → Shared → Prop), Ext h₀ s.heap → St n s.heap →
    (∀ h' tk, Ext h₀ h' → End h' → (∀ o, s.heap.get? D = some o → h'.get? D = some o) → Q none { s with heap := h', toks := tk }) → wpAny (model prog w) A (pyNext (.ref I)) Q E s

abbrev turnRest (elt : Expr) (ifs : List Expr) (gens : List Comprehension) (scope : Scope) (pos : Pos) (depth : Nat) (it acc : Value) (env : Env) : Sem Fin := do
    let mut ok := true
    for c in ifs do
      if ok then ok ← isTrue c env (eval c env)
    if ok then
      (do let _ ← call (.builtin "list.append") [acc, ← eval elt env])
    again (.compLoop (.ListComp elt gens scope pos) depth it acc env)
abbrev lastTurn (elt target : Expr) (ifs : List Expr) (gens : List Comprehension) (scope : Scope) (pos gpos : Pos) (depth : Nat) (it acc : Value) (env : Env) : Sem Fin := do
  standAt gpos
  match ← pyNext it with
  | none => pure (.done .next)
  | some v =>
    letOwnedTupleGo target it v
    assign target env v
    turnRest elt ifs gens scope pos depth it acc env

theorem loopA {elt target : Expr} {ifs : List Expr} {gens : List Comprehension} {scope : Scope} {pos gpos : Pos} {depth : Nat} {I D : Addr} {cenv : Env} {n : Nat} {St Bound : Nat → Heap → Prop} {End : Heap → Prop} {h₀ : Heap} (p : Nat → Bool) (F : Nat → Value → Prop) {s₀ : Shared} {zs : List Value}
    (htn : compTurn (.ListComp elt gens scope pos) depth (.ref I) (.ref D) cenv = lastTurn elt target ifs gens scope pos gpos depth (.ref I) (.ref D) cenv)
    (hDn : h₀.get? D = none) (hsz : zs.length + n ≤ 4096) (turn : TurnOk prog w A h₀ target I D cenv n St Bound) (done : DoneOk prog w A h₀ I D n St End)
    (frame : ∀ i h h', St i h → (∀ b o, b ≠ D → h.get? b = some o → h'.get? b = some o) → St i h')
    (bup : ∀ i h h', Bound i h → Ext h h' → Bound i h')
    (tests : ∀ i h, i < n → Ext h₀ h → Bound i h → Runs (model prog w) A h (testsOf ifs cenv) fun _ ok => ok = p i)
    (helt : ∀ i h, i < n → p i = true → Ext h₀ h → Bound i h → Runs (model prog w) A h (eval elt cenv) fun _ y => F i y)
    (hR : ∀ h' tk acc c ys, Ext h₀ h' → End h' → h'.get? D = some { cls := .type "list", data := .seq acc c } → acc.toList = zs ++ ys → Paired F ((List.range n).filter p) ys → R (.ok .next) { s₀ with heap := h', toks := tk }) :
    ∀ (k i : Nat) (h : Heap) (tk : Nat) (acc : Array Value) (c : Nat) (ys : List Value), n - i = k → i ≤ n → ys.length ≤ i → Ext h₀ h → St i h → h.get? D = some { cls := .type "list", data := .seq acc c } → acc.toList = zs ++ ys → Paired F ((List.range i).filter p) ys →
      codeAny (model prog w) A (.compLoop (.ListComp elt gens scope pos) depth (.ref I) (.ref D) cenv) R { s₀ with heap := h, toks := tk } := by
  intro k
  induction k with
  | zero =>
    intro i h tk acc c ys hk hi hy he hst hD hacc hF
    obtain rfl : i = n := by omega
    refine codeAny_of_tree ?_
    show wpAny _ A ((compTurn (.ListComp elt gens scope pos) depth (.ref I) (.ref D) cenv).onRaise (fun x => do noteFrame x cenv; theTreesLotGoes x)) _ _ _
    refine wpAny_noted ?_
    rw [htn]
    refine wpAny_bind (wpAny_standAt (wpAny_bind (done _ _ _ he hst fun h' tk' he' hend hk' => ?_)))
    exact wpAny_pure (hR h' tk' acc c ys he' hend (hk' _ hD) hacc hF)
  | succ k ih =>
    intro i h tk acc c ys hk hi hy he hst hD hacc hF
    have hlt : i < n := by omega
    refine codeAny_of_tree ?_
    show wpAny _ A ((compTurn (.ListComp elt gens scope pos) depth (.ref I) (.ref D) cenv).onRaise (fun x => do noteFrame x cenv; theTreesLotGoes x)) _ _ _
    refine wpAny_noted ?_
    rw [htn]
    refine wpAny_bind (wpAny_standAt (wpAny_bind (wpAny_mono (turn i _ _ (fun s₃ => wpAny (model prog w) A (turnRest elt ifs gens scope pos depth (.ref I) (.ref D) cenv)
      (fun fin s' => match fin with | .done f => R (.ok f) s' | .again c' => c'.quiet = true ∧ codeAny (model prog w) A c' R s') (notedBy (model prog w) A cenv fun e s' => R (.error e) s') s₃) hlt he hst ?_) (fun r s₁ hr => ?_) fun _ _ e => e)))
    rotate_left
    · obtain ⟨v, rfl, hr⟩ := hr
      exact wpAny_bind (wpAny_mono hr (fun _ s₂ h₂ => wpAny_bind (wpAny_mono h₂ (fun _ _ h₃ => h₃) fun _ _ e => e)) fun _ _ e => e)
    intro h₁ tk₁ e₁ st₁ b₁ k₁
    have hD₁ := k₁ _ hD
    refine wpAny_bind (m := testsOf ifs cenv) ((tests i h₁ hlt e₁ b₁).use (Ext.refl _) fun ok h₂ tk₂ e₂ hok => ?_)
    subst hok
    have st₂ := frame _ _ _ st₁ fun b o _ e => e₂ b o e
    have hal : acc.size = zs.length + ys.length := by rw [← Array.length_toList, hacc, List.length_append]
    cases hp : p i with
    | false =>
      refine wpAny_pure ⟨rfl, ih (i + 1) h₂ _ acc c ys (by omega) hlt (by omega) (e₁.trans e₂) st₂ (e₂ _ _ hD₁) hacc ?_⟩
      rw [List.range_succ, List.filter_append, List.filter_cons_of_neg (by rw [hp]; exact Bool.false_ne_true)]
      simpa using hF
    | true =>
      refine wpAny_bind (wpAny_bind ((helt i h₂ hlt hp (e₁.trans e₂) (bup _ _ _ b₁ e₂)).use (Ext.refl _) fun y h₃ tk₃ e₃ hy' => wpAny_bind ?_))
      have hD₃ := e₃ _ _ (e₂ _ _ hD₁)
      refine append_at (hsz := by rw [sizeLine_eq]; omega) hD₃ fun h₄ hs₄ hD₄ => ?_
      refine wpAny_pure (wpAny_pure ⟨rfl, ih (i + 1) h₄ _ _ _ (ys ++ [y]) (by omega) hlt (by simp; omega) (fun b o e => (hs₄.2 b fun q => by rw [q, hDn] at e; cases e).trans (e₃ _ _ ((e₁.trans e₂) _ _ e)))
        (frame _ _ _ (frame _ _ _ st₂ fun b o _ e => e₃ b o e) fun b o hb e => (hs₄.2 b hb).trans e) hD₄ (by rw [Array.toList_push, hacc, List.append_assoc]) ?_⟩)
      rw [List.range_succ, List.filter_append, List.filter_cons_of_pos hp]
      exact hF.snoc hy'
end
end Mine
end

section
open PySem PySem.W PyProof.Rows PySem.Calls
set_option Elab.async false
set_option maxRecDepth 100000
set_option maxHeartbeats 2000000
namespace Mine

section
variable {prog : Program} {w : World} {A : Around} {E : Value → Shared → Prop} {env : Env}

theorem block_pair {elt iter : Expr} {a b : Str} {pa pb tp : Pos} {kk : Nat} {ifs : List Expr} {scope : Scope} {cl : List (Str × Addr)} {pos : Pos} {s₂ : Shared} {I : Addr} {fp wr : List Addr} {n : Nat} {Pt : Nat → Array Value → Prop}
    {St : Nat → Heap → Prop} {Mid : Nat → Addr → Heap → Prop} {h₀ : Heap} (W : WalksT prog w A I fp wr n Pt St Mid) (hPt : ∀ i vals, Pt i vals → ∃ v₁ v₂, vals = #[v₁, v₂]) (p : Nat → Bool) (F : Nat → Value → Prop) {RR : Value → Addr → Result → Shared → Prop}
    (hh : A.handled = none) (hcell : ∀ y ∈ scope.names, y.2 ≠ .cell) (hkind : scope.kind = .function) (ha : scope.names.lookup a = some .local) (hb : scope.names.lookup b = some .local) (hab : a ≠ b) (hn : n ≤ 4096)
    (hst : St 0 s₂.heap) (hfp : ∀ b ∈ fp, b < s₂.heap.objs.size) (h0 : Ext h₀ s₂.heap) (hwr : ∀ b ∈ wr, h₀.get? b = none)
    (tests : ∀ C i h m v₁ v₂, i < n → Ext h₀ h → h.Ns C m → m a = some v₁ → m b = some v₂ → Pt i #[v₁, v₂] → Runs (model prog w) A h (testsOf ifs (compEnvC scope cl C env)) fun _ ok => ok = p i)
    (helt : ∀ C i h m v₁ v₂, i < n → p i = true → Ext h₀ h → h.Ns C m → m a = some v₁ → m b = some v₂ → Pt i #[v₁, v₂] → Runs (model prog w) A h (eval elt (compEnvC scope cl C env)) fun _ y => F i y)
    (hRR : ∀ D C h' tk m' ys c, s₂.heap.get? D = none → s₂.heap.get? C = none → D ≠ C → h'.Ns C m' → h'.get? D = some { cls := .type "list", data := .seq (List.toArray ys) c } → Paired F ((List.range n).filter p) ys → Ext h₀ h' → RR (.ref D) C (.ok .next) { s₂ with heap := h', toks := tk }) :
    wpAny (model prog w) A (newList []) (fun acc s₃ => wpAny (model prog w) A (newFunctionEnv scope env.globals cl [] env.qual none .none (some env)) (fun cenv s₄ =>
      codeAny (model prog w) A (.compStart (.ListComp elt [⟨.Tuple [.Name a pa, .Name b pb] kk tp, iter, ifs, 0⟩] scope pos) 0 (.ref I) acc { cenv with scope := relabel scope env }) (RR acc cenv.locals) s₄) E s₃) E s₂ := by
  refine wpAny_newObj_type (wpAny_newFunctionEnv hcell (by intro y hy; simp at hy) (fun h₁ hns₁ hsb₁ => ?_) hkind)
  dsimp only at hns₁ hsb₁ ⊢
  generalize hH2 : s₂.heap.push { cls := .type "list", dict := none, data := .seq ([] : List Value).toArray } = H2 at hns₁ hsb₁ ⊢
  have hC : H2.objs.size = s₂.heap.objs.size + 1 := by rw [← hH2, Heap.size_push]
  have hDC : s₂.heap.objs.size ≠ H2.objs.size := by rw [hC]; exact Nat.ne_of_lt (Nat.lt_succ_self _)
  have below : ∀ b, b < s₂.heap.objs.size → b ≠ H2.objs.size ∧ b ≠ s₂.heap.objs.size := fun b hb => ⟨by rw [hC]; exact Nat.ne_of_lt (Nat.lt_succ_of_lt hb), Nat.ne_of_lt hb⟩
  have hDf : s₂.heap.objs.size ∉ fp := fun hm => Nat.lt_irrefl _ (hfp _ hm)
  have hCf : H2.objs.size ∉ fp := fun hm => by have := hfp _ hm; rw [hC] at this; exact Nat.lt_irrefl _ (Nat.lt_of_succ_lt this)
  have old : ∀ b o, s₂.heap.get? b = some o → h₁.get? b = some o := fun b o e => hsb₁.extBut b o (below b (Heap.lt_size e)).1 (Heap.get?_push_of_some _ (hH2 ▸ Heap.get?_push_of_some _ e))
  have hacc : h₁.get? s₂.heap.objs.size = some { cls := .type "list", data := .seq #[] } := hsb₁.extBut _ _ hDC (Heap.get?_push_of_some _ (hH2 ▸ Heap.get?_push_size _ rfl))
  have hst₁ : St 0 h₁ := W.frame _ _ _ hst fun b _ o e => old b o e
  have fresh : ∀ a, s₂.heap.objs.size ≤ a → s₂.heap.get? a = none := fun a ha => Heap.get?_none_of_le ha
  have fresh₀ : ∀ a, s₂.heap.objs.size ≤ a → h₀.get? a = none := fun a ha => by
    cases e : h₀.get? a with
    | none => rfl
    | some o' => have := h0 a o' e; rw [fresh a ha] at this; cases this
  generalize hDe : s₂.heap.objs.size = D at *
  generalize hCe : H2.objs.size = C at *
  have hD₀ : h₀.get? D = none := fresh₀ _ (Nat.le_refl _)
  have hC₀ : h₀.get? C = none := fresh₀ _ (by rw [hC]; exact Nat.le_succ _)
  have hDw : D ∉ wr := fun h => hDf (W.sub _ h)
  have hCw : C ∉ wr := fun h => hCf (W.sub _ h)
  have loop : ∀ s₃ : Shared, s₃ = { s₂ with heap := h₁, toks := s₂.toks + ([] : List (Str × Value)).length } →
      codeAny (model prog w) A (.compLoop (.ListComp elt [⟨.Tuple [.Name a pa, .Name b pb] kk tp, iter, ifs, 0⟩] scope pos) 0 (.ref I) (.ref D) (compEnvC scope cl C env)) (RR (.ref D) C) s₃ := by
    rintro s₃ rfl
    refine loopA (target := .Tuple [.Name a pa, .Name b pb] kk tp) (ifs := ifs) (gpos := iter.pos) (zs := []) (h₀ := h₀) (St := fun i h => St i h ∧ ∃ m, h.Ns C m) (End := fun h => ∃ m, h.Ns C m)
      (Bound := fun i h => ∃ m v₁ v₂, h.Ns C m ∧ m a = some v₁ ∧ m b = some v₂ ∧ Pt i #[v₁, v₂]) p F (by rfl) hD₀ (by simpa using hn) ?turn ?done ?frame ?bup ?tests ?elt ?R n 0 h₁ _ #[] 0 [] rfl (Nat.zero_le _) (Nat.le_refl _) (fun b o e => old b o (h0 b o e)) ⟨hst₁, _, hns₁⟩ hacc rfl .nil
    case turn =>
      rintro i s E Q hi he ⟨hs, m, hm⟩ hQ
      refine W.item i s _ _ hi hs fun T vals h₂ tk₂ hP hT htup hmid hk₂ => ⟨_, rfl, ?_⟩
      refine W.go _ _ _ i T _ _ _ hmid fun h₃ hs₃ hk₃ => ?_
      obtain ⟨v₁, v₂, rfl⟩ := hPt i vals hP
      obtain ⟨oT, hoT, rT⟩ := htup
      refine assign_Tuple_tuple hh ⟨oT, hk₃ _ _ (W.apart i T h₂ hmid) hoT, rT⟩ rfl rfl fun h₄ hx => ?_
      have hx' : ∀ b o, h₃.get? b = some o → h₄.get? b = some o := fun b o e => hx b o (Nat.ne_of_lt (Heap.lt_size e)) e
      have k4 : ∀ b o, b ∉ wr → s.heap.get? b = some o → h₄.get? b = some o := fun b o hb e => hx' b o (hk₃ b o hb (hk₂ b o hb e))
      refine assignInOrder_cons (wpAny_assign_Name (wpAny_storeName_local (lookup_relabel_local ha) (hm.at' fun o e => k4 _ o hCw e) (fun h₅ hn₅ hs₅ => ?_) (by simp [compEnvC, relabel, hkind])))
      refine assignInOrder_cons (wpAny_assign_Name (wpAny_storeName_local (lookup_relabel_local hb) hn₅ (fun h₆ hn₆ hs₆ => ?_) (by simp [compEnvC, relabel, hkind])))
      refine assignInOrder_nil ?_
      have k6 : ∀ b o, b ≠ C → h₃.get? b = some o → h₆.get? b = some o := fun b o hb e => hs₆.extBut b o hb (hs₅.extBut b o hb (hx' b o e))
      have k7 : ∀ b o, b ∉ wr → b ≠ C → s.heap.get? b = some o → h₆.get? b = some o := fun b o hb hbC e => k6 b o hbC (hk₃ b o hb (hk₂ b o hb e))
      exact hQ h₆ _ (fun b o e => k7 b o (fun q => by rw [hwr b q] at e; cases e) (fun q => by rw [q, hC₀] at e; cases e) (he b o e))
        ⟨W.frame _ _ _ hs₃ fun b hb o e => k6 b o (fun q => hCf (q ▸ hb)) e, _, hn₆⟩ ⟨_, v₁, v₂, hn₆, by simp [hab], by simp, hP⟩ (fun o e => k7 D o hDw hDC e)
    case done =>
      rintro s E Q he ⟨hs, m, hm⟩ hQ
      refine W.done s _ _ hs fun h₂ tk₂ hk₂ => hQ h₂ tk₂ (fun b o e => hk₂ b o (fun q => by rw [hwr b q] at e; cases e) (he b o e)) ⟨m, hm.at' fun o e => hk₂ _ o hCw e⟩ fun o e => hk₂ D o hDw e
    case frame =>
      rintro i h h' ⟨hs, m, hm⟩ hk
      exact ⟨W.frame _ _ _ hs fun b hb o e => hk b o (fun q => hDf (q ▸ hb)) e, m, hm.at' fun o e => hk _ o (Ne.symm hDC) e⟩
    case bup => rintro i h h' ⟨m, v₁, v₂, hm, r⟩ e; exact ⟨m, v₁, v₂, hm.keeps e, r⟩
    case tests => rintro i h hi he ⟨m, v₁, v₂, hm, h1, h2, h3⟩; exact tests C i h m v₁ v₂ hi he hm h1 h2 h3
    case elt => rintro i h hi hp he ⟨m, v₁, v₂, hm, h1, h2, h3⟩; exact helt C i h m v₁ v₂ hi hp he hm h1 h2 h3
    case R =>
      rintro h' tk acc c ys he ⟨m, hm⟩ hD hacc' hF
      refine hRR D C h' tk m ys c (fresh _ (Nat.le_refl _)) (fresh _ (by rw [hC]; exact Nat.le_succ _)) hDC hm ?_ hF he
      rw [hD, ← Array.toArray_toList (xs := acc), hacc']
      rfl
  exact codeAny_compStart_list (loop _ rfl) (W.self 0 _ _ _ hst₁ (loop _ rfl))
end
end Mine
end

section
open PySem PySem.W PyProof.Rows PySem.Calls
set_option Elab.async false
set_option maxRecDepth 100000
set_option maxHeartbeats 2000000
namespace Mine

section
variable {prog : Program} {w : World} {A : Around} {E : Value → Shared → Prop} {env : Env} {M : Model} {s : Shared}
abbrev noneCell : Obj := { cls := .type "cell", data := .cell none }
theorem newEnv_c1 {scope : Scope} {globals : Addr} {cl : List (Str × Addr)} {qual : Str} {x a g : Str} {Q : Env → Shared → Prop} (hnm : scope.names = [(a, .local), (x, .cell), (g, .free)])
    (hQ : Q (newEnv scope s.heap.objs.size globals ((x, s.heap.objs.size + 1) :: cl) qual none .none (some env) builtinsNs) { s with heap := (s.heap.push { cls := .type "dict", data := .dict #[] }).push noneCell }) :
    wpAny M A (newFunctionEnv scope globals cl [] qual none .none (some env)) Q E s := by
  simp only [newFunctionEnv, Option.isSome_some, if_true, hnm]
  refine wpAny_bind (wpAny_alloc ?_)
  simp only [List.forIn_cons, List.forIn_nil]
  refine wpAny_bind (wpAny_bind (wpAny_pure (a := ForInStep.yield _) ?_))
  refine wpAny_bind (wpAny_bind ?_)
  refine wpAny_bind (wpAny_alloc ?_)
  refine wpAny_pure ?_
  refine wpAny_bind (wpAny_bind (wpAny_pure (a := ForInStep.yield _) (wpAny_pure ?_)))
  refine wpAny_pure ?_
  refine wpAny_bind (wpAny_pure ?_)
  refine wpAny_pure ?_
  refine wpAny_bind (wpAny_pure ?_)
  refine wpAny_pure ?_
  show Q (newEnv scope s.heap.objs.size globals ((x, (s.heap.push { cls := .type "dict", data := .dict #[] }).objs.size) :: cl) qual none .none (some env) builtinsNs) _
  rw [Heap.size_push]
  exact hQ
theorem strs_of_paired {g : Nat → Str} : ∀ {is : List Nat} {ys : List Value}, Paired (fun i y => ∃ t, y = .str (g i) t) is ys → StrsAre ys (is.map g)
  | _, _, .nil => .nil
  | _, _, .cons h r => by obtain ⟨t, rfl⟩ := h; exact .cons _ t (strs_of_paired r)
theorem range_getD {xs : List Str} {d : Str} : (List.range xs.length).map (fun i => xs.getD i d) = xs := by
  apply List.ext_getElem?
  intro i
  by_cases h : i < xs.length
  · simp [h]
  · simp [h]
theorem range_filter {xs : List Str} {d : Str} (p : Str → Bool) : ((List.range xs.length).filter fun i => p (xs.getD i d)).map (fun i => xs.getD i d) = xs.filter p := by
  conv => rhs; rw [← range_getD (xs := xs) (d := d), List.filter_map]
  rfl

/-- one name that an inner comprehension reads -/
theorem comp_cell {h : Heap} {elt iter : Expr} {x a g : Str} {px : Pos} {ifs : List Expr} {scope : Scope} {cl : List (Str × Addr)} {pos : Pos} {xs : List Str} (p : Str → Bool)
    (hh : A.handled = none) (hclos : closureFor scope env = pure cl) (hnm : scope.names = [(a, .local), (x, .cell), (g, .free)]) (hkind : scope.kind = .function)
    (hnames : ∀ y ∈ scope.names, y.2 = .local → scope.names.lookup y.1 = some .local) (hx : ∀ C cs, (compEnvC scope cs C env).kindOf x = some .cell) (hsz : xs.length ≤ 4096)
    (hi : Ev (model prog w) A h iter env (.tl xs))
    (ht : ∀ C c y t h₂, y ∈ xs → Ext h h₂ → h₂.IsCell c (some (.str y t)) → Runs (model prog w) A h₂ (testsOf ifs (compEnvC scope ((x, c) :: cl) C env)) fun _ ok => ok = p y)
    (he : ∀ C c y t h₂, y ∈ xs → p y = true → Ext h h₂ → h₂.IsCell c (some (.str y t)) → Ev (model prog w) A h₂ elt (compEnvC scope ((x, c) :: cl) C env) (.str y))
    (hs : ∀ x, foldedSetIterable iter env x = pure x := by intro _; rfl) :
    Runs (model prog w) A h (eval (.ListComp elt [⟨.Name x px, iter, ifs, 0⟩] scope pos) env) fun h' v => NewTL h h' v (xs.filter p) := by
  refine .intro fun s E Q hle hQ => ?_
  rw [eval_ListComp]
  refine wpAny_comprehension_free (use := none) rfl hs hclos hkind hnames ?_
  refine hi.use hle fun v h₁ tk₁ e₁ hv => ?_
  obtain ⟨l, rfl, vs, hl, hvs⟩ := hv
  refine wpAny_pyIter_list hl ?_
  have hlt : l < h₁.objs.size := by obtain ⟨_, e, _⟩ := hl; exact Heap.lt_size e
  have W := Walks.list (prog := prog) (w := w) hh h₁.objs.size l (Nat.ne_of_lt hlt) vs.toArray
  have hst₀ : (h₁.push { cls := .type "list_iterator", data := .fields #[.ref l, .int 0 0] }).IsListIter h₁.objs.size l 0 ∧ (h₁.push { cls := .type "list_iterator", data := .fields #[.ref l, .int 0 0] }).IsList l vs.toArray := ⟨⟨_, Heap.get?_push_size _ rfl, rfl, rfl⟩, hl.push _⟩
  have hk1 : Ext h₁ (h₁.push { cls := .type "list_iterator", data := .fields #[.ref l, .int 0 0] }) := (Ext.refl _).push _
  refine wpAny_newObj_type (newEnv_c1 hnm ?_)
  dsimp only
  have hs1 : (h₁.push { cls := .type "list_iterator", data := .fields #[.ref l, .int 0 0] }).objs.size = h₁.objs.size + 1 := Heap.size_push ..
  generalize h₁.push { cls := .type "list_iterator", data := .fields #[.ref l, .int 0 0] } = k₁ at hst₀ hs1 hk1 ⊢
  have hD1 : (k₁.push { cls := .type "list", data := .seq ([] : List Value).toArray }).get? k₁.objs.size = some { cls := .type "list", data := .seq #[] } := Heap.get?_push_size _ rfl
  have hk2 : Ext k₁ (k₁.push { cls := .type "list", data := .seq ([] : List Value).toArray }) := (Ext.refl _).push _
  have hs2 : (k₁.push { cls := .type "list", data := .seq ([] : List Value).toArray }).objs.size = k₁.objs.size + 1 := Heap.size_push ..
  generalize k₁.push { cls := .type "list", data := .seq ([] : List Value).toArray } = k₂ at hD1 hk2 hs2 ⊢
  have hC1 : (k₂.push { cls := .type "dict", data := .dict #[] }).Ns k₂.objs.size (fun _ => none) := Heap.Ns.new k₂ (.type "dict")
  have hk3 : Ext k₂ (k₂.push { cls := .type "dict", data := .dict #[] }) := (Ext.refl _).push _
  have hs3 : (k₂.push { cls := .type "dict", data := .dict #[] }).objs.size = k₂.objs.size + 1 := Heap.size_push ..
  generalize k₂.push { cls := .type "dict", data := .dict #[] } = k₃ at hC1 hk3 hs3 ⊢
  have hc1 : (k₃.push noneCell).IsCell (k₂.objs.size + 1) none := ⟨noneCell, by rw [← hs3]; exact Heap.get?_push_size _ rfl, rfl⟩
  have hk4 : Ext k₃ (k₃.push noneCell) := (Ext.refl _).push _
  generalize k₃.push noneCell = k₄ at hc1 hk4 ⊢
  have eI : ∃ I, I = h₁.objs.size := ⟨_, rfl⟩
  obtain ⟨I, hI⟩ := eI
  obtain ⟨D, hD⟩ : ∃ D, D = k₁.objs.size := ⟨_, rfl⟩
  obtain ⟨C, hC⟩ : ∃ C, C = k₂.objs.size := ⟨_, rfl⟩
  obtain ⟨c, hc⟩ : ∃ c, c = k₂.objs.size + 1 := ⟨_, rfl⟩
  rw [← hI] at W hst₀ ⊢
  rw [← hD] at hD1 ⊢
  rw [← hc] at hc1 ⊢
  rw [← hC] at hC1 ⊢
  have hDI : D ≠ I := by omega
  have hCI : C ≠ I := by omega
  have hcI : c ≠ I := by omega
  have hCD : C ≠ D := by omega
  have hcD : c ≠ D := by omega
  have hcC : c ≠ C := by omega
  have hlI : l ≠ I := Nat.ne_of_lt (Nat.lt_of_lt_of_le hlt (by omega))
  have hlD : l ≠ D := Nat.ne_of_lt (Nat.lt_of_lt_of_le hlt (by omega))
  have hlC : l ≠ C := Nat.ne_of_lt (Nat.lt_of_lt_of_le hlt (by omega))
  have hlc : l ≠ c := Nat.ne_of_lt (Nat.lt_of_lt_of_le hlt (by omega))
  have n0 : ∀ a, h₁.objs.size ≤ a → h₁.get? a = none := fun a ha => Heap.get?_none_of_le ha
  have nI : h₁.get? I = none := n0 _ (by omega)
  have nD : h₁.get? D = none := n0 _ (by omega)
  have nC : h₁.get? C = none := n0 _ (by omega)
  have nc : h₁.get? c = none := n0 _ (by omega)
  have e4 : Ext h₁ k₄ := ((hk1.trans hk2).trans hk3).trans hk4
  have it4 : k₄.IsListIter I l 0 := let ⟨o, ho, r⟩ := hst₀.1; ⟨o, hk4 _ _ (hk3 _ _ (hk2 _ _ ho)), r⟩
  have loop : ∀ s₃ : Shared, s₃ = { s with heap := k₄, toks := tk₁ } →
      codeAny (model prog w) A (.compLoop (.ListComp elt [⟨.Name x px, iter, ifs, 0⟩] scope pos) 0 (.ref I) (.ref D) (compEnvC scope ((x, c) :: cl) C env)) (compPost (model prog w) A E none Q (.ref D) C) s₃ := by
    rintro s₃ rfl
    have hxs : vs.toArray.size = xs.length := by rw [List.size_toArray, hvs.length]
    rw [hxs] at W
    refine loopA (target := .Name x px) (ifs := ifs) (gpos := iter.pos) (zs := []) (h₀ := h₁) (St := fun i k => (k.IsListIter I l i ∧ k.IsList l vs.toArray) ∧ (∃ ov, k.IsCell c ov) ∧ ∃ m, k.Ns C m) (End := fun k => ∃ m, k.Ns C m)
      (Bound := fun i k => ∃ t, k.IsCell c (some (.str (xs.getD i "") t))) (s₀ := { s with toks := tk₁ }) (fun i => p (xs.getD i "")) (fun i y => ∃ t, y = .str (xs.getD i "") t) (by rfl) nD (by simpa using hsz) ?turn ?done ?frame ?bup ?tests ?el ?R xs.length 0 k₄ _ #[] 0 [] rfl (Nat.zero_le _) (Nat.le_refl _) e4 ⟨⟨it4, islist_ext e4 hl⟩, ⟨_, hc1⟩, _, hC1.keeps hk4⟩ (hk4 _ _ (hk3 _ _ hD1)) rfl .nil
    case turn =>
      rintro i s' E' Q' hi he' ⟨hs', ⟨ov, hov⟩, m, hm⟩ hQ'
      refine W.item i s' _ _ hi hs' fun v k₅ tk₅ hP hs₅ hk₅ => ⟨_, rfl, ?_⟩
      obtain ⟨t, hv⟩ := strs_at (i := i) (y := xs.getD i "") hvs (by simp [hi])
      rw [List.getElem?_toArray, hv] at hP
      obtain rfl := Option.some.inj hP
      show wpAny _ A (pure ()) _ _ _
      refine wpAny_pure ?_
      have q5 : ∀ b o, b ≠ I → s'.heap.get? b = some o → k₅.get? b = some o := fun b o hb e => hk₅ b o (by simpa using hb) e
      refine wpAny_assign_Name (wpAny_storeName_cell (c := c) (v₀ := ov) (by simp [compEnvC, relabel, hkind]) (hx C _) (by simp [compEnvC]) (let ⟨o, ho, r⟩ := hov; ⟨o, q5 c o hcI ho, r⟩) fun k₆ hc₆ hs₆ => ?_)
      have q6 : ∀ b o, b ≠ c → k₅.get? b = some o → k₆.get? b = some o := fun b o hb e => (hs₆.2 b hb).trans e
      refine hQ' k₆ _ (fun b o e => q6 b o (fun q => by rw [q, nc] at e; cases e) (q5 b o (fun q => by rw [q, nI] at e; cases e) (he' b o e))) ⟨W.frame _ _ _ hs₅ fun b hb o e => q6 b o ?_ e, ⟨_, hc₆⟩, m, hm.at' fun o e => q6 _ o (Ne.symm hcC) (q5 _ o hCI e)⟩ ⟨t, hc₆⟩ (fun o e => q6 D o (Ne.symm hcD) (q5 D o hDI e))
      rcases List.mem_cons.mp hb with rfl | hb
      · exact Ne.symm hcI
      · rw [List.mem_singleton.mp hb]; exact hlc
    case done =>
      rintro s' E' Q' he' ⟨hs', _, m, hm⟩ hQ'
      refine W.done s' _ _ hs' fun k₅ tk₅ hk₅ => ?_
      have q5 : ∀ b o, b ≠ I → s'.heap.get? b = some o → k₅.get? b = some o := fun b o hb e => hk₅ b o (by simpa using hb) e
      exact hQ' k₅ tk₅ (fun b o e => q5 b o (fun q => by rw [q, nI] at e; cases e) (he' b o e)) ⟨m, hm.at' fun o e => q5 _ o hCI e⟩ fun o e => q5 D o hDI e
    case frame =>
      rintro i k k' ⟨hs', ⟨ov, o, ho, r⟩, m, hm⟩ hk
      refine ⟨W.frame _ _ _ hs' fun b hb o e => hk b o ?_ e, ⟨ov, o, hk c o hcD ho, r⟩, m, hm.at' fun o e => hk _ o hCD e⟩
      rcases List.mem_cons.mp hb with rfl | hb
      · exact Ne.symm hDI
      · rw [List.mem_singleton.mp hb]; exact hlD
    case bup => rintro i k k' ⟨t, hc⟩ e; exact ⟨t, hc.keeps e⟩
    case tests =>
      rintro i k hi he' ⟨t, hc⟩
      exact ht C c _ t k (by simp [hi]) ((hle.trans e₁).trans he') hc
    case el =>
      rintro i k hi hp he' ⟨t, hc⟩
      exact he C c _ t k (by simp [hi]) hp ((hle.trans e₁).trans he') hc
    case R =>
      rintro k' tk acc n ys he' ⟨m, hm⟩ hD' hacc' hF
      refine ⟨m, hm, fun k₅ hs₅ => ?_⟩
      have q5 : ∀ b o, b ≠ C → k'.get? b = some o → k₅.get? b = some o := fun b o hb e => (hs₅.2 b hb).trans e
      refine hQ _ k₅ tk (fun b o e => q5 b o (fun q => by have := e₁ _ _ e; rw [q, nC] at this; cases this) (he' b o (e₁ b o e))) ⟨D, rfl, ?_, ys, ⟨n, ?_⟩, ?_⟩
      · cases q : h.get? D with
        | none => rfl
        | some o => have := e₁ _ _ (hle _ _ q); rw [nD] at this; cases this
      · rw [q5 D _ (Ne.symm hCD) hD', ← Array.toArray_toList (xs := acc), hacc']
        rfl
      · have := strs_of_paired hF
        rwa [range_filter] at this
  exact codeAny_compStart_list (loop _ rfl) (W.self 0 _ _ _ ⟨it4, islist_ext e4 hl⟩ (loop _ rfl))
end
end Mine
end

section
open PySem PySem.W PyProof.Rows PySem.Calls
set_option Elab.async false
set_option maxRecDepth 100000
set_option maxHeartbeats 2000000
namespace Mine

def PairSrc (prog : Program) (w : World) (A : Around) (h : Heap) (iter : Expr) (env : Env) (n : Nat) (Pt : Nat → Array Value → Prop) : Prop :=
  ∀ (s : Shared) (E : Value → Shared → Prop) (Q : Value → Shared → Prop), Ext h s.heap →
    (∀ I fp wr St Mid h₂ tk, WalksT prog w A I fp wr n Pt St Mid → Ext s.heap h₂ → (∀ b ∈ wr, s.heap.get? b = none) → (∀ b ∈ fp, b < h₂.objs.size) → St 0 h₂ → Q (.ref I) { s with heap := h₂, toks := tk }) →
    wpAny (model prog w) A (eval iter env) (fun v s₁ => wpAny (model prog w) A (pyIter v) Q E s₁) E s
theorem ne_lt {a b : Nat} (h : a < b) : (a : Addr) ≠ (b : Addr) := Nat.ne_of_lt h
theorem ne_gt {a b : Nat} (h : b < a) : (a : Addr) ≠ (b : Addr) := Nat.ne_of_gt h
theorem walksT_weak {prog : Program} {w : World} {A : Around} {I : Addr} {fp wr : List Addr} {n : Nat} {Pt Pt' : Nat → Array Value → Prop} {St : Nat → Heap → Prop} {Mid : Nat → Addr → Heap → Prop}
    (W : WalksT prog w A I fp wr n Pt St Mid) (h : ∀ i vals, i < n → Pt i vals → Pt' i vals) : WalksT prog w A I fp wr n Pt' St Mid where
  sub := W.sub
  frame := W.frame
  item := fun i s Q E hi hs hQ => W.item i s Q E hi hs fun T vals h' tk hP => hQ T vals h' tk (h i vals hi hP)
  go := W.go
  apart := W.apart
  done := W.done
  self := W.self

section
variable {prog : Program} {w : World} {A : Around} {E : Value → Shared → Prop} {env : Env} {h : Heap}
theorem src_enum {func e : Expr} {pos : Pos} {xs : List Str} (hh : A.handled = none) (hf : Ev (model prog w) A h func env (.val (.type "enumerate"))) (he : Ev (model prog w) A h e env (.tl xs))
    (he1 : eval (.Call func [e] [] pos) env = (do callWith pos (← eval func env) [] (backTo pos (starEach [e] env)) (backToKw pos (keywordEach [] env))) := by rfl)
    (he2 : starEach [e] env = (false, eval e env) :: starEach [] env := by rfl) :
    PairSrc prog w A h (.Call func [e] [] pos) env xs.length (fun i vals => ∃ t y u, xs[i]? = some y ∧ vals = #[.int (i : Int) t, .str y u]) := by
  intro s E Q hle hQ
  refine Call_ (hf.use hle fun v h₁ tk₁ e₁ hv => ?_) he1
  obtain rfl : v = .type "enumerate" := hv
  refine PyProof.Rows.callWith_type1 ?_ he2 rfl
  refine args_cons ?_ he2
  refine he.use (hle.trans e₁) fun a h₂ tk₂ e₂ ha => args_nil ?_
  obtain ⟨l, rfl, vs, hl, hvs⟩ := ha
  have hlt : l < h₂.objs.size := by obtain ⟨_, e, _⟩ := hl; exact Heap.lt_size e
  refine call_enumerate_list hl fun h₃ hE hit hz hk => ?_
  have W := WalksT.enumerate (prog := prog) (w := w) (A := A) hh (h₂.objs.size + 1) h₂.objs.size l (ne_gt (Nat.lt_succ_self _)) (Nat.ne_of_lt (Nat.lt_succ_of_lt hlt)) (Nat.ne_of_lt hlt) vs.toArray
  have hsz : vs.toArray.size = xs.length := by rw [List.size_toArray, hvs.length]
  have hst : (∃ old, IsEnum h₃ (h₂.objs.size + 1) h₂.objs.size ((0 : Nat) : Int) old) ∧ h₃.IsListIter h₂.objs.size l 0 ∧ h₃.IsList l vs.toArray := ⟨⟨_, hE⟩, hit, islist_ext hk hl⟩
  refine W.self 0 _ _ _ hst ?_
  rw [hsz] at W
  refine hQ _ _ _ _ _ h₃ tk₂ (walksT_weak W (Pt' := fun i vals => ∃ t y u, xs[i]? = some y ∧ vals = #[.int (i : Int) t, .str y u]) ?_) ((e₁.trans e₂).trans hk) ?_ ?_ hst
  · rintro i vals hi ⟨t, x, hx, rfl⟩
    obtain ⟨y, hy⟩ : ∃ y, xs[i]? = some y := ⟨_, List.getElem?_eq_getElem hi⟩
    obtain ⟨u, hu⟩ := strs_at hvs hy
    rw [List.getElem?_toArray, hu] at hx
    obtain rfl := Option.some.inj hx
    exact ⟨t, y, u, hy, rfl⟩
  · intro b hb
    rcases List.mem_cons.mp hb with rfl | hb
    · exact none_size' (e₁.trans e₂) (Nat.le_succ _)
    · rw [List.mem_singleton.mp hb]; exact none_size' (e₁.trans e₂) (Nat.le_refl _)
  · intro b hb
    replace hz : h₃.objs.size = h₂.objs.size + 2 := hz
    rw [hz]
    rcases List.mem_cons.mp hb with rfl | hb
    · exact Nat.add_lt_add_left (by decide) _
    rcases List.mem_cons.mp hb with rfl | hb
    · exact Nat.lt_add_of_pos_right (by decide)
    · rw [List.mem_singleton.mp hb]; exact Nat.lt_of_lt_of_le hlt (Nat.le_add_right _ _)

theorem src_zip {func e e' : Expr} {pos : Pos} {xs : List Str} {bs : List Bool} (hh : A.handled = none) (hlen : xs.length = bs.length) (hf : Ev (model prog w) A h func env (.val (.type "zip"))) (he : Ev (model prog w) A h e env (.tl xs)) (he' : Ev (model prog w) A h e' env (.bl bs))
    (he1 : eval (.Call func [e, e'] [] pos) env = (do callWith pos (← eval func env) [] (backTo pos (starEach [e, e'] env)) (backToKw pos (keywordEach [] env))) := by rfl)
    (he2 : starEach [e, e'] env = (false, eval e env) :: starEach [e'] env := by rfl) (he3 : starEach [e'] env = (false, eval e' env) :: starEach [] env := by rfl) :
    PairSrc prog w A h (.Call func [e, e'] [] pos) env xs.length (fun i vals => ∃ y u, xs[i]? = some y ∧ vals = #[.str y u, .bool (bs.getD i false)]) := by
  intro s E Q hle hQ
  refine Call_ (hf.use hle fun v h₁ tk₁ e₁ hv => ?_) he1
  obtain rfl : v = .type "zip" := hv
  refine PyProof.Rows.callWith_type1 ?_ he2 (by rw [he3]; rfl)
  refine args_cons ?_ he2
  refine he.use (hle.trans e₁) fun a h₂ tk₂ e₂ ha => args_cons ?_ he3
  refine he'.use ((hle.trans e₁).trans e₂) fun a' h₃ tk₃ e₃ ha' => args_nil ?_
  obtain ⟨l, rfl, vs, hl, hvs⟩ := ha
  obtain ⟨l', rfl, hl'⟩ := ha'
  have hl3 := islist_ext e₃ hl
  have hlt : l < h₃.objs.size := by obtain ⟨_, e, _⟩ := hl3; exact Heap.lt_size e
  have hlt' : l' < h₃.objs.size := by obtain ⟨_, e, _⟩ := hl'; exact Heap.lt_size e
  refine call_zip_2 hl3 hl' fun h₄ hZ hTI hTO hi1 hi2 hz hk => ?_
  have lt : ∀ {a b : Nat}, a < b → a ≠ b := fun h => Nat.ne_of_lt h
  have ap : ZipApart (h₃.objs.size + 4) (h₃.objs.size + 2) (h₃.objs.size + 3) h₃.objs.size (h₃.objs.size + 1) l l' := by
    have q : ∀ k, l ≠ h₃.objs.size + k := fun k => Nat.ne_of_lt (Nat.lt_of_lt_of_le hlt (Nat.le_add_right _ _))
    have q' : ∀ k, l' ≠ h₃.objs.size + k := fun k => Nat.ne_of_lt (Nat.lt_of_lt_of_le hlt' (Nat.le_add_right _ _))
    constructor <;> first | exact ne_lt (by omega) | exact ne_gt (by omega) | exact q _ | exact q' _ | exact q 0 | exact q' 0 | exact Ne.symm (q _) | exact Ne.symm (q' _) | exact Ne.symm (q 0) | exact Ne.symm (q' 0)
  have W := WalksT.zip2 (prog := prog) (w := w) (A := A) hh _ _ _ _ _ _ _ ap vs.toArray (bs.map Value.bool).toArray
  have hsz : min vs.toArray.size (bs.map Value.bool).toArray.size = xs.length := by rw [List.size_toArray, List.size_toArray, hvs.length, List.length_map, hlen, Nat.min_self]
  have hst : IsZip h₄ (h₃.objs.size + 4) (h₃.objs.size + 2) (h₃.objs.size + 3) .none ∧ IsPair h₄ (h₃.objs.size + 2) (.ref h₃.objs.size) (.ref (h₃.objs.size + 1)) ∧ (∃ a b, IsPair h₄ (h₃.objs.size + 3) a b) ∧ h₄.IsListIter h₃.objs.size l 0 ∧ h₄.IsListIter (h₃.objs.size + 1) l' 0 ∧ h₄.IsList l vs.toArray ∧ h₄.IsList l' (bs.map Value.bool).toArray :=
    ⟨hZ, hTI, ⟨_, _, hTO⟩, hi1, hi2, islist_ext hk hl3, islist_ext hk hl'⟩
  refine W.self 0 _ _ _ hst ?_
  rw [hsz] at W
  have e3 := (e₁.trans e₂).trans e₃
  refine hQ _ _ _ _ _ h₄ tk₃ (walksT_weak W (Pt' := fun i vals => ∃ y u, xs[i]? = some y ∧ vals = #[.str y u, .bool (bs.getD i false)]) ?_) (e3.trans hk) ?_ ?_ hst
  · rintro i vals hi ⟨x, z, hx, hz', rfl⟩
    obtain ⟨y, hy⟩ : ∃ y, xs[i]? = some y := ⟨_, List.getElem?_eq_getElem hi⟩
    obtain ⟨u, hu⟩ := strs_at hvs hy
    rw [List.getElem?_toArray, hu] at hx
    obtain rfl := Option.some.inj hx
    have hib : i < bs.length := hlen ▸ hi
    rw [List.getElem?_toArray, List.getElem?_map, List.getElem?_eq_getElem hib] at hz'
    obtain rfl := Option.some.inj hz'
    exact ⟨y, u, hy, by simp [hib]⟩
  · intro b hb
    simp only [List.mem_cons, List.not_mem_nil, or_false] at hb
    rcases hb with rfl | rfl | rfl | rfl <;> exact none_size' e3 (by omega)
  · intro b hb
    replace hz : h₄.objs.size = h₃.objs.size + 5 := hz
    rw [hz]
    simp only [List.mem_cons, List.not_mem_nil, or_false] at hb
    rcases hb with rfl | rfl | rfl | rfl | rfl | rfl | rfl <;> first | exact Nat.add_lt_add_left (by decide) _ | exact Nat.lt_add_of_pos_right (by decide) | exact Nat.lt_of_lt_of_le hlt (Nat.le_add_right _ _) | exact Nat.lt_of_lt_of_le hlt' (Nat.le_add_right _ _)
end
end Mine
end

section
open PySem PySem.W PyProof.Rows PySem.Calls
set_option Elab.async false
set_option maxRecDepth 100000
set_option maxHeartbeats 2000000
namespace Mine
structure PairOk (scope : Scope) (env : Env) (cl : List (Str × Addr)) (a b : Str) : Prop where
  clos : closureFor scope env = pure cl
  cell : ∀ y ∈ scope.names, y.2 ≠ .cell
  kind : scope.kind = .function
  names : ∀ y ∈ scope.names, y.2 = .local → scope.names.lookup y.1 = some .local
  ha : scope.names.lookup a = some .local
  hb : scope.names.lookup b = some .local
  ne : a ≠ b

section
variable {prog : Program} {w : World} {A : Around} {E : Value → Shared → Prop} {env : Env} {h : Heap}
theorem hide_all_ext {h : Heap} {wr : List Addr} : Ext (hideAll h wr) h := fun _ _ e => of_hideAll _ e

theorem comp_pair {elt iter : Expr} {a b : Str} {pa pb tp : Pos} {kk : Nat} {ifs : List Expr} {scope : Scope} {cl : List (Str × Addr)} {pos : Pos} {n : Nat} {Pt : Nat → Array Value → Prop} (p : Nat → Bool) (g : Nat → Str)
    (hh : A.handled = none) (ck : PairOk scope env cl a b) (hn : n ≤ 4096) (hPt : ∀ i vals, Pt i vals → ∃ v₁ v₂, vals = #[v₁, v₂])
    (hi : PairSrc prog w A h iter env n Pt)
    (tests : ∀ C i h' m v₁ v₂, i < n → Ext h h' → h'.Ns C m → m a = some v₁ → m b = some v₂ → Pt i #[v₁, v₂] → Runs (model prog w) A h' (testsOf ifs (compEnvC scope cl C env)) fun _ ok => ok = p i)
    (helt : ∀ C i h' m v₁ v₂, i < n → p i = true → Ext h h' → h'.Ns C m → m a = some v₁ → m b = some v₂ → Pt i #[v₁, v₂] → Ev (model prog w) A h' elt (compEnvC scope cl C env) (.str (g i)))
    (hs : ∀ x, foldedSetIterable iter env x = pure x := by intro _; rfl) :
    Runs (model prog w) A h (eval (.ListComp elt [⟨.Tuple [.Name a pa, .Name b pb] kk tp, iter, ifs, 0⟩] scope pos) env) fun h' v => NewTL h h' v (((List.range n).filter p).map g) := by
  refine .intro fun s E Q hle hQ => ?_
  rw [eval_ListComp]
  refine wpAny_comprehension_free (use := none) rfl hs ck.clos ck.kind ck.names ?_
  refine hi s _ _ hle fun I fp wr St Mid h₂ tk W e₂ hwr hfp hst => ?_
  refine block_pair (RR := fun acc C => compPost (model prog w) A E none Q acc C) (h₀ := s.heap) W hPt p (fun i y => ∃ t, y = .str (g i) t) hh ck.cell ck.kind ck.ha ck.hb ck.ne hn hst hfp e₂ hwr
    (fun C i h' m v₁ v₂ hi he hm h1 h2 h3 => tests C i h' m v₁ v₂ hi (hle.trans he) hm h1 h2 h3) (fun C i h' m v₁ v₂ hi hp he hm h1 h2 h3 => helt C i h' m v₁ v₂ hi hp (hle.trans he) hm h1 h2 h3) ?_
  intro D C h' tk' m' ys c hD hC hDC hnC hlD hF hk
  refine ⟨m', hnC, fun h'' hs'' => ?_⟩
  refine hQ _ h'' tk' (fun b o e => (hs''.2 b (by rintro rfl; have := e₂ _ _ e; rw [hC] at this; cases this)).trans (hk b o e)) ⟨D, rfl, ?_, ys, ⟨c, (hs''.2 D hDC).trans hlD⟩, strs_of_paired hF⟩
  cases q : h.get? D with
  | none => rfl
  | some o => have := e₂ _ _ (hle _ _ q); rw [hD] at this; cases this

theorem asg_pair {elt iter : Expr} {a b y : Str} {pa pb tp py : Pos} {kk : Nat} {ifs : List Expr} {scope : Scope} {cl : List (Str × Addr)} {pos spos : Pos} {n : Nat} {Pt : Nat → Array Value → Prop} {m : Str → Option Value} {s : Shared} {Q : Flow → Shared → Prop} (p : Nat → Bool) (g : Nat → Str)
    (hsw : swapsWith (.ListComp elt [⟨.Tuple [.Name a pa, .Name b pb] kk tp, iter, ifs, 0⟩] scope pos) (some (.Name y py)) spos.line env = pure true)
    (hh : A.handled = none) (ck : PairOk scope env cl a b) (hn : n ≤ 4096) (hPt : ∀ i vals, Pt i vals → ∃ v₁ v₂, vals = #[v₁, v₂])
    (hy : env.kindOf y = some .local) (hp : (env.scope.kind == .class || (env.scope.kind == .module && env.locals != env.globals)) = false) (hns : s.heap.Ns env.locals m)
    (hi : PairSrc prog w A s.heap iter env n Pt)
    (tests : ∀ C i h' m v₁ v₂, i < n → Ext s.heap h' → h'.Ns C m → m a = some v₁ → m b = some v₂ → Pt i #[v₁, v₂] → Runs (model prog w) A h' (testsOf ifs (compEnvC scope cl C env)) fun _ ok => ok = p i)
    (helt : ∀ C i h' m v₁ v₂, i < n → p i = true → Ext s.heap h' → h'.Ns C m → m a = some v₁ → m b = some v₂ → Pt i #[v₁, v₂] → Ev (model prog w) A h' elt (compEnvC scope cl C env) (.str (g i)))
    (hQ : ∀ (D : Addr) (h' : Heap) (tk : Nat), s.heap.get? D = none → PL h' D (((List.range n).filter p).map g) → h'.Ns env.locals (fun z => if z = y then some (.ref D) else m z) → (∀ b o, b ≠ env.locals → s.heap.get? b = some o → h'.get? b = some o) → Q .next { s with heap := h', toks := tk })
    (hs : ∀ x, foldedSetIterable iter env x = pure x := by intro _; rfl) :
    wpAny (model prog w) A (exec (.Assign [.Name y py] (.ListComp elt [⟨.Tuple [.Name a pa, .Name b pb] kk tp, iter, ifs, 0⟩] scope pos) spos) env) Q E s := by
  rw [exec_Assign_Name_used _ _ _ _ hsw]
  refine wpAny_bind (wpAny_standAt (wpAny_bind ?_))
  show wpAny _ A (do let _ ← comprehension (.ListComp elt [⟨.Tuple [.Name a pa, .Name b pb] kk tp, iter, ifs, 0⟩] scope pos) scope env _ (newList []) false (eval iter env) (some (assign (.Name y py) env))) _ _ s
  refine wpAny_bind (wpAny_mono (wpAny_comprehension_free (use := some (assign (.Name y py) env)) (Q := fun _ s' => Q .next s') rfl hs ck.clos ck.kind ck.names
    (hi s _ _ (Ext.refl _) fun I fp wr St Mid h₂ tk W e₂ hwr hfp hst => ?_)) (fun _ s' hq => wpAny_pure (wpAny_pure hq)) fun _ _ e => e)
  refine block_pair (RR := fun acc C => compPost (model prog w) A E (some (assign (.Name y py) env)) (fun _ s' => Q .next s') acc C) (h₀ := s.heap) W hPt p (fun i y => ∃ t, y = .str (g i) t) hh ck.cell ck.kind ck.ha ck.hb ck.ne hn hst hfp e₂ hwr tests helt ?_
  intro D C h' tk' m' ys c hD hC hDC hnC hlD hF hk
  have nb : ∀ {b o}, s.heap.get? b = some o → b ≠ C := fun e q => by have := e₂ _ _ e; rw [q, hC] at this; cases this
  have nd : ∀ {b o}, s.heap.get? b = some o → b ≠ D := fun e q => by have := e₂ _ _ e; rw [q, hD] at this; cases this
  have hLC : env.locals ≠ C := by obtain ⟨o, _, _, ho, _⟩ := hns; exact nb ho
  have hLD : env.locals ≠ D := by obtain ⟨o, _, _, ho, _⟩ := hns; exact nd ho
  show wpAny _ A (assign (.Name y py) env (.ref D)) _ _ _
  refine wpAny_assign_Name (wpAny_storeName_local hy (hns.keeps hk) (fun h₂ hn₂ hs₂ => ?_) hp)
  refine ⟨m', hnC.sameBut hs₂ (Ne.symm hLC), fun h₃ hs₃ => ?_⟩
  refine hQ D h₃ _ ?_ ⟨ys, ⟨c, (hs₃.2 D hDC).trans ((hs₂.2 D (Ne.symm hLD)).trans hlD)⟩, strs_of_paired hF⟩ (hn₂.sameBut hs₃ hLC) fun b o hb e => (hs₃.2 b (nb e)).trans ((hs₂.2 b hb).trans (hk b o e))
  cases q : s.heap.get? D with
  | none => rfl
  | some o => exact absurd rfl (nd q)
end
end Mine
end

section
open PySem PySem.W PyProof.Rows PySem.Calls
set_option Elab.async false
set_option maxRecDepth 100000
set_option maxHeartbeats 2000000
namespace Mine
section
variable {prog : Program} {w : World} {A : Around} {E : Value → Shared → Prop} {env : Env} {h : Heap}
theorem turn_name {h₀ : Heap} {x : Str} {px : Pos} {I D C : Addr} {cenv : Env} {fp wr : List Addr} {n : Nat} {P : Nat → Value → Prop} {St : Nat → Heap → Prop} (W : Walks prog w A I fp wr n P St)
    (hC : cenv.locals = C) (hk : cenv.kindOf x = some .local) (hp : (cenv.scope.kind == .class || (cenv.scope.kind == .module && cenv.locals != cenv.globals)) = false)
    (hCf : C ∉ fp) (hDw : D ∉ wr) (hDC : D ≠ C) (hwr : ∀ b ∈ wr, h₀.get? b = none) (hC₀ : h₀.get? C = none) :
    TurnOk prog w A h₀ (.Name x px) I D cenv n (fun i h => St i h ∧ ∃ m, h.Ns C m) (fun i h => ∃ m v, h.Ns C m ∧ P i v ∧ m x = some v) := by
  subst hC
  rintro i s E Q hi he ⟨hs, m, hm⟩ hQ
  have hCw : cenv.locals ∉ wr := fun h => hCf (W.sub _ h)
  refine W.item i s _ _ hi hs fun v h₂ tk₂ hP hs₂ hk₂ => ⟨_, rfl, ?_⟩
  show wpAny _ A (pure ()) _ _ _
  refine wpAny_pure ?_
  refine wpAny_assign_Name (wpAny_storeName_local hk (hm.at' fun o e => hk₂ _ o hCw e) (fun h₃ hn₃ hs₃ => ?_) hp)
  have q3 : ∀ b o, b ≠ cenv.locals → h₂.get? b = some o → h₃.get? b = some o := fun b o hb e => (hs₃.2 b hb).trans e
  exact hQ h₃ _ (fun b o e => q3 b o (fun q => by rw [q, hC₀] at e; cases e) (hk₂ b o (fun q => by rw [hwr b q] at e; cases e) (he b o e)))
    ⟨W.frame _ _ _ hs₂ fun b hb o e => q3 b o (fun q => hCf (q ▸ hb)) e, _, hn₃⟩ ⟨_, v, hn₃, hP, by simp⟩ fun o e => q3 D o hDC (hk₂ D o hDw e)

theorem codeAny_compStart_1 {R : Result → Shared → Prop} {s : Shared} {elt target iter : Expr} {ifs : List Expr} {g₀ : Comprehension} {scope : Scope} {pos : Pos} {it acc : Value}
    (h0 : codeAny (model prog w) A (.compLoop (.ListComp elt [g₀, ⟨target, iter, ifs, 0⟩] scope pos) 1 it acc env) R s)
    (h : wpAny (model prog w) A (pyIter it) (fun it' s' => codeAny (model prog w) A (.compLoop (.ListComp elt [g₀, ⟨target, iter, ifs, 0⟩] scope pos) 1 it' acc env) R s')
      (notedBy (model prog w) A env fun x s' => R (.error x) s') s) :
    codeAny (model prog w) A (.compStart (.ListComp elt [g₀, ⟨target, iter, ifs, 0⟩] scope pos) 1 it acc env) R s := by
  refine codeAny_of_tree ?_
  show wpAny _ _ ((compStart (.ListComp elt [g₀, ⟨target, iter, ifs, 0⟩] scope pos) 1 it acc env).onRaise (fun x => do noteFrame x env; standAt theWindowsPlace)) _ _ s
  refine wpAny_notedAt ?_
  unfold compStart
  show wpAny _ _ (ask >>= _) _ _ s
  refine wpAny_bind (wpAny_askSetting (wpAny_ite ?_))
  split
  · first
      | exact wpAny_bind (wpAny_pure (wpAny_pure (And.intro rfl h0)))
      | exact wpAny_pure (And.intro rfl h0)
  · first
      | exact wpAny_bind (wpAny_rule (wpAny_bind (wpAny_standAt (wpAny_bind (wpAny_mono h (fun it' s' h' => wpAny_pure (And.intro rfl h')) fun _ _ x => x)))))
      | (refine wpAny_bind (wpAny_rule ?_); show wpAny _ _ (standAt iter.pos >>= _) _ _ s; exact wpAny_bind (wpAny_standAt (wpAny_bind (wpAny_mono h (fun it' s' h' => wpAny_pure (And.intro rfl h')) fun _ _ x => x))))

theorem tls_at : ∀ {vs : List Value} {xss : List (List Str)} {i : Nat} {xs : List Str}, TLs h vs xss → xss[i]? = some xs → ∃ a, vs[i]? = some (.ref a) ∧ TL h a xs
  | _, _, 0, _, .cons x r, e => by cases e; exact ⟨_, rfl, x⟩
  | _, _, i + 1, _, .cons x r, e => tls_at (i := i) r e
theorem tls_len : ∀ {vs : List Value} {xss : List (List Str)}, TLs h vs xss → vs.length = xss.length
  | _, _, .nil => rfl
  | _, _, .cons _ r => by simp [tls_len r]

abbrev flatE (r x : Str) (pe pr px pr2 : Pos) (iter : Expr) (scope : Scope) (pos : Pos) : Expr := .ListComp (.Name x pe) [⟨.Name r pr, iter, [], 0⟩, ⟨.Name x px, .Name r pr2, [], 0⟩] scope pos

abbrev flatRest (r x : Str) (pe pr px pr2 : Pos) (iter : Expr) (scope : Scope) (pos : Pos) (it acc : Value) (env : Env) : Sem Fin := do
  let y ← eval (.Name r pr2) env
  standAt (Expr.Name r pr2).pos
  let y ← foldedSetIterable (.Name r pr2) env y
  let _ ← runOwn (.compStart (flatE r x pe pr px pr2 iter scope pos) 1 (← holding [y] (pyIter y)) acc env) env
  again (.compLoop (flatE r x pe pr px pr2 iter scope pos) 0 it acc env)
theorem flat_turn (r x : Str) (pe pr px pr2 : Pos) (iter : Expr) (scope : Scope) (pos : Pos) (it acc : Value) (env : Env) : compTurn (flatE r x pe pr px pr2 iter scope pos) 0 it acc env = (do
    standAt iter.pos
    match ← pyNext it with
    | none => pure (.done .next)
    | some v =>
      letOwnedTupleGo (.Name r pr) it v
      assign (.Name r pr) env v
      flatRest r x pe pr px pr2 iter scope pos it acc env) := by rfl

theorem flat_loop {h₁ : Heap} {r x : Str} {pe pr px pr2 : Pos} {iter : Expr} {scope : Scope} {pos : Pos} {l I D C : Addr} {cenv : Env} {vs : List Value} {xss : List (List Str)} {R : Result → Shared → Prop} {s₀ : Shared} (hh : A.handled = none)
    (hC : cenv.locals = C) (hkf : cenv.scope.kind = .function) (hkr : cenv.kindOf r = some .local) (hkx : cenv.kindOf x = some .local) (hdr : (r == ("__debug__" : Str)) = false) (hdx : (x == ("__debug__" : Str)) = false)
    (hl : h₁.IsList l vs.toArray) (hvs : TLs h₁ vs xss) (hlen : xss.flatten.length ≤ 4096) (hlI : l ≠ I) (nI : h₁.get? I = none) (nD : h₁.get? D = none) (nC : h₁.get? C = none) (hDI : D ≠ I) (hCI : C ≠ I) (hCD : C ≠ D)
    (hs : ∀ v, foldedSetIterable (.Name r pr2) cenv v = pure v)
    (hR : ∀ h' tk acc c, Ext h₁ h' → (∃ m, h'.Ns C m) → h'.get? D = some { cls := .type "list", data := .seq acc c } → StrsAre acc.toList xss.flatten → R (.ok .next) { s₀ with heap := h', toks := tk }) :
    ∀ (k i : Nat) (h : Heap) (tk : Nat) (acc : Array Value) (c : Nat), xss.length - i = k → i ≤ xss.length → Ext h₁ h → h.IsListIter I l i → (∃ m, h.Ns C m) → h.get? D = some { cls := .type "list", data := .seq acc c } → StrsAre acc.toList (xss.take i).flatten →
      codeAny (model prog w) A (.compLoop (flatE r x pe pr px pr2 iter scope pos) 0 (.ref I) (.ref D) cenv) R { s₀ with heap := h, toks := tk } := by
  have W := Walks.list (prog := prog) (w := w) hh I l hlI vs.toArray
  have hsz : vs.toArray.size = xss.length := by rw [List.size_toArray, tls_len hvs]
  rw [hsz] at W
  have hp : (cenv.scope.kind == .class || (cenv.scope.kind == .module && cenv.locals != cenv.globals)) = false := by rw [hkf]; rfl
  have hlC : l ≠ C := fun q => by obtain ⟨o, ho, _⟩ := hl; rw [q, nC] at ho; cases ho
  have T := turn_name (px := pr) (D := D) (C := C) (h₀ := h₁) W hC hkr hp (fun hm => by
    rcases List.mem_cons.mp hm with q | hm
    · exact hCI q
    · exact hlC (List.mem_singleton.mp hm).symm) (by simpa using hDI) (Ne.symm hCD) (fun b hb => by rw [List.mem_singleton.mp hb]; exact nI) nC
  intro k
  induction k with
  | zero =>
    intro i h tk acc c hk hi he hit hm hD hacc
    obtain rfl : i = xss.length := by omega
    refine codeAny_of_tree ?_
    show wpAny _ A ((compTurn (flatE r x pe pr px pr2 iter scope pos) 0 (.ref I) (.ref D) cenv).onRaise (fun x => do noteFrame x cenv; theTreesLotGoes x)) _ _ _
    refine wpAny_noted ?_
    refine wpAny_bind (wpAny_standAt (wpAny_bind (W.done _ _ _ ⟨hit, islist_ext he hl⟩ fun h' tk' hk' => ?_)))
    have q : ∀ b o, b ≠ I → h.get? b = some o → h'.get? b = some o := fun b o hb e => hk' b o (by simpa using hb) e
    obtain ⟨m, hm⟩ := hm
    refine wpAny_pure (hR h' tk' acc c (fun b o e => q b o (fun z => by rw [z, nI] at e; cases e) (he b o e)) ⟨m, hm.at' fun o e => q _ o hCI e⟩ (q D _ hDI hD) (by rwa [List.take_length] at hacc))
  | succ k ih =>
    intro i h tk acc c hk hi he hit hm hD hacc
    have hlt : i < xss.length := by omega
    refine codeAny_of_tree ?_
    show wpAny _ A ((compTurn (flatE r x pe pr px pr2 iter scope pos) 0 (.ref I) (.ref D) cenv).onRaise (fun x => do noteFrame x cenv; theTreesLotGoes x)) _ _ _
    refine wpAny_noted ?_
    rw [flat_turn]
    refine wpAny_bind (wpAny_standAt (wpAny_bind (wpAny_mono (T i _ _ (fun s₃ => wpAny (model prog w) A (flatRest r x pe pr px pr2 iter scope pos (.ref I) (.ref D) cenv)
      (fun fin s' => match fin with | .done f => R (.ok f) s' | .again c' => c'.quiet = true ∧ codeAny (model prog w) A c' R s') (notedBy (model prog w) A cenv fun e s' => R (.error e) s') s₃) hlt he ⟨⟨hit, islist_ext he hl⟩, hm⟩ ?_) (fun z s₁ hz => ?_) fun _ _ e => e)))
    rotate_left
    · obtain ⟨v, rfl, hr⟩ := hz
      exact wpAny_bind (wpAny_mono hr (fun _ s₂ h₂ => wpAny_bind (wpAny_mono h₂ (fun _ _ h₃ => h₃) fun _ _ e => e)) fun _ _ e => e)
    rintro h₂ tk₂ e₂ ⟨⟨hit₂, hl₂⟩, -⟩ ⟨m₂, v, hm₂, hv, hmr⟩ hDk
    have hD₂ := hDk _ hD
    obtain ⟨row, hrow⟩ : ∃ row, xss[i]? = some row := ⟨_, List.getElem?_eq_getElem hlt⟩
    obtain ⟨a, ha, hta⟩ := tls_at hvs hrow
    rw [List.getElem?_toArray, ha] at hv
    obtain rfl := Option.some.inj hv
    refine wpAny_bind (wpAny_Name (wpAny_loadName_local hkf hkr (hC ▸ hm₂) hmr ?_) hdr)
    refine wpAny_bind (wpAny_standAt (wpAny_bind (wpAny_of_eq (hs _) ?_)))
    obtain ⟨ws, hw, hws⟩ := hta.ext e₂
    refine wpAny_bind (wpAny_holding (wpAny_pyIter_list hw ?_))
    have hk3 : Ext h₂ (h₂.push { cls := .type "list_iterator", data := .fields #[.ref a, .int 0 0] }) := (Ext.refl _).push _
    have hJ : (h₂.push { cls := .type "list_iterator", data := .fields #[.ref a, .int 0 0] }).IsListIter h₂.objs.size a 0 := ⟨_, Heap.get?_push_size _ rfl, rfl, rfl⟩
    have nJ : h₂.get? h₂.objs.size = none := Heap.get?_none_of_le (Nat.le_refl _)
    dsimp only
    generalize h₂.push { cls := .type "list_iterator", data := .fields #[.ref a, .int 0 0] } = h₃ at hk3 hJ ⊢
    generalize h₂.objs.size = J at hJ nJ ⊢
    have ne2 : ∀ {b o}, h₂.get? b = some o → b ≠ J := fun e q => by rw [q, nJ] at e; cases e
    have haJ : a ≠ J := let ⟨_, ho, _⟩ := hw; ne2 ho
    have hDJ : D ≠ J := ne2 hD₂
    have hCJ : C ≠ J := let ⟨_, _, _, ho, _⟩ := hm₂; ne2 ho
    have hIJ : I ≠ J := let ⟨_, ho, _⟩ := hit₂; ne2 ho
    have hCa : C ≠ a := fun q => by obtain ⟨_, ho, _⟩ := hta; obtain ⟨o, ho, _⟩ := ho; rw [← q, nC] at ho; cases ho
    have hDa : D ≠ a := fun q => by obtain ⟨_, ho, _⟩ := hta; obtain ⟨o, ho, _⟩ := ho; rw [← q, nD] at ho; cases ho
    have hp3 := hk3 _ _ hD₂
    have hal : acc.toList.length = (xss.take i).flatten.length := hacc.length
    have hsplit : xss.take (i + 1) = xss.take i ++ [row] := by rw [List.take_add_one, hrow]; rfl
    have hlen' : acc.toList.length + row.length ≤ 4096 := by
      have h1 : xss.flatten.length = (xss.take (i + 1)).flatten.length + (xss.drop (i + 1)).flatten.length := by rw [← List.length_append, ← List.flatten_append, List.take_append_drop]
      rw [hsplit, List.flatten_append, List.length_append] at h1
      have h2 : [row].flatten = row := by simp
      rw [h2] at h1
      omega
    have W₂ := Walks.list (prog := prog) (w := w) hh J a haJ ws.toArray
    have hsz₂ : ws.toArray.size = row.length := by rw [List.size_toArray, hws.length]
    rw [hsz₂] at W₂
    have hB : Ext (hideAll h₃ [D, C, J]) h₃ := hide_all_ext
    have bD : (hideAll h₃ [D, C, J]).get? D = none := hideAll_none _ (by simp)
    have bC : (hideAll h₃ [D, C, J]).get? C = none := hideAll_none _ (by simp)
    have bJ : (hideAll h₃ [D, C, J]).get? J = none := hideAll_none _ (by simp)
    have bk : ∀ b o, b ≠ D → b ≠ C → b ≠ J → h₂.get? b = some o → (hideAll h₃ [D, C, J]).get? b = some o := fun b o q1 q2 q3 e => hideAll_get _ (hk3 _ _ e) (by simp [q1, q2, q3])
    refine wpAny_bind (wpAny_runOwn (h := none) ?_)
    show codeAny (model prog w) A _ _ _
    have T₂ := turn_name (px := px) (D := D) (C := C) (h₀ := hideAll h₃ [D, C, J]) W₂ hC hkx hp (fun hm => by
      rcases List.mem_cons.mp hm with q | hm
      · exact hCJ q
      · exact hCa (List.mem_singleton.mp hm)) (by simpa using hDJ) (Ne.symm hCD) (fun b hb => by rw [List.mem_singleton.mp hb]; exact bJ) bC
    have stJ : h₃.IsListIter J a 0 ∧ h₃.IsList a ws.toArray := ⟨hJ, islist_ext hk3 hw⟩
    have loop : ∀ R', (∀ h' tk' acc' c', Ext (hideAll h₃ [D, C, J]) h' → (∃ m, h'.Ns C m) → h'.get? D = some { cls := .type "list", data := .seq acc' c' } → StrsAre acc'.toList ((xss.take (i + 1)).flatten) → R' (.ok .next) { s₀ with heap := h', toks := tk' }) →
        codeAny (model prog w) A (.compLoop (flatE r x pe pr px pr2 iter scope pos) 1 (.ref J) (.ref D) cenv) R' { s₀ with heap := h₃, toks := tk₂ } := by
      intro R' hR'
      refine loopA (target := .Name x px) (ifs := []) (gpos := (Expr.Name r pr2).pos) (zs := acc.toList) (St := fun i h => (h.IsListIter J a i ∧ h.IsList a ws.toArray) ∧ ∃ m, h.Ns C m) (End := fun h => ∃ m, h.Ns C m)
        (fun _ => true) (fun j y => ∃ t, y = .str (row.getD j "") t) (by rfl) bD hlen' T₂ ?dn ?fr ?bp ?ts ?el ?rr row.length 0 h₃ tk₂ acc c [] rfl (Nat.zero_le _) (Nat.le_refl _) hB ⟨stJ, _, hm₂.keeps hk3⟩ hp3 (by simp) .nil
      case dn =>
        rintro s' E' Q' he' ⟨hs', m, hm⟩ hQ'
        refine W₂.done s' _ _ hs' fun k₅ tk₅ hk₅ => ?_
        have q5 : ∀ b o, b ≠ J → s'.heap.get? b = some o → k₅.get? b = some o := fun b o hb e => hk₅ b o (by simpa using hb) e
        exact hQ' k₅ tk₅ (fun b o e => q5 b o (fun q => by rw [q, bJ] at e; cases e) (he' b o e)) ⟨m, hm.at' fun o e => q5 _ o hCJ e⟩ fun o e => q5 D o hDJ e
      case fr =>
        rintro j k' k'' ⟨hs', m, hm⟩ hk'
        refine ⟨W₂.frame _ _ _ hs' fun b hb o e => hk' b o ?_ e, m, hm.at' fun o e => hk' _ o hCD e⟩
        rcases List.mem_cons.mp hb with rfl | hb
        · exact Ne.symm hDJ
        · rw [List.mem_singleton.mp hb]; exact Ne.symm hDa
      case bp => rintro j k' k'' ⟨m, v, hm, r⟩ e; exact ⟨m, v, hm.keeps e, r⟩
      case ts => exact fun _ _ _ _ _ => tests_none
      case el =>
        rintro j k' hj _ he' ⟨m, v, hm, hv, hmx⟩
        obtain ⟨t, hvt⟩ := strs_at (i := j) (y := row.getD j "") hws (by simp [hj])
        rw [List.getElem?_toArray, hvt] at hv
        obtain rfl := Option.some.inj hv
        exact (ev_local (d := .str (row.getD j "")) hkf hkx (hC ▸ hm) hmx ⟨t, rfl⟩ hdx)
      case rr =>
        intro h' tk' acc' c' ys he' hm' hD' hacc' hF
        refine hR' h' tk' acc' c' he' hm' hD' ?_
        have := strs_of_paired hF
        rw [show (List.range row.length).filter (fun _ => true) = List.range row.length from List.filter_eq_self.mpr fun _ _ => rfl, range_getD] at this
        rw [hacc', hsplit, List.flatten_append]
        have h2 : [row].flatten = row := by simp
        rw [h2]
        exact StrsAre.append' hacc this
    have fin : ∀ h' tk' acc' c', Ext (hideAll h₃ [D, C, J]) h' → (∃ m, h'.Ns C m) → h'.get? D = some { cls := .type "list", data := .seq acc' c' } → StrsAre acc'.toList ((xss.take (i + 1)).flatten) →
        wpAny (model prog w) A (again (.compLoop (flatE r x pe pr px pr2 iter scope pos) 0 (.ref I) (.ref D) cenv)) (fun fin s' => match fin with | .done f => R (.ok f) s' | .again c' => c'.quiet = true ∧ codeAny (model prog w) A c' R s') (notedBy (model prog w) A cenv fun e s' => R (.error e) s') { s₀ with heap := h', toks := tk' } := by
      intro h' tk' acc' c' he' hm' hD' hacc'
      have old : ∀ b o, h₁.get? b = some o → h'.get? b = some o := fun b o e => he' b o (bk b o (fun q => by rw [q, nD] at e; cases e) (fun q => by rw [q, nC] at e; cases e) (ne2 (e₂ _ _ e)) (e₂ _ _ e))
      exact wpAny_pure ⟨rfl, ih (i + 1) h' tk' acc' c' (by omega) hlt old (let ⟨o, ho, r⟩ := hit₂; ⟨o, he' _ _ (bk I o (Ne.symm hDI) (Ne.symm hCI) hIJ ho), r⟩) hm' hD' hacc'⟩
    exact codeAny_compStart_1 (loop _ fin) (W₂.self 0 _ _ _ stJ (loop _ fin))

theorem comp_flat {h : Heap} {r x : Str} {pe pr px pr2 : Pos} {iter : Expr} {scope : Scope} {pos : Pos} {cl : List (Str × Addr)} {xss : List (List Str)} (hh : A.handled = none) (ck : PairOk scope env cl r x) (hdr : (r == ("__debug__" : Str)) = false) (hdx : (x == ("__debug__" : Str)) = false)
    (hlen : xss.flatten.length ≤ 4096) (hi : Ev (model prog w) A h iter env (.ll xss)) (hs : ∀ x, foldedSetIterable iter env x = pure x := by intro _; rfl) (hs2 : ∀ C v, foldedSetIterable (.Name r pr2) (compEnvC scope cl C env) v = pure v := by intro _ _; rfl) :
    Runs (model prog w) A h (eval (flatE r x pe pr px pr2 iter scope pos) env) fun h' v => NewTL h h' v xss.flatten := by
  refine .intro fun s E Q hle hQ => ?_
  rw [eval_ListComp]
  refine wpAny_comprehension_free (use := none) rfl hs ck.clos ck.kind ck.names ?_
  refine hi.use hle fun v h₁ tk₁ e₁ hv => ?_
  obtain ⟨l, rfl, vs, hl, hvs⟩ := hv
  refine wpAny_pyIter_list hl ?_
  have hlt : l < h₁.objs.size := by obtain ⟨_, e, _⟩ := hl; exact Heap.lt_size e
  have hk1 : Ext h₁ (h₁.push { cls := .type "list_iterator", data := .fields #[.ref l, .int 0 0] }) := (Ext.refl _).push _
  have hit1 : (h₁.push { cls := .type "list_iterator", data := .fields #[.ref l, .int 0 0] }).IsListIter h₁.objs.size l 0 := ⟨_, Heap.get?_push_size _ rfl, rfl, rfl⟩
  refine wpAny_newObj_type (wpAny_newFunctionEnv ck.cell (by intro y hy; simp at hy) (fun h₄ hns₄ hsb₄ => ?_) ck.kind)
  dsimp only at hns₄ hsb₄ ⊢
  have hs1 : (h₁.push { cls := .type "list_iterator", data := .fields #[.ref l, .int 0 0] }).objs.size = h₁.objs.size + 1 := Heap.size_push ..
  generalize h₁.push { cls := .type "list_iterator", data := .fields #[.ref l, .int 0 0] } = k₁ at hit1 hs1 hk1 hns₄ hsb₄ ⊢
  have hD1 : (k₁.push { cls := .type "list", data := .seq ([] : List Value).toArray }).get? k₁.objs.size = some { cls := .type "list", data := .seq #[] } := Heap.get?_push_size _ rfl
  have hk2 : Ext k₁ (k₁.push { cls := .type "list", data := .seq ([] : List Value).toArray }) := (Ext.refl _).push _
  have hs2' : (k₁.push { cls := .type "list", data := .seq ([] : List Value).toArray }).objs.size = k₁.objs.size + 1 := Heap.size_push ..
  generalize k₁.push { cls := .type "list", data := .seq ([] : List Value).toArray } = k₂ at hD1 hk2 hs2' hns₄ hsb₄ ⊢
  have hk3 : Ext k₂ h₄ := fun b o e => hsb₄.extBut b o (Nat.ne_of_lt (Heap.lt_size e)) (Heap.get?_push_of_some _ e)
  obtain ⟨I, hI⟩ : ∃ I, I = h₁.objs.size := ⟨_, rfl⟩
  obtain ⟨D, hD⟩ : ∃ D, D = k₁.objs.size := ⟨_, rfl⟩
  obtain ⟨C, hC⟩ : ∃ C, C = k₂.objs.size := ⟨_, rfl⟩
  rw [← hI] at hit1 ⊢
  rw [← hD] at hD1 ⊢
  rw [← hC] at hns₄ ⊢
  have n0 : ∀ a, h₁.objs.size ≤ a → h₁.get? a = none := fun a ha => Heap.get?_none_of_le ha
  have nC : h₁.get? C = none := n0 _ (by omega)
  have nD : h₁.get? D = none := n0 _ (by omega)
  have e4 : Ext h₁ h₄ := (hk1.trans hk2).trans hk3
  have hCD : C ≠ D := by omega
  have hDI : D ≠ I := by omega
  have hCI : C ≠ I := by omega
  have loop : ∀ s₃ : Shared, s₃ = { s with heap := h₄, toks := tk₁ + ([] : List (Str × Value)).length } →
      codeAny (model prog w) A (.compLoop (flatE r x pe pr px pr2 iter scope pos) 0 (.ref I) (.ref D) (compEnvC scope cl C env)) (compPost (model prog w) A E none Q (.ref D) C) s₃ := by
    rintro s₃ rfl
    refine flat_loop (cenv := compEnvC scope cl C env) (s₀ := s) (h₁ := h₁) hh rfl (by simp [compEnvC, relabel, ck.kind]) (lookup_relabel_local ck.ha) (lookup_relabel_local ck.hb) hdr hdx hl hvs hlen (Nat.ne_of_lt (Nat.lt_of_lt_of_le hlt (by omega))) (n0 _ (by omega)) nD nC hDI hCI hCD (hs2 C) ?_ xss.length 0 h₄ _ #[] 0 rfl (Nat.zero_le _) e4
      (let ⟨o, ho, r⟩ := hit1; ⟨o, hk3 _ _ (hk2 _ _ ho), r⟩) ⟨_, hns₄⟩ (hk3 _ _ hD1) .nil
    rintro k' tk acc n he' ⟨m, hm⟩ hD' hacc'
    refine ⟨m, hm, fun k₅ hs₅ => ?_⟩
    have q5 : ∀ b o, b ≠ C → k'.get? b = some o → k₅.get? b = some o := fun b o hb e => (hs₅.2 b hb).trans e
    refine hQ _ k₅ tk (fun b o e => q5 b o (fun q => by have := e₁ _ _ e; rw [q, nC] at this; cases this) (he' b o (e₁ b o e))) ⟨D, rfl, ?_, acc.toList, ⟨n, ?_⟩, hacc'⟩
    · cases q : h.get? D with
      | none => rfl
      | some o => have := e₁ _ _ (hle _ _ q); rw [nD] at this; cases this
    · rw [q5 D _ (Ne.symm hCD) hD']
  refine codeAny_compStart_list (loop _ rfl) (wpAny_pyIter_listiter (l := l) (i := 0) (let ⟨o, ho, r⟩ := hit1; ⟨o, hk3 _ _ (hk2 _ _ ho), r⟩) (loop _ rfl))
end
end Mine
end

section
open PySem PySem.W PyProof.Rows PySem.Calls
set_option Elab.async false
set_option maxRecDepth 100000
set_option maxHeartbeats 2000000
namespace Mine
abbrev lawE (L fa : Addr) (cd : Value) : Env := envOfC (fnName (stAt 15)) (fnScope (stAt 15)) L fa cd
abbrev lawCs (L : Addr) : List (Str × Addr) := cellsFrom (L + 1) (fnScope (stAt 15)).names []
def lawSt (n : Nat) : Stmt := (fnBody (stAt 15)).getD n (.Pass ⟨0, 0, 0, 0⟩)

/-- the law's state: what is frozen (G), what is not (Mu), the frame, the cells -/
structure Lw (L : Addr) (Mu : List Addr) (b G h : Heap) (m cv : Str → Option Value) : Prop where
  gh : Ext G h
  bG : Ext b G
  mu : ∀ a ∈ Mu, G.get? a = none
  ex : ∀ a ∈ Mu, ∃ o, h.get? a = some o
  ns : h.Ns L m
  cl : Cl L (lawCs L) h cv
  Lm : L ∈ Mu
  cm : ∀ n c, (lawCs L).lookup n = some c → c ∈ Mu
namespace Lw
variable {L : Addr} {Mu : List Addr} {b G h h' : Heap} {m cv : Str → Option Value}
theorem base (X : Lw L Mu b G h m cv) : Ext b h := X.bG.trans X.gh
theorem up (X : Lw L Mu b G h m cv) (e : Ext h h') : Lw L Mu b G h' m cv :=
  ⟨X.gh.trans e, X.bG, X.mu, fun a ha => let ⟨o, ho⟩ := X.ex a ha; ⟨o, e _ _ ho⟩, X.ns.keeps e, X.cl.keeps e, X.Lm, X.cm⟩
theorem gne (X : Lw L Mu b G h m cv) {a c : Addr} {o : Obj} (hc : c ∈ Mu) (e : G.get? a = some o) : a ≠ c := fun q => by rw [q, X.mu c hc] at e; cases e
theorem filt (X : Lw L Mu b G h m cv) (x : ExtF [L] (fun _ => False) h h') : Lw L Mu b G h' m cv := by
  have kk : ∀ a o, a ≠ L → h.get? a = some o → h'.get? a = some o := fun a o hn e => x.keep a o id (by simpa using hn) e
  refine ⟨fun a o e => kk a o (X.gne X.Lm e) (X.gh a o e), X.bG, X.mu, fun a ha => ?_, ?_, ⟨fun n c e => ?_, X.cl.apart, X.cl.above⟩, X.Lm, X.cm⟩
  · obtain ⟨o, ho⟩ := X.ex a ha
    by_cases q : a = L
    · subst q
      obtain ⟨sl, h1⟩ := x.slots a o (by simp) id ho
      exact ⟨_, h1⟩
    · exact ⟨o, kk a o q ho⟩
  · obtain ⟨o, es, ep, ho, hd, r⟩ := X.ns
    obtain ⟨sl, h1⟩ := x.slots L o (by simp) id ho
    exact ⟨_, es, ep, h1, hd, r⟩
  · obtain ⟨o, ho, hd⟩ := X.cl.cell n c e
    exact ⟨o, kk c o (Nat.ne_of_gt (X.cl.above n c (mem_of_lookup e))) ho, hd⟩
theorem setL {m' : Str → Option Value} (X : Lw L Mu b G h m cv) (hn : h'.Ns L m') (hk : ∀ a o, a ≠ L → h.get? a = some o → h'.get? a = some o) : Lw L Mu b G h' m' cv := by
  refine ⟨fun a o e => hk a o (X.gne X.Lm e) (X.gh a o e), X.bG, X.mu, fun a ha => ?_, hn, ⟨fun n c e => ?_, X.cl.apart, X.cl.above⟩, X.Lm, X.cm⟩
  · by_cases q : a = L
    · subst q; obtain ⟨o, _, _, ho, _⟩ := hn; exact ⟨o, ho⟩
    · obtain ⟨o, ho⟩ := X.ex a ha; exact ⟨o, hk a o q ho⟩
  · obtain ⟨o, ho, hd⟩ := X.cl.cell n c e
    exact ⟨o, hk c o (Nat.ne_of_gt (X.cl.above n c (mem_of_lookup e))) ho, hd⟩
theorem setC {x : Str} {c : Addr} {v : Value} (X : Lw L Mu b G h m cv) (hc : (lawCs L).lookup x = some c) (hv : h'.IsCell c (some v)) (hs : Heap.SameBut c h h') : Lw L Mu b G h' m (fun y => if y = x then some v else cv y) := by
  have hLc : L < c := X.cl.above x c (mem_of_lookup hc)
  have kk : ∀ a o, a ≠ c → h.get? a = some o → h'.get? a = some o := fun a o hn e => (hs.2 a hn).trans e
  refine ⟨fun a o e => kk a o (X.gne (X.cm x c hc) e) (X.gh a o e), X.bG, X.mu, fun a ha => ?_, X.ns.sameBut hs (Nat.ne_of_lt hLc), ⟨fun n c' e => ?_, X.cl.apart, X.cl.above⟩, X.Lm, X.cm⟩
  · by_cases q : a = c
    · subst q; obtain ⟨o, ho, _⟩ := hv; exact ⟨o, ho⟩
    · obtain ⟨o, ho⟩ := X.ex a ha; exact ⟨o, kk a o q ho⟩
  · by_cases hn : n = x
    · subst hn; rw [hc] at e; cases e; simpa using hv
    · have hcc : c' ≠ c := fun q => hn (name_of_addr X.cl.apart (mem_of_lookup e) (q ▸ mem_of_lookup hc))
      simpa [hn] using (X.cl.cell n c' e).sameBut hs hcc
/-- one of the three growing lists -/
theorem but {a : Addr} {o : Obj} (X : Lw L Mu b G h m cv) (ha : a ∈ Mu) (hL : a ≠ L) (hC : ∀ n c, (lawCs L).lookup n = some c → a ≠ c) (ho : h'.get? a = some o) (hs : Heap.SameBut a h h') : Lw L Mu b G h' m cv := by
  have kk : ∀ i o, i ≠ a → h.get? i = some o → h'.get? i = some o := fun i o hn e => (hs.2 i hn).trans e
  refine ⟨fun i o e => kk i o (X.gne ha e) (X.gh i o e), X.bG, X.mu, fun i hi => ?_, X.ns.sameBut hs (Ne.symm hL), ⟨fun n c e => (X.cl.cell n c e).sameBut hs (Ne.symm (hC n c e)), X.cl.apart, X.cl.above⟩, X.Lm, X.cm⟩
  by_cases q : i = a
  · subst q; exact ⟨o, ho⟩
  · obtain ⟨o', ho'⟩ := X.ex i hi; exact ⟨o', kk i o' q ho'⟩
theorem grow (X : Lw L Mu b G h m cv) : Lw L Mu b (hideAll h Mu) h m cv :=
  ⟨hide_all_ext, X.bG.trans fun a o e => hideAll_get _ (X.gh a o e) fun hm => X.gne hm e rfl, fun _ ha => hideAll_none _ ha, X.ex, X.ns, X.cl, X.Lm, X.cm⟩
theorem into (X : Lw L Mu b G h m cv) : Ext G (hideAll h Mu) := fun a o e => hideAll_get _ (X.gh a o e) fun hm => X.gne hm e rfl
theorem more {a : Addr} {o : Obj} (X : Lw L Mu b G h m cv) (hn : G.get? a = none) (ho : h.get? a = some o) : Lw L (a :: Mu) b G h m cv :=
  ⟨X.gh, X.bG, fun i hi => by rcases List.mem_cons.mp hi with rfl | hi; exact hn; exact X.mu i hi, fun i hi => by rcases List.mem_cons.mp hi with rfl | hi; exact ⟨o, ho⟩; exact X.ex i hi, X.ns, X.cl, List.mem_cons_of_mem _ X.Lm, fun n c e => List.mem_cons_of_mem _ (X.cm n c e)⟩
/-- what was not there is frozen from now on -/
theorem fresh {h₀ : Heap} {a : Addr} {o : Obj} (X : Lw L Mu b G h₀ m cv) (hn : h₀.get? a = none) (ho : h.get? a = some o) : (hideAll h Mu).get? a = some o :=
  hideAll_get _ ho fun hm => by obtain ⟨o', ho'⟩ := X.ex a hm; rw [hn] at ho'; cases ho'
end Lw
theorem PL.fresh {L a : Addr} {Mu : List Addr} {b G h₀ h : Heap} {m cv : Str → Option Value} {xs : List Str} (X : Lw L Mu b G h₀ m cv) (hn : h₀.get? a = none) (p : PL h a xs) : Is (hideAll h Mu) (.ref a) (.pl xs) :=
  let ⟨vs, ⟨n, hp⟩, hv⟩ := p; ⟨a, rfl, vs, ⟨n, X.fresh hn hp⟩, hv⟩

structure LA (A : Around) (env : Env) : Prop where
  hh : A.handled = none
  fr : A.frames = some [env]
  room : A.depth + 20 < recursionLimit
  units : A.units + 100 < cLine

section
variable {prog : Program} {w : World} {A : Around} {L fa : Addr} {cd : Value} {Mu : List Addr} {b G h : Heap} {m cv : Str → Option Value}
theorem Lw.lv {x : Str} {pos : Pos} {v : Value} {d : D} (X : Lw L Mu b G h m cv) (hl : (lawE L fa cd).kindOf x = some .local) (hv : m x = some v) (hd : Is G v d) (hb : (x == ("__debug__" : Str)) = false := by decide) : Ev (model prog w) A h (.Name x pos) (lawE L fa cd) d :=
  ev_local rfl hl X.ns hv (hd.ext X.gh) hb
theorem Lw.cvE {x : Str} {c : Addr} {pos : Pos} {v : Value} {d : D} (X : Lw L Mu b G h m cv) (hl : (lawE L fa cd).kindOf x = some .cell) (hc : (lawCs L).lookup x = some c) (hv : cv x = some v) (hd : Is G v d) (hb : (x == ("__debug__" : Str)) = false := by decide) : Ev (model prog w) A h (.Name x pos) (lawE L fa cd) d :=
  ev_cell rfl hl hc (hv ▸ X.cl.cell x c hc) (hd.ext X.gh) hb
theorem is_pl_tl {h : Heap} {v : Value} {xs : List Str} (x : Is h v (.pl xs)) : Is h v (.tl xs) := let ⟨a, e, p⟩ := x; ⟨a, e, p.tl⟩
theorem lawStk {env : Env} (hf : env.frame = some L) (hk : env.scope.kind = .function) (X : Lw L Mu b G h m cv) : Stk h [env] := by
  intro e he
  rw [List.mem_singleton.mp he]
  obtain ⟨o, es, ep, ho, hd, _⟩ := X.ns
  exact ⟨(by rw [hk]; intro q; cases q), L, o, hf, ho, (fun vs q => by rw [hd] at q; cases q)⟩
end
end Mine
end

section
open PySem PySem.W PyProof.Rows PySem.Calls
set_option Elab.async false
set_option maxRecDepth 100000
set_option maxHeartbeats 2000000
namespace Mine
theorem ints_mem : ∀ {vs : List Value} {xs : List Int} {v : Value}, IntsAre vs xs → v ∈ vs → ∃ x t, x ∈ xs ∧ v = .int x t
  | _, _, _, .cons y t r, hm => by
    rcases List.mem_cons.mp hm with rfl | hm
    · exact ⟨y, t, List.mem_cons_self, rfl⟩
    · obtain ⟨x, u, hx, e⟩ := ints_mem r hm; exact ⟨x, u, List.mem_cons_of_mem _ hx, e⟩
theorem ints_paired {f : Int → Str} : ∀ {vs : List Value} {xs : List Int} {ys : List Value}, IntsAre vs xs → Paired (fun v y => ∀ x t, v = .int x t → ∃ u, y = .str (f x) u) vs ys → StrsAre ys (xs.map f)
  | _, _, _, .nil, h => by cases h; exact .nil
  | _, _, _, .cons x t r, h => by cases h with | cons hy ht => obtain ⟨u, rfl⟩ := hy x t rfl; exact .cons _ _ (ints_paired r ht)
theorem ints_len : ∀ {vs : List Value} {xs : List Int}, IntsAre vs xs → vs.length = xs.length
  | _, _, .nil => rfl
  | _, _, .cons _ _ r => by simp [ints_len r]

def fixedE : List (Int × Pos) := [(0, ⟨74, 49, 74, 50⟩), (1, ⟨74, 52, 74, 53⟩), (29, ⟨74, 55, 74, 57⟩), (7, ⟨74, 59, 74, 60⟩), (58, ⟨74, 62, 74, 64⟩), (12, ⟨74, 66, 74, 68⟩), (76, ⟨74, 70, 74, 72⟩), (18, ⟨74, 74, 74, 76⟩), (9, ⟨74, 78, 74, 79⟩), (6, ⟨74, 81, 74, 82⟩), (29, ⟨74, 84, 74, 86⟩), (0, ⟨74, 88, 74, 89⟩), (7, ⟨74, 91, 74, 92⟩)]
def fixedX : List Int := fixedE.map (·.1)
def intE (x : Int × Pos) : Expr := .Constant (.int x.1) 0 x.2
theorem evl_ints {prog : Program} {w : World} {A : Around} {h : Heap} {env : Env} : ∀ l : List (Int × Pos), EvL (model prog w) A h env (l.map intE) ((l.map (·.1)).map D.int)
  | [] => .nil
  | _ :: r => .cons ev_const_int rfl (evl_ints r)

theorem fl : fixedX.length ≤ 4096 := by decide
theorem ev_fixed0 {prog : Program} {w : World} {A : Around} {h : Heap} {env : Env} : EvL (model prog w) A h env (fixedE.map intE) (fixedX.map D.int) := evl_ints fixedE
theorem ev_listg {prog : Program} {w : World} {A : Around} {h : Heap} {env : Env} {pos : Pos} {es : List Expr} {xs : List Int} (hes : EvL (model prog w) A h env es (xs.map D.int)) (hz : xs.length ≤ 4096) : Ev (model prog w) A h (.List es pos) env (.il xs) := ev_list_ints hes hz
theorem ev_fixed {prog : Program} {w : World} {A : Around} {h : Heap} {env : Env} {pos : Pos} {es : List Expr} {xs : List Int} (he : es = fixedE.map intE) (hx : xs = fixedX) : Ev (model prog w) A h (.List es pos) env (.il xs) := ev_listg (by rw [he, hx]; exact ev_fixed0) (by rw [hx]; exact fl)
section
variable {prog : Program} {w : World} {A : Around} {E : Value → Shared → Prop} {Q : Flow → Shared → Prop} {L fa : Addr} {cd : Value} {Mu : List Addr} {b G : Heap} {m cv : Str → Option Value} {s : Shared}
/-- names = [...] -/
theorem law_s0 {script fx : List Int} {sv : Value} (hfx : fx = fixedX) (hfl : fx.length = 13) (B : Bs w b) (K : LA A (lawE L fa cd)) (X : Lw L Mu b G s.heap m cv) (hm : m "script" = some sv) (hsv : Is G sv (.il script)) (hlen : script.length ≤ 63)
    (hQ : ∀ h' tk an, Lw L Mu b (hideAll h' Mu) h' m (fun y => if y = Str.ofString "names" then some (.ref an) else cv y) → Is (hideAll h' Mu) (.ref an) (.pl ((script.take 6 ++ fx).map lawNameF)) → Q .next { s with heap := h', toks := tk }) :
    wpAny (model prog w) A (exec (lawSt 0) (lawE L fa cd)) Q E s := by
  have room : A.depth < recursionLimit := Nat.lt_of_le_of_lt (Nat.le_add_right _ _) K.room
  refine wpAny_Assign_Name ?_ rfl
  refine (comp_list (h := s.heap) (cl := []) (fun vs => IntsAre vs (script.take 6 ++ fx)) (fun _ => true) (fun v y => ∀ x t, v = .int x t → ∃ u, y = .str (lawNameF x) u) K.hh rfl (by decide +kernel) rfl (by decide +kernel) rfl ?_ ?_ ?_ (by intro _; rfl)).use (Ext.refl _) fun v h₁ tk₁ e₁ hv => ?_
  · refine (ev_binop (d₁ := .il (script.take 6)) (d₂ := .il fx) (d := .il (script.take 6 ++ fx)) ?_ ?_ fun _ _ _ _ ha hb => r_addi ha hb ?_).conseq fun h' v _ hv => ?_
    · exact ev_slice_ints (X.lv rfl hm hsv) ev_const_int (by decide) (by rw [sizeLine_eq]; omega) (fun _ _ => rfl)
    · refine ev_fixed ?_ ?_
      · unfold fixedE intE; rfl
      · exact hfx
    · rw [sizeLine_eq, List.length_take, hfl]; omega
    obtain ⟨a, vs, rfl, hl, hi⟩ := hv
    exact ⟨a, vs, rfl, hl, hi, by rw [ints_len hi, sizeLine_eq, List.length_append, List.length_take, hfl]; omega⟩
  · intro items C v h₂ m _ _ _ _ _
    exact tests_none
  · intro items C v h₂ m₂ hok hv _ e hn hx
    obtain ⟨x, t, hx', rfl⟩ := ints_mem hok hv
    refine Runs.conseq (R := fun h' y => Is h' y (.str (lawNameF x))) ?_ fun h' y _ hy => ?_
    · exact ev_call1 (d := .int x) (ev_g (v := .ref 113) B (X.base.trans e) rfl rfl rfl rfl) ((B.up (X.base.trans e)).K _ _ rfl) rfl (ev_local (d := .int x) rfl rfl hn hx ⟨t, rfl⟩) fun a h₃ e₃ ha => lawname_call B ((X.base.trans e).trans e₃) ha K.hh room
    · intro x' t' q
      cases q
      exact hy
  obtain ⟨an, ys, items, rfl, hfr, hpl, hok, hF⟩ := hv
  have X₁ := X.up e₁
  have hc : (lawCs L).lookup (Str.ofString "names") = some (L + 1) := rfl
  refine wpAny_storeName_cell (c := L + 1) rfl rfl rfl (X₁.cl.cell _ _ hc) fun h₂ hc₂ hs₂ => ?_
  have X₂ := X₁.setC hc hc₂ hs₂
  obtain ⟨n, hpl⟩ := hpl
  have hne : an ≠ L + 1 := by
    intro q
    obtain ⟨o, ho⟩ := X.ex (L + 1) (X.cm _ _ hc)
    rw [← q, hfr] at ho; cases ho
  refine hQ h₂ _ an X₂.grow ⟨an, rfl, ys, ⟨n, X.fresh hfr ((hs₂.2 an hne).trans hpl)⟩, ?_⟩
  rw [show items.filter (fun _ => true) = items from List.filter_eq_self.mpr fun _ _ => rfl] at hF
  exact ints_paired hok hF
end
end Mine
end

section
open PySem PySem.W PyProof.Rows PySem.Calls
set_option Elab.async false
set_option maxRecDepth 100000
set_option maxHeartbeats 2000000
namespace Mine
/-- each name once -/
def kindsF (ns : List Str) : List Str := ((List.range ns.length).filter fun i => !(ns.take i).any (· == ns.getD i Str.empty)).map fun i => ns.getD i Str.empty
def dotted (x : Str) : Bool := Txt.item x 0 == Str.ofString "."

section
variable {prog : Program} {w : World} {A : Around} {E : Value → Shared → Prop} {Q : Flow → Shared → Prop} {L fa : Addr} {cd : Value} {Mu : List Addr} {b G : Heap} {m cv : Str → Option Value} {s : Shared}
/-- kinds = [...] -/
theorem law_s1 {ns : List Str} {nv : Value} (B : Bs w b) (K : LA A (lawE L fa cd)) (X : Lw L Mu b G s.heap m cv) (hm : cv "names" = some nv) (hnv : Is G nv (.pl ns)) (hlen : ns.length ≤ 64)
    (hQ : ∀ h' tk ka, Lw L Mu b (hideAll h' Mu) h' (fun y => if y = Str.ofString "kinds" then some (.ref ka) else m y) cv → Is (hideAll h' Mu) (.ref ka) (.pl (kindsF ns)) → Ext G (hideAll h' Mu) → Q .next { s with heap := h', toks := tk }) :
    wpAny (model prog w) A (exec (lawSt 1) (lawE L fa cd)) Q E s := by
  have hnt := is_pl_tl hnv
  have hc : (lawCs L).lookup (Str.ofString "names") = some (L + 1) := rfl
  refine asg_pair (n := ns.length) (cl := [(Str.ofString "names", L + 1)]) (Pt := fun i vals => ∃ t y u, ns[i]? = some y ∧ vals = #[.int (i : Int) t, .str y u]) (fun i => !(ns.take i).any (· == ns.getD i Str.empty)) (fun i => ns.getD i Str.empty)
    ?_ K.hh ⟨?_, ?_, ?_, ?_, ?_, ?_, ?_⟩ ?_ ?_ ?_ ?_ X.ns ?_ ?_ ?_ ?_ ?_
  · rfl
  · rfl
  · decide +kernel
  · rfl
  · decide +kernel
  · rfl
  · rfl
  · decide
  · omega
  · rintro i vals ⟨t, y, u, _, rfl⟩; exact ⟨_, _, rfl⟩
  · rfl
  · rfl
  · refine src_enum K.hh ?_ ?_
    · exact ev_bi B X.base rfl rfl rfl rfl rfl (by decide +kernel) (by decide)
    · exact X.cvE rfl hc hm hnt
  · rintro C i h' m₂ v₁ v₂ hi he hn h1 h2 ⟨t, y, u, hy, hv⟩
    have q := congrArg Array.toList hv
    simp only [List.cons.injEq, and_true] at q
    obtain ⟨rfl, rfl⟩ := q
    have hyd : ns.getD i Str.empty = y := by simp [hy]
    refine tests_one ?_
    refine tst_compare (d₁ := .str y) (d₂ := .tl (ns.take i)) ?_ ?_ ?_ ?_
    · exact ev_local rfl rfl hn h2 ⟨u, rfl⟩
    · refine NewTL.ev ?_
      rw [show ns.take i = ns.take ((i : Int).toNat) by simp]
      refine ev_slice_to ?_ ?_ ?_ ?_ ?_
      · exact ev_cell rfl rfl rfl (hm ▸ (X.up he).cl.cell _ _ hc) (hnt.ext (X.up he).gh)
      · exact ev_local rfl rfl hn h1 ⟨t, rfl⟩
      · omega
      · rw [sizeLine_eq]; omega
      · exact fun _ _ => rfl
    · intro a b h₂ e ha hb
      rw [hyd]
      exact r_notin ha hb
    · rfl
  · rintro C i h' m₂ v₁ v₂ hi _ he hn h1 h2 ⟨t, y, u, hy, hv⟩
    have q := congrArg Array.toList hv
    simp only [List.cons.injEq, and_true] at q
    obtain ⟨rfl, rfl⟩ := q
    have hyd : ns.getD i Str.empty = y := by simp [hy]
    rw [hyd]
    exact ev_local rfl rfl hn h2 ⟨u, rfl⟩
  · intro D h' tk hD hpl hn hk
    have X' := X.setL hn hk
    exact hQ h' tk D X'.grow (PL.fresh X hD hpl) X'.into
  · intro _; rfl
end
end Mine
end

section
open PySem PySem.W PyProof.Rows PySem.Calls
set_option Elab.async false
set_option maxRecDepth 100000
set_option maxHeartbeats 2000000
namespace Mine
def scD : Scope := { kind := .function, names := [(Str.ofString ".0", .local), (Str.ofString "name", .local)], isGenerator := false, isCoroutine := false }
section
variable {prog : Program} {w : World} {A : Around} {E : Value → Shared → Prop} {env : Env} {h : Heap}
theorem comp_dot {iter : Expr} {xs : List Str} {q1 q2 q3 q4 q5 q6 q7 pos : Pos} (hh : A.handled = none) (hcl : closureFor scD env = pure []) (hlen : xs.length ≤ 4096) (h0 : ∀ x ∈ xs, 0 < x.length) (hi : Ev (model prog w) A h iter env (.tl xs))
    (hs : ∀ x, foldedSetIterable iter env x = pure x := by intro _; rfl) :
    Runs (model prog w) A h (eval (.ListComp (.Name (Str.ofString "name") q1) [⟨.Name (Str.ofString "name") q2, iter, [.Compare (.Subscript (.Name (Str.ofString "name") q3) (.Constant (.int 0) 0 q4) q5) [.Eq] [.Constant (.str (Str.ofString ".")) 0 q6] q7], 0⟩] scD pos) env)
      fun h' v => NewTL h h' v (xs.filter dotted) := by
  have := comp_tt (prog := prog) (w := w) (A := A) (h := h) (env := env) (elt := .Name (Str.ofString "name") q1) (iter := iter) (x := Str.ofString "name") (px := q2)
    (ifs := [.Compare (.Subscript (.Name (Str.ofString "name") q3) (.Constant (.int 0) 0 q4) q5) [.Eq] [.Constant (.str (Str.ofString ".")) 0 q6] q7]) (scope := scD) (cl := []) (pos := pos) (xs := xs) dotted id hh ⟨hcl, by decide, rfl, by decide, rfl⟩ (by rw [sizeLine_eq]; omega) hi ?_ ?_ hs
  · rwa [List.map_id] at this
  · intro C y t h₂ m hy e hn hx
    refine tests_one ?_
    refine tst_compare (d₁ := .str (Txt.item y 0)) (d₂ := .str (Str.ofString ".")) ?_ ?_ ?_ rfl
    · refine ev_subscript (d₁ := .str y) (d₂ := .int 0) ?_ ?_ ?_
      · exact ev_local rfl rfl hn hx ⟨t, rfl⟩
      · exact ev_const_int
      · intro o i h₃ e₃ ho hi
        have := h0 y hy
        exact r_item_str ho hi (by decide) (by omega) (by omega) (fun _ _ => rfl) (fun _ _ _ => rfl)
    · exact ev_const_str
    · intro a b h₃ e₃ ha hb
      exact r_eqs ha hb
  · intro C y t h₂ m hy _ e hn hx
    exact ev_local rfl rfl hn hx ⟨t, rfl⟩
theorem comp_nodot {iter : Expr} {xs : List Str} {q1 q2 q3 q4 q5 q6 q7 pos : Pos} (hh : A.handled = none) (hcl : closureFor scD env = pure []) (hlen : xs.length ≤ 4096) (h0 : ∀ x ∈ xs, 0 < x.length) (hi : Ev (model prog w) A h iter env (.tl xs))
    (hs : ∀ x, foldedSetIterable iter env x = pure x := by intro _; rfl) :
    Runs (model prog w) A h (eval (.ListComp (.Name (Str.ofString "name") q1) [⟨.Name (Str.ofString "name") q2, iter, [.Compare (.Subscript (.Name (Str.ofString "name") q3) (.Constant (.int 0) 0 q4) q5) [.NotEq] [.Constant (.str (Str.ofString ".")) 0 q6] q7], 0⟩] scD pos) env)
      fun h' v => NewTL h h' v (xs.filter fun x => !dotted x) := by
  have := comp_tt (prog := prog) (w := w) (A := A) (h := h) (env := env) (elt := .Name (Str.ofString "name") q1) (iter := iter) (x := Str.ofString "name") (px := q2)
    (ifs := [.Compare (.Subscript (.Name (Str.ofString "name") q3) (.Constant (.int 0) 0 q4) q5) [.NotEq] [.Constant (.str (Str.ofString ".")) 0 q6] q7]) (scope := scD) (cl := []) (pos := pos) (xs := xs) (fun x => !dotted x) id hh ⟨hcl, by decide, rfl, by decide, rfl⟩ (by rw [sizeLine_eq]; omega) hi ?_ ?_ hs
  · rwa [List.map_id] at this
  · intro C y t h₂ m hy e hn hx
    refine tests_one ?_
    refine tst_compare (d₁ := .str (Txt.item y 0)) (d₂ := .str (Str.ofString ".")) ?_ ?_ ?_ rfl
    · refine ev_subscript (d₁ := .str y) (d₂ := .int 0) ?_ ?_ ?_
      · exact ev_local rfl rfl hn hx ⟨t, rfl⟩
      · exact ev_const_int
      · intro o i h₃ e₃ ho hi
        have := h0 y hy
        exact r_item_str ho hi (by decide) (by omega) (by omega) (fun _ _ => rfl) (fun _ _ _ => rfl)
    · exact ev_const_str
    · intro a b h₃ e₃ ha hb
      exact r_nes ha hb
  · intro C y t h₂ m hy _ e hn hx
    exact ev_local rfl rfl hn hx ⟨t, rfl⟩
end

section
variable {prog : Program} {w : World} {A : Around} {E : Value → Shared → Prop} {Q : Flow → Shared → Prop} {L fa : Addr} {cd : Value} {Mu : List Addr} {b G : Heap} {m cv : Str → Option Value} {s : Shared}
/-- domains, hosts = ... -/
theorem law_s2 {ns : List Str} {nv : Value} (K : LA A (lawE L fa cd)) (X : Lw L Mu b G s.heap m cv) (hm : cv "names" = some nv) (hnv : Is G nv (.pl ns)) (hlen : ns.length ≤ 64) (h0 : ∀ x ∈ ns, 0 < x.length)
    (hQ : ∀ h' tk da ha, Lw L Mu b (hideAll h' Mu) h' (fun y => if y = Str.ofString "domains" then some (.ref da) else if y = Str.ofString "hosts" then some (.ref ha) else m y) cv → Is (hideAll h' Mu) (.ref da) (.pl (ns.filter dotted)) → Is (hideAll h' Mu) (.ref ha) (.pl (ns.filter fun x => !dotted x)) → Ext G (hideAll h' Mu) → Q .next { s with heap := h', toks := tk }) :
    wpAny (model prog w) A (exec (lawSt 2) (lawE L fa cd)) Q E s := by
  have hnt := is_pl_tl hnv
  have hc : (lawCs L).lookup (Str.ofString "names") = some (L + 1) := rfl
  refine Assign_Tuple_swapped (names := [Str.ofString "domains", Str.ofString "hosts"]) ?_ ?_ ?_
  rotate_left
  · rfl
  · rfl
  refine Tuple_ ?_
  refine args_cons ?_ rfl
  refine Runs.use (comp_dot (h := s.heap) (xs := ns) K.hh rfl (by omega) h0 ?_ (by intro _; rfl)) (Ext.refl _) fun v h₁ tk₁ e₁ hv => ?_
  · exact X.cvE rfl hc hm hnt
  refine args_cons ?_ rfl
  have X₁ := X.up e₁
  refine Runs.use (comp_nodot (h := h₁) (xs := ns) K.hh rfl (by omega) h0 ?_ (by intro _; rfl)) (Ext.refl _) fun v' h₂ tk₂ e₂ hv' => ?_
  · exact X₁.cvE rfl hc hm hnt
  refine args_nil ?_
  obtain ⟨da, rfl, hda, pda⟩ := hv
  obtain ⟨ha, rfl, hha, pha⟩ := hv'
  have X₂ := X₁.up e₂
  refine wpAny_newObj_type ?_ (by size_fits)
  have e₃ : Ext h₂ (h₂.push { cls := .type "tuple", data := .seq ([.ref da, .ref ha] : List Value).toArray }) := (Ext.refl _).push _
  have hT : (h₂.push { cls := .type "tuple", data := .seq ([.ref da, .ref ha] : List Value).toArray }).get? h₂.objs.size = some { cls := .type "tuple", data := .seq #[.ref da, .ref ha] } := Heap.get?_push_size _ rfl
  dsimp only
  generalize h₂.push { cls := .type "tuple", data := .seq ([.ref da, .ref ha] : List Value).toArray } = h₃ at e₃ hT ⊢
  generalize h₂.objs.size = t at hT ⊢
  refine unpackItems_tuple (items := #[.ref da, .ref ha]) K.hh ⟨_, hT, rfl, _, rfl⟩ fun h₄ hx => ?_
  have e₄ : Ext h₃ h₄ := fun b o e => hx b o (Nat.ne_of_lt (Heap.lt_size e)) e
  have X₄ := (X₂.up e₃).up e₄
  have E4 : Ext h₁ h₄ := (e₂.trans e₃).trans e₄
  show wpAny _ _ (assignInOrder [bindName (lawE L fa cd) (Str.ofString "hosts"), bindName (lawE L fa cd) (Str.ofString "domains")] [.ref ha, .ref da]) _ _ _
  refine assignInOrder_cons (bindName_ (wpAny_storeName_local rfl X₄.ns (fun h₅ hn₅ hs₅ => ?_) rfl))
  refine assignInOrder_cons (bindName_ (wpAny_storeName_local rfl hn₅ (fun h₆ hn₆ hs₆ => ?_) rfl))
  refine assignInOrder_nil ?_
  have k6 : ∀ b o, b ≠ L → h₄.get? b = some o → h₆.get? b = some o := fun b o hb e => (hs₆.2 b hb).trans ((hs₅.2 b hb).trans e)
  have X₆ := X₄.setL hn₆ k6
  have nd : da ≠ L := fun q => by obtain ⟨o, ho⟩ := X.ex L X.Lm; rw [← q, hda] at ho; cases ho
  have nh : ha ≠ L := fun q => by obtain ⟨o, ho⟩ := X₁.ex L X₁.Lm; rw [← q, hha] at ho; cases ho
  obtain ⟨vd, ⟨n1, pd⟩, wd⟩ := pda
  obtain ⟨vh, ⟨n2, ph⟩, wh⟩ := pha
  exact hQ h₆ _ da ha X₆.grow (PL.fresh X hda ⟨vd, ⟨n1, k6 _ _ nd (E4 _ _ pd)⟩, wd⟩) (PL.fresh X₁ hha ⟨vh, ⟨n2, k6 _ _ nh (e₄ _ _ (e₃ _ _ ph))⟩, wh⟩) X₆.into
end
end Mine
end

section
open PySem PySem.W PyProof.Rows PySem.Calls
set_option Elab.async false
set_option maxRecDepth 100000
set_option maxHeartbeats 2000000
namespace Mine
/-- the growing lists' addresses are their own -/
structure Own (L : Addr) (Mu : List Addr) (a : Addr) : Prop where
  mem : a ∈ Mu
  ne : a ≠ L
  cell : ∀ n c, (lawCs L).lookup n = some c → a ≠ c
section
variable {prog : Program} {w : World} {A : Around} {E : Value → Shared → Prop} {Q : Flow → Shared → Prop} {L fa : Addr} {cd : Value} {Mu : List Addr} {b G : Heap} {m cv : Str → Option Value} {s : Shared}
theorem eval_nil {h : Heap} {env : Env} {pos : Pos} : Runs (model prog w) A h (eval (.List [] pos) env) fun h' v => ∃ a, v = .ref a ∧ h.get? a = none ∧ h'.get? a = some { cls := .type "list", data := .seq #[] } := by
  refine .intro fun s E Q hle hQ => List_ (args_nil ?_)
  refine wpAny_newObj_type ?_ (by size_fits)
  exact hQ _ _ s.toks ((Ext.refl _).push _) ⟨_, rfl, none_size hle, Heap.get?_push_size _ rfl⟩

theorem law_s3 (K : LA A (lawE L fa cd)) (X : Lw L Mu b G s.heap m cv)
    (hQ : ∀ h' tk aL aF aG, Lw L (aL :: aF :: aG :: Mu) b G h' (fun y => if y = Str.ofString "lefts" then some (.ref aF) else if y = Str.ofString "lists" then some (.ref aL) else m y) (fun y => if y = Str.ofString "gone" then some (.ref aG) else cv y) →
      h'.get? aL = some { cls := .type "list", data := .seq #[] } → h'.get? aF = some { cls := .type "list", data := .seq #[] } → h'.get? aG = some { cls := .type "list", data := .seq #[] } → aL ≠ aF → aL ≠ aG → aF ≠ aG →
      Own L (aL :: aF :: aG :: Mu) aL → Own L (aL :: aF :: aG :: Mu) aF → Own L (aL :: aF :: aG :: Mu) aG → Q .next { s with heap := h', toks := tk }) :
    wpAny (model prog w) A (exec (lawSt 3) (lawE L fa cd)) Q E s := by
  refine Assign_Tuple ?_ ?_ ?_
  rotate_left
  · rfl
  · rfl
  refine Tuple_ (args_cons ?_ rfl)
  refine eval_nil.use (Ext.refl _) fun v h₁ tk₁ e₁ hv => args_cons ?_ rfl
  refine eval_nil.use (Ext.refl _) fun v' h₂ tk₂ e₂ hv' => args_cons ?_ rfl
  refine eval_nil.use (Ext.refl _) fun v'' h₃ tk₃ e₃ hv'' => args_nil ?_
  obtain ⟨aL, rfl, nL, oL⟩ := hv
  obtain ⟨aF, rfl, nF, oF⟩ := hv'
  obtain ⟨aG, rfl, nG, oG⟩ := hv''
  refine wpAny_newObj_type ?_ (by size_fits)
  have e₄ : Ext h₃ (h₃.push { cls := .type "tuple", data := .seq ([.ref aL, .ref aF, .ref aG] : List Value).toArray }) := (Ext.refl _).push _
  have hT : (h₃.push { cls := .type "tuple", data := .seq ([.ref aL, .ref aF, .ref aG] : List Value).toArray }).get? h₃.objs.size = some { cls := .type "tuple", data := .seq #[.ref aL, .ref aF, .ref aG] } := Heap.get?_push_size _ rfl
  dsimp only
  generalize h₃.push { cls := .type "tuple", data := .seq ([.ref aL, .ref aF, .ref aG] : List Value).toArray } = h₄ at e₄ hT ⊢
  generalize h₃.objs.size = t at hT ⊢
  have nF' : s.heap.get? aF = none := by
    cases q : s.heap.get? aF with
    | none => rfl
    | some o => have := e₁ _ _ q; rw [nF] at this; cases this
  have nG' : s.heap.get? aG = none := by
    cases q : s.heap.get? aG with
    | none => rfl
    | some o => have := e₂ _ _ (e₁ _ _ q); rw [nG] at this; cases this
  have hLF : aL ≠ aF := fun q => by rw [q, nF] at oL; cases oL
  have hLG : aL ≠ aG := fun q => by have := e₂ _ _ oL; rw [q, nG] at this; cases this
  have hFG : aF ≠ aG := fun q => by rw [q, nG] at oF; cases oF
  have gn : ∀ a, s.heap.get? a = none → G.get? a = none := fun a ha => by
    cases q : G.get? a with
    | none => rfl
    | some o => have := X.gh _ _ q; rw [ha] at this; cases this
  have own : ∀ a, s.heap.get? a = none → a ≠ L ∧ ∀ n c, (lawCs L).lookup n = some c → a ≠ c := fun a ha =>
    ⟨(fun q => by obtain ⟨o, ho⟩ := X.ex L X.Lm; rw [← q, ha] at ho; cases ho), (fun n c e q => by obtain ⟨o, ho⟩ := X.ex c (X.cm n c e); rw [← q, ha] at ho; cases ho)⟩
  refine assign_Tuple_tuple (items := #[.ref aL, .ref aF, .ref aG]) K.hh ⟨_, hT, rfl, _, rfl⟩ rfl rfl fun h₅ hx => ?_
  have e₅ : Ext h₄ h₅ := fun b o e => hx b o (Nat.ne_of_lt (Heap.lt_size e)) e
  have X₅ := (X.up e₁).up (((e₂.trans e₃).trans e₄).trans e₅)
  refine assignInOrder_cons (wpAny_assign_Name (wpAny_storeName_local rfl X₅.ns (fun h₆ hn₆ hs₆ => ?_) rfl))
  refine assignInOrder_cons (wpAny_assign_Name (wpAny_storeName_local rfl hn₆ (fun h₇ hn₇ hs₇ => ?_) rfl))
  have k7 : ∀ b o, b ≠ L → h₅.get? b = some o → h₇.get? b = some o := fun b o hb e => (hs₇.2 b hb).trans ((hs₆.2 b hb).trans e)
  have X₇ := X₅.setL hn₇ k7
  have hc : (lawCs L).lookup (Str.ofString "gone") = some (L + 1 + 1 + 1) := rfl
  refine assignInOrder_cons (wpAny_assign_Name (wpAny_storeName_cell (c := L + 1 + 1 + 1) rfl rfl rfl (X₇.cl.cell _ _ hc) fun h₈ hc₈ hs₈ => ?_))
  refine assignInOrder_nil ?_
  have X₈ := X₇.setC hc hc₈ hs₈
  have k8 : ∀ a o, s.heap.get? a = none → h₅.get? a = some o → h₈.get? a = some o := fun a o ha e => (hs₈.2 a ((own a ha).2 _ _ hc)).trans (k7 a o (own a ha).1 e)
  have oL' := k8 _ _ nL (e₅ _ _ (e₄ _ _ (e₃ _ _ (e₂ _ _ oL))))
  have oF' := k8 _ _ nF' (e₅ _ _ (e₄ _ _ (e₃ _ _ oF)))
  have oG' := k8 _ _ nG' (e₅ _ _ (e₄ _ _ oG))
  exact hQ h₈ _ aL aF aG (((X₈.more (gn _ nG') oG').more (gn _ nF') oF').more (gn _ nL) oL') oL' oF' oG' hLF hLG hFG
    ⟨.head _, (own _ nL).1, (own _ nL).2⟩ ⟨.tail _ (.head _), (own _ nF').1, (own _ nF').2⟩ ⟨.tail _ (.tail _ (.head _)), (own _ nG').1, (own _ nG').2⟩
end
end Mine
end

section
open PySem PySem.W PyProof.Rows PySem.Calls
set_option Elab.async false
set_option maxRecDepth 100000
set_option maxHeartbeats 2000000
namespace Mine
/-- what is asked of each name -/
structure NmOk (x : Str) : Prop where
  len0 : 0 < x.length
  len : x.length ≤ 30
  ok : PyData.strOk x = true
  low : Txt.lower x = x
  uplow : Txt.lower (Txt.upper x) = x
  up : (Txt.upper x).length ≤ sizeLine
  hit : hitF x = some (hitN x)
  sl : ∀ k, (Txt.slice x (some k) none).length ≤ x.length
  split : SplitOk x
def loopBody : Stmt → List Stmt | .For _ _ b _ _ => b | _ => []
def bSt (n : Nat) : Stmt := (loopBody (lawSt 4)).getD n (.Pass ⟨0, 0, 0, 0⟩)

section
variable {prog : Program} {w : World} {A : Around} {E : Value → Shared → Prop} {Q : Flow → Shared → Prop} {L fa : Addr} {cd : Value} {Mu : List Addr} {b G : Heap} {m cv : Str → Option Value} {s : Shared}
theorem src_tl {h : Heap} {v : Value} {xs : List Str} (hh : A.handled = none) (hv : Is h v (.tl xs)) : SrcOk prog w A h v xs.length (fun i v => ∃ y t, xs[i]? = some y ∧ v = .str y t) := by
  obtain ⟨a, rfl, vs, hl, hvs⟩ := hv
  intro s E Q hs hQ
  refine src_list hh hl s E Q hs fun I fp wr St h₂ W => ?_
  rw [hvs.length] at W
  refine hQ I fp wr St h₂ ⟨W.sub, W.frame, fun i s Q E hi hst hQ => W.item i s Q E hi hst fun v h' tk hv => hQ v h' tk ?_, W.done, W.self⟩
  obtain ⟨y, hy⟩ : ∃ y, xs[i]? = some y := ⟨_, List.getElem?_eq_getElem hi⟩
  obtain ⟨t, ht⟩ := strs_at hvs hy
  rw [ht] at hv
  exact ⟨y, t, hy, (Option.some.inj hv).symm⟩
theorem bools_of {g : Str → Bool} : ∀ {vs ys : List Value} {xs : List Str}, vs.length = xs.length → (∀ (j : Nat) v, vs[j]? = some v → ∃ y t, xs[j]? = some y ∧ v = .str y t) → Paired (fun v y => ∀ x t, v = .str x t → y = .bool (g x)) vs ys → ys = (xs.map g).map Value.bool
  | [], _, [], _, _, h => by cases h; rfl
  | v :: vs, _, x :: xs, hl, hp, h => by
    cases h with
    | cons h1 h2 =>
      obtain ⟨y, t, hy, rfl⟩ := hp 0 v rfl
      obtain rfl := Option.some.inj hy
      rw [h1 _ t rfl, bools_of (by simpa using hl) (fun j v hv => hp (j + 1) v hv) h2]
      rfl

/-- told = [...] -/
theorem law_b0 {ks : List Str} {kv hv : Value} {hst : Str} (B : Bs w b) (K : LA A (lawE L fa cd)) (X : Lw L Mu b G s.heap m cv) (hk : m "kinds" = some kv) (hkv : Is G kv (.pl ks)) (hc : cv "host" = some hv) (hhv : Is G hv (.str hst)) (hlen : ks.length ≤ 64)
    (N : ∀ x ∈ ks, NmOk x) (Nh : NmOk hst)
    (hQ : ∀ h' tk ta, Lw L Mu b (hideAll h' Mu) h' (fun y => if y = Str.ofString "told" then some (.ref ta) else m y) cv → Is (hideAll h' Mu) (.ref ta) (.bl (ks.map (udmF hst))) → Ext G (hideAll h' Mu) → (∀ i o, i ≠ L → s.heap.get? i = some o → h'.get? i = some o) → Q .next { s with heap := h', toks := tk }) :
    wpAny (model prog w) A (exec (bSt 0) (lawE L fa cd)) Q E s := by
  have hkt := is_pl_tl hkv
  have hcl : (lawCs L).lookup (Str.ofString "host") = some (L + 1 + 1 + 1 + 1) := rfl
  refine asg_comp (n := ks.length) (P := fun i v => ∃ y t, ks[i]? = some y ∧ v = .str y t) (cl := [(Str.ofString "host", L + 1 + 1 + 1 + 1)]) (fun _ => true) (fun v y => ∀ x t, v = .str x t → y = .bool (udmF hst x)) ?_ ⟨?_, ?_, ?_, ?_, ?_⟩ ?_ ?_ ?_ X.ns ?_ ?_ ?_ ?_ ?_
  · rfl
  · rfl
  · decide +kernel
  · rfl
  · decide +kernel
  · rfl
  · rfl
  · rfl
  · omega
  · refine Runs.conseq (R := fun h' v => Is h' v (.tl ks)) ?_ fun h' v _ hv => src_tl K.hh hv
    exact X.lv rfl hk hkt
  · intro C i v h₂ m₂ _ _ _ _
    exact tests_none
  · rintro C i v h₂ m₂ ⟨y, t, hy, rfl⟩ _ e hn hx
    have hym : y ∈ ks := List.mem_of_getElem? hy
    refine Runs.conseq (R := fun _ r => r = .bool (udmF hst y)) ?_ fun _ r _ hr => fun x' t' q => by cases q; exact hr
    have X₂ := X.up e
    refine ev_call2 (f := 101) (d := .str (Txt.upper hst)) (d' := .str (Txt.upper y)) ?_ ((B.up X₂.base).K _ _ rfl) rfl ?_ ?_ ?_ (by rfl) (by rfl) (by rfl)
    · exact ev_g B X₂.base rfl rfl rfl rfl
    · refine ev_upper ?_ Nh.up (by rfl) (by rfl)
      exact ev_cell rfl rfl rfl (hc ▸ X₂.cl.cell _ _ hcl) (hhv.ext X₂.gh)
    · refine ev_upper ?_ (N y hym).up (by rfl) (by rfl)
      exact ev_local rfl rfl hn hx ⟨t, rfl⟩
    · intro p q h₃ e₃ hp hq
      have l1 := Nh.len
      have l2 := (N y hym).len
      exact udm_call B (X₂.base.trans e₃) hp hq Nh.uplow (N y hym).uplow (by omega) (by omega) Nh.hit (N y hym).hit (by have := K.room; omega)
  · intro a h' tk ys vs ha hl hlen' hP hF hn hk'
    have X' := X.setL hn hk'
    rw [show vs.filter (fun _ => true) = vs from List.filter_eq_self.mpr fun _ _ => rfl] at hF
    have hys := bools_of hlen' hP hF
    subst hys
    refine hQ h' tk a X'.grow ⟨a, rfl, ?_⟩ X'.into hk'
    obtain ⟨o, ho, r⟩ := hl
    exact ⟨o, X.fresh ha ho, r⟩
  · intro _; rfl
end
end Mine
end

section
open PySem PySem.W PyProof.Rows PySem.Calls
set_option Elab.async false
set_option maxRecDepth 100000
set_option maxHeartbeats 2000000
namespace Mine
section
variable {prog : Program} {w : World} {A : Around} {E : Value → Shared → Prop} {Q : Flow → Shared → Prop} {L fa : Addr} {cd : Value} {Mu : List Addr} {b G : Heap} {m cv : Str → Option Value} {s : Shared}
theorem tok_nil : TOk [] := fun _ h => nomatch h
theorem ev_nil {h : Heap} {env : Env} {pos : Pos} : Ev (model prog w) A h (.List [] pos) env (.tl []) :=
  eval_nil.conseq fun _ _ _ hv => by obtain ⟨a, rfl, _, ho⟩ := hv; exact ⟨a, rfl, [], ⟨_, ho, rfl, _, rfl⟩, .nil⟩
/-- if told != ...: return False -/
theorem law_b1 {ks : List Str} {kv hv tv : Value} {hst : Str} (B : Bs w b) (K : LA A (lawE L fa cd)) (X : Lw L Mu b G s.heap m cv) (hk : m "kinds" = some kv) (hkv : Is G kv (.pl ks)) (hc : cv "host" = some hv) (hhv : Is G hv (.str hst)) (ht : m "told" = some tv) (htv : Is G tv (.bl (ks.map (udmF hst)))) (hlen : ks.length ≤ 64)
    (N : ∀ x ∈ ks, NmOk x) (Nh : NmOk hst) (P : ∀ x ∈ ks, udmF hst x = matchedF hst x)
    (hQ : ∀ h' tk, Ext s.heap h' → Q .next { s with heap := h', toks := tk }) :
    wpAny (model prog w) A (exec (bSt 1) (lawE L fa cd)) Q E s := by
  have hkt := is_pl_tl hkv
  have hcl : (lawCs L).lookup (Str.ofString "host") = some (L + 1 + 1 + 1 + 1) := rfl
  have hun : A.units + 64 < cLine := Nat.lt_of_le_of_lt (by omega) K.units
  have heq : ks.map (udmF hst) = ks.map (matchedF hst) := List.map_congr_left P
  refine wpAny_If (Runs.use (R := fun _ c => c = false) (h := s.heap) ?_ (Ext.refl _) fun c h' tk e hc' => ?_)
  rotate_left
  · subst hc'
    exact wpAny_execs_nil (hQ h' tk e)
  refine Runs.conseq (R := fun _ c => c = ((ks.map (udmF hst) != ks.map (matchedF hst)) || (([] : List Str) != []) || false)) ?_ fun _ c _ hc' => by rw [hc', heq]; simp
  rw [Bool.or_assoc]
  refine tst_or ?_ fun _ => tst_or ?_ fun _ => tst_or_nil
  · refine tst_compare (d₁ := .bl (ks.map (udmF hst))) (d₂ := .bl (ks.map (matchedF hst))) ?_ ?_ ?_ rfl
    · exact X.lv rfl ht htv
    · refine Runs.conseq (R := fun h' v => NewBL s.heap h' v ((ks.filter fun _ => true).map (matchedF hst))) ?_ fun h' v _ hv => ?_
      rotate_left
      · have := hv.is
        rwa [show ks.filter (fun _ => true) = ks from List.filter_eq_self.mpr fun _ _ => rfl] at this
      refine comp_tb (cl := [(Str.ofString "host", L + 1 + 1 + 1 + 1)]) (fun _ => true) (matchedF hst) K.hh ⟨?_, ?_, ?_, ?_, ?_⟩ ?_ (X.lv rfl hk hkt) (fun _ _ _ _ _ _ _ _ _ => tests_none) ?_ ?_
      · rfl
      · decide +kernel
      · rfl
      · decide +kernel
      · rfl
      · rw [sizeLine_eq]; omega
      · intro C y t h₂ m₂ hy _ e hn hx
        have X₂ := X.up e
        have l1 := Nh.len
        have l2 := (N y hy).len
        have l3 := (N y hy).len0
        refine ev_call2 (f := 120) (d := .str hst) (d' := .str y) ?_ ((B.up X₂.base).K _ _ rfl) rfl ?_ ?_ ?_ (by rfl) (by rfl) (by rfl)
        · exact ev_g B X₂.base rfl rfl rfl rfl
        · exact ev_cell rfl rfl rfl (hc ▸ X₂.cl.cell _ _ hcl) (hhv.ext X₂.gh)
        · exact ev_local rfl rfl hn hx ⟨t, rfl⟩
        · intro p q h₃ e₃ hp hq
          exact matched_call B (X₂.base.trans e₃) hp hq (by omega) (by omega) l3 (by have := K.room; omega)
      · intro _; rfl
    · intro p q h₂ e hp hq
      exact r_neb hp hq hun
  · refine tst_compare (d₁ := .tl []) (d₂ := .tl []) ?_ ev_nil ?_ rfl
    · refine Runs.conseq (comp_list (h := s.heap) (cl := []) (fun vs => vs = (ks.map (udmF hst)).map Value.bool) (fun _ => false) (fun _ _ => True) K.hh rfl (by decide +kernel) rfl (by decide +kernel) rfl ?_ ?_ ?_ (by intro _; rfl)) fun h' v _ hv => ?_
      rotate_right
      · obtain ⟨a, ys, items, rfl, _, hpl, hok, hF⟩ := hv
        rw [show items.filter (fun _ => false) = [] from List.filter_eq_nil_iff.mpr fun _ _ => Bool.false_ne_true] at hF
        cases hF
        exact ⟨a, rfl, [], hpl.isList, .nil⟩
      · refine Runs.conseq (R := fun h' v => Is h' v (.bl (ks.map (udmF hst)))) (X.lv rfl ht htv) fun h' v _ hv => ?_
        obtain ⟨a, rfl, hl⟩ := hv
        exact ⟨a, _, rfl, hl, rfl, by simp [sizeLine_eq]; omega⟩
      · intro items C v h₂ m₂ hok hm e hn hx
        subst hok
        obtain ⟨bb, _, rfl⟩ := List.mem_map.mp hm
        refine tests_one (tst_not (b := true) ?_)
        refine tst_bool ?_
        refine ev_bcall2 (id := "isinstance") (d := .val (.bool bb)) (d' := .val (.type "bool")) ?_ ?_ ?_ ?_ (by rfl) (by rfl) (by rfl)
        · exact ev_bi B (X.up e).base rfl rfl rfl rfl rfl (by decide +kernel) (by decide)
        · exact ev_local rfl rfl hn hx rfl
        · exact ev_bi B (X.up e).base rfl rfl rfl rfl rfl (by decide +kernel) (by decide)
        · intro p q h₃ e₃ hp hq
          obtain rfl : p = .bool bb := hp
          obtain rfl : q = .type "bool" := hq
          exact .intro fun s _ _ _ hQ => PySem.IsiPair.bool_bool (hQ _ s.heap s.toks (Ext.refl _) rfl)
      · intro items C v h₂ m₂ _ _ hp
        cases hp
    · intro p q h₂ e hp hq
      exact r_nel hp hq hun tok_nil tok_nil
end
end Mine
end

section
open PySem PySem.W PyProof.Rows PySem.Calls
set_option Elab.async false
set_option maxRecDepth 100000
set_option maxHeartbeats 2000000
namespace Mine
inductive PLs (h : Heap) : List Value → List (List Str) → Prop
  | nil : PLs h [] []
  | cons {a : Addr} {xs : List Str} {vs : List Value} {xss : List (List Str)} : PL h a xs → PLs h vs xss → PLs h (.ref a :: vs) (xs :: xss)
theorem PLs.ext {h h' : Heap} (e : Ext h h') : ∀ {vs : List Value} {xss : List (List Str)}, PLs h vs xss → PLs h' vs xss
  | _, _, .nil => .nil
  | _, _, .cons x r => .cons (x.ext e) (r.ext e)
theorem PLs.tls {h : Heap} : ∀ {vs : List Value} {xss : List (List Str)}, PLs h vs xss → TLs h vs xss
  | _, _, .nil => .nil
  | _, _, .cons x r => .cons x.tl r.tls
theorem PLs.len {h : Heap} : ∀ {vs : List Value} {xss : List (List Str)}, PLs h vs xss → vs.length = xss.length
  | _, _, .nil => rfl
  | _, _, .cons _ r => by simp [r.len]
theorem PLs.snoc {h : Heap} {a : Addr} {xs : List Str} : ∀ {vs : List Value} {xss : List (List Str)}, PLs h vs xss → PL h a xs → PLs h (vs ++ [.ref a]) (xss ++ [xs])
  | _, _, .nil, p => .cons p .nil
  | _, _, .cons x r, p => .cons x (r.snoc p)
theorem PLs.at : ∀ {h : Heap} {vs : List Value} {xss : List (List Str)} {i : Nat} {xs : List Str}, PLs h vs xss → xss[i]? = some xs → ∃ a, vs[i]? = some (.ref a) ∧ PL h a xs
  | _, _, _, 0, _, .cons x r, e => by cases e; exact ⟨_, rfl, x⟩
  | _, _, _, i + 1, _, .cons x r, e => PLs.at (i := i) r e
/-- a growing list of frozen rows -/
def Rows (G h : Heap) (a : Addr) (rows : List (List Str)) : Prop := ∃ vs c, h.get? a = some { cls := .type "list", data := .seq (List.toArray vs) c } ∧ PLs G vs rows
theorem Rows.ext {G G' h : Heap} {a : Addr} {rows : List (List Str)} (x : Rows G h a rows) (e : Ext G G') : Rows G' h a rows := let ⟨vs, c, ho, p⟩ := x; ⟨vs, c, ho, p.ext e⟩
theorem Rows.kept {G h h' : Heap} {a : Addr} {rows : List (List Str)} (x : Rows G h a rows) (e : ∀ o, h.get? a = some o → h'.get? a = some o) : Rows G h' a rows := let ⟨vs, c, ho, p⟩ := x; ⟨vs, c, e _ ho, p⟩
theorem Rows.ll {G h : Heap} {a : Addr} {rows : List (List Str)} (x : Rows G h a rows) (e : Ext G h) : Is h (.ref a) (.ll rows) := let ⟨vs, c, ho, p⟩ := x; ⟨a, rfl, vs, ⟨_, ho, rfl, _, rfl⟩, (p.ext e).tls⟩

def listF (ks : List Str) (hst : Str) : List Str := ((List.range ks.length).filter fun i => (ks.map (udmF hst)).getD i false && ((ks.getD i Str.empty != hst) && true)).map fun i => ks.getD i Str.empty

section
variable {prog : Program} {w : World} {A : Around} {E : Value → Shared → Prop} {Q : Flow → Shared → Prop} {L fa : Addr} {cd : Value} {Mu : List Addr} {b G : Heap} {m cv : Str → Option Value} {s : Shared}
/-- x.append(e): e makes a new list -/
theorem app_stmt {v : Str} {elt : Expr} {np apos cpos epos : Pos} {a : Addr} {rows : List (List Str)} {xs : List Str} (X : Lw L Mu b G s.heap m cv) (O : Own L Mu a)
    (hv : Ev (model prog w) A s.heap (.Name v np) (lawE L fa cd) (.val (.ref a))) (R : Rows G s.heap a rows) (hlen : rows.length ≤ 4000)
    (he : Runs (model prog w) A s.heap (eval elt (lawE L fa cd)) fun h' y => NewTL s.heap h' y xs)
    (hQ : ∀ h' tk, Lw L Mu b (hideAll h' Mu) h' m cv → Rows (hideAll h' Mu) h' a (rows ++ [xs]) → Ext G (hideAll h' Mu) → (∀ i o, i ≠ a → s.heap.get? i = some o → h'.get? i = some o) → Q .next { s with heap := h', toks := tk })
    (hbase : attributeBase (.Name v np) "append" (lawE L fa cd) (eval (.Name v np) (lawE L fa cd)) = eval (.Name v np) (lawE L fa cd) := by rfl)
    (hfew : ((backTo cpos (starEach [elt] (lawE L fa cd))).all (fun x => !x.1) && (backToKw cpos (keywordEach [] (lawE L fa cd))).all (fun x => x.1.isSome)
      && decide (([elt] : List Expr).length + ([] : List Keyword).length + (if ([] : List Keyword).isEmpty then 0 else 1) < 30)) = true := by rfl)
    (hline : (apos.endLine == cpos.line) = true := by rfl) (htrees : backTo cpos (starEach [elt] (lawE L fa cd)) = [(false, eval elt (lawE L fa cd))] := by rfl) :
    wpAny (model prog w) A (exec (.Expr (.Call (.Attribute (.Name v np) "append" apos) [elt] [] cpos) epos) (lawE L fa cd)) Q E s := by
  obtain ⟨vs, c, ho, p⟩ := R
  refine wpAny_Expr (wpAny_Call_append hbase hfew hline htrees (hv.use (Ext.refl _) fun u h₁ tk₁ e₁ hu => ?_)) rfl rfl
  obtain rfl : u = .ref a := hu
  refine ⟨a, vs.toArray, rfl, ⟨_, c, e₁ _ _ ho, rfl, rfl, rfl⟩, ?_⟩
  refine he.use e₁ fun y h₂ tk₂ e₂ hy => ?_
  obtain ⟨d, rfl, hd, pl⟩ := hy
  have E2 : Ext s.heap h₂ := e₁.trans e₂
  refine append_at (hsz := by show vs.toArray.size ≤ sizeLine; rw [List.size_toArray, p.len, sizeLine_eq]; omega) (E2 _ _ ho) fun h₃ hs₃ ho₃ => ?_
  have k3 : ∀ i o, i ≠ a → h₂.get? i = some o → h₃.get? i = some o := fun i o hi e => (hs₃.2 i hi).trans e
  have X₃ := (X.up E2).but O.mem O.ne O.cell ho₃ hs₃
  have hda : d ≠ a := fun q => by rw [q, ho] at hd; cases hd
  obtain ⟨ws, ⟨n, hpl⟩, hws⟩ := pl
  refine hQ h₃ tk₂ X₃.grow ⟨vs ++ [.ref d], c + 1, ?_, (p.ext X₃.into).snoc ⟨ws, ⟨n, X.fresh hd (k3 _ _ hda hpl)⟩, hws⟩⟩ X₃.into fun i o hi e => k3 i o hi (E2 _ _ e)
  rw [ho₃]; simp

/-- lists.append(...) -/
theorem law_b2 {ks : List Str} {kv hv tv : Value} {hst : Str} {aL : Addr} {rows : List (List Str)} (B : Bs w b) (K : LA A (lawE L fa cd)) (X : Lw L Mu b G s.heap m cv) (hk : m "kinds" = some kv) (hkv : Is G kv (.pl ks)) (hc : cv "host" = some hv) (hhv : Is G hv (.str hst)) (ht : m "told" = some tv) (htv : Is G tv (.bl (ks.map (udmF hst)))) (hlen : ks.length ≤ 64)
    (hl : m "lists" = some (.ref aL)) (O : Own L Mu aL) (R : Rows G s.heap aL rows) (hr : rows.length ≤ 4000)
    (hQ : ∀ h' tk, Lw L Mu b (hideAll h' Mu) h' m cv → Rows (hideAll h' Mu) h' aL (rows ++ [listF ks hst]) → Ext G (hideAll h' Mu) → (∀ i o, i ≠ aL → s.heap.get? i = some o → h'.get? i = some o) → Q .next { s with heap := h', toks := tk }) :
    wpAny (model prog w) A (exec (bSt 2) (lawE L fa cd)) Q E s := by
  have hkt := is_pl_tl hkv
  have hcl : (lawCs L).lookup (Str.ofString "host") = some (L + 1 + 1 + 1 + 1) := rfl
  refine app_stmt (xs := listF ks hst) X O ?_ R hr ?_ hQ (by rfl) (by rfl) (by rfl) (by rfl)
  · exact X.lv rfl hl rfl
  · refine comp_pair (n := ks.length) (cl := [(Str.ofString "host", L + 1 + 1 + 1 + 1)]) (Pt := fun i vals => ∃ y u, ks[i]? = some y ∧ vals = #[.str y u, .bool ((ks.map (udmF hst)).getD i false)]) (fun i => (ks.map (udmF hst)).getD i false && ((ks.getD i Str.empty != hst) && true)) (fun i => ks.getD i Str.empty) K.hh ⟨?_, ?_, ?_, ?_, ?_, ?_, ?_⟩ ?_ ?_ ?_ ?_ ?_ ?_
    · rfl
    · decide +kernel
    · rfl
    · decide +kernel
    · rfl
    · rfl
    · decide
    · omega
    · rintro i vals ⟨y, u, _, rfl⟩; exact ⟨_, _, rfl⟩
    · refine src_zip K.hh (by simp) ?_ ?_ ?_
      · exact ev_bi B X.base rfl rfl rfl rfl rfl (by decide +kernel) (by decide)
      · exact X.lv rfl hk hkt
      · exact X.lv rfl ht htv
    · rintro C i h' m₂ v₁ v₂ hi he hn h1 h2 ⟨y, u, hy, hv'⟩
      have q := congrArg Array.toList hv'
      simp only [List.cons.injEq, and_true] at q
      obtain ⟨rfl, rfl⟩ := q
      have hyd : ks.getD i Str.empty = y := by simp [hy]
      refine tests_one (tst_and ?_ fun _ => tst_and ?_ fun _ => tst_and_nil)
      · refine tst_bool ?_
        exact ev_local (d := .bool _) rfl rfl hn h2 rfl
      · rw [hyd]
        refine tst_compare (d₁ := .str y) (d₂ := .str hst) ?_ ?_ ?_ rfl
        · exact ev_local rfl rfl hn h1 ⟨u, rfl⟩
        · exact ev_cell rfl rfl rfl (hc ▸ (X.up he).cl.cell _ _ hcl) (hhv.ext (X.up he).gh)
        · intro p q h₃ e₃ hp hq
          exact r_nes hp hq
    · rintro C i h' m₂ v₁ v₂ hi _ he hn h1 h2 ⟨y, u, hy, hv'⟩
      have q := congrArg Array.toList hv'
      simp only [List.cons.injEq, and_true] at q
      obtain ⟨rfl, rfl⟩ := q
      have hyd : ks.getD i Str.empty = y := by simp [hy]
      rw [hyd]
      exact ev_local rfl rfl hn h1 ⟨u, rfl⟩
    · intro _; rfl
end
end Mine
end

section
open PySem PySem.W PyProof.Rows PySem.Calls
set_option Elab.async false
set_option maxRecDepth 100000
set_option maxHeartbeats 2000000
namespace Mine
/-- kept but for the frame's own marks -/
abbrev ExtL (L : Addr) (h h' : Heap) : Prop := ExtF [L] (fun _ => False) h h'
theorem ExtL.of {L : Addr} {h h' : Heap} (e : Ext h h') : ExtL L h h' := ExtF.of fun b o _ x => e b o x
theorem ExtL.ex {L : Addr} {h h' : Heap} (e : ExtL L h h') {a : Addr} {o : Obj} (x : h.get? a = some o) : ∃ sl, h'.get? a = some { o with slots := sl } := by
  by_cases q : a = L
  · exact e.slots a o (by simp [q]) id x
  · exact ⟨o.slots, e.keep a o id (by simpa using q) x⟩
theorem ExtL.none {L : Addr} {h h' : Heap} (e : ExtL L h h') {a : Addr} (x : h'.get? a = none) : h.get? a = none := by
  cases q : h.get? a with
  | none => rfl
  | some o => obtain ⟨sl, y⟩ := e.ex q; rw [x] at y; cases y
theorem TL.extL {L : Addr} {h h' : Heap} (e : ExtL L h h') {a : Addr} {xs : List Str} (x : TL h a xs) : TL h' a xs := by
  obtain ⟨vs, ⟨o, ho, hc, n, hd⟩, hv⟩ := x
  obtain ⟨sl, hs⟩ := e.ex ho
  exact ⟨vs, ⟨_, hs, hc, n, hd⟩, hv⟩
/-- runs from any heap above h, raises nothing; what stood stays but for the frame's marks -/
def RunF (L : Addr) {α : Type} (M : Model) (A : Around) (h : Heap) (t : Sem α) (R : Heap → α → Prop) : Prop :=
  ∀ (s : Shared) (E : Value → Shared → Prop) (Q : α → Shared → Prop), s.heap = h → (∀ v h' tk, ExtL L h h' → R h' v → Q v { s with heap := h', toks := tk }) → wpAny M A t Q E s
section
variable {α : Type} {L : Addr} {M : Model} {A : Around} {h : Heap} {t : Sem α} {R R' : Heap → α → Prop}
theorem RunF.of (r : Runs M A h t R) : RunF L M A h t R := fun s E Q hs hQ => by
  subst hs
  exact r.use (Ext.refl _) fun v h' tk e hr => hQ v h' tk (ExtL.of e) hr
theorem RunF.conseq (r : RunF L M A h t R) (hR : ∀ h' v, ExtL L h h' → R h' v → R' h' v) : RunF L M A h t R' := fun s E Q hs hQ => r s E Q hs fun v h' tk e hr => hQ v h' tk e (hR h' v e hr)
end
theorem fil_obj {w : World} : ∃ o : Obj, (∃ fd, o.data = Data.func fd) ∧ ∀ h', Bs w h' → h'.get? 75 = some o := by
  refine ⟨_, ?_, fun h' B => B.K 75 _ rfl⟩
  exact ⟨_, rfl⟩
section
variable {prog : Program} {w : World} {A : Around} {L : Addr} {env : Env} {h b : Heap}
theorem evF_filter {func e1 e2 : Expr} {pos : Pos} {xs ys : List Str} (B : Bs w b) (K : LA A env) (hf : Ev (model prog w) A h func env (.val (.ref 75))) (hframe : env.frame = some L)
    (h1 : ∀ h', Ext h h' → RunF L (model prog w) A h' (eval e1 env) fun h' v => Is h' v (.tl xs)) (h2 : ∀ h', ExtL L h h' → Ev (model prog w) A h' e2 env (.pl ys)) (hb : ∀ h', ExtL L h h' → Ext b h' ∧ Stk h' [env]) (hlen : xs.length ≤ 4096)
    (he1 : eval (.Call func [e1, e2] [] pos) env = (do callWith pos (← eval func env) [] (backTo pos (starEach [e1, e2] env)) (backToKw pos (keywordEach [] env))) := by rfl)
    (he2 : starEach [e1, e2] env = (false, eval e1 env) :: starEach [e2] env := by rfl) (he3 : starEach [e2] env = (false, eval e2 env) :: starEach [] env := by rfl) :
    RunF L (model prog w) A h (eval (.Call func [e1, e2] [] pos) env) fun h' v => ∃ a, v = .ref a ∧ h.get? a = none ∧ PL h' a (xs.filter (keepF ys)) := by
  intro s E Q hs hQ
  subst hs
  refine Call_ (hf.use (Ext.refl _) fun v h₁ tk₁ e₁ hv => ?_) he1
  obtain rfl : v = .ref 75 := hv
  have l1 : ExtL L s.heap h₁ := ExtL.of e₁
  obtain ⟨o, ⟨fd, hdat⟩, hob⟩ := fil_obj (w := w)
  refine callWith_def hdat ?_ he2
  refine args_cons ?_ he2
  refine h1 h₁ e₁ _ _ _ rfl fun u h₂ tk₂ e₂ hu => args_cons ?_ he3
  have l2 := l1.trans e₂
  refine (h2 h₂ l2).use (Ext.refl _) fun u' h₃ tk₃ e₃ hu' => args_nil ?_
  have l3 := l2.trans (ExtL.of e₃)
  obtain ⟨hb3, hst3⟩ := hb h₃ l3
  refine ⟨hob _ (B.up hb3), ?_⟩
  obtain ⟨a, rfl, ta⟩ := hu
  obtain ⟨a', rfl, pa⟩ := hu'
  have fr1 : frs [env] = [L] := by simp [frs, hframe]
  refine fil_call (fl := [env]) B hb3 (ta.ext e₃) pa K.hh (by have := K.room; omega) K.fr hst3 hlen fun S h' tk hS hp hx => ?_
  rw [fr1] at hx
  exact hQ _ h' tk (l3.trans hx) ⟨S, rfl, ExtL.none l3 hS, hp⟩

theorem tstF_or {x : Expr} {rest : List Expr} {pos : Pos} {a c : Bool} (hx : RunF L (model prog w) A h (isTrue x env (eval x env)) fun _ v => v = a)
    (hr : ∀ h', ExtL L h h' → a = false → RunF L (model prog w) A h' (isTrue (.BoolOp .Or rest pos) env (eval (.BoolOp .Or rest pos) env)) fun _ v => v = c) :
    RunF L (model prog w) A h (isTrue (.BoolOp .Or (x :: rest) pos) env (eval (.BoolOp .Or (x :: rest) pos) env)) fun _ v => v = (a || c) := by
  intro s E Q hs hQ
  refine isTrue_or (hx s E _ hs fun v h₁ tk₁ e₁ hv => ?_)
  subst hv
  cases v with
  | true => exact hQ _ h₁ tk₁ e₁ rfl
  | false => exact hr h₁ e₁ rfl _ _ _ rfl fun u h₂ tk₂ e₂ hu => hQ _ h₂ tk₂ (e₁.trans e₂) (by subst hu; rfl)
theorem tstF_compare {l r : Expr} {op : CmpOp} {pos : Pos} {xs ys : List Str} {c : Bool} (hl : RunF L (model prog w) A h (eval l env) fun h' v => Is h' v (.tl xs))
    (hr : ∀ h', ExtL L h h' → RunF L (model prog w) A h' (eval r env) fun h' v => Is h' v (.tl ys))
    (h3 : ∀ a b h₂, Is h₂ a (.tl xs) → Is h₂ b (.tl ys) → Runs (model prog w) A h₂ (compareOp op a b) fun _ v => v = .bool c) (hm : behindInMarks op r = false) :
    RunF L (model prog w) A h (isTrue (.Compare l [op] [r] pos) env (eval (.Compare l [op] [r] pos) env)) fun _ v => v = c := by
  intro s E Q hs hQ
  refine wpAny_isTrue_Compare1 (hl s E _ hs fun a h₁ tk₁ e₁ ha => hr h₁ e₁ _ _ _ rfl fun b h₂ tk₂ e₂ hb => ?_) hm
  obtain ⟨i, rfl, ti⟩ := ha
  exact (h3 _ b h₂ ⟨i, rfl, TL.extL e₂ ti⟩ hb).use (Ext.refl _) fun v h₃ tk₃ e₃ hv => by subst hv; exact wpAny_truthy_bool (hQ c h₃ tk₃ ((e₁.trans e₂).trans (ExtL.of e₃)) rfl)
end
end Mine
end

section
open PySem PySem.W PyProof.Rows PySem.Calls
set_option Elab.async false
set_option maxRecDepth 100000
set_option maxHeartbeats 2000000
namespace Mine
section
variable {prog : Program} {w : World} {A : Around} {E : Value → Shared → Prop} {Q : Flow → Shared → Prop} {L fa : Addr} {cd : Value} {Mu : List Addr} {b G : Heap} {m cv : Str → Option Value} {s : Shared}
theorem Lw.stk {h : Heap} (X : Lw L Mu b G h m cv) : Stk h [lawE L fa cd] := lawStk rfl rfl X
theorem Lw.afterL {h h' : Heap} (X : Lw L Mu b G h m cv) (e : ExtL L h h') : Ext b h' ∧ Stk h' [lawE L fa cd] := ⟨(X.filt e).base, (X.filt e).stk⟩
/-- x.append(_filter(..)) -/
theorem app_stmtF {v : Str} {elt : Expr} {np apos cpos epos : Pos} {a : Addr} {rows : List (List Str)} {xs : List Str} (X : Lw L Mu b G s.heap m cv) (O : Own L Mu a)
    (hv : Ev (model prog w) A s.heap (.Name v np) (lawE L fa cd) (.val (.ref a))) (R : Rows G s.heap a rows) (hlen : rows.length ≤ 4000)
    (he : ∀ h', Ext s.heap h' → RunF L (model prog w) A h' (eval elt (lawE L fa cd)) fun h'' y => ∃ d, y = .ref d ∧ h'.get? d = none ∧ PL h'' d xs)
    (hQ : ∀ h' tk, Lw L Mu b (hideAll h' Mu) h' m cv → Rows (hideAll h' Mu) h' a (rows ++ [xs]) → Ext G (hideAll h' Mu) → (∀ i o, i ≠ a → i ≠ L → s.heap.get? i = some o → h'.get? i = some o) → Q .next { s with heap := h', toks := tk })
    (hbase : attributeBase (.Name v np) "append" (lawE L fa cd) (eval (.Name v np) (lawE L fa cd)) = eval (.Name v np) (lawE L fa cd) := by rfl)
    (hfew : ((backTo cpos (starEach [elt] (lawE L fa cd))).all (fun x => !x.1) && (backToKw cpos (keywordEach [] (lawE L fa cd))).all (fun x => x.1.isSome)
      && decide (([elt] : List Expr).length + ([] : List Keyword).length + (if ([] : List Keyword).isEmpty then 0 else 1) < 30)) = true := by rfl)
    (hline : (apos.endLine == cpos.line) = true := by rfl) (htrees : backTo cpos (starEach [elt] (lawE L fa cd)) = [(false, eval elt (lawE L fa cd))] := by rfl) :
    wpAny (model prog w) A (exec (.Expr (.Call (.Attribute (.Name v np) "append" apos) [elt] [] cpos) epos) (lawE L fa cd)) Q E s := by
  obtain ⟨vs, c, ho, p⟩ := R
  refine wpAny_Expr (wpAny_Call_append hbase hfew hline htrees (hv.use (Ext.refl _) fun u h₁ tk₁ e₁ hu => ?_)) rfl rfl
  obtain rfl : u = .ref a := hu
  refine ⟨a, vs.toArray, rfl, ⟨_, c, e₁ _ _ ho, rfl, rfl, rfl⟩, ?_⟩
  refine he h₁ e₁ _ _ _ rfl fun y h₂ tk₂ e₂ hy => ?_
  obtain ⟨d, rfl, hd, pl⟩ := hy
  have k2 : ∀ i o, i ≠ L → s.heap.get? i = some o → h₂.get? i = some o := fun i o hi e => e₂.keep i o id (by simpa using hi) (e₁ _ _ e)
  refine append_at (hsz := by show vs.toArray.size ≤ sizeLine; rw [List.size_toArray, p.len, sizeLine_eq]; omega) (k2 _ _ O.ne ho) fun h₃ hs₃ ho₃ => ?_
  have k3 : ∀ i o, i ≠ a → h₂.get? i = some o → h₃.get? i = some o := fun i o hi e => (hs₃.2 i hi).trans e
  have X₁ := X.up e₁
  have X₃ := (X₁.filt e₂).but O.mem O.ne O.cell ho₃ hs₃
  have hda : d ≠ a := fun q => by have := e₁ _ _ ho; rw [← q, hd] at this; cases this
  obtain ⟨ws, ⟨n, hpl⟩, hws⟩ := pl
  refine hQ h₃ tk₂ X₃.grow ⟨vs ++ [.ref d], c + 1, ?_, (p.ext X₃.into).snoc ⟨ws, ⟨n, X₁.fresh hd (k3 _ _ hda hpl)⟩, hws⟩⟩ X₃.into fun i o hi hL e => k3 i o hi (k2 i o hL e)
  rw [ho₃]; simp

/-- the last of a growing list -/
theorem ev_last {h : Heap} {value slice : Expr} {pos : Pos} {a : Addr} {rows : List (List Str)} {xs : List Str} {env : Env} (hv : Ev (model prog w) A h value env (.val (.ref a))) (hs : Ev (model prog w) A h slice env (.int (-1)))
    (R : Rows G h a (rows ++ [xs])) (hG : Ext G h) (hg : ∀ o i, subscripted slice false o i = operate [o, i] (getItem o i)) (hr : rows.length ≤ 4000) :
    Ev (model prog w) A h (.Subscript value slice pos) env (.pl xs) := by
  obtain ⟨vs, c, ho, p⟩ := R
  obtain ⟨d, hd, pd⟩ := p.at (i := rows.length) (xs := xs) (by simp)
  have hl := p.len
  rw [List.length_append, List.length_singleton] at hl
  refine ev_subscript (d₁ := .val (.ref a)) (d₂ := .int (-1)) hv hs fun o i h₂ e ho' hi => ?_
  obtain rfl : o = .ref a := ho'
  refine (r_item_list_neg (vs := vs) (k := -1) (x := .ref d) ⟨_, e _ _ ho, rfl, c, rfl⟩ hi (by omega) (by omega) (by decide) ?_ hg).conseq fun h₃ v e₃ hv => ?_
  · rw [show (-1 + (vs.length : Int)).toNat = rows.length by omega]; exact hd
  · subst hv
    exact ⟨d, rfl, (pd.ext hG).ext (e.trans e₃)⟩

/-- lefts.append(_filter(domains, lists[-1])) -/
theorem law_b3 {ds ls : List Str} {dv : Value} {aL aF : Addr} {rowsL rowsF : List (List Str)} (B : Bs w b) (K : LA A (lawE L fa cd)) (X : Lw L Mu b G s.heap m cv) (hd : m "domains" = some dv) (hdv : Is G dv (.pl ds)) (hlen : ds.length ≤ 64)
    (hl : m "lists" = some (.ref aL)) (OL : Own L Mu aL) (RL : Rows G s.heap aL (rowsL ++ [ls])) (hrL : rowsL.length ≤ 4000)
    (hf : m "lefts" = some (.ref aF)) (OF : Own L Mu aF) (RF : Rows G s.heap aF rowsF) (hrF : rowsF.length ≤ 4000)
    (hQ : ∀ h' tk, Lw L Mu b (hideAll h' Mu) h' m cv → Rows (hideAll h' Mu) h' aF (rowsF ++ [ds.filter (keepF ls)]) → Ext G (hideAll h' Mu) → (∀ i o, i ≠ aF → i ≠ L → s.heap.get? i = some o → h'.get? i = some o) → Q .next { s with heap := h', toks := tk }) :
    wpAny (model prog w) A (exec (bSt 3) (lawE L fa cd)) Q E s := by
  refine app_stmtF (xs := ds.filter (keepF ls)) X OF ?_ RF hrF ?_ hQ (by rfl) (by rfl) (by rfl) (by rfl)
  · exact X.lv rfl hf rfl
  · intro h' e
    have X' := X.up e
    refine evF_filter B K ?_ rfl ?_ ?_ ?_ (by omega) (by rfl) (by rfl) (by rfl)
    · exact ev_g B X'.base rfl rfl rfl rfl
    · intro h₂ e₂
      refine RunF.of ?_
      exact (X'.up e₂).lv rfl hd (is_pl_tl hdv)
    · intro h₂ e₂
      have X₂ := X'.filt e₂
      refine ev_last (a := aL) (rows := rowsL) ?_ ?_ (RL.kept fun o ho => e₂.keep _ o id (by simpa using OL.ne) (e _ _ ho)) X₂.gh (fun _ _ => rfl) hrL
      · exact X₂.lv rfl hl rfl
      · exact ev_neg ev_const_int
    · intro h₂ e₂
      exact X'.afterL e₂

/-- gone.append([...]) -/
theorem law_b4 {ds : List Str} {dv hv : Value} {hst : Str} {aG : Addr} {rows : List (List Str)} (B : Bs w b) (K : LA A (lawE L fa cd)) (X : Lw L Mu b G s.heap m cv) (hd : m "domains" = some dv) (hdv : Is G dv (.pl ds)) (hlen : ds.length ≤ 64)
    (hc : cv "host" = some hv) (hhv : Is G hv (.str hst)) (hg : cv "gone" = some (.ref aG)) (O : Own L Mu aG) (R : Rows G s.heap aG rows) (hr : rows.length ≤ 4000) (N : ∀ x ∈ ds, NmOk x) (Nh : NmOk hst)
    (hQ : ∀ h' tk, Lw L Mu b (hideAll h' Mu) h' m cv → Rows (hideAll h' Mu) h' aG (rows ++ [ds.filter (matchedF hst)]) → Ext G (hideAll h' Mu) → (∀ i o, i ≠ aG → s.heap.get? i = some o → h'.get? i = some o) → Q .next { s with heap := h', toks := tk }) :
    wpAny (model prog w) A (exec (bSt 4) (lawE L fa cd)) Q E s := by
  have hcl : (lawCs L).lookup (Str.ofString "host") = some (L + 1 + 1 + 1 + 1) := rfl
  have hcg : (lawCs L).lookup (Str.ofString "gone") = some (L + 1 + 1 + 1) := rfl
  refine app_stmt (xs := ds.filter (matchedF hst)) X O ?_ R hr ?_ hQ (by rfl) (by rfl) (by rfl) (by rfl)
  · exact X.cvE rfl hcg hg rfl
  · refine Runs.conseq (R := fun h' v => NewTL s.heap h' v ((ds.filter (matchedF hst)).map id)) ?_ fun h' v _ hv => by rwa [List.map_id] at hv
    refine comp_tt (cl := [(Str.ofString "host", L + 1 + 1 + 1 + 1)]) (matchedF hst) id K.hh ⟨?_, ?_, ?_, ?_, ?_⟩ ?_ (X.lv rfl hd (is_pl_tl hdv)) ?_ ?_ ?_
    · rfl
    · decide +kernel
    · rfl
    · decide +kernel
    · rfl
    · rw [sizeLine_eq]; omega
    · intro C y t h₂ m₂ hy e hn hx
      have X₂ := X.up e
      have l1 := Nh.len
      have l2 := (N y hy).len
      have l3 := (N y hy).len0
      refine tests_one (tst_bool ?_)
      refine ev_call2 (f := 120) (d := .str hst) (d' := .str y) ?_ ((B.up X₂.base).K _ _ rfl) rfl ?_ ?_ ?_ (by rfl) (by rfl) (by rfl)
      · exact ev_g B X₂.base rfl rfl rfl rfl
      · exact ev_cell rfl rfl rfl (hc ▸ X₂.cl.cell _ _ hcl) (hhv.ext X₂.gh)
      · exact ev_local rfl rfl hn hx ⟨t, rfl⟩
      · intro p q h₃ e₃ hp hq
        exact matched_call B (X₂.base.trans e₃) hp hq (by omega) (by omega) l3 (by have := K.room; omega)
    · intro C y t h₂ m₂ hy _ e hn hx
      exact ev_local rfl rfl hn hx ⟨t, rfl⟩
    · intro _; rfl
end
end Mine
end

section
open PySem PySem.W PyProof.Rows PySem.Calls
set_option Elab.async false
set_option maxRecDepth 100000
set_option maxHeartbeats 2000000
namespace Mine
theorem tok_filter {xs : List Str} {p : Str → Bool} (h : ∀ x ∈ xs, NmOk x) : TOk (xs.filter p) := fun x hx => (h x (List.mem_filter.mp hx).1).ok
theorem pl_tl' {h : Heap} {v : Value} {xs : List Str} (x : ∃ a, v = .ref a ∧ PL h a xs) : Is h v (.tl xs) := let ⟨a, e, p⟩ := x; ⟨a, e, p.tl⟩
section
variable {prog : Program} {w : World} {A : Around} {E : Value → Shared → Prop} {Q : Flow → Shared → Prop} {L fa : Addr} {cd : Value} {Mu : List Addr} {b G : Heap} {m cv : Str → Option Value} {s : Shared}
theorem ifF {t : Expr} {body : List Stmt} {pos : Pos} {env : Env} (ht : RunF L (model prog w) A s.heap (isTrue t env (eval t env)) fun _ c => c = false) (hQ : ∀ h' tk, ExtL L s.heap h' → Q .next { s with heap := h', toks := tk }) :
    wpAny (model prog w) A (exec (.If t body [] pos) env) Q E s :=
  wpAny_If (ht s E _ rfl fun c h' tk e hc => by subst hc; exact wpAny_execs_nil (hQ h' tk e))

theorem law_b5 {ds ls gn : List Str} {dv : Value} {aL aF aG : Addr} {rowsL rowsF rowsG : List (List Str)} (B : Bs w b) (K : LA A (lawE L fa cd)) (X : Lw L Mu b G s.heap m cv) (hd : m "domains" = some dv) (hdv : Is G dv (.pl ds)) (hlen : ds.length ≤ 64)
    (hl : m "lists" = some (.ref aL)) (OL : Own L Mu aL) (RL : Rows G s.heap aL (rowsL ++ [ls])) (hrL : rowsL.length ≤ 4000)
    (hf : m "lefts" = some (.ref aF)) (OF : Own L Mu aF) (RF : Rows G s.heap aF (rowsF ++ [ds.filter (keepF ls)])) (hrF : rowsF.length ≤ 4000)
    (hg : cv "gone" = some (.ref aG)) (OG : Own L Mu aG) (RG : Rows G s.heap aG (rowsG ++ [gn])) (hrG : rowsG.length ≤ 4000) (N : ∀ x ∈ ds, NmOk x)
    (heq : ds.filter (keepF ls) = ds.filter (keepF gn)) (hQ : ∀ h' tk, ExtL L s.heap h' → Q .next { s with heap := h', toks := tk }) :
    wpAny (model prog w) A (exec (bSt 5) (lawE L fa cd)) Q E s := by
  have hcg : (lawCs L).lookup (Str.ofString "gone") = some (L + 1 + 1 + 1) := rfl
  have hun : A.units + 64 < cLine := Nat.lt_of_le_of_lt (by omega) K.units
  have lastF : ∀ h', ExtL L s.heap h' → ∀ p1 p2 p3 p4 p5, Ev (model prog w) A h' (.Subscript (.Name (Str.ofString "lefts") p1) (.UnaryOp .USub (.Constant (.int 1) p5 p2) p3) p4) (lawE L fa cd) (.pl (ds.filter (keepF ls))) := by
    intro h' e p1 p2 p3 p4 p5
    have X' := X.filt e
    refine ev_last (a := aF) (rows := rowsF) ?_ ?_ (RF.kept fun o ho => e.keep _ o id (by simpa using OF.ne) ho) X'.gh (fun _ _ => rfl) hrF
    · exact X'.lv rfl hf rfl
    · exact ev_neg ev_const_int
  refine ifF (L := L) ?_ hQ
  refine RunF.conseq (R := fun _ c => c = ((ds.filter (keepF ls) != ds.filter (keepF gn)) || (((ds.filter (keepF ls)).filter (keepF ls) != ds.filter (keepF ls)) || false))) ?_ fun _ c _ hc => ?_
  rotate_left
  · rw [hc, heq, List.filter_filter]
    have : (ds.filter fun a => keepF ls a && keepF gn a) = ds.filter (keepF gn) := by
      rw [← List.filter_filter, ← heq, List.filter_filter]
      simp
    rw [this]; simp
  refine tstF_or ?_ fun h₁ e₁ _ => tstF_or ?_ fun h₂ e₂ _ => RunF.of tst_or_nil
  · refine tstF_compare (xs := ds.filter (keepF ls)) (ys := ds.filter (keepF gn)) ?_ ?_ ?_ rfl
    · refine RunF.of (Runs.conseq (lastF _ (ExtL.of (Ext.refl _)) _ _ _ _ _) fun _ _ _ hv => is_pl_tl hv)
    · intro h' e
      have X' := X.filt e
      refine RunF.of (Runs.conseq (R := fun h'' v => NewTL h' h'' v ((ds.filter (keepF gn)).map id)) ?_ fun h'' v _ hv => by rw [List.map_id] at hv; exact hv.is)
      refine comp_tt (cl := [(Str.ofString "gone", L + 1 + 1 + 1)]) (keepF gn) id K.hh ⟨?_, ?_, ?_, ?_, ?_⟩ ?_ (X'.lv rfl hd (is_pl_tl hdv)) ?_ ?_ ?_
      · rfl
      · decide +kernel
      · rfl
      · decide +kernel
      · rfl
      · rw [sizeLine_eq]; omega
      · intro C y t h₂ m₂ hy e₂ hn hx
        have X₂ := X'.up e₂
        refine tests_one ?_
        refine tst_compare (d₁ := .str y) (d₂ := .pl gn) ?_ ?_ ?_ rfl
        · exact ev_local rfl rfl hn hx ⟨t, rfl⟩
        · refine ev_last (a := aG) (rows := rowsG) ?_ ?_ (RG.kept fun o ho => e₂ _ _ (e.keep _ o id (by simpa using OG.ne) ho)) X₂.gh (fun _ _ => rfl) hrG
          · exact ev_cell (d := .val (.ref aG)) rfl rfl rfl (hg ▸ X₂.cl.cell _ _ hcg) rfl
          · exact ev_neg ev_const_int
        · intro p q h₃ e₃ hp hq
          exact r_notin hp (is_pl_tl hq)
      · intro C y t h₂ m₂ hy _ e hn hx
        exact ev_local rfl rfl hn hx ⟨t, rfl⟩
      · intro _; rfl
    · intro p q h' hp hq
      exact r_nel hp hq hun (tok_filter N) (tok_filter N)
  · have X₁ := X.filt e₁
    refine tstF_compare (xs := (ds.filter (keepF ls)).filter (keepF ls)) (ys := ds.filter (keepF ls)) ?_ ?_ ?_ rfl
    · refine RunF.conseq (R := fun h' v => ∃ a, v = .ref a ∧ h₁.get? a = none ∧ PL h' a ((ds.filter (keepF ls)).filter (keepF ls))) ?_ fun h' v _ hv => by obtain ⟨a, rfl, _, p⟩ := hv; exact ⟨a, rfl, p.tl⟩
      refine evF_filter B K ?_ rfl ?_ ?_ ?_ (Nat.le_trans (List.length_filter_le _ _) (by omega)) (by rfl) (by rfl) (by rfl)
      · exact ev_g B X₁.base rfl rfl rfl rfl
      · intro h' e
        exact RunF.of (Runs.conseq (lastF _ (e₁.trans (ExtL.of e)) _ _ _ _ _) fun _ _ _ hv => is_pl_tl hv)
      · intro h' e
        have X' := X₁.filt e
        refine ev_last (a := aL) (rows := rowsL) ?_ ?_ (RL.kept fun o ho => e.keep _ o id (by simpa using OL.ne) (e₁.keep _ o id (by simpa using OL.ne) ho)) X'.gh (fun _ _ => rfl) hrL
        · exact X'.lv rfl hl rfl
        · exact ev_neg ev_const_int
      · intro h' e
        exact X₁.afterL e
    · intro h' e
      exact RunF.of (Runs.conseq (lastF _ (e₁.trans e) _ _ _ _ _) fun _ _ _ hv => is_pl_tl hv)
    · intro p q h' hp hq
      exact r_nel hp hq hun (fun x hx => tok_filter N x (List.mem_filter.mp hx).1) (tok_filter N)
end
end Mine
end

section
open PySem PySem.W PyProof.Rows PySem.Calls
set_option Elab.async false
set_option maxRecDepth 100000
set_option maxHeartbeats 2000000
namespace Mine
structure Vals where
  ns : List Str
  ks : List Str
  ds : List Str
  hs : List Str
  nv : Value
  kv : Value
  dv : Value
  hv : Value
  aL : Addr
  aF : Addr
  aG : Addr
/-- the law's state from the loops on -/
structure Cx (L : Addr) (Mu : List Addr) (b : Heap) (V : Vals) (rL rF rG : List (List Str)) (G h : Heap) (m cv : Str → Option Value) : Prop where
  X : Lw L Mu b G h m cv
  mn : cv "names" = some V.nv
  fn : Is G V.nv (.pl V.ns)
  mkk : m "kinds" = some V.kv
  fk : Is G V.kv (.pl V.ks)
  md : m "domains" = some V.dv
  fd : Is G V.dv (.pl V.ds)
  mh : m "hosts" = some V.hv
  fh : Is G V.hv (.pl V.hs)
  ml : m "lists" = some (.ref V.aL)
  mf : m "lefts" = some (.ref V.aF)
  mg : cv "gone" = some (.ref V.aG)
  OL : Own L Mu V.aL
  OF : Own L Mu V.aF
  OG : Own L Mu V.aG
  nLF : V.aL ≠ V.aF
  nLG : V.aL ≠ V.aG
  nFG : V.aF ≠ V.aG
  RL : Rows G h V.aL rL
  RF : Rows G h V.aF rF
  RG : Rows G h V.aG rG
/-- what is known of the names -/
structure Vok (V : Vals) : Prop where
  ln : V.ns.length ≤ 64
  lk : V.ks.length ≤ 64
  ld : V.ds.length ≤ 64
  lh : V.hs.length ≤ 64
  N : ∀ x ∈ V.ns, NmOk x
  kn : ∀ x ∈ V.ks, x ∈ V.ns
  dn : ∀ x ∈ V.ds, x ∈ V.ns
  hn : ∀ x ∈ V.hs, x ∈ V.ns
  P : ∀ x ∈ V.ns, ∀ y ∈ V.ns, udmF x y = matchedF x y
  left : ∀ h ∈ V.hs, V.ds.filter (keepF (listF V.ks h)) = V.ds.filter (keepF (V.ds.filter (matchedF h)))

section
variable {prog : Program} {w : World} {A : Around} {E : Value → Shared → Prop} {Q : Flow → Shared → Prop} {L fa : Addr} {cd : Value} {Mu : List Addr} {b G : Heap} {m cv : Str → Option Value} {s : Shared} {V : Vals} {rL rF rG : List (List Str)}
theorem Rows.mv {G G' h h' : Heap} {a : Addr} {rows : List (List Str)} (x : Rows G h a rows) (e : Ext G G') (k : ∀ o, h.get? a = some o → h'.get? a = some o) : Rows G' h' a rows := (x.ext e).kept k

/-- one turn of the host loop -/
theorem law_turn {hv' : Value} {hst : Str} (B : Bs w b) (K : LA A (lawE L fa cd)) (C : Cx L Mu b V rL rF rG G s.heap m cv) (O : Vok V) (hhst : hst ∈ V.hs) (hc : cv "host" = some hv') (hhv : Is G hv' (.str hst)) (h1 : rL.length ≤ 4000) (h2 : rF.length ≤ 4000) (h3 : rG.length ≤ 4000)
    (hQ : ∀ h' tk G' m', Cx L Mu b V (rL ++ [listF V.ks hst]) (rF ++ [V.ds.filter (keepF (listF V.ks hst))]) (rG ++ [V.ds.filter (matchedF hst)]) G' h' m' cv → Ext G G' → Q .next { s with heap := h', toks := tk }) :
    wpAny (model prog w) A (execs (loopBody (lawSt 4)) (lawE L fa cd)) Q E s := by
  show wpAny _ _ (execs [bSt 0, bSt 1, bSt 2, bSt 3, bSt 4, bSt 5] _) _ _ _
  have hhn := O.hn hst hhst
  have Nh := O.N hst hhn
  have Nk : ∀ x ∈ V.ks, NmOk x := fun x hx => O.N x (O.kn x hx)
  have Nd : ∀ x ∈ V.ds, NmOk x := fun x hx => O.N x (O.dn x hx)
  have Pk : ∀ x ∈ V.ks, udmF hst x = matchedF hst x := fun x hx => O.P hst hhn x (O.kn x hx)
  refine wpAny_execs_cons (law_b0 B K C.X C.mkk C.fk hc hhv O.lk Nk Nh fun k₁ tk₁ ta X₁ hta e₁ q₁ => ?_)
  -- told's test
  refine wpAny_execs_cons (law_b1 (tv := .ref ta) (s := { s with heap := k₁, toks := tk₁ }) B K X₁ C.mkk (C.fk.ext e₁) hc (hhv.ext e₁) rfl hta O.lk Nk Nh Pk fun k₂ tk₂ e₂ => ?_)
  have X₂ := (X₁.up e₂)
  have k12 : ∀ i o, i ≠ L → s.heap.get? i = some o → k₂.get? i = some o := fun i o hi e => e₂ _ _ (q₁ i o hi e)
  -- lists.append
  refine wpAny_execs_cons (law_b2 (tv := .ref ta) (s := { s with heap := k₂, toks := tk₂ }) (rows := rL) B K X₂ C.mkk (C.fk.ext e₁) hc (hhv.ext e₁) rfl hta O.lk C.ml C.OL (C.RL.mv e₁ fun o => k12 _ o C.OL.ne) h1 fun k₃ tk₃ X₃ RL₃ e₃ q₃ => ?_)
  have E3 := e₁.trans e₃
  have F3 : Rows (hideAll k₃ Mu) k₃ V.aF rF := C.RF.mv E3 fun o ho => q₃ _ o (Ne.symm C.nLF) (k12 _ o C.OF.ne ho)
  have G3 : Rows (hideAll k₃ Mu) k₃ V.aG rG := C.RG.mv E3 fun o ho => q₃ _ o (Ne.symm C.nLG) (k12 _ o C.OG.ne ho)
  -- lefts.append
  refine wpAny_execs_cons (law_b3 (s := { s with heap := k₃, toks := tk₃ }) (rowsL := rL) (rowsF := rF) B K X₃ C.md (C.fd.ext E3) O.ld C.ml C.OL RL₃ h1 C.mf C.OF F3 h2 fun k₄ tk₄ X₄ RF₄ e₄ q₄ => ?_)
  have E4 := E3.trans e₄
  have L4 := RL₃.mv e₄ fun o ho => q₄ V.aL o C.nLF C.OL.ne ho
  have G4 := G3.mv e₄ fun o ho => q₄ V.aG o (Ne.symm C.nFG) C.OG.ne ho
  -- gone.append
  refine wpAny_execs_cons (law_b4 (s := { s with heap := k₄, toks := tk₄ }) (rows := rG) B K X₄ C.md (C.fd.ext E4) O.ld hc (hhv.ext E4) C.mg C.OG G4 h3 Nd Nh fun k₅ tk₅ X₅ RG₅ e₅ q₅ => ?_)
  have E5 := E4.trans e₅
  have L5 := L4.mv e₅ fun o ho => q₅ V.aL o C.nLG ho
  have F5 := RF₄.mv e₅ fun o ho => q₅ V.aF o C.nFG ho
  -- the test
  refine wpAny_execs_cons (law_b5 (s := { s with heap := k₅, toks := tk₅ }) (rowsL := rL) (rowsF := rF) (rowsG := rG) B K X₅ C.md (C.fd.ext E5) O.ld C.ml C.OL L5 h1 C.mf C.OF F5 h2 C.mg C.OG RG₅ h3 Nd (O.left hst hhst) fun k₆ tk₆ e₆ => ?_)
  refine wpAny_execs_nil ?_
  have q6 : ∀ {a : Addr}, a ≠ L → ∀ o, k₅.get? a = some o → k₆.get? a = some o := fun ha o ho => e₆.keep _ o id (by simpa using ha) ho
  exact hQ k₆ tk₆ (hideAll k₅ Mu) _ ⟨X₅.filt e₆, C.mn, C.fn.ext E5, C.mkk, C.fk.ext E5, C.md, C.fd.ext E5, C.mh, C.fh.ext E5, C.ml, C.mf, C.mg, C.OL, C.OF, C.OG, C.nLF, C.nLG, C.nFG, L5.kept (q6 C.OL.ne), F5.kept (q6 C.OF.ne), RG₅.kept (q6 C.OG.ne)⟩ E5
end
end Mine
end

section
open PySem PySem.W PyProof.Rows PySem.Calls
set_option Elab.async false
set_option maxRecDepth 100000
set_option maxHeartbeats 2000000
namespace Mine
section
variable {L : Addr} {Mu : List Addr} {b G h h' : Heap} {m cv : Str → Option Value} {V : Vals} {rL rF rG : List (List Str)} {I : Addr}
theorem Lw.other (X : Lw L Mu b G h m cv) (hI : I ∉ Mu) (hG : G.get? I = none) (kk : ∀ a o, a ≠ I → h.get? a = some o → h'.get? a = some o) : Lw L Mu b G h' m cv := by
  have nm : ∀ {a}, a ∈ Mu → a ≠ I := fun ha q => hI (q ▸ ha)
  refine ⟨fun a o e => kk a o (fun q => by rw [q, hG] at e; cases e) (X.gh a o e), X.bG, X.mu, fun a ha => let ⟨o, ho⟩ := X.ex a ha; ⟨o, kk a o (nm ha) ho⟩, X.ns.at' fun o e => kk _ o (nm X.Lm) e, ⟨fun n c e => let ⟨o, ho, r⟩ := X.cl.cell n c e; ⟨o, kk c o (nm (X.cm n c e)) ho, r⟩, X.cl.apart, X.cl.above⟩, X.Lm, X.cm⟩
theorem Lw.hideG (X : Lw L Mu b G h m cv) (hb : b.get? I = none) : Lw L Mu b (G.hide I) h m cv :=
  ⟨fun a o e => X.gh a o (Heap.of_hide e), fun a o e => (Heap.hide_ne _ fun q => by rw [q, hb] at e; cases e).trans (X.bG a o e), (fun a ha => by
    cases q : (G.hide I).get? a with
    | none => rfl
    | some o => have := Heap.of_hide q; rw [X.mu a ha] at this; cases this), X.ex, X.ns, X.cl, X.Lm, X.cm⟩
theorem PL.hide {a : Addr} {xs : List Str} {o : Obj} {fs : Array Value} (p : PL G a xs) (hg : Ext G h) (ho : h.get? I = some o) (hd : o.data = .fields fs) : PL (G.hide I) a xs := by
  obtain ⟨vs, ⟨n, hp⟩, hv⟩ := p
  refine ⟨vs, ⟨n, (Heap.hide_ne _ fun q => ?_).trans hp⟩, hv⟩
  have := hg _ _ hp
  rw [q, ho] at this
  obtain rfl := Option.some.inj this
  cases hd
theorem is_pl_hide {v : Value} {xs : List Str} {o : Obj} {fs : Array Value} (p : Is G v (.pl xs)) (hg : Ext G h) (ho : h.get? I = some o) (hd : o.data = .fields fs) : Is (G.hide I) v (.pl xs) := let ⟨a, e, q⟩ := p; ⟨a, e, q.hide hg ho hd⟩
theorem PLs.hide {o : Obj} {fs : Array Value} (hg : Ext G h) (ho : h.get? I = some o) (hd : o.data = .fields fs) : ∀ {vs : List Value} {xss : List (List Str)}, PLs G vs xss → PLs (G.hide I) vs xss
  | _, _, .nil => .nil
  | _, _, .cons x r => .cons (x.hide hg ho hd) (PLs.hide hg ho hd r)
theorem Cx.hideG {o : Obj} {fs : Array Value} (C : Cx L Mu b V rL rF rG G h m cv) (hb : b.get? I = none) (ho : h.get? I = some o) (hd : o.data = .fields fs) : Cx L Mu b V rL rF rG (G.hide I) h m cv :=
  have g := C.X.gh
  ⟨C.X.hideG hb, C.mn, is_pl_hide C.fn g ho hd, C.mkk, is_pl_hide C.fk g ho hd, C.md, is_pl_hide C.fd g ho hd, C.mh, is_pl_hide C.fh g ho hd, C.ml, C.mf, C.mg, C.OL, C.OF, C.OG, C.nLF, C.nLG, C.nFG,
    (let ⟨vs, c, x, p⟩ := C.RL; ⟨vs, c, x, p.hide g ho hd⟩), (let ⟨vs, c, x, p⟩ := C.RF; ⟨vs, c, x, p.hide g ho hd⟩), (let ⟨vs, c, x, p⟩ := C.RG; ⟨vs, c, x, p.hide g ho hd⟩)⟩
theorem Cx.mv {G' : Heap} {m' cv' : Str → Option Value} (C : Cx L Mu b V rL rF rG G h m cv) (X' : Lw L Mu b G' h' m' cv') (e : Ext G G') (hm : ∀ x, x = Str.ofString "kinds" ∨ x = Str.ofString "domains" ∨ x = Str.ofString "hosts" ∨ x = Str.ofString "lists" ∨ x = Str.ofString "lefts" → m' x = m x)
    (hc : ∀ x, x = Str.ofString "names" ∨ x = Str.ofString "gone" → cv' x = cv x) (k : ∀ a o, a = V.aL ∨ a = V.aF ∨ a = V.aG → h.get? a = some o → h'.get? a = some o) : Cx L Mu b V rL rF rG G' h' m' cv' :=
  ⟨X', (hc _ (.inl rfl)).trans C.mn, C.fn.ext e, (hm _ (.inl rfl)).trans C.mkk, C.fk.ext e, (hm _ (.inr (.inl rfl))).trans C.md, C.fd.ext e, (hm _ (.inr (.inr (.inl rfl)))).trans C.mh, C.fh.ext e, (hm _ (.inr (.inr (.inr (.inl rfl))))).trans C.ml, (hm _ (.inr (.inr (.inr (.inr rfl))))).trans C.mf, (hc _ (.inr rfl)).trans C.mg,
    C.OL, C.OF, C.OG, C.nLF, C.nLG, C.nFG, C.RL.mv e fun o => k _ o (.inl rfl), C.RF.mv e fun o => k _ o (.inr (.inl rfl)), C.RG.mv e fun o => k _ o (.inr (.inr rfl))⟩
theorem Cx.other (C : Cx L Mu b V rL rF rG G h m cv) (hI : I ∉ Mu) (hG : G.get? I = none) (kk : ∀ a o, a ≠ I → h.get? a = some o → h'.get? a = some o) : Cx L Mu b V rL rF rG G h' m cv :=
  C.mv (C.X.other hI hG kk) (Ext.refl _) (fun _ _ => rfl) (fun _ _ => rfl) fun a o ha e => kk a o (by rintro rfl; rcases ha with q | q | q <;> exact hI (q ▸ by first | exact C.OL.mem | exact C.OF.mem | exact C.OG.mem)) e
end
section
variable {prog : Program} {w : World} {A : Around} {E : Value → Shared → Prop} {Q : Flow → Shared → Prop} {L fa : Addr} {cd : Value} {Mu : List Addr} {b G : Heap} {m cv : Str → Option Value} {s : Shared} {V : Vals}
/-- for host in hosts -/
theorem law_s4 (B : Bs w b) (K : LA A (lawE L fa cd)) (C : Cx L Mu b V [] [] [] G s.heap m cv) (O : Vok V)
    (hQ : ∀ h' tk G' m' cv', Cx L Mu b V (V.hs.map (listF V.ks)) (V.hs.map fun x => V.ds.filter (keepF (listF V.ks x))) (V.hs.map fun x => V.ds.filter (matchedF x)) G' h' m' cv' → Ext G G' → Q .next { s with heap := h', toks := tk }) :
    wpAny (model prog w) A (exec (lawSt 4) (lawE L fa cd)) Q E s := by
  have hlh := O.lh
  refine wpAny_For ?_ (by intro _; rfl)
  refine Runs.use (R := fun h' v => v = V.hv) (h := s.heap) (C.X.lv (d := .val V.hv) rfl C.mh rfl) (Ext.refl _) fun v h₁ tk₁ e₁ hv => ?_
  subst hv
  obtain ⟨l, hl, vs, ⟨n, hpl⟩, hvs⟩ := C.fh
  rw [hl]
  have X₁ := C.X.up e₁
  have hpl₁ := X₁.gh _ _ hpl
  refine wpAny_pyIter_list ⟨_, hpl₁, rfl, n, rfl⟩ ?_
  have hIn : h₁.get? h₁.objs.size = none := Heap.get?_none_of_le (Nat.le_refl _)
  have e₂ : Ext h₁ (h₁.push { cls := .type "list_iterator", data := .fields #[.ref l, .int 0 0] }) := (Ext.refl _).push _
  have hit : (h₁.push { cls := .type "list_iterator", data := .fields #[.ref l, .int 0 0] }).IsListIter h₁.objs.size l 0 := ⟨_, Heap.get?_push_size _ rfl, rfl, rfl⟩
  dsimp only
  generalize h₁.push { cls := .type "list_iterator", data := .fields #[.ref l, .int 0 0] } = h₂ at e₂ hit ⊢
  generalize h₁.objs.size = I at hIn hit ⊢
  have hIM : I ∉ Mu := fun hm => by obtain ⟨o, ho⟩ := X₁.ex I hm; rw [hIn] at ho; cases ho
  have gn : G.get? I = none := by
    cases q : G.get? I with
    | none => rfl
    | some o => have := X₁.gh _ _ q; rw [hIn] at this; cases this
  have bn : b.get? I = none := by
    cases q : b.get? I with
    | none => rfl
    | some o => have := C.X.bG _ _ q; rw [gn] at this; cases this
  have C₂ : Cx L Mu b V [] [] [] G h₂ m cv := C.mv (X₁.up e₂) (Ext.refl _) (fun _ _ => rfl) (fun _ _ => rfl) fun a o _ e => e₂ _ _ (e₁ _ _ e)
  refine codeAny_forLoop (R := fun r s' => match r with | .ok f => Q f s' | .error e => cameBackBy (model prog w) A (lawE L fa cd) E e s')
    (fun k s' => ∃ i h tk G' m' cv', s' = { s with heap := h, toks := tk } ∧ k = V.hs.length - i ∧ i ≤ V.hs.length ∧ Cx L Mu b V ((V.hs.take i).map (listF V.ks)) ((V.hs.take i).map fun x => V.ds.filter (keepF (listF V.ks x))) ((V.hs.take i).map fun x => V.ds.filter (matchedF x)) G' h m' cv' ∧ Ext G G' ∧ G'.get? I = none ∧ h.IsListIter I l i)
    ?_ V.hs.length ⟨0, h₂, tk₁, G, m, cv, rfl, rfl, Nat.zero_le _, C₂, Ext.refl _, gn, hit⟩
  rintro k s' ⟨i, h, tk, G', m', cv', rfl, rfl, hi, C', eG, gI, hit'⟩
  have hlist : h.IsList l vs.toArray := ⟨_, C'.X.gh _ _ (eG _ _ hpl), rfl, n, rfl⟩
  cases hx : V.hs[i]? with
  | none =>
    have hii : i = V.hs.length := Nat.le_antisymm hi (List.getElem?_eq_none_iff.mp hx)
    subst hii
    refine wpAny_pyNext_list_end K.hh hit' hlist (by rw [List.getElem?_toArray]; exact strs_end hvs hx) fun h₃ hs₃ => ?_
    refine wpAny_execs_nil ?_
    rw [List.take_length] at C'
    exact hQ h₃ _ G' m' cv' (C'.other hIM gI fun a o hn e => hs₃ a o hn e) eG
  | some hst =>
    have hlt : i < V.hs.length := (List.getElem?_eq_some_iff.mp hx).1
    have hmem : hst ∈ V.hs := List.mem_of_getElem? hx
    obtain ⟨t, ht⟩ := strs_at hvs hx
    refine wpAny_pyNext_list_item hit' hlist (by rw [List.getElem?_toArray]; exact ht) fun h₃ hit₃ hs₃ => ?_
    have C₃ := C'.other hIM gI fun a o hn e => (hs₃.2 a hn).trans e
    have hcl : (lawCs L).lookup (Str.ofString "host") = some (L + 1 + 1 + 1 + 1) := rfl
    refine wpAny_assign_Name (wpAny_storeName_cell (c := L + 1 + 1 + 1 + 1) rfl rfl rfl (C₃.X.cl.cell _ _ hcl) fun h₄ hc₄ hs₄ => ?_)
    have X₄ := C₃.X.setC hcl hc₄ hs₄
    have hIc : I ≠ L + 1 + 1 + 1 + 1 := fun q => hIM (q ▸ C₃.X.cm _ _ hcl)
    have C₄ : Cx L Mu b V ((V.hs.take i).map (listF V.ks)) ((V.hs.take i).map fun x => V.ds.filter (keepF (listF V.ks x))) ((V.hs.take i).map fun x => V.ds.filter (matchedF x)) (hideAll h₄ Mu) h₄ m' (fun y => if y = Str.ofString "host" then some (.str hst t) else cv' y) :=
      C₃.mv X₄.grow X₄.into (fun _ _ => rfl) (fun x hx' => if_neg (by rcases hx' with rfl | rfl <;> decide)) fun a o ha e => (hs₄.2 a (by rcases ha with rfl | rfl | rfl <;> first | exact C₃.OL.cell _ _ hcl | exact C₃.OF.cell _ _ hcl | exact C₃.OG.cell _ _ hcl)).trans e
    obtain ⟨oI, hoI, hcI, hdI⟩ := hit₃
    have hI4 : (hideAll h₄ Mu).get? I = some oI := hideAll_get _ ((hs₄.2 I hIc).trans hoI) hIM
    have hle : ∀ f : Str → List Str, ((V.hs.take i).map f).length ≤ 4000 := fun f => by rw [List.length_map, List.length_take]; omega
    refine law_turn (s := { s with heap := h₄, toks := tk }) (hst := hst) (hv' := .str hst t) B K C₄ O hmem (if_pos rfl) ⟨t, rfl⟩ (hle _) (hle _) (hle _) fun h₆ tk₆ G₆ m₆ C₆ e₆ => ?_
    have hI6 : h₆.get? I = some oI := C₆.X.gh _ _ (e₆ _ _ hI4)
    have hT : V.hs.take (i + 1) = V.hs.take i ++ [hst] := by rw [List.take_add_one, hx]; rfl
    have C₇ := C₆.hideG bn hI6 hdI
    refine ⟨V.hs.length - (i + 1), by omega, i + 1, h₆, tk₆, G₆.hide I, m₆, (fun y => if y = Str.ofString "host" then some (.str hst t) else cv' y), rfl, rfl, hlt, ?_, fun a o e => (Heap.hide_ne _ fun q => by rw [q, gn] at e; cases e).trans (e₆ _ _ (X₄.into _ _ (eG _ _ e))), Heap.hide_self _ _, ⟨oI, hI6, hcI, hdI⟩⟩
    rw [hT, List.map_append, List.map_append, List.map_append]
    exact C₇
end
end Mine
end

section
open PySem PySem.W PyProof.Rows PySem.Calls
set_option Elab.async false
set_option maxRecDepth 100000
set_option maxHeartbeats 2000000
namespace Mine
section
variable {prog : Program} {w : World} {A : Around} {E : Value → Shared → Prop} {Q : Flow → Shared → Prop} {L fa : Addr} {cd : Value} {Mu : List Addr} {b G : Heap} {m cv : Str → Option Value} {s : Shared} {V : Vals} {rL rF rG : List (List Str)}
theorem ev_range {h : Heap} {env : Env} {func e : Expr} {pos : Pos} {n : Nat} (hf : Ev (model prog w) A h func env (.val (.type "range"))) (he : Ev (model prog w) A h e env (.int (n : Int)))
    (he1 : eval (.Call func [e] [] pos) env = (do callWith pos (← eval func env) [] (backTo pos (starEach [e] env)) (backToKw pos (keywordEach [] env))) := by rfl)
    (he2 : starEach [e] env = (false, eval e env) :: starEach [] env := by rfl) :
    Runs (model prog w) A h (eval (.Call func [e] [] pos) env) fun h' v => ∃ r t u z, v = .ref r ∧ IsRange h' r 0 (n : Int) 1 t u z := by
  refine ev_tcall1 (T := "range") hf he (fun a h₂ e ha => ?_) he1 he2
  obtain ⟨t, rfl⟩ := ha
  exact .intro fun s _ _ _ hQ => call_range_1 (hQ _ _ (s.toks + 1 + 1) ((Ext.refl _).push _) ⟨_, _, _, _, rfl, Heap.get?_push_size _ rfl⟩)

/-- for x in range(..), x a cell -/
theorem law_for {Keep : Str → Prop} {x : Str} {c : Addr} {px pos : Pos} {iter : Expr} {body : List Stmt} {n : Nat} (K : LA A (lawE L fa cd)) (C : Cx L Mu b V rL rF rG G s.heap m cv) (hn : n ≤ 4096)
    (hcl : (lawCs L).lookup x = some c) (hkx : (lawE L fa cd).kindOf x = some .cell) (hK : ∀ y, Keep y → y ≠ x) (hx1 : Str.ofString "names" ≠ x) (hx2 : Str.ofString "gone" ≠ x)
    (hi : Runs (model prog w) A s.heap (eval iter (lawE L fa cd)) fun h' v => ∃ r t u z, v = .ref r ∧ IsRange h' r 0 (n : Int) 1 t u z) (hs : ∀ x, foldedSetIterable iter (lawE L fa cd) x = pure x)
    (hbody : ∀ i h tk G' m' cv' t, i < n → Cx L Mu b V rL rF rG G' h m' cv' → Ext G G' → cv' x = some (.int (0 + (i : Int)) t) → (∀ y, Keep y → cv' y = cv y) → ∀ (E : Value → Shared → Prop) (Q : Flow → Shared → Prop),
      (∀ h' tk' G'' m'' cv'', Cx L Mu b V rL rF rG G'' h' m'' cv'' → Ext G' G'' → (∀ y, Keep y → cv'' y = cv' y) → Q .next { s with heap := h', toks := tk' }) → wpAny (model prog w) A (execs body (lawE L fa cd)) Q E { s with heap := h, toks := tk })
    (hQ : ∀ h' tk G' m' cv', Cx L Mu b V rL rF rG G' h' m' cv' → Ext G G' → (∀ y, Keep y → cv' y = cv y) → Q .next { s with heap := h', toks := tk }) :
    wpAny (model prog w) A (exec (.For (.Name x px) iter body [] pos) (lawE L fa cd)) Q E s := by
  refine wpAny_For ?_ hs
  refine hi.use (Ext.refl _) fun v h₁ tk₁ e₁ hv => ?_
  obtain ⟨r, t, u, z, rfl, hr⟩ := hv
  have X₁ := C.X.up e₁
  have hsz : Builtin.Range.rangeSize 0 (n : Int) 1 = (n : Int) := by rw [rangeSize_nat]; omega
  refine wpAny_pyIter_range hr (small_one (by omega) (by omega) (by omega) (by omega)) ?_
  rw [hsz]
  have hIn : h₁.get? h₁.objs.size = none := Heap.get?_none_of_le (Nat.le_refl _)
  have e₂ : Ext h₁ (h₁.push { cls := .type "range_iterator", data := .fields #[rawInt 0, rawInt (n : Int), rawInt 1] }) := (Ext.refl _).push _
  have hit : IsRangeIter (h₁.push { cls := .type "range_iterator", data := .fields #[rawInt 0, rawInt (n : Int), rawInt 1] }) h₁.objs.size (0 + ((0 : Nat) : Int) * 1) ((n : Int) - ((0 : Nat) : Int)) 1 := by
    show Heap.get? _ _ = _
    simpa using Heap.get?_push_size h₁ rfl
  have goal : ∀ h₂ I, Ext h₁ h₂ → h₁.get? I = none → IsRangeIter h₂ I (0 + ((0 : Nat) : Int) * 1) ((n : Int) - ((0 : Nat) : Int)) 1 →
      codeAny (model prog w) A (.forLoop (.Name x px) (.ref I) body [] (lawE L fa cd)) (fun r s' => match r with | .ok f => Q f s' | .error e => cameBackBy (model prog w) A (lawE L fa cd) E e s') { s with heap := h₂, toks := tk₁ } := by
    clear hit e₂ hIn
    intro h₂ I e₂ hIn hit
    have hIM : I ∉ Mu := fun hm => by obtain ⟨o, ho⟩ := X₁.ex I hm; rw [hIn] at ho; cases ho
    have gn : G.get? I = none := by
      cases q : G.get? I with
      | none => rfl
      | some o => have := X₁.gh _ _ q; rw [hIn] at this; cases this
    have bn : b.get? I = none := by
      cases q : b.get? I with
      | none => rfl
      | some o => have := C.X.bG _ _ q; rw [gn] at this; cases this
    have C₂ : Cx L Mu b V rL rF rG G h₂ m cv := C.mv (X₁.up e₂) (Ext.refl _) (fun _ _ => rfl) (fun _ _ => rfl) fun a o _ e => e₂ _ _ (e₁ _ _ e)
    have W := LCg.range_walks (prog := prog) (w := w) (A := A) (I := I) K.hh 0 n
    refine codeAny_forLoop (R := fun r s' => match r with | .ok f => Q f s' | .error e => cameBackBy (model prog w) A (lawE L fa cd) E e s')
      (fun k s' => ∃ i h tk G' m' cv', s' = { s with heap := h, toks := tk } ∧ k = n - i ∧ i ≤ n ∧ Cx L Mu b V rL rF rG G' h m' cv' ∧ Ext G G' ∧ G'.get? I = none ∧ IsRangeIter h I (0 + (i : Int) * 1) ((n : Int) - (i : Int)) 1 ∧ ∀ y, Keep y → cv' y = cv y)
      ?_ n ⟨0, h₂, tk₁, G, m, cv, rfl, rfl, Nat.zero_le _, C₂, Ext.refl _, gn, hit, fun _ _ => rfl⟩
    rintro k s' ⟨i, h, tk, G', m', cv', rfl, rfl, hi, C', eG, gI, hit', hkp⟩
    by_cases hlt : i < n
    · refine W.item i _ _ _ hlt hit' fun v h₃ tk₃ hP hit₃ hk₃ => ?_
      obtain ⟨t, rfl⟩ := hP
      have C₃ := C'.other hIM gI fun a o hn e => hk₃ a o (by simpa using hn) e
      refine wpAny_assign_Name (wpAny_storeName_cell (c := c) rfl hkx hcl (C₃.X.cl.cell _ _ hcl) fun h₄ hc₄ hs₄ => ?_)
      have X₄ := C₃.X.setC hcl hc₄ hs₄
      have hIc : I ≠ c := fun q => hIM (q ▸ C₃.X.cm _ _ hcl)
      have C₄ : Cx L Mu b V rL rF rG (hideAll h₄ Mu) h₄ m' (fun y => if y = x then some (.int (0 + (i : Int)) t) else cv' y) :=
        C₃.mv X₄.grow X₄.into (fun _ _ => rfl) (fun y hy => if_neg (by rcases hy with rfl | rfl <;> assumption)) fun a o ha e => (hs₄.2 a (by rcases ha with rfl | rfl | rfl <;> first | exact C₃.OL.cell _ _ hcl | exact C₃.OF.cell _ _ hcl | exact C₃.OG.cell _ _ hcl)).trans e
      have hI4 : (hideAll h₄ Mu).get? I = some _ := hideAll_get _ ((hs₄.2 I hIc).trans hit₃) hIM
      refine hbody i h₄ tk₃ (hideAll h₄ Mu) m' _ t hlt C₄ (eG.trans X₄.into) (if_pos rfl) (fun y hy => (if_neg (hK y hy)).trans (hkp y hy)) _ _ fun h₆ tk₆ G₆ m₆ cv₆ C₆ e₆ k₆ => ?_
      have hI6 := C₆.X.gh _ _ (e₆ _ _ hI4)
      have C₇ := C₆.hideG bn hI6 rfl
      exact ⟨n - (i + 1), by omega, i + 1, h₆, tk₆, G₆.hide I, m₆, cv₆, rfl, rfl, hlt, C₇, fun a o e => (Heap.hide_ne _ fun q => by rw [q, gn] at e; cases e).trans (e₆ _ _ (X₄.into _ _ (eG _ _ e))), Heap.hide_self _ _, hI6,
        fun y hy => (k₆ y hy).trans ((if_neg (hK y hy)).trans (hkp y hy))⟩
    · obtain rfl : i = n := by omega
      refine W.done _ _ _ hit' fun h₃ tk₃ hk₃ => ?_
      refine wpAny_execs_nil ?_
      exact hQ h₃ _ G' m' cv' (C'.other hIM gI fun a o hn e => hk₃ a o (by simpa using hn) e) eG hkp
  exact goal _ _ e₂ hIn hit
end
end Mine
end

section
open PySem PySem.W PyProof.Rows PySem.Calls
set_option Elab.async false
set_option maxRecDepth 100000
set_option maxHeartbeats 2000000
namespace Mine
theorem keepF_append (a c : List Str) (d : Str) : keepF (a ++ c) d = (keepF a d && keepF c d) := by simp [keepF, List.any_append]
theorem keep_eq {ds l g : List Str} (h : ds.filter (keepF l) = ds.filter (keepF g)) : ∀ d ∈ ds, keepF l d = keepF g d := by
  intro d hd
  have : d ∈ ds.filter (keepF l) ↔ d ∈ ds.filter (keepF g) := by rw [h]
  simp only [List.mem_filter, hd, true_and] at this
  cases h1 : keepF l d <;> cases h2 : keepF g d <;> simp_all
theorem due_1 {ds l1 g1 l2 g2 : List Str} (h1 : ds.filter (keepF l1) = ds.filter (keepF g1)) (h2 : ds.filter (keepF l2) = ds.filter (keepF g2)) : (ds.filter (keepF l1)).filter (keepF l2) = ds.filter (keepF (g1 ++ g2)) := by
  rw [List.filter_filter]
  refine List.filter_congr fun d hd => ?_
  rw [keepF_append, keep_eq h1 d hd, keep_eq h2 d hd, Bool.and_comm]
theorem due_2 {ds l1 g1 l2 g2 : List Str} (h1 : ds.filter (keepF l1) = ds.filter (keepF g1)) (h2 : ds.filter (keepF l2) = ds.filter (keepF g2)) : (ds.filter (keepF l2)).filter (keepF l1) = ds.filter (keepF (g1 ++ g2)) := by
  rw [List.filter_filter]
  refine List.filter_congr fun d hd => ?_
  rw [keepF_append, keep_eq h1 d hd, keep_eq h2 d hd]
theorem due_3 {ds l1 g1 l2 g2 : List Str} (h1 : ds.filter (keepF l1) = ds.filter (keepF g1)) (h2 : ds.filter (keepF l2) = ds.filter (keepF g2)) : ds.filter (keepF (l1 ++ l2)) = ds.filter (keepF (g1 ++ g2)) := by
  refine List.filter_congr fun d hd => ?_
  rw [keepF_append, keepF_append, keep_eq h1 d hd, keep_eq h2 d hd]
section
variable {prog : Program} {w : World} {A : Around} {E : Value → Shared → Prop} {Q : Flow → Shared → Prop} {L fa : Addr} {cd : Value} {Mu : List Addr} {b G : Heap} {m cv : Str → Option Value} {s : Shared} {V : Vals} {rL rF rG : List (List Str)}
theorem ev_at {h : Heap} {value slice : Expr} {pos : Pos} {a : Addr} {rows : List (List Str)} {xs : List Str} {env : Env} {i : Nat} (hv : Ev (model prog w) A h value env (.val (.ref a))) (hs : Ev (model prog w) A h slice env (.int (0 + (i : Int))))
    (R : Rows G h a rows) (hx : rows[i]? = some xs) (hG : Ext G h) (hg : ∀ o i, subscripted slice false o i = operate [o, i] (getItem o i)) (hi : i ≤ 4000) :
    Ev (model prog w) A h (.Subscript value slice pos) env (.pl xs) := by
  obtain ⟨vs, c, ho, p⟩ := R
  obtain ⟨d, hd, pd⟩ := p.at hx
  refine ev_subscript (d₁ := .val (.ref a)) (d₂ := .int (0 + (i : Int))) hv hs fun o j h₂ e ho' hi' => ?_
  obtain rfl : o = .ref a := ho'
  refine (r_item_list (vs := vs) (k := 0 + (i : Int)) (x := .ref d) ⟨_, e _ _ ho, rfl, c, rfl⟩ hi' (by omega) (by omega) ?_ hg).conseq fun h₃ v e₃ hv => ?_
  · rw [show (0 + (i : Int)).toNat = i by omega]; exact hd
  · subst hv
    exact ⟨d, rfl, (pd.ext hG).ext (e.trans e₃)⟩
def inBody : List Stmt := loopBody ((loopBody (lawSt 5)).getD 0 (.Pass ⟨0, 0, 0, 0⟩))
def inSt (n : Nat) : Stmt := inBody.getD n (.Pass ⟨0, 0, 0, 0⟩)

theorem strs_of {p : Str → Bool} : ∀ {vs ys : List Value} {xs : List Str}, vs.length = xs.length → (∀ (j : Nat) v, vs[j]? = some v → ∃ y t, xs[j]? = some y ∧ v = .str y t) → Paired (fun v y => y = v) (vs.filter (strP p)) ys → StrsAre ys (xs.filter p)
  | [], _, [], _, _, h => by cases h; exact .nil
  | v :: vs, _, x :: xs, hl, hp, h => by
    obtain ⟨y, t, hy, rfl⟩ := hp 0 v rfl
    obtain rfl := Option.some.inj hy
    have ih := fun {ys} => strs_of (p := p) (vs := vs) (ys := ys) (xs := xs) (by simpa using hl) (fun j v hv => hp (j + 1) v hv)
    cases hc : p x with
    | true =>
      rw [List.filter_cons_of_pos (show strP p (.str x t) = true from hc)] at h
      rw [List.filter_cons_of_pos hc]
      cases h with | cons h1 h2 => subst h1; exact .cons _ _ (ih h2)
    | false =>
      rw [List.filter_cons_of_neg (show ¬ strP p (.str x t) = true by show ¬ p x = true; rw [hc]; exact Bool.false_ne_true)] at h
      rw [List.filter_cons_of_neg (by rw [hc]; exact Bool.false_ne_true)]
      exact ih h
theorem law_due {gj gk : List Str} {j k : Nat} {tj tk' : Tok} (K : LA A (lawE L fa cd)) (C : Cx L Mu b V rL rF rG G s.heap m cv) (O : Vok V) (hj : cv "j" = some (.int (0 + (j : Int)) tj)) (hk : cv "k" = some (.int (0 + (k : Int)) tk'))
    (hgj : rG[j]? = some gj) (hgk : rG[k]? = some gk) (hlen : gj.length + gk.length ≤ 4000) (hj' : j ≤ 4000) (hk' : k ≤ 4000)
    (hQ : ∀ h' tk da, Cx L Mu b V rL rF rG (hideAll h' Mu) h' (fun y => if y = Str.ofString "due" then some (.ref da) else m y) cv → Is (hideAll h' Mu) (.ref da) (.tl (V.ds.filter (keepF (gj ++ gk)))) → Ext G (hideAll h' Mu) → Q .next { s with heap := h', toks := tk }) :
    wpAny (model prog w) A (exec (inSt 0) (lawE L fa cd)) Q E s := by
  have hcg : (lawCs L).lookup (Str.ofString "gone") = some (L + 1 + 1 + 1) := rfl
  have hcj : (lawCs L).lookup (Str.ofString "j") = some (L + 1 + 1 + 1 + 1 + 1) := rfl
  have hck : (lawCs L).lookup (Str.ofString "k") = some (L + 1 + 1) := rfl
  have hld := O.ld
  refine asg_comp (n := V.ds.length) (P := fun i v => ∃ y t, V.ds[i]? = some y ∧ v = .str y t) (cl := [(Str.ofString "k", L + 1 + 1), (Str.ofString "j", L + 1 + 1 + 1 + 1 + 1), (Str.ofString "gone", L + 1 + 1 + 1)]) (strP (keepF (gj ++ gk))) (fun v y => y = v) ?_ ⟨?_, ?_, ?_, ?_, ?_⟩ ?_ ?_ ?_ C.X.ns ?_ ?_ ?_ ?_ ?_
  · rfl
  · rfl
  · decide +kernel
  · rfl
  · decide +kernel
  · rfl
  · rfl
  · rfl
  · omega
  · refine Runs.conseq (R := fun h' v => Is h' v (.tl V.ds)) ?_ fun h' v _ hv => src_tl K.hh hv
    exact C.X.lv rfl C.md (is_pl_tl C.fd)
  · rintro Cc i v h₂ m₂ ⟨y, t, hy, rfl⟩ e hn hx
    have X₂ := C.X.up e
    have RG₂ := C.RG.kept fun o ho => e _ _ ho
    refine tests_one ?_
    refine tst_compare (d₁ := .str y) (d₂ := .tl (gj ++ gk)) ?_ ?_ ?_ rfl
    · exact ev_local rfl rfl hn hx ⟨t, rfl⟩
    · refine ev_binop (d₁ := .tl gj) (d₂ := .tl gk) ?_ ?_ ?_
      · refine Runs.conseq (ev_at (a := V.aG) (rows := rG) (i := j) ?_ ?_ RG₂ hgj X₂.gh (fun _ _ => rfl) hj') fun _ _ _ hv => is_pl_tl hv
        · exact ev_cell (d := .val (.ref V.aG)) rfl rfl rfl (C.mg ▸ X₂.cl.cell _ _ hcg) rfl
        · exact ev_cell rfl rfl rfl (hj ▸ X₂.cl.cell _ _ hcj) ⟨tj, rfl⟩
      · refine Runs.conseq (ev_at (a := V.aG) (rows := rG) (i := k) ?_ ?_ RG₂ hgk X₂.gh (fun _ _ => rfl) hk') fun _ _ _ hv => is_pl_tl hv
        · exact ev_cell (d := .val (.ref V.aG)) rfl rfl rfl (C.mg ▸ X₂.cl.cell _ _ hcg) rfl
        · exact ev_cell rfl rfl rfl (hk ▸ X₂.cl.cell _ _ hck) ⟨tk', rfl⟩
      · intro p q h₃ e₃ hp hq
        exact (r_addl hp hq (by rw [sizeLine_eq]; omega)).conseq fun _ _ _ hv => hv.is
    · intro p q h₃ e₃ hp hq
      exact r_notin hp hq
  · rintro Cc i v h₂ m₂ ⟨y, t, hy, rfl⟩ _ e hn hx
    refine Runs.conseq (R := fun h' u => Is h' u (.val (.str y t))) ?_ fun _ _ _ h => h
    exact ev_local rfl rfl hn hx rfl
  · intro a h' tk ys vs ha hl hlen' hP hF hn hk₂
    have X' := C.X.setL hn hk₂
    obtain ⟨o, ho, r⟩ := hl
    refine hQ h' tk a (C.mv X'.grow X'.into (fun x hx => if_neg (by rcases hx with rfl | rfl | rfl | rfl | rfl <;> decide)) (fun _ _ => rfl) fun i o hi e => hk₂ i o (by rcases hi with rfl | rfl | rfl <;> first | exact C.OL.ne | exact C.OF.ne | exact C.OG.ne) e) ⟨a, rfl, ys, ⟨o, C.X.fresh ha ho, r⟩, strs_of hlen' hP hF⟩ X'.into
  · intro _; rfl
end
end Mine
end

section
open PySem PySem.W PyProof.Rows PySem.Calls
set_option Elab.async false
set_option maxRecDepth 100000
set_option maxHeartbeats 2000000
namespace Mine
section
variable {prog : Program} {w : World} {A : Around} {E : Value → Shared → Prop} {Q : Flow → Shared → Prop} {L fa : Addr} {cd : Value} {Mu : List Addr} {b G : Heap} {m cv : Str → Option Value} {s : Shared} {V : Vals} {rL rF rG : List (List Str)}
theorem Cx.filt {h h' : Heap} (C : Cx L Mu b V rL rF rG G h m cv) (e : ExtL L h h') : Cx L Mu b V rL rF rG G h' m cv :=
  C.mv (C.X.filt e) (Ext.refl _) (fun _ _ => rfl) (fun _ _ => rfl) fun a o ha x => e.keep a o id (by rcases ha with rfl | rfl | rfl <;> simp [C.OL.ne, C.OF.ne, C.OG.ne]) x
theorem tst_fil {h : Heap} {e1 e2 : Expr} {p p2 p3 p4 : Pos} {xs ys due : List Str} {x : Str} (B : Bs w b) (K : LA A (lawE L fa cd)) (X : Lw L Mu b G h m cv) (hd : ∀ h', ExtL L h h' → Ev (model prog w) A h' (.Name x p3) (lawE L fa cd) (.tl due))
    (h1 : ∀ h', ExtL L h h' → Ev (model prog w) A h' e1 (lawE L fa cd) (.tl xs)) (h2 : ∀ h', ExtL L h h' → Ev (model prog w) A h' e2 (lawE L fa cd) (.pl ys)) (hlen : xs.length ≤ 4096) (k1 : TOk xs) (k2 : TOk due)
    (he1 : eval (.Call (.Name (Str.ofString "_filter") p) [e1, e2] [] p2) (lawE L fa cd) = (do callWith p2 (← eval (.Name (Str.ofString "_filter") p) (lawE L fa cd)) [] (backTo p2 (starEach [e1, e2] (lawE L fa cd))) (backToKw p2 (keywordEach [] (lawE L fa cd)))) := by rfl)
    (he2 : starEach [e1, e2] (lawE L fa cd) = (false, eval e1 (lawE L fa cd)) :: starEach [e2] (lawE L fa cd) := by rfl) (he3 : starEach [e2] (lawE L fa cd) = (false, eval e2 (lawE L fa cd)) :: starEach [] (lawE L fa cd) := by rfl) :
    RunF L (model prog w) A h (isTrue (.Compare (.Call (.Name (Str.ofString "_filter") p) [e1, e2] [] p2) [.NotEq] [.Name x p3] p4) (lawE L fa cd) (eval (.Compare (.Call (.Name (Str.ofString "_filter") p) [e1, e2] [] p2) [.NotEq] [.Name x p3] p4) (lawE L fa cd))) fun _ c => c = (xs.filter (keepF ys) != due) := by
  have hun : A.units + 64 < cLine := Nat.lt_of_le_of_lt (by omega) K.units
  refine tstF_compare (xs := xs.filter (keepF ys)) (ys := due) ?_ ?_ ?_ rfl
  · refine RunF.conseq (R := fun h' v => ∃ a, v = .ref a ∧ h.get? a = none ∧ PL h' a (xs.filter (keepF ys))) ?_ fun h' v _ hv => by obtain ⟨a, rfl, _, p⟩ := hv; exact ⟨a, rfl, p.tl⟩
    refine evF_filter B K ?_ rfl ?_ h2 (fun h' e => X.afterL e) hlen he1 he2 he3
    · exact ev_g B X.base rfl rfl rfl rfl
    · intro h' e
      exact RunF.of (h1 h' (ExtL.of e))
  · intro h' e
    exact RunF.of (hd h' e)
  · intro p q h' hp hq
    exact r_nel hp hq hun (fun x hx => k1 x (List.mem_filter.mp hx).1) k2

/-- if _filter(..) != due or ..: return False -/
theorem law_in1 {lj lk gj gk : List Str} {j k : Nat} {tj tk' : Tok} {dv : Value} (B : Bs w b) (K : LA A (lawE L fa cd)) (C : Cx L Mu b V rL rF rG G s.heap m cv) (O : Vok V) (hj : cv "j" = some (.int (0 + (j : Int)) tj)) (hk : cv "k" = some (.int (0 + (k : Int)) tk'))
    (hd : m "due" = some dv) (hdv : Is G dv (.tl (V.ds.filter (keepF (gj ++ gk)))))
    (hlj : rL[j]? = some lj) (hlk : rL[k]? = some lk) (hfj : rF[j]? = some (V.ds.filter (keepF lj))) (hfk : rF[k]? = some (V.ds.filter (keepF lk))) (hj' : j ≤ 4000) (hk' : k ≤ 4000) (hz : lj.length + lk.length ≤ 4000)
    (e1 : V.ds.filter (keepF lj) = V.ds.filter (keepF gj)) (e2 : V.ds.filter (keepF lk) = V.ds.filter (keepF gk))
    (hQ : ∀ h' tk, Cx L Mu b V rL rF rG G h' m cv → Q .next { s with heap := h', toks := tk }) :
    wpAny (model prog w) A (exec (inSt 1) (lawE L fa cd)) Q E s := by
  have hcj : (lawCs L).lookup (Str.ofString "j") = some (L + 1 + 1 + 1 + 1 + 1) := rfl
  have hck : (lawCs L).lookup (Str.ofString "k") = some (L + 1 + 1) := rfl
  have hld := O.ld
  have Nd : ∀ x ∈ V.ds, NmOk x := fun x hx => O.N x (O.dn x hx)
  have fl : ∀ p : Str → Bool, (V.ds.filter p).length ≤ 4096 := fun p => Nat.le_trans (List.length_filter_le _ _) (by omega)
  have jE : ∀ h', ExtL L s.heap h' → ∀ p, Ev (model prog w) A h' (.Name (Str.ofString "j") p) (lawE L fa cd) (.int (0 + (j : Int))) := fun h' e p => (C.X.filt e).cvE rfl hcj hj ⟨tj, rfl⟩
  have kE : ∀ h', ExtL L s.heap h' → ∀ p, Ev (model prog w) A h' (.Name (Str.ofString "k") p) (lawE L fa cd) (.int (0 + (k : Int))) := fun h' e p => (C.X.filt e).cvE rfl hck hk ⟨tk', rfl⟩
  have lE : ∀ h', ExtL L s.heap h' → ∀ p, Ev (model prog w) A h' (.Name (Str.ofString "lists") p) (lawE L fa cd) (.val (.ref V.aL)) := fun h' e p => (C.X.filt e).lv rfl C.ml rfl
  have fE : ∀ h', ExtL L s.heap h' → ∀ p, Ev (model prog w) A h' (.Name (Str.ofString "lefts") p) (lawE L fa cd) (.val (.ref V.aF)) := fun h' e p => (C.X.filt e).lv rfl C.mf rfl
  have dE : ∀ h', ExtL L s.heap h' → ∀ p, Ev (model prog w) A h' (.Name (Str.ofString "due") p) (lawE L fa cd) (.tl (V.ds.filter (keepF (gj ++ gk)))) := fun h' e p => (C.X.filt e).lv rfl hd hdv
  refine ifF (L := L) ?_ fun h' tk e => hQ h' tk (C.filt e)
  refine RunF.conseq (R := fun _ c => c = (((V.ds.filter (keepF lj)).filter (keepF lk) != V.ds.filter (keepF (gj ++ gk))) || (((V.ds.filter (keepF lk)).filter (keepF lj) != V.ds.filter (keepF (gj ++ gk))) || ((V.ds.filter (keepF (lj ++ lk)) != V.ds.filter (keepF (gj ++ gk))) || false)))) ?_ fun _ c _ hc => ?_
  rotate_left
  · rw [hc, due_1 e1 e2, due_2 e1 e2, due_3 e1 e2]; simp
  refine tstF_or ?_ fun h₁ x₁ _ => tstF_or ?_ fun h₂ x₂ _ => tstF_or ?_ fun h₃ x₃ _ => RunF.of tst_or_nil
  · refine tst_fil B K C.X (fun h' e => dE h' e _) ?_ ?_ (fl _) (tok_filter Nd) (tok_filter Nd) (by rfl) (by rfl) (by rfl)
    · intro h' e
      have C' := C.filt e
      exact Runs.conseq (ev_at (fE h' e _) (jE h' e _) C'.RF hfj C'.X.gh (fun _ _ => rfl) hj') fun _ _ _ hv => is_pl_tl hv
    · intro h' e
      have C' := C.filt e
      exact ev_at (lE h' e _) (kE h' e _) C'.RL hlk C'.X.gh (fun _ _ => rfl) hk'
  · refine tst_fil B K (C.X.filt x₁) (fun h' e => dE h' (x₁.trans e) _) ?_ ?_ (fl _) (tok_filter Nd) (tok_filter Nd) (by rfl) (by rfl) (by rfl)
    · intro h' e
      have C' := C.filt (x₁.trans e)
      exact Runs.conseq (ev_at (fE h' (x₁.trans e) _) (kE h' (x₁.trans e) _) C'.RF hfk C'.X.gh (fun _ _ => rfl) hk') fun _ _ _ hv => is_pl_tl hv
    · intro h' e
      have C' := C.filt (x₁.trans e)
      exact ev_at (lE h' (x₁.trans e) _) (jE h' (x₁.trans e) _) C'.RL hlj C'.X.gh (fun _ _ => rfl) hj'
  · have x12 := x₁.trans x₂
    refine tst_fil B K (C.X.filt x12) (fun h' e => dE h' (x12.trans e) _) ?_ ?_ (by omega) (fun x hx => (Nd x hx).ok) (tok_filter Nd) (by rfl) (by rfl) (by rfl)
    · intro h' e
      exact (C.X.filt (x12.trans e)).lv rfl C.md (is_pl_tl C.fd)
    · intro h' e
      have C' := C.filt (x12.trans e)
      refine ev_binop (d₁ := .tl lj) (d₂ := .tl lk) ?_ ?_ ?_
      · exact Runs.conseq (ev_at (lE h' (x12.trans e) _) (jE h' (x12.trans e) _) C'.RL hlj C'.X.gh (fun _ _ => rfl) hj') fun _ _ _ hv => is_pl_tl hv
      · exact Runs.conseq (ev_at (lE h' (x12.trans e) _) (kE h' (x12.trans e) _) C'.RL hlk C'.X.gh (fun _ _ => rfl) hk') fun _ _ _ hv => is_pl_tl hv
      · intro p q h₃ e₃ hp hq
        exact (r_addl hp hq (by rw [sizeLine_eq]; omega)).conseq fun _ _ _ hv => hv.isp
end
end Mine
end

section
open PySem PySem.W PyProof.Rows PySem.Calls
set_option Elab.async false
set_option maxRecDepth 100000
set_option maxHeartbeats 2000000
namespace Mine
theorem listF_len (ks : List Str) (h : Str) : (listF ks h).length ≤ ks.length := by
  unfold listF
  rw [List.length_map]
  exact Nat.le_trans (List.length_filter_le _ _) (by simp)
section
variable {prog : Program} {w : World} {A : Around} {E : Value → Shared → Prop} {Q : Flow → Shared → Prop} {L fa : Addr} {cd : Value} {Mu : List Addr} {b G : Heap} {m cv : Str → Option Value} {s : Shared} {V : Vals}
abbrev CxE (L : Addr) (Mu : List Addr) (b : Heap) (V : Vals) (G h : Heap) (m cv : Str → Option Value) : Prop :=
  Cx L Mu b V (V.hs.map (listF V.ks)) (V.hs.map fun x => V.ds.filter (keepF (listF V.ks x))) (V.hs.map fun x => V.ds.filter (matchedF x)) G h m cv
theorem law_s5 (B : Bs w b) (K : LA A (lawE L fa cd)) (C : CxE L Mu b V G s.heap m cv) (O : Vok V)
    (hQ : ∀ h' tk G' m' cv', CxE L Mu b V G' h' m' cv' → Ext G G' → Q .next { s with heap := h', toks := tk }) :
    wpAny (model prog w) A (exec (lawSt 5) (lawE L fa cd)) Q E s := by
  have hlh := O.lh
  have hlk := O.lk
  have hld := O.ld
  have hcj : (lawCs L).lookup (Str.ofString "j") = some (L + 1 + 1 + 1 + 1 + 1) := rfl
  have hck : (lawCs L).lookup (Str.ofString "k") = some (L + 1 + 1) := rfl
  refine law_for (Keep := fun y => y ≠ Str.ofString "j" ∧ y ≠ Str.ofString "k") (n := V.hs.length) (c := L + 1 + 1 + 1 + 1 + 1) K C (by omega) hcj rfl (fun y hy => hy.1) (by decide) (by decide) ?_ (by intro _; rfl) ?_ fun h' tk G' m' cv' C' e _ => hQ h' tk G' m' cv' C' e
  · refine ev_range ?_ ?_
    · exact ev_bi B C.X.base rfl rfl rfl rfl rfl (by decide +kernel) (by decide)
    · refine ev_bcall1 (id := "len") (d := .tl V.hs) ?_ ?_ ?_ (by rfl) (by rfl)
      · exact ev_bi B C.X.base rfl rfl rfl rfl rfl (by decide +kernel) (by decide)
      · exact C.X.lv rfl C.mh (is_pl_tl C.fh)
      · intro a h₂ e ha
        exact r_len_tl ha (by omega)
  · intro j h₁ tk₁ G₁ m₁ cv₁ tj hj C₁ e₁ hcv _ E' Q' hQ'
    refine wpAny_execs_cons (law_for (s := { s with heap := h₁, toks := tk₁ }) (Keep := fun y => y ≠ Str.ofString "k") (n := j) (c := L + 1 + 1) K C₁ (by omega) hck rfl (fun y hy => hy) (by decide) (by decide) ?_ (by intro _; rfl) ?_ fun h' tk G' m' cv' C' e kp => ?_)
    · refine ev_range ?_ ?_
      · exact ev_bi B C₁.X.base rfl rfl rfl rfl rfl (by decide +kernel) (by decide)
      · have := C₁.X.cvE (prog := prog) (w := w) (A := A) (fa := fa) (cd := cd) (x := Str.ofString "j") (pos := ⟨88, 23, 88, 24⟩) (d := .int (0 + (j : Int))) rfl hcj hcv ⟨tj, rfl⟩
        rw [show (0 + (j : Int)) = (j : Int) by omega] at this
        exact this
    · intro k h₂ tk₂ G₂ m₂ cv₂ tk' hk C₂ e₂ hcv₂ kp₂ E'' Q'' hQ''
      have hj2 : cv₂ (Str.ofString "j") = some (.int (0 + (j : Int)) tj) := (kp₂ _ (by decide)).trans hcv
      obtain ⟨hjv, hjx⟩ : ∃ x, V.hs[j]? = some x := ⟨_, List.getElem?_eq_getElem hj⟩
      obtain ⟨hkv, hkx⟩ : ∃ x, V.hs[k]? = some x := ⟨_, List.getElem?_eq_getElem (Nat.lt_trans hk hj)⟩
      have f1 : ∀ (p : Str → Bool), (V.ds.filter p).length ≤ 64 := fun p => Nat.le_trans (List.length_filter_le _ _) hld
      have f2 := fun x => Nat.le_trans (listF_len V.ks x) hlk
      show wpAny _ _ (execs [inSt 0, inSt 1] _) _ _ _
      refine wpAny_execs_cons (law_due (s := { s with heap := h₂, toks := tk₂ }) (gj := V.ds.filter (matchedF hjv)) (gk := V.ds.filter (matchedF hkv)) (j := j) (k := k) K C₂ O hj2 hcv₂ (by rw [List.getElem?_map, hjx]; rfl) (by rw [List.getElem?_map, hkx]; rfl)
        (Nat.le_trans (Nat.add_le_add (f1 _) (f1 _)) (by decide)) (by omega) (by omega) fun h₃ tk₃ da C₃ hda e₃ => ?_)
      refine wpAny_execs_cons (law_in1 (s := { s with heap := h₃, toks := tk₃ }) (lj := listF V.ks hjv) (lk := listF V.ks hkv) (gj := V.ds.filter (matchedF hjv)) (gk := V.ds.filter (matchedF hkv)) (j := j) (k := k) (dv := .ref da) B K C₃ O hj2 hcv₂ (if_pos rfl) hda
        (by rw [List.getElem?_map, hjx]; rfl) (by rw [List.getElem?_map, hkx]; rfl) (by rw [List.getElem?_map, hjx]; rfl) (by rw [List.getElem?_map, hkx]; rfl) (by omega) (by omega) (Nat.le_trans (Nat.add_le_add (f2 _) (f2 _)) (by decide)) (O.left _ (List.mem_of_getElem? hjx)) (O.left _ (List.mem_of_getElem? hkx)) fun h₄ tk₄ C₄ => ?_)
      refine wpAny_execs_nil ?_
      exact hQ'' h₄ tk₄ _ _ _ C₄ e₃ fun _ _ => rfl
    · refine wpAny_execs_nil ?_
      exact hQ' h' tk G' m' cv' C' e fun y hy => kp y hy.2
end
end Mine
end

section
open PySem PySem.W PyProof.Rows PySem.Calls
set_option Elab.async false
set_option maxRecDepth 100000
set_option maxHeartbeats 2000000
namespace Mine
def rowsD (xss : List (List Str)) : List PyData := xss.map fun xs => .list (xs.map PyData.str)
theorem TLs.readsAll {h : Heap} : ∀ {vs : List Value} {xss : List (List Str)}, TLs h vs xss → ∃ as, ReadsAll h vs (rowsD xss) as
  | _, _, .nil => ⟨[], .nil⟩
  | _, _, .cons x r => let ⟨as, q⟩ := r.readsAll; ⟨_ ++ as, .cons x.reads q⟩
theorem LL.reads {h : Heap} {a : Addr} {xss : List (List Str)} (x : LL h a xss) : ∃ as, Reads h (.ref a) (.list (rowsD xss)) as := by
  obtain ⟨vs, ⟨o, ho, hc, n, hd⟩, t⟩ := x
  obtain ⟨as, q⟩ := t.readsAll
  exact ⟨_, .list ho hc hd q⟩
theorem canLay_rows : ∀ {xss : List (List Str)}, (∀ xs ∈ xss, TOk xs) → PyData.canLayAll0 (rowsD xss) = true
  | [], _ => rfl
  | x :: r, hk => by
    have h1 := canLay_strs (hk x List.mem_cons_self)
    have h2 := canLay_rows (xss := r) fun y hy => hk y (List.mem_cons_of_mem _ hy)
    simp only [rowsD, List.map_cons, PyData.canLayAll0, PyData.canLay0, h1, Bool.true_and]
    exact h2
theorem depth_rows : ∀ xss : List (List Str), PyData.depthAll (rowsD xss) ≤ 1
  | [] => Nat.zero_le _
  | x :: r => by
    have h2 := depth_rows r
    simp only [rowsD, List.map_cons, PyData.depthAll, PyData.depth, depth_strs] at h2 ⊢
    omega
theorem shaped_rows {xss : List (List Str)} (hk : ∀ xs ∈ xss, TOk xs) : SeqAt.shaped (.list (rowsD xss)) = true := by
  have := depth_rows xss
  simp only [SeqAt.shaped, PyData.canLay0, PyData.depth, canLay_rows hk, Bool.true_and]
  exact decide_eq_true (by omega)
theorem eqv_rows : ∀ xss yss : List (List Str), PyData.eqvAll (rowsD xss) (rowsD yss) = (xss == yss)
  | [], [] => by simp [rowsD, PyData.eqvAll]
  | [], _ :: _ => by simp [rowsD, PyData.eqvAll]
  | _ :: _, [] => by simp [rowsD, PyData.eqvAll]
  | a :: r, b :: t => by
    have ih := eqv_rows r t
    simp only [rowsD, List.map_cons, PyData.eqvAll, PyData.eqv, eqv_strs] at ih ⊢
    rw [ih]
    rfl
section
variable {prog : Program} {w : World} {A : Around} {h : Heap}
theorem r_eqll {a b : Value} {xss yss : List (List Str)} (ha : Is h a (.ll xss)) (hb : Is h b (.ll yss)) (hu : A.units + 64 < cLine) (kx : ∀ xs ∈ xss, TOk xs) (ky : ∀ ys ∈ yss, TOk ys) : Runs (model prog w) A h (compareOp .Eq a b) fun _ v => v = .bool (xss == yss) := by
  obtain ⟨l, rfl, ha⟩ := ha; obtain ⟨l', rfl, hb⟩ := hb
  refine .intro fun s _ _ he hQ => ?_
  obtain ⟨as, ra⟩ := (ha.ext he).reads
  obtain ⟨bs, rb⟩ := (hb.ext he).reads
  exact eq_dataH ra rb (shaped_rows kx) (shaped_rows ky) hu (hQ _ s.heap s.toks (Ext.refl _) (by show Value.bool (PyData.eqvAll _ _) = _; rw [eqv_rows]))
theorem ev_nill {env : Env} {pos : Pos} : Ev (model prog w) A h (.List [] pos) env (.ll []) :=
  eval_nil.conseq fun _ _ _ hv => by obtain ⟨a, rfl, _, ho⟩ := hv; exact ⟨a, rfl, [], ⟨_, ho, rfl, _, rfl⟩, .nil⟩
theorem StrsAre.uniq : ∀ {vs : List Value} {xs ys : List Str}, StrsAre vs xs → StrsAre vs ys → xs = ys
  | _, _, _, .nil, h => by cases h; rfl
  | _, _, _, .cons x t r, h => by cases h with | cons _ _ r' => rw [StrsAre.uniq r r']
theorem PL.uniq {a : Addr} {xs ys : List Str} (p : PL h a xs) (q : PL h a ys) : xs = ys := by
  obtain ⟨vs, ⟨n, hp⟩, hv⟩ := p
  obtain ⟨ws, ⟨n', hq⟩, hw⟩ := q
  rw [hp] at hq
  have := Option.some.inj hq
  simp only [Obj.mk.injEq, true_and, and_true, Data.seq.injEq] at this
  have e : vs = ws := by simpa using this.1
  subst e
  exact StrsAre.uniq hv hw
end
end Mine
end

section
open PySem PySem.W PyProof.Rows PySem.Calls
set_option Elab.async false
set_option maxRecDepth 100000
set_option maxHeartbeats 2000000
namespace Mine
def hasF (d : Str) (row : List Str) : Bool := row.any (· == d)
theorem PLs.filt {G : Heap} {p : Value → Bool} {has : List Str → Bool} : ∀ {vs : List Value} {rows : List (List Str)}, PLs G vs rows → (∀ (j : Nat) v row, vs[j]? = some v → rows[j]? = some row → p v = has row) → PLs G (vs.filter p) (rows.filter has)
  | _, _, .nil, _ => .nil
  | _, _, .cons (a := a) (xs := xs) x r, hp => by
    have h0 := hp 0 _ _ rfl rfl
    have ih := r.filt fun j v row h1 h2 => hp (j + 1) v row h1 h2
    cases hc : has xs with
    | true => rw [List.filter_cons_of_pos (by rw [h0, hc]), List.filter_cons_of_pos hc]; exact .cons x ih
    | false => rw [List.filter_cons_of_neg (by rw [h0, hc]; exact Bool.false_ne_true), List.filter_cons_of_neg (by rw [hc]; exact Bool.false_ne_true)]; exact ih
def rowP (vs : List Value) (rows : List (List Str)) (d : Str) (v : Value) : Bool := (List.range vs.length).any fun i => (vs[i]? == some v) && hasF d (rows.getD i [])
theorem PLs.row {G : Heap} {vs : List Value} {rows : List (List Str)} (p : PLs G vs rows) {d : Str} {j : Nat} {v : Value} {row : List Str} (hv : vs[j]? = some v) (hr : rows[j]? = some row) : rowP vs rows d v = hasF d row := by
  have hjl : j < vs.length := (List.getElem?_eq_some_iff.mp hv).1
  obtain ⟨a, ha, pa⟩ := p.at hr
  rw [hv] at ha
  obtain rfl := Option.some.inj ha
  unfold rowP
  cases hh : hasF d row with
  | true =>
    rw [List.any_eq_true]
    exact ⟨j, List.mem_range.mpr hjl, by simp [hv, hr, hh]⟩
  | false =>
    rw [List.any_eq_false]
    intro i hi
    have hil := List.mem_range.mp hi
    simp only [Bool.and_eq_true, beq_iff_eq, not_and, Bool.not_eq_true]
    intro he
    obtain ⟨ri, hri⟩ : ∃ x, rows[i]? = some x := ⟨_, List.getElem?_eq_getElem (p.len ▸ hil)⟩
    obtain ⟨a', ha', pa'⟩ := p.at hri
    rw [he] at ha'
    cases Option.some.inj ha'
    rw [List.getD_eq_getElem?_getD, hri]
    show hasF d ri = false
    rw [PL.uniq pa' pa, hh]
theorem flat_pure {V : Vals} (O : Vok V) : V.ds.filter (keepF (V.hs.map (listF V.ks)).flatten) = V.ds.filter fun d => ((V.hs.map fun x => V.ds.filter (matchedF x)).filter (hasF d)) == [] := by
  refine List.filter_congr fun d hd => ?_
  have h1 : ∀ h ∈ V.hs, keepF (listF V.ks h) d = keepF (V.ds.filter (matchedF h)) d := fun h hh => keep_eq (O.left h hh) d hd
  have e : ∀ l : List Str, keepF l d = true ↔ d ∉ l := fun l => by
    simp [keepF]
    exact ⟨fun h m => h d m rfl, fun h x hx q => h (q ▸ hx)⟩
  have e2 : ∀ l : List Str, hasF d l = true ↔ d ∈ l := fun l => by simp [hasF]
  rw [Bool.eq_iff_iff, e]
  rw [beq_iff_eq, List.filter_eq_nil_iff]
  constructor
  · intro hn row hr
    obtain ⟨h, hh, rfl⟩ := List.mem_map.mp hr
    rw [e2, ← e, ← h1 h hh, e]
    · skip
      intro hm
      exact hn (List.mem_flatten.mpr ⟨_, List.mem_map_of_mem hh, hm⟩)
  · intro hn hm
    obtain ⟨l, hl, hml⟩ := List.mem_flatten.mp hm
    obtain ⟨h, hh, rfl⟩ := List.mem_map.mp hl
    have := hn _ (List.mem_map_of_mem hh)
    rw [e2, ← e, ← h1 h hh, e] at this
    exact this hml
end Mine
end

section
open PySem PySem.W PyProof.Rows PySem.Calls
set_option Elab.async false
set_option maxRecDepth 100000
set_option maxHeartbeats 2000000
namespace Mine
theorem flat_len : ∀ {l : List (List Str)} {n : Nat}, (∀ x ∈ l, x.length ≤ n) → l.flatten.length ≤ l.length * n
  | [], _, _ => by simp
  | x :: r, n, h => by
    have h1 := h x List.mem_cons_self
    have h2 := flat_len (l := r) (n := n) fun y hy => h y (List.mem_cons_of_mem _ hy)
    rw [List.flatten_cons, List.length_append, List.length_cons, Nat.succ_mul]
    omega
section
variable {prog : Program} {w : World} {A : Around} {E : Value → Shared → Prop} {Q : Flow → Shared → Prop} {L fa : Addr} {cd : Value} {Mu : List Addr} {b G : Heap} {m cv : Str → Option Value} {s : Shared} {V : Vals}
theorem law_s6 (B : Bs w b) (K : LA A (lawE L fa cd)) (C : CxE L Mu b V G s.heap m cv) (O : Vok V)
    (hQ : ∀ h' tk, CxE L Mu b V G h' m cv → Q .next { s with heap := h', toks := tk }) :
    wpAny (model prog w) A (exec (lawSt 6) (lawE L fa cd)) Q E s := by
  have hlh := O.lh
  have hlk := O.lk
  have hld := O.ld
  have hun : A.units + 64 < cLine := Nat.lt_of_le_of_lt (by omega) K.units
  have hcg : (lawCs L).lookup (Str.ofString "gone") = some (L + 1 + 1 + 1) := rfl
  have Nd : ∀ x ∈ V.ds, NmOk x := fun x hx => O.N x (O.dn x hx)
  have hfl : (V.hs.map (listF V.ks)).flatten.length ≤ 4096 := by
    have := flat_len (l := V.hs.map (listF V.ks)) (n := 64) fun x hx => by
      obtain ⟨h, _, rfl⟩ := List.mem_map.mp hx
      exact Nat.le_trans (listF_len _ _) hlk
    rw [List.length_map] at this
    exact Nat.le_trans this (Nat.le_trans (Nat.mul_le_mul_right 64 hlh) (by decide))
  refine ifF (L := L) ?_ fun h' tk e => hQ h' tk (C.filt e)
  refine RunF.conseq (R := fun _ c => c = (V.ds.filter (keepF (V.hs.map (listF V.ks)).flatten) != V.ds.filter fun d => ((V.hs.map fun x => V.ds.filter (matchedF x)).filter (hasF d)) == [])) ?_ fun _ c _ hc => by rw [hc, flat_pure O]; simp
  refine tstF_compare (xs := V.ds.filter (keepF (V.hs.map (listF V.ks)).flatten)) (ys := V.ds.filter fun d => ((V.hs.map fun x => V.ds.filter (matchedF x)).filter (hasF d)) == []) ?_ ?_ ?_ rfl
  · refine RunF.conseq (R := fun h' v => ∃ a, v = .ref a ∧ s.heap.get? a = none ∧ PL h' a (V.ds.filter (keepF (V.hs.map (listF V.ks)).flatten))) ?_ fun h' v _ hv => by obtain ⟨a, rfl, _, p⟩ := hv; exact ⟨a, rfl, p.tl⟩
    refine evF_filter B K ?_ rfl ?_ ?_ (fun h' e => C.X.afterL e) (by omega) (by rfl) (by rfl) (by rfl)
    · exact ev_g B C.X.base rfl rfl rfl rfl
    · intro h' e
      exact RunF.of ((C.X.up e).lv rfl C.md (is_pl_tl C.fd))
    · intro h' e
      have C' := C.filt e
      refine Runs.conseq (R := fun h'' v => NewTL h' h'' v (V.hs.map (listF V.ks)).flatten) ?_ fun _ _ _ hv => hv.isp
      refine comp_flat (cl := []) K.hh ⟨?_, ?_, ?_, ?_, ?_, ?_, ?_⟩ (by decide) (by decide) hfl ?_ (by intro _; rfl) (by intro _ _; rfl)
      · rfl
      · decide +kernel
      · rfl
      · decide +kernel
      · rfl
      · rfl
      · decide
      · exact ev_local rfl rfl C'.X.ns C'.ml (C'.RL.ll C'.X.gh)
  · intro h' e
    have C' := C.filt e
    refine RunF.of (Runs.conseq (R := fun h'' v => NewTL h' h'' v (V.ds.filter fun d => ((V.hs.map fun x => V.ds.filter (matchedF x)).filter (hasF d)) == [])) ?_ fun _ _ _ hv => hv.is)
    obtain ⟨vs, c₀, ho, p⟩ := id C'.RG
    refine comp_cell (a := Str.ofString ".0") (g := Str.ofString "gone") (cl := [(Str.ofString "gone", L + 1 + 1 + 1)]) (fun d => ((V.hs.map fun x => V.ds.filter (matchedF x)).filter (hasF d)) == []) K.hh ?_ ?_ ?_ ?_ ?_ (by omega) ?_ ?_ ?_ ?_
    · rfl
    · rfl
    · rfl
    · decide +kernel
    · intro _ _; rfl
    · exact C'.X.lv rfl C'.md (is_pl_tl C'.fd)
    · intro Cc c y t h₂ hy e₂ hc
      have X₂ := C'.X.up e₂
      refine tests_one ?_
      refine tst_compare (d₁ := .ll ((V.hs.map fun x => V.ds.filter (matchedF x)).filter (hasF y))) (d₂ := .ll []) ?_ ev_nill ?_ rfl
      · refine Runs.conseq (comp_list (h := h₂) (cl := [(Str.ofString "name", c)]) (fun items => items = vs) (rowP vs (V.hs.map fun x => V.ds.filter (matchedF x)) y) (fun v y => y = v) K.hh ?_ ?_ ?_ ?_ ?_ ?_ ?_ ?_ ?_) fun h₃ v e₃ hv => ?_
        rotate_right
        · obtain ⟨a, ys, items, rfl, _, hpl, rfl, hF⟩ := hv
          have hys : ys = items.filter (rowP items (V.hs.map fun x => V.ds.filter (matchedF x)) y) := by
            clear hpl
            generalize items.filter _ = l at hF
            induction hF with
            | nil => rfl
            | cons h1 _ ih => rw [h1, ih]
          subst hys
          exact ⟨a, rfl, _, hpl.isList, ((p.filt fun j v row h1 h2 => p.row h1 h2).ext (X₂.gh.trans e₃)).tls⟩
        · rfl
        · decide +kernel
        · rfl
        · decide +kernel
        · rfl
        · refine Runs.conseq (R := fun h' v => Is h' v (.val (.ref V.aG))) ?_ fun h₃ v e₃ hv => ?_
          · exact ev_cell rfl rfl rfl (C'.mg ▸ X₂.cl.cell _ _ hcg) rfl
          · obtain rfl : v = .ref V.aG := hv
            refine ⟨V.aG, vs, rfl, ⟨_, e₃ _ _ (e₂ _ _ ho), rfl, c₀, rfl⟩, rfl, ?_⟩
            rw [p.len, List.length_map, sizeLine_eq]; omega
        · intro items C₂ v h₃ m₃ hok hm e₃ hn hx
          subst hok
          obtain ⟨j, hj, rfl⟩ := List.getElem_of_mem hm
          have hjv : items[j]? = some items[j] := List.getElem?_eq_getElem hj
          obtain ⟨row, hrow⟩ : ∃ x, (V.hs.map fun x => V.ds.filter (matchedF x))[j]? = some x := ⟨_, List.getElem?_eq_getElem (p.len ▸ hj)⟩
          obtain ⟨a, ha, pa⟩ := p.at hrow
          rw [p.row hjv hrow]
          have hval : items[j] = .ref a := Option.some.inj (hjv.symm.trans ha)
          rw [hval] at hx
          refine tests_one ?_
          refine tst_compare (d₁ := .str y) (d₂ := .tl row) ?_ ?_ ?_ rfl
          · exact ev_cell rfl rfl rfl (hc.keeps e₃) ⟨t, rfl⟩
          · exact ev_local rfl rfl hn hx ⟨a, rfl, (pa.ext (X₂.gh.trans e₃)).tl⟩
          · intro p' q' h₄ e₄ hp hq
            exact r_in hp hq
        · intro items C₂ v h₃ m₃ hok hm _ e₃ hn hx
          refine Runs.conseq (R := fun h' u => Is h' u (.val v)) ?_ fun _ _ _ h => h
          exact ev_local rfl rfl hn hx rfl
        · intro _; rfl
      · intro p' q' h₃ e₃ hp hq
        refine r_eqll hp hq hun ?_ (fun _ h => nomatch h)
        intro xs hxs
        obtain ⟨h, _, rfl⟩ := List.mem_map.mp (List.mem_filter.mp hxs).1
        exact tok_filter Nd
    · intro Cc c y t h₂ hy _ e₂ hc
      exact ev_cell rfl rfl rfl hc ⟨t, rfl⟩
    · intro _; rfl
  · intro p q h' hp hq
    exact r_nel hp hq hun (tok_filter Nd) (tok_filter Nd)
end
end Mine
end

section
open PySem PySem.W PyProof.Rows PySem.Calls
set_option Elab.async false
set_option maxRecDepth 100000
set_option maxHeartbeats 2000000
namespace Mine
section
variable {prog : Program} {w : World} {A : Around} {E : Value → Shared → Prop} {Q : Flow → Shared → Prop} {L fa : Addr} {cd : Value} {Mu : List Addr} {b G : Heap} {m cv : Str → Option Value} {s : Shared} {V : Vals}
theorem filter_all {α : Type} (l : List α) : l.filter (fun _ => true) = l := List.filter_eq_self.mpr fun _ _ => rfl
theorem law_s7 (B : Bs w b) (K : LA A (lawE L fa cd)) (C : CxE L Mu b V G s.heap m cv) (O : Vok V)
    (hQ : ∀ h' tk ra, CxE L Mu b V (hideAll h' Mu) h' m (fun y => if y = Str.ofString "reaches" then some (.ref ra) else cv y) → Is (hideAll h' Mu) (.ref ra) (.pl (V.hs.map lawReachF)) → Q .next { s with heap := h', toks := tk }) :
    wpAny (model prog w) A (exec (lawSt 7) (lawE L fa cd)) Q E s := by
  have hlh := O.lh
  have hc : (lawCs L).lookup (Str.ofString "reaches") = some (L + 1 + 1 + 1 + 1 + 1 + 1) := rfl
  refine wpAny_Assign_Name ?_ rfl
  refine Runs.use (R := fun h' v => NewTL s.heap h' v ((V.hs.filter fun _ => true).map lawReachF)) (h := s.heap) ?_ (Ext.refl _) fun v h₁ tk₁ e₁ hv => ?_
  · refine comp_tt (cl := []) (fun _ => true) lawReachF K.hh ⟨?_, ?_, ?_, ?_, ?_⟩ ?_ (C.X.lv rfl C.mh (is_pl_tl C.fh)) (fun _ _ _ _ _ _ _ _ _ => tests_none) ?_ ?_
    · rfl
    · decide +kernel
    · rfl
    · decide +kernel
    · rfl
    · rw [sizeLine_eq]; omega
    · intro C' y t h₂ m₂ hy _ e hn hx
      have X₂ := C.X.up e
      refine ev_call1 (f := 127) (d := .str y) ?_ ((B.up X₂.base).K _ _ rfl) rfl ?_ ?_ (by rfl) (by rfl)
      · exact ev_g B X₂.base rfl rfl rfl rfl
      · exact ev_local rfl rfl hn hx ⟨t, rfl⟩
      · intro a h₃ e₃ ha
        exact lawreach_call B (X₂.base.trans e₃) ha (O.N y (O.hn y hy)).split (by have := K.room; omega) (by have := K.units; omega)
    · intro _; rfl
  rw [filter_all] at hv
  obtain ⟨ra, rfl, hfr, ⟨ys, ⟨n, hpl⟩, hys⟩⟩ := hv
  have X₁ := C.X.up e₁
  refine wpAny_storeName_cell (c := L + 1 + 1 + 1 + 1 + 1 + 1) rfl rfl rfl (X₁.cl.cell _ _ hc) fun h₂ hc₂ hs₂ => ?_
  have X₂ := X₁.setC hc hc₂ hs₂
  have hne : ra ≠ L + 1 + 1 + 1 + 1 + 1 + 1 := by
    intro q
    obtain ⟨o, ho⟩ := C.X.ex _ (C.X.cm _ _ hc)
    rw [← q, hfr] at ho; cases ho
  refine hQ h₂ _ ra (C.mv X₂.grow X₂.into (fun _ _ => rfl) (fun y hy => if_neg (by rcases hy with rfl | rfl <;> decide)) fun a o ha e => (hs₂.2 a (by rcases ha with rfl | rfl | rfl <;> first | exact C.OL.cell _ _ hc | exact C.OF.cell _ _ hc | exact C.OG.cell _ _ hc)).trans (e₁ _ _ e)) ⟨ra, rfl, ys, ⟨n, C.X.fresh hfr ((hs₂.2 ra hne).trans hpl)⟩, hys⟩

/-- what is asked of the reaches -/
structure Rok (V : Vals) : Prop where
  eq : ∀ x ∈ V.ns, reachF x = lawReachF x
  ok : ∀ x ∈ V.ns, NmOk (reachF x)
  m : ∀ x ∈ V.hs, udmF x (reachF x) = true

theorem law_s8 (B : Bs w b) (K : LA A (lawE L fa cd)) (C : CxE L Mu b V G s.heap m cv) (O : Vok V) (R : Rok V)
    (hQ : ∀ h' tk, CxE L Mu b V G h' m cv → Q .next { s with heap := h', toks := tk }) :
    wpAny (model prog w) A (exec (lawSt 8) (lawE L fa cd)) Q E s := by
  have hlh := O.lh
  have hln := O.ln
  have hun : A.units + 64 < cLine := Nat.lt_of_le_of_lt (by omega) K.units
  have hcn : (lawCs L).lookup (Str.ofString "names") = some (L + 1) := rfl
  have heq : V.ns.map reachF = V.ns.map lawReachF := List.map_congr_left R.eq
  have tokr : TOk (V.ns.map reachF) := fun x hx => by
    obtain ⟨y, hy, rfl⟩ := List.mem_map.mp hx
    exact (R.ok y hy).ok
  refine wpAny_If (Runs.use (R := fun _ c => c = false) (h := s.heap) ?_ (Ext.refl _) fun c h' tk e hc' => ?_)
  rotate_left
  · subst hc'
    exact wpAny_execs_nil (hQ h' tk (C.filt (ExtL.of e)))
  refine Runs.conseq (R := fun _ c => c = ((V.ns.map reachF != V.ns.map lawReachF) || ((V.hs.filter (fun x => !udmF x (reachF x)) != []) || false))) ?_ fun _ c _ hc' => ?_
  rotate_left
  · rw [hc', heq, show V.hs.filter (fun x => !udmF x (reachF x)) = [] from List.filter_eq_nil_iff.mpr fun x hx => by rw [R.m x hx]; decide]
    simp
  refine tst_or ?_ fun _ => tst_or ?_ fun _ => tst_or_nil
  · refine tst_compare (d₁ := .tl (V.ns.map reachF)) (d₂ := .tl (V.ns.map lawReachF)) ?_ ?_ ?_ rfl
    · refine Runs.conseq (R := fun h' v => NewTL s.heap h' v ((V.ns.filter fun _ => true).map reachF)) ?_ fun _ _ _ hv => by rw [filter_all] at hv; exact hv.is
      refine comp_tt (cl := []) (fun _ => true) reachF K.hh ⟨?_, ?_, ?_, ?_, ?_⟩ ?_ (C.X.cvE rfl hcn C.mn (is_pl_tl C.fn)) (fun _ _ _ _ _ _ _ _ _ => tests_none) ?_ ?_
      · rfl
      · decide +kernel
      · rfl
      · decide +kernel
      · rfl
      · rw [sizeLine_eq]; omega
      · intro C' y t h₂ m₂ hy _ e hn hx
        have X₂ := C.X.up e
        have Ny := O.N y hy
        have l1 := Ny.len
        refine ev_call1 (f := 108) (d := .str y) ?_ ((B.up X₂.base).K _ _ rfl) rfl ?_ ?_ (by rfl) (by rfl)
        · exact ev_g B X₂.base rfl rfl rfl rfl
        · exact ev_local rfl rfl hn hx ⟨t, rfl⟩
        · intro a h₃ e₃ ha
          exact reach_call B (X₂.base.trans e₃) ha (by omega) Ny.len0 Ny.hit Ny.sl (by have := K.room; omega)
      · intro _; rfl
    · refine Runs.conseq (R := fun h' v => NewTL s.heap h' v ((V.ns.filter fun _ => true).map lawReachF)) ?_ fun _ _ _ hv => by rw [filter_all] at hv; exact hv.is
      refine comp_tt (cl := []) (fun _ => true) lawReachF K.hh ⟨?_, ?_, ?_, ?_, ?_⟩ ?_ (C.X.cvE rfl hcn C.mn (is_pl_tl C.fn)) (fun _ _ _ _ _ _ _ _ _ => tests_none) ?_ ?_
      · rfl
      · decide +kernel
      · rfl
      · decide +kernel
      · rfl
      · rw [sizeLine_eq]; omega
      · intro C' y t h₂ m₂ hy _ e hn hx
        have X₂ := C.X.up e
        refine ev_call1 (f := 127) (d := .str y) ?_ ((B.up X₂.base).K _ _ rfl) rfl ?_ ?_ (by rfl) (by rfl)
        · exact ev_g B X₂.base rfl rfl rfl rfl
        · exact ev_local rfl rfl hn hx ⟨t, rfl⟩
        · intro a h₃ e₃ ha
          exact lawreach_call B (X₂.base.trans e₃) ha (O.N y hy).split (by have := K.room; omega) (by have := K.units; omega)
      · intro _; rfl
    · intro p q h' e hp hq
      exact r_nel hp hq hun tokr (heq ▸ tokr)
  · refine tst_compare (d₁ := .tl (V.hs.filter fun x => !udmF x (reachF x))) (d₂ := .tl []) ?_ ev_nil ?_ rfl
    · refine Runs.conseq (R := fun h' v => NewTL s.heap h' v ((V.hs.filter fun x => !udmF x (reachF x)).map id)) ?_ fun _ _ _ hv => by rw [List.map_id] at hv; exact hv.is
      refine comp_tt (cl := []) (fun x => !udmF x (reachF x)) id K.hh ⟨?_, ?_, ?_, ?_, ?_⟩ ?_ (C.X.lv rfl C.mh (is_pl_tl C.fh)) ?_ ?_ ?_
      · rfl
      · decide +kernel
      · rfl
      · decide +kernel
      · rfl
      · rw [sizeLine_eq]; omega
      · intro C' y t h₂ m₂ hy e hn hx
        have X₂ := C.X.up e
        have Ny := O.N y (O.hn y hy)
        have Nr := R.ok y (O.hn y hy)
        have l1 := Ny.len
        have l2 := Nr.len
        refine tests_one (tst_not (tst_bool ?_))
        refine ev_call2 (f := 101) (d := .str y) (d' := .str (reachF y)) ?_ ((B.up X₂.base).K _ _ rfl) rfl ?_ ?_ ?_ (by rfl) (by rfl) (by rfl)
        · exact ev_g B X₂.base rfl rfl rfl rfl
        · exact ev_local rfl rfl hn hx ⟨t, rfl⟩
        · refine ev_call1 (f := 108) (d := .str y) ?_ ((B.up X₂.base).K _ _ rfl) rfl ?_ ?_ (by rfl) (by rfl)
          · exact ev_g B X₂.base rfl rfl rfl rfl
          · exact ev_local rfl rfl hn hx ⟨t, rfl⟩
          · intro a h₃ e₃ ha
            exact reach_call B (X₂.base.trans e₃) ha (by omega) Ny.len0 Ny.hit Ny.sl (by have := K.room; omega)
        · intro p q h₃ e₃ hp hq
          exact udm_call B (X₂.base.trans e₃) hp hq Ny.low Nr.low (by omega) (by omega) Ny.hit Nr.hit (by have := K.room; omega)
      · intro C' y t h₂ m₂ hy _ e hn hx
        exact ev_local rfl rfl hn hx ⟨t, rfl⟩
      · intro _; rfl
    · intro p q h' e hp hq
      exact r_nel hp hq hun (fun x hx => (O.N x (O.hn x (List.mem_filter.mp hx).1)).ok) tok_nil
end
end Mine
end

section
open PySem PySem.W PyProof.Rows PySem.Calls
set_option Elab.async false
set_option maxRecDepth 100000
set_option maxHeartbeats 2000000
namespace Mine
section
variable {prog : Program} {w : World} {A : Around} {E : Value → Shared → Prop} {Q : Flow → Shared → Prop} {L fa : Addr} {cd : Value} {Mu : List Addr} {b G : Heap} {m cv : Str → Option Value} {s : Shared} {V : Vals}
theorem ev_nilp {h : Heap} {env : Env} {pos : Pos} : Ev (model prog w) A h (.List [] pos) env (.pl []) :=
  eval_nil.conseq fun _ _ _ hv => by obtain ⟨a, rfl, _, ho⟩ := hv; exact ⟨a, rfl, [], ⟨_, ho⟩, .nil⟩
theorem keep_nil (xs : List Str) : xs.filter (keepF []) = xs := List.filter_eq_self.mpr fun _ _ => rfl
theorem tstF_is {h : Heap} {l r : Expr} {pos : Pos} {env : Env} {nv : Value} {na : Addr} {xs : List Str} (hn : nv = .ref na) (hx : ∃ o, h.get? na = some o) (hl : RunF L (model prog w) A h (eval l env) fun h' v => ∃ a, v = .ref a ∧ h.get? a = none ∧ PL h' a xs)
    (hr : ∀ h', ExtL L h h' → Ev (model prog w) A h' r env (.val nv)) (hm : behindInMarks .Is r = false) :
    RunF L (model prog w) A h (isTrue (.Compare l [.Is] [r] pos) env (eval (.Compare l [.Is] [r] pos) env)) fun _ v => v = false := by
  subst hn
  intro s E Q hs hQ
  refine wpAny_isTrue_Compare1 (hl s E _ hs fun a h₁ tk₁ e₁ ha => (hr h₁ e₁).use (Ext.refl _) fun b h₂ tk₂ e₂ hb => ?_) hm
  obtain ⟨i, rfl, hi, ws, ⟨n, hp⟩, _⟩ := ha
  obtain rfl : b = .ref na := hb
  have hne : i ≠ na := fun q => by obtain ⟨o, ho⟩ := hx; rw [← q, hi] at ho; cases ho
  obtain ⟨o, ho⟩ := hx
  obtain ⟨sl, ho₁⟩ := ExtL.ex e₁ ho
  refine wpAny_is_ref_other hne (e₂ _ _ hp) (e₂ _ _ ho₁) (show Value.type "list" ≠ Value.type "tuple" by decide) ?_
  exact wpAny_truthy_bool (hQ false h₂ tk₂ (e₁.trans (ExtL.of e₂)) rfl)

theorem law_s9 {rv : Value} (B : Bs w b) (K : LA A (lawE L fa cd)) (C : CxE L Mu b V G s.heap m cv) (O : Vok V) (hr : cv "reaches" = some rv) (hrv : Is G rv (.pl (V.hs.map lawReachF)))
    (hQ : ∀ h' tk, CxE L Mu b V G h' m cv → Q .next { s with heap := h', toks := tk }) :
    wpAny (model prog w) A (exec (lawSt 9) (lawE L fa cd)) Q E s := by
  have hlh := O.lh
  have hln := O.ln
  have hun : A.units + 64 < cLine := Nat.lt_of_le_of_lt (by omega) K.units
  have hcn : (lawCs L).lookup (Str.ofString "names") = some (L + 1) := rfl
  have hcr : (lawCs L).lookup (Str.ofString "reaches") = some (L + 1 + 1 + 1 + 1 + 1 + 1) := rfl
  have tn : TOk V.ns := fun x hx => (O.N x hx).ok
  have nE : ∀ h', ExtL L s.heap h' → ∀ p, Ev (model prog w) A h' (.Name (Str.ofString "names") p) (lawE L fa cd) (.tl V.ns) := fun h' e p => (C.X.filt e).cvE rfl hcn C.mn (is_pl_tl C.fn)
  have fil : ∀ h', ExtL L s.heap h' → ∀ (e2 : Expr) (ys : List Str) (p p2 p3 : Pos), (∀ h'', ExtL L h' h'' → Ev (model prog w) A h'' e2 (lawE L fa cd) (.pl ys)) →
      (starEach [e2] (lawE L fa cd) = (false, eval e2 (lawE L fa cd)) :: starEach [] (lawE L fa cd)) → RunF L (model prog w) A h' (eval (.Call (.Name (Str.ofString "_filter") p) [.Name (Str.ofString "names") p2, e2] [] p3) (lawE L fa cd)) fun h'' v => ∃ a, v = .ref a ∧ h'.get? a = none ∧ PL h'' a (V.ns.filter (keepF ys)) := by
    intro h' e e2 ys p p2 p3 h2 he3
    have C' := C.filt e
    refine evF_filter B K ?_ rfl ?_ h2 (fun h'' x => C'.X.afterL x) (by omega) (by rfl) (by rfl) he3
    · exact ev_g B C'.X.base rfl rfl rfl rfl
    · intro h'' x
      exact RunF.of (nE h'' (e.trans (ExtL.of x)) _)
  refine ifF (L := L) ?_ fun h' tk e => hQ h' tk (C.filt e)
  refine RunF.conseq (R := fun _ c => c = ((V.ns.filter (keepF (V.hs.map lawReachF)) != V.ns.filter (keepF (V.hs.map lawReachF))) || ((V.ns.filter (keepF []) != V.ns) || (false || false)))) ?_ fun _ c _ hc => by rw [hc, keep_nil]; simp
  refine tstF_or ?_ fun h₁ x₁ _ => tstF_or ?_ fun h₂ x₂ _ => tstF_or ?_ fun h₃ x₃ _ => RunF.of tst_or_nil
  · refine tstF_compare (xs := V.ns.filter (keepF (V.hs.map lawReachF))) (ys := V.ns.filter (keepF (V.hs.map lawReachF))) ?_ ?_ ?_ rfl
    · refine RunF.conseq (fil s.heap (ExtL.of (Ext.refl _)) _ _ _ _ _ ?_ (by rfl)) fun h' v _ hv => by obtain ⟨a, rfl, _, p⟩ := hv; exact ⟨a, rfl, p.tl⟩
      intro h' e
      exact (C.X.filt e).cvE rfl hcr hr hrv
    · intro h' e
      have C' := C.filt e
      refine RunF.of (Runs.conseq (R := fun h'' v => NewTL h' h'' v ((V.ns.filter (keepF (V.hs.map lawReachF))).map id)) ?_ fun _ _ _ hv => by rw [List.map_id] at hv; exact hv.is)
      refine comp_tt (cl := [(Str.ofString "reaches", L + 1 + 1 + 1 + 1 + 1 + 1)]) (keepF (V.hs.map lawReachF)) id K.hh ⟨?_, ?_, ?_, ?_, ?_⟩ ?_ (nE h' e _) ?_ ?_ ?_
      · rfl
      · decide +kernel
      · rfl
      · decide +kernel
      · rfl
      · rw [sizeLine_eq]; omega
      · intro C₂ y t h₂ m₂ hy e₂ hn hx
        have X₂ := C'.X.up e₂
        refine tests_one ?_
        refine tst_compare (d₁ := .str y) (d₂ := .tl (V.hs.map lawReachF)) ?_ ?_ ?_ rfl
        · exact ev_local rfl rfl hn hx ⟨t, rfl⟩
        · exact ev_cell rfl rfl rfl (hr ▸ X₂.cl.cell _ _ hcr) ((is_pl_tl hrv).ext X₂.gh)
        · intro p q h₃ e₃ hp hq
          exact r_notin hp hq
      · intro C₂ y t h₂ m₂ hy _ e hn hx
        exact ev_local rfl rfl hn hx ⟨t, rfl⟩
      · intro _; rfl
    · intro p q h' hp hq
      exact r_nel hp hq hun (tok_filter O.N) (tok_filter O.N)
  · refine tstF_compare (xs := V.ns.filter (keepF [])) (ys := V.ns) ?_ ?_ ?_ rfl
    · exact RunF.conseq (fil h₁ x₁ _ [] _ _ _ (fun _ _ => ev_nilp) (by rfl)) fun h' v _ hv => by obtain ⟨a, rfl, _, p⟩ := hv; exact ⟨a, rfl, p.tl⟩
    · intro h' e
      exact RunF.of (nE h' (x₁.trans e) _)
    · intro p q h' hp hq
      exact r_nel hp hq hun (tok_filter O.N) tn
  · have x12 := x₁.trans x₂
    obtain ⟨na, hna, pn⟩ := C.fn
    have C' := C.filt x12
    refine tstF_is (xs := V.ns.filter (keepF [])) hna ?_ (fil h₂ x12 _ [] _ _ _ (fun _ _ => ev_nilp) (by rfl)) ?_ rfl
    · obtain ⟨vs, ⟨n, ho⟩, _⟩ := pn
      exact ⟨_, C'.X.gh _ _ ho⟩
    · intro h' e
      exact (C.X.filt (x12.trans e)).cvE (d := .val V.nv) rfl hcn C.mn rfl
end
end Mine
end

section
open PySem PySem.W PyProof.Rows PySem.Calls
set_option Elab.async false
set_option maxRecDepth 100000
set_option maxHeartbeats 2000000
namespace Mine
section
variable {prog : Program} {w : World} {A : Around} {E : Value → Shared → Prop} {Q : Flow → Shared → Prop} {L fa : Addr} {cd : Value} {Mu : List Addr} {b G : Heap} {m cv : Str → Option Value} {s : Shared} {V : Vals}
/-- once = [[..], [..]] -/
theorem law_s10 (K : LA A (lawE L fa cd)) (C : CxE L Mu b V G s.heap m cv) (O : Vok V)
    (hQ : ∀ h' tk G' oa, CxE L Mu b V G' h' (fun y => if y = Str.ofString "once" then some (.ref oa) else m y) cv → Rows G' G' oa [V.ks.filter fun x => !dotted x, V.ks.filter dotted] → Q .next { s with heap := h', toks := tk }) :
    wpAny (model prog w) A (exec (lawSt 10) (lawE L fa cd)) Q E s := by
  have hlk := O.lk
  have k0 : ∀ x ∈ V.ks, 0 < x.length := fun x hx => (O.N x (O.kn x hx)).len0
  refine wpAny_Assign_Name ?_ rfl
  refine List_ (args_cons ?_ rfl)
  refine Runs.use (comp_nodot (h := s.heap) (xs := V.ks) K.hh rfl (by omega) k0 ?_ (by intro _; rfl)) (Ext.refl _) fun v h₁ tk₁ e₁ hv => args_cons ?_ rfl
  · exact C.X.lv rfl C.mkk (is_pl_tl C.fk)
  have X₁ := C.X.up e₁
  refine Runs.use (comp_dot (h := h₁) (xs := V.ks) K.hh rfl (by omega) k0 ?_ (by intro _; rfl)) (Ext.refl _) fun v' h₂ tk₂ e₂ hv' => args_nil ?_
  · exact X₁.lv rfl C.mkk (is_pl_tl C.fk)
  obtain ⟨a1, rfl, n1, p1⟩ := hv
  obtain ⟨a2, rfl, n2, p2⟩ := hv'
  have X₂ := X₁.up e₂
  refine wpAny_newObj_type ?_ (by size_fits)
  have hO : (h₂.push { cls := .type "list", data := .seq ([.ref a1, .ref a2] : List Value).toArray }).get? h₂.objs.size = some { cls := .type "list", data := .seq ([.ref a1, .ref a2] : List Value).toArray } := Heap.get?_push_size _ rfl
  have e₃ : Ext h₂ (h₂.push { cls := .type "list", data := .seq ([.ref a1, .ref a2] : List Value).toArray }) := (Ext.refl _).push _
  have nO : h₂.get? h₂.objs.size = none := Heap.get?_none_of_le (Nat.le_refl _)
  dsimp only
  generalize h₂.push { cls := .type "list", data := .seq ([.ref a1, .ref a2] : List Value).toArray } = h₃ at hO e₃ ⊢
  generalize h₂.objs.size = oa at hO nO ⊢
  have X₃ := X₂.up e₃
  refine wpAny_storeName_local rfl X₃.ns (fun h₄ hn₄ hs₄ => ?_) rfl
  have k4 : ∀ i o, i ≠ L → h₃.get? i = some o → h₄.get? i = some o := fun i o hi e => (hs₄.2 i hi).trans e
  have X₄ := X₃.setL hn₄ k4
  have E3 : Ext s.heap h₃ := (e₁.trans e₂).trans e₃
  have f1 : a1 ≠ L := fun q => by obtain ⟨o, ho⟩ := C.X.ex L C.X.Lm; rw [← q, n1] at ho; cases ho
  have f2 : a2 ≠ L := fun q => by obtain ⟨o, ho⟩ := X₁.ex L X₁.Lm; rw [← q, n2] at ho; cases ho
  have f3 : oa ≠ L := fun q => by obtain ⟨o, ho⟩ := X₂.ex L X₂.Lm; rw [← q, nO] at ho; cases ho
  obtain ⟨w1, ⟨c1, q1⟩, r1⟩ := p1
  obtain ⟨w2, ⟨c2, q2⟩, r2⟩ := p2
  refine hQ h₄ _ (hideAll h₄ Mu) oa (C.mv X₄.grow X₄.into (fun x hx => if_neg (by rcases hx with rfl | rfl | rfl | rfl | rfl <;> decide)) (fun _ _ => rfl) fun a o ha e => k4 a o (by rcases ha with rfl | rfl | rfl <;> first | exact C.OL.ne | exact C.OF.ne | exact C.OG.ne) (E3 _ _ e)) ?_
  refine ⟨[.ref a1, .ref a2], 0, X₂.fresh nO (k4 _ _ f3 hO), .cons ⟨w1, ⟨c1, ?_⟩, r1⟩ (.cons ⟨w2, ⟨c2, ?_⟩, r2⟩ .nil)⟩
  · exact C.X.fresh n1 (k4 _ _ f1 (e₃ _ _ (e₂ _ _ q1)))
  · exact X₁.fresh n2 (k4 _ _ f2 (e₃ _ _ q2))
end
end Mine
end

section
open PySem PySem.W PyProof.Rows PySem.Calls
set_option Elab.async false
set_option maxRecDepth 100000
set_option maxHeartbeats 2000000
namespace Mine
/-- what the last line asks -/
structure Eok (V : Vals) : Prop where
  a : V.ns.filter (keepF (V.ks.filter fun x => !dotted x)) = V.ds
  b : V.ns.filter (keepF (V.ks.filter dotted)) = V.hs
  c : (V.ns.filter (keepF (V.ks.filter fun x => !dotted x))).filter (keepF (V.ks.filter dotted)) = []
section
variable {prog : Program} {w : World} {A : Around} {E : Value → Shared → Prop} {Q : Flow → Shared → Prop} {L fa : Addr} {cd : Value} {Mu : List Addr} {b G : Heap} {m cv : Str → Option Value} {s : Shared} {V : Vals}
theorem law_s11 {oa : Addr} (B : Bs w b) (K : LA A (lawE L fa cd)) (C : CxE L Mu b V G s.heap m cv) (O : Vok V) (Z : Eok V) (ho : m "once" = some (.ref oa)) (R : Rows G G oa [V.ks.filter fun x => !dotted x, V.ks.filter dotted])
    (hQ : ∀ h' tk, Ext b h' → Q (.ret (.bool true)) { s with heap := h', toks := tk }) :
    wpAny (model prog w) A (exec (lawSt 11) (lawE L fa cd)) Q E s := by
  have hln := O.ln
  have hun : A.units + 64 < cLine := Nat.lt_of_le_of_lt (by omega) K.units
  have hcn : (lawCs L).lookup (Str.ofString "names") = some (L + 1) := rfl
  have nE : ∀ h', ExtL L s.heap h' → ∀ p, Ev (model prog w) A h' (.Name (Str.ofString "names") p) (lawE L fa cd) (.tl V.ns) := fun h' e p => (C.X.filt e).cvE rfl hcn C.mn (is_pl_tl C.fn)
  have o0 : ∀ h', ExtL L s.heap h' → ∀ p p2 p3, Ev (model prog w) A h' (.Subscript (.Name (Str.ofString "once") p) (.Constant (.int 0) 0 p2) p3) (lawE L fa cd) (.pl (V.ks.filter fun x => !dotted x)) := by
    intro h' e p p2 p3
    have X' := C.X.filt e
    refine ev_at (a := oa) (i := 0) ?_ ?_ (R.kept fun o ho => X'.gh _ _ ho) rfl X'.gh (fun _ _ => rfl) (by decide)
    · exact X'.lv rfl ho rfl
    · exact ev_const_int
  have o1 : ∀ h', ExtL L s.heap h' → ∀ p p2 p3, Ev (model prog w) A h' (.Subscript (.Name (Str.ofString "once") p) (.Constant (.int 1) 0 p2) p3) (lawE L fa cd) (.pl (V.ks.filter dotted)) := by
    intro h' e p p2 p3
    have X' := C.X.filt e
    refine ev_at (a := oa) (i := 1) ?_ ?_ (R.kept fun o ho => X'.gh _ _ ho) rfl X'.gh (fun _ _ => rfl) (by decide)
    · exact X'.lv rfl ho rfl
    · exact ev_const_int
  have fil : ∀ h', ExtL L s.heap h' → ∀ (e1 e2 : Expr) (xs ys : List Str) (p p3 : Pos), (∀ h'', Ext h' h'' → RunF L (model prog w) A h'' (eval e1 (lawE L fa cd)) fun h'' v => Is h'' v (.tl xs)) → (∀ h'', ExtL L h' h'' → Ev (model prog w) A h'' e2 (lawE L fa cd) (.pl ys)) → xs.length ≤ 4096 →
      (eval (.Call (.Name (Str.ofString "_filter") p) [e1, e2] [] p3) (lawE L fa cd) = (do callWith p3 (← eval (.Name (Str.ofString "_filter") p) (lawE L fa cd)) [] (backTo p3 (starEach [e1, e2] (lawE L fa cd))) (backToKw p3 (keywordEach [] (lawE L fa cd))))) →
      (starEach [e1, e2] (lawE L fa cd) = (false, eval e1 (lawE L fa cd)) :: starEach [e2] (lawE L fa cd)) → (starEach [e2] (lawE L fa cd) = (false, eval e2 (lawE L fa cd)) :: starEach [] (lawE L fa cd)) →
      RunF L (model prog w) A h' (eval (.Call (.Name (Str.ofString "_filter") p) [e1, e2] [] p3) (lawE L fa cd)) fun h'' v => Is h'' v (.tl (xs.filter (keepF ys))) := by
    intro h' e e1 e2 xs ys p p3 h1 h2 hl a1 a2 a3
    have X' := C.X.filt e
    refine RunF.conseq (R := fun h'' v => ∃ a, v = .ref a ∧ h'.get? a = none ∧ PL h'' a (xs.filter (keepF ys))) ?_ fun h'' v _ hv => by obtain ⟨a, rfl, _, p⟩ := hv; exact ⟨a, rfl, p.tl⟩
    refine evF_filter B K ?_ rfl h1 h2 (fun h'' x => X'.afterL x) hl a1 a2 a3
    exact ev_g B X'.base rfl rfl rfl rfl
  refine wpAny_Return_some (wpAny_Compare1 (List_ (args_cons ?_ rfl)) rfl)
  refine fil s.heap (ExtL.of (Ext.refl _)) _ _ _ _ _ _ (fun h'' x => RunF.of (nE h'' (ExtL.of x) _)) (fun h'' x => o0 h'' x _ _ _) (by omega) (by rfl) (by rfl) (by rfl) _ _ _ rfl fun v1 h₁ tk₁ e₁ hv1 => args_cons ?_ rfl
  refine fil h₁ e₁ _ _ _ _ _ _ (fun h'' x => RunF.of (nE h'' (e₁.trans (ExtL.of x)) _)) (fun h'' x => o1 h'' (e₁.trans x) _ _ _) (by omega) (by rfl) (by rfl) (by rfl) _ _ _ rfl fun v2 h₂ tk₂ e₂ hv2 => args_cons ?_ rfl
  have x12 := e₁.trans e₂
  refine fil h₂ x12 _ _ (V.ns.filter (keepF (V.ks.filter fun x => !dotted x))) _ _ _ (fun h'' x => fil h'' (x12.trans (ExtL.of x)) _ _ _ _ _ _ (fun h3 y => RunF.of (nE h3 ((x12.trans (ExtL.of x)).trans (ExtL.of y)) _)) (fun h3 y => o0 h3 ((x12.trans (ExtL.of x)).trans y) _ _ _) (by omega) (by rfl) (by rfl) (by rfl))
    (fun h'' x => o1 h'' (x12.trans x) _ _ _) (Nat.le_trans (List.length_filter_le _ _) (by omega)) (by rfl) (by rfl) (by rfl) _ _ _ rfl fun v3 h₃ tk₃ e₃ hv3 => args_nil ?_
  have x13 := x12.trans e₃
  rw [Z.a] at hv1
  rw [Z.b] at hv2
  rw [Z.c] at hv3
  obtain ⟨b1, rfl, t1⟩ := hv1
  obtain ⟨b2, rfl, t2⟩ := hv2
  obtain ⟨b3, rfl, t3⟩ := hv3
  refine wpAny_newObj_type ?_ (by size_fits)
  have hO : (h₃.push { cls := .type "list", data := .seq ([.ref b1, .ref b2, .ref b3] : List Value).toArray }).get? h₃.objs.size = some { cls := .type "list", data := .seq ([.ref b1, .ref b2, .ref b3] : List Value).toArray } := Heap.get?_push_size _ rfl
  have e₄ : Ext h₃ (h₃.push { cls := .type "list", data := .seq ([.ref b1, .ref b2, .ref b3] : List Value).toArray }) := (Ext.refl _).push _
  dsimp only
  generalize h₃.push { cls := .type "list", data := .seq ([.ref b1, .ref b2, .ref b3] : List Value).toArray } = h₄ at hO e₄ ⊢
  generalize h₃.objs.size = oL at hO ⊢
  have l1 : Is h₄ (.ref oL) (.ll [V.ds, V.hs, []]) := ⟨oL, rfl, _, ⟨_, hO, rfl, _, rfl⟩, .cons (TL.ext e₄ (TL.extL e₃ (TL.extL e₂ t1))) (.cons (TL.ext e₄ (TL.extL e₃ t2)) (.cons (TL.ext e₄ t3) .nil))⟩
  have C₄ := C.filt (x13.trans (ExtL.of e₄))
  have hrow : Ev (model prog w) A h₄ (.List [.Name (Str.ofString "domains") ⟨100, 109, 100, 116⟩, .Name (Str.ofString "hosts") ⟨100, 118, 100, 123⟩, .List [] ⟨100, 125, 100, 127⟩] ⟨100, 108, 100, 128⟩) (lawE L fa cd) (.ll [V.ds, V.hs, []]) := by
    refine Runs.conseq (ev_list (ds := [.tl V.ds, .tl V.hs, .tl []]) ?_ (by simp)) fun h' v _ hv => ?_
    · refine .cons ?_ (by rfl) (.cons ?_ (by rfl) (.cons ?_ (by rfl) .nil))
      · exact C₄.X.lv rfl C.md (is_pl_tl C.fd)
      · exact C₄.X.lv rfl C.mh (is_pl_tl C.fh)
      · exact ev_nil
    · obtain ⟨a, vs, rfl, _, hpl, hall⟩ := hv
      exact ⟨a, rfl, vs, hpl.isList, isall_tls (xss := [V.ds, V.hs, []]) hall⟩
  refine hrow.use (Ext.refl _) fun v5 h₅ tk₅ e₅ hv5 => ?_
  have tk : ∀ xs ∈ [V.ds, V.hs, []], TOk xs := by
    intro xs hx
    simp only [List.mem_cons, List.not_mem_nil, or_false] at hx
    rcases hx with rfl | rfl | rfl
    · exact fun x hx => (O.N x (O.dn x hx)).ok
    · exact fun x hx => (O.N x (O.hn x hx)).ok
    · exact tok_nil
  refine (r_eqll (l1.ext e₅) hv5 hun tk tk).use (Ext.refl _) fun v6 h₆ tk₆ e₆ hv6 => ?_
  obtain rfl : v6 = .bool true := by rw [hv6]; simp
  exact hQ h₆ tk₆ ((C₄.X.base.trans e₅).trans e₆)
end
end Mine
end

section
open PySem PySem.W PyProof.Rows PySem.Calls
set_option Elab.async false
set_option maxRecDepth 100000
set_option maxHeartbeats 2000000
namespace Mine
abbrev valsOf (ns : List Str) (nv kv dv hv : Value) (aL aF aG : Addr) : Vals := ⟨ns, kindsF ns, ns.filter dotted, ns.filter (fun x => !dotted x), nv, kv, dv, hv, aL, aF, aG⟩
/-- the plain law of a list of names -/
structure NsOk (ns : List Str) : Prop where
  v : ∀ nv kv dv hv aL aF aG, Vok (valsOf ns nv kv dv hv aL aF aG)
  r : ∀ nv kv dv hv aL aF aG, Rok (valsOf ns nv kv dv hv aL aF aG)
  e : ∀ nv kv dv hv aL aF aG, Eok (valsOf ns nv kv dv hv aL aF aG)
section
variable {prog : Program} {w : World} {A : Around} {E : Value → Shared → Prop} {L fa : Addr} {cd : Value} {Mu : List Addr} {b G : Heap} {m cv : Str → Option Value} {s : Shared}
theorem law_run {script fx : List Int} {sv : Value} (hfx : fx = fixedX) (hfl : fx.length = 13) (B : Bs w b) (K : LA A (lawE L fa cd)) (X : Lw L Mu b G s.heap m cv) (hm : m "script" = some sv) (hsv : Is G sv (.il script)) (hlen : script.length ≤ 63)
    (N : NsOk ((script.take 6 ++ fx).map lawNameF)) :
    wpAny (model prog w) A (execs (fnBody (stAt 15)) (lawE L fa cd)) (fun f s' => f = .ret (.bool true) ∧ ∃ h' tk, s' = { s with heap := h', toks := tk } ∧ Ext b h') E s := by
  show wpAny _ _ (execs [lawSt 0, lawSt 1, lawSt 2, lawSt 3, lawSt 4, lawSt 5, lawSt 6, lawSt 7, lawSt 8, lawSt 9, lawSt 10, lawSt 11] _) _ _ _
  refine wpAny_execs_cons (law_s0 hfx hfl B K X hm hsv hlen fun h₀ tk₀ an X₀ hn₀ => ?_)
  generalize hns : (script.take 6 ++ fx).map lawNameF = ns at N hn₀
  have V0 := N.v .none .none .none .none 0 0 0
  have hln : ns.length ≤ 64 := V0.ln
  have h0 : ∀ x ∈ ns, 0 < x.length := fun x hx => (V0.N x hx).len0
  refine wpAny_execs_cons (law_s1 (s := { s with heap := h₀, toks := tk₀ }) (nv := .ref an) B K X₀ (if_pos rfl) hn₀ hln fun h₁ tk₁ ka X₁ hk₁ e₁ => ?_)
  refine wpAny_execs_cons (law_s2 (s := { s with heap := h₁, toks := tk₁ }) (nv := .ref an) K X₁ (if_pos rfl) (hn₀.ext e₁) hln h0 fun h₂ tk₂ da ha X₂ hd₂ hh₂ e₂ => ?_)
  refine wpAny_execs_cons (law_s3 (s := { s with heap := h₂, toks := tk₂ }) K X₂ fun h₃ tk₃ aL aF aG X₃ oL oF oG nLF nLG nFG OL OF OG => ?_)
  have V := N.v (.ref an) (.ref ka) (.ref da) (.ref ha) aL aF aG
  have R := N.r (.ref an) (.ref ka) (.ref da) (.ref ha) aL aF aG
  have Z := N.e (.ref an) (.ref ka) (.ref da) (.ref ha) aL aF aG
  have E12 := e₁.trans e₂
  have C : Cx L (aL :: aF :: aG :: Mu) b (valsOf ns (.ref an) (.ref ka) (.ref da) (.ref ha) aL aF aG) [] [] [] _ h₃ _ _ := ⟨X₃, rfl, hn₀.ext E12, rfl, hk₁.ext e₂, rfl, hd₂, rfl, hh₂, rfl, rfl, rfl, OL, OF, OG, nLF, nLG, nFG, ⟨[], 0, oL, .nil⟩, ⟨[], 0, oF, .nil⟩, ⟨[], 0, oG, .nil⟩⟩
  refine wpAny_execs_cons (law_s4 (s := { s with heap := h₃, toks := tk₃ }) B K C V fun h₄ tk₄ G₄ m₄ cv₄ C₄ _ => ?_)
  refine wpAny_execs_cons (law_s5 (s := { s with heap := h₄, toks := tk₄ }) B K C₄ V fun h₅ tk₅ G₅ m₅ cv₅ C₅ _ => ?_)
  refine wpAny_execs_cons (law_s6 (s := { s with heap := h₅, toks := tk₅ }) B K C₅ V fun h₆ tk₆ C₆ => ?_)
  refine wpAny_execs_cons (law_s7 (s := { s with heap := h₆, toks := tk₆ }) B K C₆ V fun h₇ tk₇ ra C₇ hr₇ => ?_)
  refine wpAny_execs_cons (law_s8 (s := { s with heap := h₇, toks := tk₇ }) B K C₇ V R fun h₈ tk₈ C₈ => ?_)
  refine wpAny_execs_cons (law_s9 (s := { s with heap := h₈, toks := tk₈ }) B K C₈ V (if_pos rfl) hr₇ fun h₉ tk₉ C₉ => ?_)
  refine wpAny_execs_cons (law_s10 (s := { s with heap := h₉, toks := tk₉ }) K C₉ V fun h₁₀ tk₁₀ G₁₀ oa C₁₀ R₁₀ => ?_)
  refine wpAny_execs_cons (law_s11 (s := { s with heap := h₁₀, toks := tk₁₀ }) B K C₁₀ V Z (if_pos rfl) R₁₀ fun h₁₁ tk₁₁ e₁₁ => ?_)
  exact ⟨rfl, h₁₁, tk₁₁, rfl, e₁₁⟩
end
end Mine
end

section
open PySem PySem.W PyProof.Rows PySem.Calls
set_option Elab.async false
set_option maxRecDepth 100000
set_option maxHeartbeats 2000000
namespace Mine
theorem cellsAre_lookup {cm : Str → Option Value} : ∀ {cs : List (Str × Addr)} {cells : List (Addr × Obj)} {n : Str} {c : Addr}, CellsAre cm cs cells → cs.lookup n = some c → ∃ o, (c, o) ∈ cells ∧ o.data = .cell (cm n)
  | _, _, _, _, .nil, h => by cases h
  | _, _, n, c, .cons (n := n₀) (c := c₀) (o := o) hd r, h => by
    rw [List.lookup_cons] at h
    cases hq : n == n₀ with
    | true =>
      rw [hq] at h
      obtain rfl := Option.some.inj h
      rw [beq_iff_eq.mp hq]
      exact ⟨o, .head _, hd⟩
    | false =>
      rw [hq] at h
      obtain ⟨o', h1, h2⟩ := cellsAre_lookup r h
      exact ⟨o', .tail _ h1, h2⟩
theorem lawCs_eq (L : Addr) : lawCs L = [(Str.ofString "reaches", L + 1 + 1 + 1 + 1 + 1 + 1), (Str.ofString "j", L + 1 + 1 + 1 + 1 + 1), (Str.ofString "host", L + 1 + 1 + 1 + 1), (Str.ofString "gone", L + 1 + 1 + 1), (Str.ofString "k", L + 1 + 1), (Str.ofString "names", L + 1)] := rfl
theorem law_cells {L : Addr} {h₀ h : Heap} {cm : Str → Option Value} {cells : List (Addr × Obj)} (X : CellsAre cm (lawCs L) cells) (N : News h₀ L h cells) : Cl L (lawCs L) h cm := by
  refine ⟨fun n c e => ?_, ?_, fun n c e => ?_⟩
  · obtain ⟨o, h1, h2⟩ := cellsAre_lookup X e
    exact ⟨o, (N _ h1).1, h2⟩
  · rw [lawCs_eq]
    have lt : ∀ a : Nat, a ≠ a + 1 ∧ a + 1 ≠ a := fun a => ⟨by omega, by omega⟩
    simp only [List.pairwise_cons, List.mem_cons, List.not_mem_nil, or_false, forall_eq_or_imp, forall_eq, List.Pairwise.nil, and_true, false_imp_iff, implies_true]
    refine ⟨⟨?_, ?_, ?_, ?_, ?_⟩, ⟨?_, ?_, ?_, ?_⟩, ⟨?_, ?_, ?_⟩, ⟨?_, ?_⟩, ?_⟩ <;> exact Nat.ne_of_gt (by first | exact Nat.lt_add_of_pos_right (by decide) | (simp only [Nat.add_assoc]; exact Nat.add_lt_add_left (by decide) L))
  · rw [lawCs_eq] at e
    simp only [List.mem_cons, List.not_mem_nil, or_false, Prod.mk.injEq] at e
    rcases e with ⟨_, rfl⟩ | ⟨_, rfl⟩ | ⟨_, rfl⟩ | ⟨_, rfl⟩ | ⟨_, rfl⟩ | ⟨_, rfl⟩ <;> first | exact Nat.lt_succ_self _ | (simp only [Nat.add_assoc]; exact Nat.lt_add_of_pos_right (by decide))
def lawMu (L : Addr) : List Addr := L :: (lawCs L).map (·.2)
theorem law_lw {h₀ h : Heap} {m cm : Str → Option Value} {cells : List (Addr × Obj)} (F : Fr h₀ h₀.objs.size h m) (X : CellsAre cm (lawCs h₀.objs.size) cells) (N : News h₀ h₀.objs.size h cells) :
    Lw h₀.objs.size (lawMu h₀.objs.size) h₀ h₀ h m cm := by
  have C := law_cells X N
  have look : ∀ n c, (lawCs h₀.objs.size).lookup n = some c → c ∈ lawMu h₀.objs.size := fun n c e => .tail _ (List.mem_map.mpr ⟨(n, c), mem_of_lookup e, rfl⟩)
  refine ⟨F.keep, Ext.refl _, fun a ha => ?_, fun a ha => ?_, F.ns, C, .head _, look⟩
  · rcases List.mem_cons.mp ha with rfl | ha
    · exact Heap.get?_none_of_le (Nat.le_refl _)
    · obtain ⟨⟨n, c⟩, hm, rfl⟩ := List.mem_map.mp ha
      exact Heap.get?_none_of_le (Nat.le_of_lt (C.above n c hm))
  · rcases List.mem_cons.mp ha with rfl | ha
    · obtain ⟨o, _, _, ho, _⟩ := F.ns; exact ⟨o, ho⟩
    · rw [lawCs_eq] at ha
      simp only [List.map_cons, List.map_nil, List.mem_cons, List.not_mem_nil, or_false] at ha
      rcases ha with rfl | rfl | rfl | rfl | rfl | rfl
      · obtain ⟨o, ho, _⟩ := C.cell (Str.ofString "reaches") _ rfl; exact ⟨o, ho⟩
      · obtain ⟨o, ho, _⟩ := C.cell (Str.ofString "j") _ rfl; exact ⟨o, ho⟩
      · obtain ⟨o, ho, _⟩ := C.cell (Str.ofString "host") _ rfl; exact ⟨o, ho⟩
      · obtain ⟨o, ho, _⟩ := C.cell (Str.ofString "gone") _ rfl; exact ⟨o, ho⟩
      · obtain ⟨o, ho, _⟩ := C.cell (Str.ofString "k") _ rfl; exact ⟨o, ho⟩
      · obtain ⟨o, ho, _⟩ := C.cell (Str.ofString "names") _ rfl; exact ⟨o, ho⟩
end Mine
end

section
open PySem PySem.W PyProof.Rows PySem.Calls
set_option Elab.async false
set_option maxRecDepth 100000
set_option maxHeartbeats 2000000
namespace Mine
/-! the plain law -/
theorem mem_kindsF {ns : List Str} {x : Str} (h : x ∈ kindsF ns) : x ∈ ns := by
  obtain ⟨i, hi, rfl⟩ := List.mem_map.mp h
  have hl := List.mem_range.mp (List.mem_filter.mp hi).1
  rw [List.getD_eq_getElem?_getD, List.getElem?_eq_getElem hl]
  exact List.getElem_mem hl
theorem kindsF_len (ns : List Str) : (kindsF ns).length ≤ ns.length := by
  unfold kindsF
  rw [List.length_map]
  exact Nat.le_trans (List.length_filter_le _ _) (by simp)
theorem kindsF_at {ns : List Str} {x : Str} : ∀ j : Nat, j < ns.length → ns.getD j Str.empty = x → x ∈ kindsF ns := by
  intro j
  induction j using Nat.strongRecOn with
  | ind j ih =>
    intro hj hx
    cases hq : (ns.take j).any (· == ns.getD j Str.empty) with
    | false => exact List.mem_map.mpr ⟨j, List.mem_filter.mpr ⟨List.mem_range.mpr hj, by rw [hq]; rfl⟩, hx⟩
    | true =>
      obtain ⟨y, hy, he⟩ := List.any_eq_true.mp hq
      obtain ⟨k, hk, hky⟩ := List.getElem_of_mem hy
      rw [List.length_take] at hk
      rw [List.getElem_take] at hky
      have hkn : k < ns.length := by omega
      refine ih k (by omega) hkn ?_
      rw [List.getD_eq_getElem?_getD, List.getElem?_eq_getElem hkn]
      show ns[k] = x
      rw [hky, beq_iff_eq.mp he, hx]
theorem kindsF_mem {ns : List Str} {x : Str} (h : x ∈ ns) : x ∈ kindsF ns := by
  obtain ⟨j, hj, hx⟩ := List.getElem_of_mem h
  exact kindsF_at j hj (by simp [hj, hx])
theorem mem_listF {ks : List Str} {h d : Str} : d ∈ listF ks h ↔ d ∈ ks ∧ udmF h d = true ∧ d ≠ h := by
  unfold listF
  constructor
  · intro hm
    obtain ⟨i, hi, rfl⟩ := List.mem_map.mp hm
    obtain ⟨hr, hp⟩ := List.mem_filter.mp hi
    have hl := List.mem_range.mp hr
    have e1 : ks.getD i Str.empty = ks[i] := by simp [hl]
    have e2 : (ks.map (udmF h)).getD i false = udmF h ks[i] := by simp [hl]
    rw [e1, e2] at hp
    rw [e1]
    simp only [Bool.and_true, Bool.and_eq_true, bne_iff_ne, ne_eq] at hp
    exact ⟨List.getElem_mem hl, hp.1, hp.2⟩
  · rintro ⟨hm, hu, hne⟩
    obtain ⟨i, hl, rfl⟩ := List.getElem_of_mem hm
    have e1 : ks.getD i Str.empty = ks[i] := by simp [hl]
    have e2 : (ks.map (udmF h)).getD i false = udmF h ks[i] := by simp [hl]
    refine List.mem_map.mpr ⟨i, List.mem_filter.mpr ⟨List.mem_range.mpr hl, ?_⟩, e1⟩
    rw [e1, e2]
    simp [hu, hne]
theorem keepF_iff {l : List Str} {d : Str} : keepF l d = true ↔ d ∉ l := by
  simp [keepF]
  exact ⟨fun h m => h d m rfl, fun h x hx q => h (q ▸ hx)⟩
/-- from facts of the single names to the law's plain facts -/
theorem nsok_of {ns : List Str} (hl : ns.length ≤ 64) (N : ∀ x ∈ ns, NmOk x) (P : ∀ x ∈ ns, ∀ y ∈ ns, udmF x y = matchedF x y) (Re : ∀ x ∈ ns, reachF x = lawReachF x) (Rn : ∀ x ∈ ns, NmOk (reachF x))
    (Rm : ∀ x ∈ ns, dotted x = false → udmF x (reachF x) = true) : NsOk ns := by
  have fl : ∀ p : Str → Bool, (ns.filter p).length ≤ 64 := fun p => Nat.le_trans (List.length_filter_le _ _) hl
  refine ⟨fun nv kv dv hv aL aF aG => ⟨hl, Nat.le_trans (kindsF_len ns) hl, fl _, fl _, N, fun x hx => mem_kindsF hx, fun x hx => (List.mem_filter.mp hx).1, fun x hx => (List.mem_filter.mp hx).1, P, ?_⟩,
    fun nv kv dv hv aL aF aG => ⟨Re, Rn, fun x hx => ?_⟩, fun nv kv dv hv aL aF aG => ⟨?_, ?_, ?_⟩⟩
  · intro h hh
    obtain ⟨hn, hd⟩ := List.mem_filter.mp hh
    refine List.filter_congr fun d hdm => ?_
    obtain ⟨dn, dd⟩ := List.mem_filter.mp hdm
    rw [Bool.eq_iff_iff, keepF_iff, keepF_iff, mem_listF, List.mem_filter, P h hn d dn]
    have hne : d ≠ h := by rintro rfl; rw [dd] at hd; cases hd
    have hk : d ∈ kindsF ns := kindsF_mem dn
    simp [hne, hk, hdm]
  · obtain ⟨hn, hd⟩ := List.mem_filter.mp hx
    exact Rm x hn (by simpa using hd)
  · refine List.filter_congr fun x hx => ?_
    rw [Bool.eq_iff_iff, keepF_iff, List.mem_filter]
    have hk := kindsF_mem hx
    simp [hk]
  · refine List.filter_congr fun x hx => ?_
    rw [Bool.eq_iff_iff, keepF_iff, List.mem_filter]
    have hk := kindsF_mem hx
    simp [hk]
  · rw [List.filter_filter, List.filter_eq_nil_iff]
    intro x hx hp
    rw [Bool.and_eq_true, keepF_iff, keepF_iff, List.mem_filter, List.mem_filter] at hp
    have hk := kindsF_mem hx
    simp [hk] at hp
end Mine
end

section
open PySem PySem.W PyProof.Rows PySem.Calls
set_option Elab.async false
set_option maxRecDepth 100000
set_option maxHeartbeats 8000000
namespace Mine
theorem digs_mem {n : Nat} (h : n < 4) : n ∈ digs := by
  have : n = 0 ∨ n = 1 ∨ n = 2 ∨ n = 3 := by omega
  rcases this with rfl | rfl | rfl | rfl <;> decide
theorem allDs_mem {ds : List Nat} (h1 : 1 ≤ ds.length) (h3 : ds.length ≤ 3) (h : ∀ d ∈ ds, d < 4) : ds ∈ allDs := by
  unfold allDs
  match ds, h1, h3, h with
  | [a], _, _, h =>
    refine List.mem_append_left _ (List.mem_append_left _ (List.mem_map.mpr ⟨a, digs_mem (h a (by simp)), rfl⟩))
  | [a, b], _, _, h =>
    exact List.mem_append_left _ (List.mem_append_right _ (List.mem_flatMap.mpr ⟨a, digs_mem (h a (by simp)), List.mem_map.mpr ⟨b, digs_mem (h b (by simp)), rfl⟩⟩))
  | [a, b, c], _, _, h =>
    exact List.mem_append_right _ (List.mem_flatMap.mpr ⟨a, digs_mem (h a (by simp)), List.mem_flatMap.mpr ⟨b, digs_mem (h b (by simp)), List.mem_map.mpr ⟨c, digs_mem (h c (by simp)), rfl⟩⟩⟩)
theorem allN_mem {d : Bool} {ds : List Nat} (h : ds ∈ allDs) : mkN d ds ∈ allN :=
  List.mem_flatMap.mpr ⟨d, by cases d <;> simp, List.mem_map.mpr ⟨ds, h, rfl⟩⟩
theorem lawName_in (x : Int) : lawNameF x ∈ allN := by
  have h3 := mod3 x
  refine allN_mem (allDs_mem ?_ ?_ ?_)
  · rw [List.length_map, List.length_range]; omega
  · rw [List.length_map, List.length_range]; omega
  · intro d hd
    obtain ⟨i, _, rfl⟩ := List.mem_map.mp hd
    exact digF_lt x i
end Mine
end

section
open PySem PySem.W PyProof.Rows PySem.Calls
set_option Elab.async false
set_option maxRecDepth 100000
set_option maxHeartbeats 2000000
namespace Mine
theorem signs_all : (allN.all fun x => x.cps.toList.all fun c => decide (c < 128) && (lo1 c == c) && (lo1 (up1 c) == c) && decide (up1 c < 128)) = true := by decide +kernel
theorem signs_of {x : Str} (h : x ∈ allN) : ∀ c ∈ x.cps.toList, c < 128 ∧ lo1 c = c ∧ lo1 (up1 c) = c ∧ up1 c < 128 := by
  intro c hc
  have := List.all_eq_true.mp (List.all_eq_true.mp signs_all x h) c hc
  simp only [Bool.and_eq_true, decide_eq_true_eq, beq_iff_eq] at this
  exact ⟨this.1.1.1, this.1.1.2, this.1.2, this.2⟩
theorem map_self {f : Nat → Nat} {a : Array Nat} (h : ∀ c ∈ a.toList, f c = c) : a.map f = a := by
  apply Array.ext'
  rw [Array.toList_map]
  exact (List.map_congr_left h).trans (List.map_id' _)
theorem low_of {x : Str} (h : x ∈ allN) : Txt.lower x = x := by
  have hs := signs_of h
  rw [lower_ascii fun c hc => (hs c hc).1, map_self fun c hc => (hs c hc).2.1]
theorem up_of {x : Str} (h : x ∈ allN) : Txt.upper x = ⟨x.cps.map up1⟩ := upper_ascii fun c hc => (signs_of h c hc).1
theorem uplow_of {x : Str} (h : x ∈ allN) : Txt.lower (Txt.upper x) = x := by
  have hs := signs_of h
  rw [up_of h, lower_ascii]
  · show (⟨(x.cps.map up1).map lo1⟩ : Str) = x
    rw [Array.map_map, map_self (f := lo1 ∘ up1) fun c hc => (hs c hc).2.2.1]
  · intro c hc
    simp only [Array.toList_map, List.mem_map] at hc
    obtain ⟨d, hd, rfl⟩ := hc
    exact (hs d hd).2.2.2
end Mine
end

section
open PySem PySem.W PyProof.Rows PySem.Calls
set_option Elab.async false
set_option maxRecDepth 100000
set_option maxHeartbeats 8000000
namespace Mine

def reB (x : Str) : Bool := reachF x == lawReachF x
theorem reach_0 : (row 0).all reB = true := by decide +kernel
theorem reach_1 : (row 1).all reB = true := by decide +kernel
theorem reach_2 : (row 2).all reB = true := by decide +kernel
theorem reach_3 : (row 3).all reB = true := by decide +kernel
theorem reach_4 : (row 4).all reB = true := by decide +kernel
theorem reach_5 : (row 5).all reB = true := by decide +kernel
theorem reach_6 : (row 6).all reB = true := by decide +kernel
theorem reach_7 : (row 7).all reB = true := by decide +kernel
theorem reach_8 : (row 8).all reB = true := by decide +kernel
theorem reach_9 : (row 9).all reB = true := by decide +kernel
theorem reach_10 : (row 10).all reB = true := by decide +kernel
theorem reach_11 : (row 11).all reB = true := by decide +kernel
theorem reach_12 : (row 12).all reB = true := by decide +kernel
theorem reach_13 : (row 13).all reB = true := by decide +kernel
theorem reach_row : ∀ k, k < 14 → (row k).all reB = true := by
  intro k hk
  match k, hk with
  | 0, _ => exact reach_0
  | 1, _ => exact reach_1
  | 2, _ => exact reach_2
  | 3, _ => exact reach_3
  | 4, _ => exact reach_4
  | 5, _ => exact reach_5
  | 6, _ => exact reach_6
  | 7, _ => exact reach_7
  | 8, _ => exact reach_8
  | 9, _ => exact reach_9
  | 10, _ => exact reach_10
  | 11, _ => exact reach_11
  | 12, _ => exact reach_12
  | 13, _ => exact reach_13
theorem reach_all : (allN.all reB) = true := all_of reach_row
def rmB (x : Str) : Bool := dotted x || udmF x (reachF x)
theorem reach_m_0 : (row 0).all rmB = true := by decide +kernel
theorem reach_m_1 : (row 1).all rmB = true := by decide +kernel
theorem reach_m_2 : (row 2).all rmB = true := by decide +kernel
theorem reach_m_3 : (row 3).all rmB = true := by decide +kernel
theorem reach_m_4 : (row 4).all rmB = true := by decide +kernel
theorem reach_m_5 : (row 5).all rmB = true := by decide +kernel
theorem reach_m_6 : (row 6).all rmB = true := by decide +kernel
theorem reach_m_7 : (row 7).all rmB = true := by decide +kernel
theorem reach_m_8 : (row 8).all rmB = true := by decide +kernel
theorem reach_m_9 : (row 9).all rmB = true := by decide +kernel
theorem reach_m_10 : (row 10).all rmB = true := by decide +kernel
theorem reach_m_11 : (row 11).all rmB = true := by decide +kernel
theorem reach_m_12 : (row 12).all rmB = true := by decide +kernel
theorem reach_m_13 : (row 13).all rmB = true := by decide +kernel
theorem reach_m_row : ∀ k, k < 14 → (row k).all rmB = true := by
  intro k hk
  match k, hk with
  | 0, _ => exact reach_m_0
  | 1, _ => exact reach_m_1
  | 2, _ => exact reach_m_2
  | 3, _ => exact reach_m_3
  | 4, _ => exact reach_m_4
  | 5, _ => exact reach_m_5
  | 6, _ => exact reach_m_6
  | 7, _ => exact reach_m_7
  | 8, _ => exact reach_m_8
  | 9, _ => exact reach_m_9
  | 10, _ => exact reach_m_10
  | 11, _ => exact reach_m_11
  | 12, _ => exact reach_m_12
  | 13, _ => exact reach_m_13
theorem reach_m_all : (allN.all rmB) = true := all_of reach_m_row
def dotN : List Str := mkN true [2] :: digs.flatMap fun a => digs.map fun b => mkN true [a, b]
def inB (x : Str) : Bool := (reachF x == x) || dotN.contains (reachF x)
theorem reach_in_0 : (row 0).all inB = true := by decide +kernel
theorem reach_in_1 : (row 1).all inB = true := by decide +kernel
theorem reach_in_2 : (row 2).all inB = true := by decide +kernel
theorem reach_in_3 : (row 3).all inB = true := by decide +kernel
theorem reach_in_4 : (row 4).all inB = true := by decide +kernel
theorem reach_in_5 : (row 5).all inB = true := by decide +kernel
theorem reach_in_6 : (row 6).all inB = true := by decide +kernel
theorem reach_in_7 : (row 7).all inB = true := by decide +kernel
theorem reach_in_8 : (row 8).all inB = true := by decide +kernel
theorem reach_in_9 : (row 9).all inB = true := by decide +kernel
theorem reach_in_10 : (row 10).all inB = true := by decide +kernel
theorem reach_in_11 : (row 11).all inB = true := by decide +kernel
theorem reach_in_12 : (row 12).all inB = true := by decide +kernel
theorem reach_in_13 : (row 13).all inB = true := by decide +kernel
theorem reach_in_row : ∀ k, k < 14 → (row k).all inB = true := by
  intro k hk
  match k, hk with
  | 0, _ => exact reach_in_0
  | 1, _ => exact reach_in_1
  | 2, _ => exact reach_in_2
  | 3, _ => exact reach_in_3
  | 4, _ => exact reach_in_4
  | 5, _ => exact reach_in_5
  | 6, _ => exact reach_in_6
  | 7, _ => exact reach_in_7
  | 8, _ => exact reach_in_8
  | 9, _ => exact reach_in_9
  | 10, _ => exact reach_in_10
  | 11, _ => exact reach_in_11
  | 12, _ => exact reach_in_12
  | 13, _ => exact reach_in_13
theorem reach_in_all : (allN.all inB) = true := all_of reach_in_row
theorem dot_in : (dotN.all fun x => allN.contains x) = true := by decide +kernel

def splitB (x : Str) : Bool := decide (0 < (Txt.split x (Str.ofString ".")).length) && decide ((Txt.split x (Str.ofString ".")).length ≤ 4096) && ((Txt.split x (Str.ofString ".")).all PyData.strOk) && decide ((((Txt.split x (Str.ofString ".")).drop 1).map (·.length)).sum + ((Txt.split x (Str.ofString ".")).drop 1).length * (Str.ofString ".").length ≤ 4000) && decide ((Txt.join (Str.ofString ".") ((Txt.split x (Str.ofString ".")).drop 1)).length ≤ 4000) && decide ((Builtin.Str.partsBetween x (Builtin.Str.occurrences x (Str.ofString ".") 0 x.length (x.length + 1)) (Str.ofString ".").length).length ≤ 4096)
theorem split_0 : (row 0).all splitB = true := by decide +kernel
theorem split_1 : (row 1).all splitB = true := by decide +kernel
theorem split_2 : (row 2).all splitB = true := by decide +kernel
theorem split_3 : (row 3).all splitB = true := by decide +kernel
theorem split_4 : (row 4).all splitB = true := by decide +kernel
theorem split_5 : (row 5).all splitB = true := by decide +kernel
theorem split_6 : (row 6).all splitB = true := by decide +kernel
theorem split_7 : (row 7).all splitB = true := by decide +kernel
theorem split_8 : (row 8).all splitB = true := by decide +kernel
theorem split_9 : (row 9).all splitB = true := by decide +kernel
theorem split_10 : (row 10).all splitB = true := by decide +kernel
theorem split_11 : (row 11).all splitB = true := by decide +kernel
theorem split_12 : (row 12).all splitB = true := by decide +kernel
theorem split_13 : (row 13).all splitB = true := by decide +kernel
theorem split_row : ∀ k, k < 14 → (row k).all splitB = true := by
  intro k hk
  match k, hk with
  | 0, _ => exact split_0
  | 1, _ => exact split_1
  | 2, _ => exact split_2
  | 3, _ => exact split_3
  | 4, _ => exact split_4
  | 5, _ => exact split_5
  | 6, _ => exact split_6
  | 7, _ => exact split_7
  | 8, _ => exact split_8
  | 9, _ => exact split_9
  | 10, _ => exact split_10
  | 11, _ => exact split_11
  | 12, _ => exact split_12
  | 13, _ => exact split_13
theorem split_all : (allN.all splitB) = true := all_of split_row

theorem seven : Str.ofString ".7" = (⟨#[46, 55]⟩ : Str) := by decide +kernel
theorem sl_big {n k : Nat} (h : n ≤ k) (hk : k ≤ 4096) : n ≤ sizeLine := by rw [sizeLine_eq]; omega
theorem nm_of {x : Str} (h : x ∈ allN) : NmOk x := by
  have hl := List.all_eq_true.mp len_all x h
  have hs := List.all_eq_true.mp split_all x h
  have ho := List.all_eq_true.mp ok_all x h
  have hh := List.all_eq_true.mp hits_all x h
  unfold splitB at hs
  simp only [Bool.and_eq_true, decide_eq_true_eq] at hl hs
  obtain ⟨⟨⟨⟨⟨s1, s2⟩, s3⟩, s4⟩, s5⟩, s6⟩ := hs
  refine ⟨hl.1, by omega, ho, low_of h, uplow_of h, ?_, ?_, fun k => Txt.slice_le _ _ _, ⟨by omega, s6, s1, s2, fun y hy => List.all_eq_true.mp s3 y hy, s4, s5⟩⟩
  · rw [up_of h]
    refine sl_big (k := 20) ?_ (by decide)
    show (x.cps.map up1).size ≤ 20
    rw [Array.size_map]
    exact hl.2
  · have := beq_iff_eq.mp hh
    rw [this]
    unfold hitN
    rw [seven]
theorem reach_mem {x : Str} (h : x ∈ allN) : reachF x ∈ allN := by
  have := List.all_eq_true.mp reach_in_all x h
  rcases Bool.or_eq_true_iff.mp this with q | q
  · rw [beq_iff_eq.mp q]; exact h
  · have hd : reachF x ∈ dotN := by simpa using q
    have := List.all_eq_true.mp dot_in _ hd
    simpa using this
theorem nsok {ns : List Str} (hl : ns.length ≤ 64) (h : ∀ x ∈ ns, x ∈ allN) (P : ∀ x ∈ allN, ∀ y ∈ allN, udmF x y = matchedF x y) : NsOk ns :=
  nsok_of hl (fun x hx => nm_of (h x hx)) (fun x hx y hy => P x (h x hx) y (h y hy)) (fun x hx => beq_iff_eq.mp (List.all_eq_true.mp reach_all x (h x hx))) (fun x hx => nm_of (reach_mem (h x hx))) fun x hx hd => by
    have := List.all_eq_true.mp reach_m_all x (h x hx)
    unfold rmB at this
    rw [hd] at this
    simpa using this
end Mine
end

section
open PySem PySem.W PyProof.Rows PySem.Calls
set_option Elab.async false
set_option maxRecDepth 100000
set_option maxHeartbeats 2000000
namespace Mine
/-! udmF is matchedF, by reasoning -/
theorem toL_len (x : Str) : x.cps.toList.length = x.length := Array.length_toList
theorem str_ext {x y : Str} (h : x.cps.toList = y.cps.toList) : x = y := by
  cases x; cases y; exact congrArg Str.mk (Array.ext' h)
theorem sl_end {x : Str} {i : Int} {n : Nat} (hi : i = (n : Int)) (hn : n ≤ x.length) : (Txt.slice x (some i) none).cps.toList = x.cps.toList.drop n := by
  subst hi
  rw [beq_iff_eq.mp (slice_closes_fromL (x := x) (i := (n : Int)) (b := (x.length : Int)) (by omega) (by omega) rfl)]
  show (((x.cps.toList.drop (n : Int).toNat).take ((x.length : Int) - (n : Int)).toNat).toArray).toList = _
  rw [List.toList_toArray, Int.toNat_natCast]
  refine List.take_of_length_le ?_
  rw [List.length_drop, toL_len]
  omega
theorem sl_neg {x : Str} (h : 2 ≤ x.length) : (Txt.slice x (some (-2)) none).cps.toList = x.cps.toList.drop (x.length - 2) := by
  rw [beq_iff_eq.mp (slice_closes_from_neg (x := x) (i := -2) (a := (x.length : Int) - 2) (b := (x.length : Int)) (by omega) (by omega) (by omega) rfl)]
  show (((x.cps.toList.drop ((x.length : Int) - 2).toNat).take ((x.length : Int) - ((x.length : Int) - 2)).toNat).toArray).toList = _
  rw [List.toList_toArray, show ((x.length : Int) - 2).toNat = x.length - 2 by omega]
  refine List.take_of_length_le ?_
  rw [List.length_drop, toL_len]
  omega
theorem ends_iff {x y : Str} : Txt.endswith x y = true ↔ y.length ≤ x.length ∧ x.cps.toList.drop (x.length - y.length) = y.cps.toList := by
  unfold Txt.endswith
  rw [Bool.and_eq_true, decide_eq_true_eq, StrLaws.subAt_eq, beq_iff_eq, Nat.zero_add]
  refine and_congr_right fun h => ?_
  rw [List.take_of_length_le]
  rw [List.length_drop, toL_len]
  omega
theorem ends_slice {x y : Str} (h : y.length ≤ x.length) : (Txt.slice x (some (((x.length : Nat) : Int) - ((y.length : Nat) : Int))) none == y) = Txt.endswith x y := by
  rw [Bool.eq_iff_iff, beq_iff_eq, ends_iff]
  have e := sl_end (x := x) (i := ((x.length : Nat) : Int) - ((y.length : Nat) : Int)) (n := x.length - y.length) (by omega) (by omega)
  constructor
  · intro q
    rw [q] at e
    exact ⟨h, e.symm⟩
  · intro q
    exact str_ext (e.trans q.2)
theorem ends_hit {x y : Str} (h2 : 2 ≤ y.length) (h : Txt.endswith x y = true) : hitN x = hitN y := by
  obtain ⟨hl, hd⟩ := ends_iff.mp h
  unfold hitN
  have : Txt.slice x (some (-2)) none = Txt.slice y (some (-2)) none := by
    refine str_ext ?_
    rw [sl_neg (by omega), sl_neg h2, ← hd, List.drop_drop]
    congr 1
    omega
  rw [this]
theorem ends_self (x : Str) : Txt.endswith x x = true := ends_iff.mpr ⟨Nat.le_refl _, by rw [Nat.sub_self]; rfl⟩
theorem pair_of {x y : Str} (hs : Txt.startswith y (Str.ofString ".") = (Txt.item y 0 == Str.ofString ".")) (h2 : (Txt.item y 0 == Str.ofString ".") = true → 2 ≤ y.length) : udmF x y = matchedF x y := by
  unfold udmF matchedF
  rw [hs, show (Txt.slice y (some (-2)) none == Str.ofString ".7") = hitN y from rfl, show (Txt.item y 0 != Str.ofString ".") = !(Txt.item y 0 == Str.ofString ".") from rfl]
  simp only [Bool.and_true, Bool.or_false]
  have heq : (x == y) = true → Txt.endswith x y = true ∧ hitN x = hitN y ∧ y.length ≤ x.length := by
    intro q
    obtain rfl := beq_iff_eq.mp q
    exact ⟨ends_self _, rfl, Nat.le_refl _⟩
  cases hd : (Txt.item y 0 == Str.ofString ".") with
  | false =>
    cases hx : hitN x <;> cases hy : hitN y <;> cases q : (x == y) <;> rfl
  | true =>
    have h2 := h2 hd
    by_cases hl : y.length ≤ x.length
    · rw [ends_slice hl, decide_eq_false (by omega : ¬ ((x.length : Int) < (y.length : Int)))]
      cases he : Txt.endswith x y with
      | true =>
        have hh := ends_hit h2 he
        cases hy : hitN y <;> rw [hy] at hh <;> rw [hh] <;> cases q : (x == y) <;> rfl
      | false =>
        have q : (x == y) = false := by
          cases q : (x == y) with
          | false => rfl
          | true => rw [(heq q).1] at he; exact he
        rw [q]
        cases hitN x <;> cases hitN y <;> rfl
    · have q : (x == y) = false := by
        cases q : (x == y) with
        | false => rfl
        | true => exact absurd (heq q).2.2 hl
      have he : Txt.endswith x y = false := by
        cases he : Txt.endswith x y with
        | false => rfl
        | true => exact absurd (ends_iff.mp he).1 hl
      rw [q, he, decide_eq_true (by omega : ((x.length : Int) < (y.length : Int)))]
      cases hitN x <;> cases hitN y <;> rfl
end Mine
end

section
open PySem PySem.W PyProof.Rows PySem.Calls
set_option Elab.async false
set_option maxRecDepth 100000
set_option maxHeartbeats 8000000
namespace Mine
theorem dots_all : (allN.all fun x => (Txt.startswith x (Str.ofString ".") == (Txt.item x 0 == Str.ofString ".")) && (!(Txt.item x 0 == Str.ofString ".") || decide (2 ≤ x.length))) = true := by decide +kernel
theorem pairs : ∀ x ∈ allN, ∀ y ∈ allN, udmF x y = matchedF x y := by
  intro x _ y hy
  have h := List.all_eq_true.mp dots_all y hy
  obtain ⟨h1, h2⟩ := Bool.and_eq_true_iff.mp h
  refine pair_of (beq_iff_eq.mp h1) fun hd => ?_
  rw [hd] at h2
  simpa using h2
theorem law_names (script : List Int) (h : script.length ≤ 63) : NsOk ((script.take 6 ++ fixedX).map lawNameF) := by
  refine nsok ?_ ?_ pairs
  · rw [List.length_map, List.length_append, List.length_take, show fixedX.length = 13 from rfl]; omega
  · intro x hx
    obtain ⟨n, _, rfl⟩ := List.mem_map.mp hx
    exact lawName_in n
end Mine
end

section
open PySem PySem.W PyProof.Rows PySem.Calls
set_option Elab.async false
set_option maxRecDepth 100000
set_option maxHeartbeats 8000000
namespace Mine
theorem law_la {L fa : Addr} {cd : Value} (h : callerA.frames = some []) : LA (callerA.deeper (lawE L fa cd)) (lawE L fa cd) :=
  ⟨rfl, Around.frames_deeper h, by show callerA.depth + 1 + 20 < recursionLimit; decide +kernel, by show callerA.units + 3 + 100 < cLine; decide +kernel⟩
theorem entry (N : ∀ script : List Int, script.length ≤ 63 → NsOk ((script.take 6 ++ fixedX).map lawNameF)) : PySem.Challenge.rw_il0005_01.Holds := hd (by
  k_go0
  all_goals (try k_fold)
  rename Frag.In _ _ => KX
  rename Top _ _ _ _ _ _ => T
  rename Fr _ _ _ _ => F
  rename News _ _ _ _ => N0
  rename CellsAre _ _ _ => X0
  rename IntsAre _ _ => hI
  rename Heap.IsList _ _ _ => hL
  rename Below _ _ _ _ => K0
  rename _ = #[] => hg
  rename ¬ _ => hc
  have hlen := Int.not_lt.mp hc
  have B : Bs _ _ := ⟨KX, ⟨_, T.g⟩, ⟨_, T.b, T.builtins⟩, T.nolimit⟩
  have X := law_lw F X0 N0
  refine wpAny_mono (law_run (fx := fixedX) rfl rfl B (law_la K0.stack) X rfl ⟨_, _, rfl, hL, hI⟩ (by omega) (N _ (by omega))) (fun f s' hf => ?_) fun _ _ x => x
  obtain ⟨rfl, h', tk, rfl, he⟩ := hf
  refine ⟨.inl ⟨_, _, [], rfl, fun _ => rfl, ReadsW.bool true, ?_, fun _ => ⟨List.nodup_nil, fun _ hm => (nomatch hm)⟩⟩, he, rfl, hg⟩
  first | rfl | wrow_post)
end Mine
end

open PySem PySem.W PyProof.Rows
set_option Elab.async false
set_option maxRecDepth 100000 in
set_option maxHeartbeats 8000000 in
theorem PySem.Challenge.cw_il0005_01_holds : PySem.Challenge.rw_il0005_01.Holds := by
  exact Mine.entry fun script h => Mine.law_names script h
