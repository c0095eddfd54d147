import PyProof.Rows.All
import Wide.All
import OpenK.AllK
import Wide.FinOn
import PySem.Challenge.RW_iv0076_01
set_option Elab.async false
section
open PySem PySem.W PyProof.Rows PySem.Calls
set_option maxRecDepth 100000
set_option maxHeartbeats 4000000
set_option linter.unusedVariables false
namespace Mine
abbrev pw := PySem.Challenge.pw_iv0076_01
def fnParams : Stmt → Arguments
  | .FunctionDef _ a _ _ _ _ _ _ _ _ => a
  | _ => default
def fnBody : Stmt → List Stmt
  | .FunctionDef _ _ b _ _ _ _ _ _ _ => b
  | _ => []
def fnScope : Stmt → Scope
  | .FunctionDef _ _ _ _ _ _ s _ _ _ => s
  | _ => default
def clsBody : Stmt → List Stmt
  | .ClassDef _ _ _ b _ _ _ _ _ _ _ => b
  | _ => []
def atTop (i : Nat) : Stmt := pw.main.body.getD i (.Pass default)
def atCls (i j : Nat) : Stmt := (clsBody (atTop i)).getD j (.Pass default)

/-- every object of h stands in h' -/
def Grows (h h' : Heap) : Prop := ∀ b o, h.get? b = some o → h'.get? b = some o
theorem Grows.refl (h : Heap) : Grows h h := fun _ _ e => e
theorem Grows.trans {a b c : Heap} (x : Grows a b) (y : Grows b c) : Grows a c := fun i o e => y i o (x i o e)
theorem Grows.push (h : Heap) (o : Obj) : Grows h (h.push o) := fun _ _ e => Heap.get?_push_of_some _ e
/-- every object of h but the one at L stands in h' -/
def GrowsBut (L : Addr) (h h' : Heap) : Prop := ∀ b o, b ≠ L → h.get? b = some o → h'.get? b = some o
theorem Grows.but {L : Addr} {a b : Heap} (x : Grows a b) : GrowsBut L a b := fun i o _ e => x i o e
theorem GrowsBut.trans {L : Addr} {a b c : Heap} (x : GrowsBut L a b) (y : GrowsBut L b c) : GrowsBut L a c := fun i o n e => y i o n (x i o n e)
theorem sb_but {L : Addr} {a b : Heap} (x : Heap.SameBut L a b) : GrowsBut L a b := fun i o n e => (x.2 i n).trans e

structure Gl (h : Heap) (mg mb : Str → Option Value) : Prop where
  g : h.Ns mainGlobals mg
  b : h.Ns builtinsNs mb
  nolimit : h.NoLimit
  blt : ∀ x : Str, x ≠ "__name__" → mb x = bootBuiltins x
theorem Gl.keeps {h h' : Heap} {mg mb} (G : Gl h mg mb) (hk : Grows h h') : Gl h' mg mb :=
  ⟨G.g.keeps hk, G.b.keeps hk, G.nolimit.keeps hk, G.blt⟩

structure Cx where
  w : World
  A : Around
  g : Array GenState
  dr : Drawn
  os : OsState
  env : Env
abbrev Cx.st (c : Cx) (h : Heap) (tk : Nat) : Shared := ⟨h, c.g, c.dr, tk, c.os⟩
abbrev Cx.M (c : Cx) : Model := model pw c.w

def Ev (c : Cx) (h : Heap) (e : Expr) (P : Value → Heap → Prop) : Prop :=
  ∀ h₁, Grows h h₁ → ∀ (tk : Nat) (Q : Value → Shared → Prop) (E : Value → Shared → Prop), (∀ v h₂ tk', Grows h₁ h₂ → P v h₂ → Q v (c.st h₂ tk')) → wpAny c.M c.A (eval e c.env) Q E (c.st h₁ tk)
def Ts (c : Cx) (h : Heap) (e : Expr) (b : Bool) : Prop :=
  ∀ h₁, Grows h h₁ → ∀ (tk : Nat) (Q : Bool → Shared → Prop) (E : Value → Shared → Prop), (∀ h₂ tk', Grows h₁ h₂ → Q b (c.st h₂ tk')) → wpAny c.M c.A (isTrue e c.env (eval e c.env)) Q E (c.st h₁ tk)
def Evs (c : Cx) (h : Heap) (pos : Pos) (es : List Expr) (P : List Value → Heap → Prop) : Prop :=
  ∀ h₁, Grows h h₁ → ∀ (tk : Nat) (Q : List Value → Shared → Prop) (E : Value → Shared → Prop), (∀ v h₂ tk', Grows h₁ h₂ → P v h₂ → Q v (c.st h₂ tk')) → wpAny c.M c.A (spliced (backTo pos (starEach es c.env))) Q E (c.st h₁ tk)

abbrev IsS (x : Str) : Value → Heap → Prop := fun v _ => ∃ t, v = .str x t
abbrev IsI (i : Int) : Value → Heap → Prop := fun v _ => ∃ t, v = .int i t
abbrev IsV (u : Value) : Value → Heap → Prop := fun v _ => v = u
/-- a word of values that heaps keep -/
def Up (P : Value → Heap → Prop) : Prop := ∀ v h h', Grows h h' → P v h → P v h'
theorem up_s (x : Str) : Up (IsS x) := fun _ _ _ _ p => p
theorem up_i (x : Int) : Up (IsI x) := fun _ _ _ _ p => p
theorem up_v (x : Value) : Up (IsV x) := fun _ _ _ _ p => p

section
variable {c : Cx} {h : Heap} {mg mb m : Str → Option Value} {pos : Pos} {e l r : Expr} {P P' : Value → Heap → Prop}

theorem Ev.up {h' : Heap} (x : Ev c h e P) (g : Grows h h') : Ev c h' e P := fun h₁ g₁ => x h₁ (g.trans g₁)
theorem Ts.up {h' : Heap} {b : Bool} (x : Ts c h e b) (g : Grows h h') : Ts c h' e b := fun h₁ g₁ => x h₁ (g.trans g₁)
theorem Ev.mono (x : Ev c h e P) (k : ∀ v h, P v h → P' v h) : Ev c h e P' := fun h₁ g₁ tk Q E hQ => x h₁ g₁ tk Q E fun v h₂ tk' g p => hQ v h₂ tk' g (k _ _ p)

theorem Ev.loc {x : Str} {v : Value} (hn : h.Ns c.env.locals m) (hv : m x = some v) (hk : c.env.scope.kind = .function := by rfl) (hl : c.env.kindOf x = some .local := by rfl)
    (hd : (x == ("__debug__" : Str)) = false := by decide) : Ev c h (.Name x pos) (IsV v) :=
  fun h₁ g₁ tk Q E hQ => wpAny_Name (wpAny_loadName_local hk hl (hn.keeps g₁) hv (hQ v h₁ tk (.refl _) rfl)) hd
theorem Ev.locS {x y : Str} {t : Tok} (hn : h.Ns c.env.locals m) (hv : m x = some (.str y t)) (hk : c.env.scope.kind = .function := by rfl) (hl : c.env.kindOf x = some .local := by rfl)
    (hd : (x == ("__debug__" : Str)) = false := by decide) : Ev c h (.Name x pos) (IsS y) := (Ev.loc hn hv hk hl hd).mono fun _ _ e => ⟨t, e⟩
theorem Ev.locI {x : Str} {i : Int} {t : Tok} (hn : h.Ns c.env.locals m) (hv : m x = some (.int i t)) (hk : c.env.scope.kind = .function := by rfl) (hl : c.env.kindOf x = some .local := by rfl)
    (hd : (x == ("__debug__" : Str)) = false := by decide) : Ev c h (.Name x pos) (IsI i) := (Ev.loc hn hv hk hl hd).mono fun _ _ e => ⟨t, e⟩
theorem Ev.glob {x : Str} {v : Value} (hg : h.Ns c.env.globals mg) (hv : mg x = some v) (hk : c.env.scope.kind = .function := by rfl) (hl : c.env.kindOf x = some .globalImplicit := by rfl)
    (hd : (x == ("__debug__" : Str)) = false := by decide) : Ev c h (.Name x pos) (IsV v) :=
  fun h₁ g₁ tk Q E hQ => Name_function_global hk hl (loadGlobal_global (hg.keeps g₁) hv (hQ v h₁ tk (.refl _) rfl)) hd
theorem Ev.blt {x : Str} {v : Value} (G : Gl h mg mb) (hm : mg x = none) (hv : bootBuiltins x = some v) (he : c.env.globals = mainGlobals := by rfl) (hb : c.env.builtins = builtinsNs := by rfl)
    (hne : x ≠ "__name__" := by decide) (hk : c.env.scope.kind = .function := by rfl) (hl : c.env.kindOf x = some .globalImplicit := by rfl)
    (hd : (x == ("__debug__" : Str)) = false := by decide) : Ev c h (.Name x pos) (IsV v) :=
  fun h₁ g₁ tk Q E hQ => Name_function_global hk hl (loadGlobal_builtin (he ▸ G.g.keeps g₁) hm (hb ▸ G.b.keeps g₁) ((G.blt x hne).trans hv) (hQ v h₁ tk (.refl _) rfl)) hd
theorem Ev.str {x : Str} {k : Nat} : Ev c h (.Constant (.str x) k pos) (IsS x) := fun h₁ g₁ tk Q E hQ => Constant_str (hQ _ h₁ _ (.refl _) ⟨_, rfl⟩)
theorem Ev.int {i : Int} {k : Nat} : Ev c h (.Constant (.int i) k pos) (IsI i) := fun h₁ g₁ tk Q E hQ => wpAny_Constant_int (hQ _ h₁ _ (.refl _) ⟨_, rfl⟩)
theorem Ev.bool {b : Bool} {k : Nat} : Ev c h (.Constant (.bool b) k pos) (IsV (.bool b)) := fun h₁ g₁ tk Q E hQ => Constant_bool (hQ _ h₁ _ (.refl _) rfl)
theorem Ev.nonec {k : Nat} : Ev c h (.Constant .none k pos) (IsV .none) := fun h₁ g₁ tk Q E hQ => Constant_none (hQ _ h₁ _ (.refl _) rfl)

theorem Evs.nil : Evs c h pos [] (fun vs _ => vs = []) := fun h₁ g₁ tk Q E hQ => args_nil (hQ _ h₁ _ (.refl _) rfl)
theorem Evs.cons {es : List Expr} {P' : List Value → Heap → Prop} (x : Ev c h e P) (y : Evs c h pos es P') (u : Up P) (he : starEach (e :: es) c.env = (false, eval e c.env) :: starEach es c.env := by rfl) :
    Evs c h pos (e :: es) (fun vs h => ∃ v r, vs = v :: r ∧ P v h ∧ P' r h) :=
  fun h₁ g₁ tk Q E hQ => args_cons (x h₁ g₁ tk _ _ fun v h₂ tk' g₂ p => y h₂ (g₁.trans g₂) tk' _ _ fun vs h₃ tk'' g₃ p' => hQ _ h₃ tk'' (g₂.trans g₃) ⟨v, vs, rfl, u v h₂ h₃ g₃ p, p'⟩) he

/-- what a tree of one value does: it ends in a value with P, the heap grown -/
def Go (c : Cx) (h : Heap) (t : Sem Value) (P : Value → Heap → Prop) : Prop :=
  ∀ (tk : Nat) (Q : Value → Shared → Prop) (E : Value → Shared → Prop), (∀ v h₂ tk', Grows h h₂ → P v h₂ → Q v (c.st h₂ tk')) → wpAny c.M c.A t Q E (c.st h tk)

/-- a call of a built-in by its name -/
theorem Ev.callB {fn : Expr} {id : String} {rest : List Expr} {Pa : List Value → Heap → Prop} (hf : Ev c h fn (IsV (.builtin id))) (ha : Evs c h pos (e :: rest) Pa)
    (hb : ∀ vs h₁, Grows h h₁ → Pa vs h₁ → Go c h₁ (call (.builtin id) vs) P)
    (he : eval (.Call fn (e :: rest) [] pos) c.env = (do callWith pos (← eval fn c.env) [] (backTo pos (starEach (e :: rest) c.env)) (backToKw pos (keywordEach [] c.env))) := by rfl)
    (hs : starEach (e :: rest) c.env = (false, eval e c.env) :: starEach rest c.env := by rfl) (hp : (backTo pos (starEach rest c.env)).any (·.1) = false := by rfl) : Ev c h (.Call fn (e :: rest) [] pos) P := by
  intro h₁ g₁ tk Q E hQ
  refine Call_ (hf h₁ g₁ tk _ _ fun v h₂ tk' g₂ p => ?_) he
  obtain rfl : v = .builtin id := p
  exact PyProof.Rows.callWith_builtin1 (ha h₂ (g₁.trans g₂) tk' _ _ fun vs h₃ tk₃ g₃ p => hb vs h₃ ((g₁.trans g₂).trans g₃) p tk₃ Q E fun v h₄ tk₄ g₄ pv => hQ v h₄ tk₄ ((g₂.trans g₃).trans g₄) pv) hs hp

/-- a call of a def of the text, with arguments -/
theorem Ev.callF {fn : Expr} {f : Addr} {o : Obj} {fd : FuncData} {rest : List Expr} {Pa : List Value → Heap → Prop} (hf : Ev c h fn (IsV (.ref f))) (ho : h.get? f = some o) (hd : o.data = .func fd) (ha : Evs c h pos (e :: rest) Pa)
    (hb : ∀ vs h₁, Grows h h₁ → Pa vs h₁ → Go c h₁ (call (.ref f) vs) P)
    (he : eval (.Call fn (e :: rest) [] pos) c.env = (do callWith pos (← eval fn c.env) [] (backTo pos (starEach (e :: rest) c.env)) (backToKw pos (keywordEach [] c.env))) := by rfl)
    (hs : starEach (e :: rest) c.env = (false, eval e c.env) :: starEach rest c.env := by rfl) : Ev c h (.Call fn (e :: rest) [] pos) P := by
  intro h₁ g₁ tk Q E hQ
  refine Call_ (hf h₁ g₁ tk _ _ fun v h₂ tk' g₂ p => ?_) he
  obtain rfl : v = .ref f := p
  exact callWith_def hd (ha h₂ (g₁.trans g₂) tk' _ _ fun vs h₃ tk₃ g₃ p => ⟨((g₁.trans g₂).trans g₃) _ _ ho, hb vs h₃ ((g₁.trans g₂).trans g₃) p tk₃ Q E fun v h₄ tk₄ g₄ pv => hQ v h₄ tk₄ ((g₂.trans g₃).trans g₄) pv⟩) hs
/-- a call of a def of the text, without arguments -/
theorem Ev.callF0 {fn : Expr} {f : Addr} {o : Obj} {fd : FuncData} (hf : Ev c h fn (IsV (.ref f))) (ho : h.get? f = some o) (hd : o.data = .func fd)
    (hb : ∀ h₁, Grows h h₁ → Go c h₁ (call (.ref f) []) P)
    (he : eval (.Call fn [] [] pos) c.env = (do callWith pos (← eval fn c.env) [] (backTo pos (starEach [] c.env)) (backToKw pos (keywordEach [] c.env))) := by rfl) : Ev c h (.Call fn [] [] pos) P := by
  intro h₁ g₁ tk Q E hQ
  refine Call_ (hf h₁ g₁ tk _ _ fun v h₂ tk' g₂ p => ?_) he
  obtain rfl : v = .ref f := p
  exact callWith_function (o := o) (fd := fd) (PyProof.Rows.evalArgs_none ⟨⟨(g₁.trans g₂) _ _ ho, hd⟩, hb h₂ (g₁.trans g₂) tk' Q E fun v h₄ tk₄ g₄ pv => hQ v h₄ tk₄ (g₂.trans g₄) pv⟩)

/-- what looking a method up does -/
def GoM (c : Cx) (h : Heap) (ov : Value) (name : Str) (fn : Value) (first : List Value) : Prop :=
  ∀ (pl : Sem Bool) (tk : Nat) (Q : Value × List Value → Shared → Prop) (E : Value → Shared → Prop), Q (fn, first) (c.st h tk) → wpAny c.M c.A (getMethod ov name pl) Q E (c.st h tk)

/-- a method that is a built-in, with arguments -/
theorem Ev.meth {o : Expr} {n : Str} {apos : Pos} {id : String} {rest : List Expr} {pl : Sem Bool} {Po : Value → Heap → Prop} {Pa : List Value → Heap → Prop} (ho : Ev c h o Po) (uo : Up Po)
    (hm : ∀ ov h₁, Grows h h₁ → Po ov h₁ → GoM c h₁ ov n (.builtin id) [ov]) (ha : Evs c h pos (e :: rest) Pa)
    (hb : ∀ ov vs h₁, Grows h h₁ → Po ov h₁ → Pa vs h₁ → Go c h₁ (call (.builtin id) (ov :: vs)) P)
    (he : eval (.Call (.Attribute o n apos) (e :: rest) [] pos) c.env = (do
      let ov ← eval o c.env
      standAt apos.atName
      let (f, first) ← holding [ov] (getMethod ov n pl)
      callWith pos f first (backTo pos (starEach (e :: rest) c.env)) []) := by rfl)
    (hs : starEach (e :: rest) c.env = (false, eval e c.env) :: starEach rest c.env := by rfl) (hp : (backTo pos (starEach rest c.env)).any (·.1) = false := by rfl) : Ev c h (.Call (.Attribute o n apos) (e :: rest) [] pos) P := by
  intro h₁ g₁ tk Q E hQ
  refine MethodCall_ (ho h₁ g₁ tk _ _ fun ov h₂ tk' g₂ p => hm ov h₂ (g₁.trans g₂) p pl tk' _ _ ?_) he
  exact callWith_method1 (ha h₂ (g₁.trans g₂) tk' _ _ fun vs h₃ tk₃ g₃ p' => hb ov vs h₃ ((g₁.trans g₂).trans g₃) (uo _ _ _ g₃ p) p' tk₃ Q E fun v h₄ tk₄ g₄ pv => hQ v h₄ tk₄ ((g₂.trans g₃).trans g₄) pv) hs hp
/-- a method that is a built-in, without arguments -/
theorem Ev.meth0 {o : Expr} {n : Str} {apos : Pos} {id : String} {pl : Sem Bool} {Po : Value → Heap → Prop} (ho : Ev c h o Po)
    (hm : ∀ ov h₁, Grows h h₁ → Po ov h₁ → GoM c h₁ ov n (.builtin id) [ov])
    (hb : ∀ ov h₁, Grows h h₁ → Po ov h₁ → Go c h₁ (call (.builtin id) [ov]) P)
    (he : eval (.Call (.Attribute o n apos) [] [] pos) c.env = (do
      let ov ← eval o c.env
      standAt apos.atName
      let (f, first) ← holding [ov] (getMethod ov n pl)
      callWith pos f first (backTo pos (starEach [] c.env)) []) := by rfl) : Ev c h (.Call (.Attribute o n apos) [] [] pos) P := by
  intro h₁ g₁ tk Q E hQ
  refine MethodCall_ (ho h₁ g₁ tk _ _ fun ov h₂ tk' g₂ p => hm ov h₂ (g₁.trans g₂) p pl tk' _ _ ?_) he
  exact callWith_method0 (hb ov h₂ (g₁.trans g₂) p tk' Q E fun v h₄ tk₄ g₄ pv => hQ v h₄ tk₄ (g₂.trans g₄) pv)

theorem Ev.len {fn : Expr} {x : Str} (hf : Ev c h fn (IsV (.builtin "len"))) (he : Ev c h e (IsS x)) (hx : x.length ≤ 2 ^ 24)
    (h1 : eval (.Call fn [e] [] pos) c.env = (do callWith pos (← eval fn c.env) [] (backTo pos (starEach [e] c.env)) (backToKw pos (keywordEach [] c.env))) := by rfl)
    (hs : starEach [e] c.env = [(false, eval e c.env)] := by rfl) : Ev c h (.Call fn [e] [] pos) (IsI x.length) :=
  Ev.callB hf (Evs.cons he Evs.nil (up_s x) hs) (fun vs h₁ _ ⟨v, r, e1, ⟨t, e2⟩, e3⟩ tk Q E hQ => by
    subst e1 e2 e3
    exact SBL.len (by omega) (hQ _ h₁ _ (.refl _) ⟨_, rfl⟩)) h1 hs

theorem Ev.item {x : Str} {i : Int} {value slice : Expr} (hv : Ev c h value (IsS x)) (hi : Ev c h slice (IsI i)) (hx : x.length ≤ 2 ^ 24) (h1 : -(x.length : Int) ≤ i) (h2 : i < x.length)
    (hs : ∀ t u, subscripted slice false (.str x t) (.int i u) = operate [.str x t, .int i u] (getItem (.str x t) (.int i u)) := by intro _ _; with_unfolding_all rfl)
    (ht : ∀ t r, letTemporaryGo value (.str x t) r = pure () := by intro _ _; with_unfolding_all rfl) : Ev c h (.Subscript value slice pos) (IsS (Txt.item x i)) := by
  intro h₁ g₁ tk Q E hQ
  refine Subscript_ (hv h₁ g₁ tk _ _ fun v h₂ tk₂ g₂ p => hi h₂ (g₁.trans g₂) tk₂ _ _ fun k h₃ tk₃ g₃ p' => ?_)
  obtain ⟨t, rfl⟩ := p
  obtain ⟨u, rfl⟩ := p'
  exact item_str (fitsSsize_of (N := 9223372036854775808) (by omega) (by omega) (Int.le_refl _)) h1 h2 (fun _ => hQ _ h₃ _ (g₂.trans g₃) ⟨_, rfl⟩) (hs t u) (ht t)

theorem keptG (h₀ : Heap) : KeptH (Grows h₀) := fun _ ob g => g.trans (Grows.push _ ob)
theorem evalPart_none {Q : Value → Shared → Prop} {E : Value → Shared → Prop} {s : Shared} (k : Q .none s) : wpAny c.M c.A (evalPart none c.env) Q E s := wpAny_pure (a := Value.none) k
theorem evalPart_some {Q : Value → Shared → Prop} {E : Value → Shared → Prop} {s : Shared} (k : wpAny c.M c.A (eval e c.env) Q E s) : wpAny c.M c.A (evalPart (some e) c.env) Q E s := k

theorem Ev.slice_ss {x : Str} {i j : Int} {value a b : Expr} {ps : Pos} (hv : Ev c h value (IsS x)) (ha : Ev c h a (IsI i)) (hb : Ev c h b (IsI j)) (hx : x.length ≤ 2 ^ 24)
    (hs : ∀ t k, subscripted (.Slice (some a) (some b) none ps) false (.str x t) (.ref k) = operate [.ref k, .str x t] (getItem (.str x t) (.ref k)) := by intro _ _; with_unfolding_all rfl)
    (ht : ∀ t r, letTemporaryGo value (.str x t) r = pure () := by intro _ _; with_unfolding_all rfl) : Ev c h (.Subscript value (.Slice (some a) (some b) none ps) pos) (IsS (Txt.slice x (some i) (some j))) := by
  intro h₁ g₁ tk Q E hQ
  refine Subscript_ (hv h₁ g₁ tk _ _ fun v h₂ tk₂ g₂ p => ?_)
  obtain ⟨t, rfl⟩ := p
  refine wpAny_Slice (evalPart_some (ha h₂ (g₁.trans g₂) tk₂ _ _ fun v h₃ tk₃ g₃ p => ?_))
  obtain ⟨ti, rfl⟩ := p
  refine evalPart_some (hb h₃ ((g₁.trans g₂).trans g₃) tk₃ _ _ fun v h₄ tk₄ g₄ p => ?_)
  obtain ⟨tj, rfl⟩ := p
  refine evalPart_none ?_
  exact tail_of_ItemOn (SBH.sliceItem_ss (s := c.st h₄ tk₄) (P := Grows h₁) (keptG h₁) ((g₂.trans g₃).trans g₄) (fun h' t' k g => hQ _ h' _ g ⟨_, rfl⟩) (by rw [sizeLine_eq]; omega)) (hs t _) (ht t)
theorem Ev.slice_ns {x : Str} {j : Int} {value b : Expr} {ps : Pos} (hv : Ev c h value (IsS x)) (hb : Ev c h b (IsI j)) (hx : x.length ≤ 2 ^ 24)
    (hs : ∀ t k, subscripted (.Slice none (some b) none ps) false (.str x t) (.ref k) = operate [.ref k, .str x t] (getItem (.str x t) (.ref k)) := by intro _ _; with_unfolding_all rfl)
    (ht : ∀ t r, letTemporaryGo value (.str x t) r = pure () := by intro _ _; with_unfolding_all rfl) : Ev c h (.Subscript value (.Slice none (some b) none ps) pos) (IsS (Txt.slice x none (some j))) := by
  intro h₁ g₁ tk Q E hQ
  refine Subscript_ (hv h₁ g₁ tk _ _ fun v h₂ tk₂ g₂ p => ?_)
  obtain ⟨t, rfl⟩ := p
  refine wpAny_Slice (evalPart_none (evalPart_some (hb h₂ (g₁.trans g₂) tk₂ _ _ fun v h₄ tk₄ g₄ p => ?_)))
  obtain ⟨tj, rfl⟩ := p
  refine evalPart_none ?_
  exact tail_of_ItemOn (SBH.sliceItem_ns (s := c.st h₄ tk₄) (P := Grows h₁) (keptG h₁) (g₂.trans g₄) (fun h' t' k g => hQ _ h' _ g ⟨_, rfl⟩) (by rw [sizeLine_eq]; omega)) (hs t _) (ht t)
theorem Ev.slice_sn {x : Str} {i : Int} {value a : Expr} {ps : Pos} (hv : Ev c h value (IsS x)) (ha : Ev c h a (IsI i)) (hx : x.length ≤ 2 ^ 24)
    (hs : ∀ t k, subscripted (.Slice (some a) none none ps) false (.str x t) (.ref k) = operate [.ref k, .str x t] (getItem (.str x t) (.ref k)) := by intro _ _; with_unfolding_all rfl)
    (ht : ∀ t r, letTemporaryGo value (.str x t) r = pure () := by intro _ _; with_unfolding_all rfl) : Ev c h (.Subscript value (.Slice (some a) none none ps) pos) (IsS (Txt.slice x (some i) none)) := by
  intro h₁ g₁ tk Q E hQ
  refine Subscript_ (hv h₁ g₁ tk _ _ fun v h₂ tk₂ g₂ p => ?_)
  obtain ⟨t, rfl⟩ := p
  refine wpAny_Slice (evalPart_some (ha h₂ (g₁.trans g₂) tk₂ _ _ fun v h₄ tk₄ g₄ p => ?_))
  obtain ⟨tj, rfl⟩ := p
  refine evalPart_none (evalPart_none ?_)
  exact tail_of_ItemOn (SBH.sliceItem_sn (s := c.st h₄ tk₄) (P := Grows h₁) (keptG h₁) (g₂.trans g₄) (fun h' t' k g => hQ _ h' _ g ⟨_, rfl⟩) (by rw [sizeLine_eq]; omega)) (hs t _) (ht t)

/-- a binary word of two flat values -/
theorem Ev.bin {op : Operator} {Pl Pr : Value → Heap → Prop} (hl : Ev c h l Pl) (hr : Ev c h r Pr) (ul : Up Pl) (k : ∀ a b h₁, Pl a h₁ → Pr b h₁ → Go c h₁ (binaryOp op a b) P) : Ev c h (.BinOp l op r pos) P :=
  fun h₁ g₁ tk Q E hQ => wpAny_BinOp (hl h₁ g₁ tk _ _ fun a h₂ tk₂ g₂ p => hr h₂ (g₁.trans g₂) tk₂ _ _ fun b h₃ tk₃ g₃ p' => k a b h₃ (ul _ _ _ g₃ p) p' tk₃ Q E fun v h₄ tk₄ g₄ pv => hQ v h₄ tk₄ ((g₂.trans g₃).trans g₄) pv)
theorem Ev.add {i j : Int} (hl : Ev c h l (IsI i)) (hr : Ev c h r (IsI j)) : Ev c h (.BinOp l .Add r pos) (IsI (i + j)) :=
  Ev.bin hl hr (up_i i) fun a b h₁ ⟨t, e1⟩ ⟨u, e2⟩ tk Q E hQ => by subst e1 e2; exact PyProof.Rows.add_int (hQ _ _ _ (.refl _) ⟨_, rfl⟩)
theorem Ev.sub {i j : Int} (hl : Ev c h l (IsI i)) (hr : Ev c h r (IsI j)) : Ev c h (.BinOp l .Sub r pos) (IsI (i - j)) :=
  Ev.bin hl hr (up_i i) fun a b h₁ ⟨t, e1⟩ ⟨u, e2⟩ tk Q E hQ => by subst e1 e2; exact PyProof.Rows.sub_int (hQ _ _ _ (.refl _) ⟨_, rfl⟩)
theorem Ev.cat {x y : Str} (hl : Ev c h l (IsS x)) (hr : Ev c h r (IsS y)) (hx : x.length + y.length ≤ 2 ^ 24) : Ev c h (.BinOp l .Add r pos) (IsS (x ++ y)) :=
  Ev.bin hl hr (up_s x) fun a b h₁ ⟨t, e1⟩ ⟨u, e2⟩ tk Q E hQ => by subst e1 e2; exact PyProof.Rows.add_str (fun t' k => hQ _ _ _ (.refl _) ⟨_, rfl⟩) (by rw [sizeLine_eq]; omega)

/-- a comparison of two values that ends in the bool b and changes nothing -/
def Cmp (c : Cx) (op : CmpOp) (Pl Pr : Value → Heap → Prop) (b : Bool) : Prop :=
  ∀ x y h, Pl x h → Pr y h → ∀ (tk : Nat) (Q : Value → Shared → Prop) (E : Value → Shared → Prop), (∀ tk', Q (.bool b) (c.st h tk')) → wpAny c.M c.A (compareOp op x y) Q E (c.st h tk)
theorem Ev.cmp {op : CmpOp} {Pl Pr : Value → Heap → Prop} {b : Bool} (hl : Ev c h l Pl) (hr : Ev c h r Pr) (ul : Up Pl) (k : Cmp c op Pl Pr b)
    (hm : behindInMarks op r = false := by with_unfolding_all rfl) : Ev c h (.Compare l [op] [r] pos) (IsV (.bool b)) :=
  fun h₁ g₁ tk Q E hQ => wpAny_Compare1 (hl h₁ g₁ tk _ _ fun a h₂ tk₂ g₂ p => hr h₂ (g₁.trans g₂) tk₂ _ _ fun b' h₃ tk₃ g₃ p' => k a b' h₃ (ul _ _ _ g₃ p) p' tk₃ Q E fun tk' => hQ _ h₃ tk' (g₂.trans g₃) rfl) hm
theorem Ts.cmp {op : CmpOp} {Pl Pr : Value → Heap → Prop} {b : Bool} (hl : Ev c h l Pl) (hr : Ev c h r Pr) (ul : Up Pl) (k : Cmp c op Pl Pr b)
    (hm : behindInMarks op r = false := by with_unfolding_all rfl) : Ts c h (.Compare l [op] [r] pos) b :=
  fun h₁ g₁ tk Q E hQ => wpAny_isTrue_Compare1 (hl h₁ g₁ tk _ _ fun a h₂ tk₂ g₂ p => hr h₂ (g₁.trans g₂) tk₂ _ _ fun b' h₃ tk₃ g₃ p' => k a b' h₃ (ul _ _ _ g₃ p) p' tk₃ _ E fun tk' => wpAny_truthy_bool (hQ h₃ tk' (g₂.trans g₃))) hm
theorem cmp_lt {i j : Int} : Cmp c .Lt (IsI i) (IsI j) (decide (i < j)) := fun _ _ _ ⟨_, e1⟩ ⟨_, e2⟩ tk Q E hQ => by subst e1 e2; exact PyProof.Rows.lt_int (hQ tk)
theorem cmp_gt {i j : Int} : Cmp c .Gt (IsI i) (IsI j) (decide (j < i)) := fun _ _ _ ⟨_, e1⟩ ⟨_, e2⟩ tk Q E hQ => by subst e1 e2; exact gt_int (hQ tk)
theorem cmp_ge {i j : Int} : Cmp c .GtE (IsI i) (IsI j) (decide (j ≤ i)) := fun _ _ _ ⟨_, e1⟩ ⟨_, e2⟩ tk Q E hQ => by subst e1 e2; exact ge_int (hQ tk)
theorem cmp_eqi {i j : Int} : Cmp c .Eq (IsI i) (IsI j) (i == j) := fun _ _ _ ⟨_, e1⟩ ⟨_, e2⟩ tk Q E hQ => by subst e1 e2; exact eq_int (hQ tk)
theorem cmp_eqs {x y : Str} : Cmp c .Eq (IsS x) (IsS y) (x == y) := fun _ _ _ ⟨_, e1⟩ ⟨_, e2⟩ tk Q E hQ => by subst e1 e2; exact eq_str (hQ tk)
theorem cmp_les {x y : Str} : Cmp c .LtE (IsS x) (IsS y) (!decide (y.cps.toList < x.cps.toList)) := fun _ _ _ ⟨_, e1⟩ ⟨_, e2⟩ tk Q E hQ => by subst e1 e2; exact P.le_str (hQ tk)

theorem Ts.bool {b : Bool} (x : Ev c h e (IsV (.bool b))) (he : isTrue e c.env (eval e c.env) = (do let v ← eval e c.env; standAt e.pos; holding [v] (truthy v)) := by rfl) : Ts c h e b :=
  fun h₁ g₁ tk Q E hQ => isTrue_plain (x h₁ g₁ tk _ _ fun v h₂ tk₂ g₂ p => by obtain rfl : v = .bool b := p; exact wpAny_truthy_bool (hQ h₂ tk₂ g₂)) he
theorem Ts.str {x : Str} (hx : x.length ≤ 2 ^ 24) (y : Ev c h e (IsS x)) (he : isTrue e c.env (eval e c.env) = (do let v ← eval e c.env; standAt e.pos; holding [v] (truthy v)) := by rfl) : Ts c h e ((x.length : Int) != 0) :=
  fun h₁ g₁ tk Q E hQ => isTrue_plain (y h₁ g₁ tk _ _ fun v h₂ tk₂ g₂ p => by obtain ⟨t, rfl⟩ := p; exact P.truthy_str (by omega) (hQ h₂ _ g₂)) he
theorem Ts.int {i : Int} (y : Ev c h e (IsI i)) (he : isTrue e c.env (eval e c.env) = (do let v ← eval e c.env; standAt e.pos; holding [v] (truthy v)) := by rfl) : Ts c h e (i != 0) :=
  fun h₁ g₁ tk Q E hQ => isTrue_plain (y h₁ g₁ tk _ _ fun v h₂ tk₂ g₂ p => by obtain ⟨t, rfl⟩ := p; exact PyProof.Rows.truthy_int (hQ h₂ _ g₂)) he
theorem Ts.not {b : Bool} (x : Ts c h e b) : Ts c h (.UnaryOp .Not e pos) (!b) := fun h₁ g₁ tk Q E hQ => isTrue_not (x h₁ g₁ tk _ _ fun h₂ tk₂ g₂ => hQ h₂ tk₂ g₂)
theorem Ts.andNil : Ts c h (.BoolOp .And [] pos) true := fun h₁ g₁ tk Q E hQ => isTrue_and_nil (hQ h₁ tk (.refl _))
theorem Ts.orNil : Ts c h (.BoolOp .Or [] pos) false := fun h₁ g₁ tk Q E hQ => isTrue_or_nil (hQ h₁ tk (.refl _))
theorem Ts.and {es : List Expr} {b b' : Bool} (x : Ts c h e b) (y : b = true → Ts c h (.BoolOp .And es pos) b') : Ts c h (.BoolOp .And (e :: es) pos) (b && b') :=
  fun h₁ g₁ tk Q E hQ => isTrue_and (x h₁ g₁ tk _ _ fun h₂ tk₂ g₂ => by
    cases b with
    | false => exact hQ h₂ tk₂ g₂
    | true => exact y rfl h₂ (g₁.trans g₂) tk₂ Q E fun h₃ tk₃ g₃ => hQ h₃ tk₃ (g₂.trans g₃))
theorem Ts.or {es : List Expr} {b b' : Bool} (x : Ts c h e b) (y : b = false → Ts c h (.BoolOp .Or es pos) b') : Ts c h (.BoolOp .Or (e :: es) pos) (b || b') :=
  fun h₁ g₁ tk Q E hQ => isTrue_or (x h₁ g₁ tk _ _ fun h₂ tk₂ g₂ => by
    cases b with
    | true => exact hQ h₂ tk₂ g₂
    | false => exact y rfl h₂ (g₁.trans g₂) tk₂ Q E fun h₃ tk₃ g₃ => hQ h₃ tk₃ (g₂.trans g₃))
theorem Ts.of {b b' : Bool} (x : Ts c h e b) (e' : b = b') : Ts c h e b' := e' ▸ x
/-- «a and b» of two bools, as a value -/
theorem Ev.and2 {e' : Expr} {b b' : Bool} (x : Ev c h e (IsV (.bool b))) (y : b = true → Ev c h e' (IsV (.bool b'))) : Ev c h (.BoolOp .And [e, e'] pos) (IsV (.bool (b && b'))) :=
  fun h₁ g₁ tk Q E hQ => BoolOp_and (x h₁ g₁ tk _ _ fun v h₂ tk₂ g₂ p => by
    obtain rfl : v = .bool b := p
    refine wpAny_truthy_bool ?_
    cases b with
    | false => exact hQ _ h₂ tk₂ g₂ rfl
    | true => exact BoolOp_one (y rfl h₂ (g₁.trans g₂) tk₂ _ _ fun v h₃ tk₃ g₃ p => hQ v h₃ tk₃ (g₂.trans g₃) p))
end

section
variable {c : Cx} {h : Heap} {m : Str → Option Value} {pos : Pos} {e : Expr} {P : Value → Heap → Prop} {rest : List Stmt} {Q : Flow → Shared → Prop} {E : Value → Shared → Prop} {tk : Nat} {h₀ : Heap}
/-- the frame's locals, turned -/
abbrev upd (m : Str → Option Value) (x : Str) (v : Value) : Str → Option Value := fun y => if y = x then some v else m y
theorem upd_ne {m : Str → Option Value} {x y : Str} {u : Value} {v : Option Value} (hn : y ≠ x) (h : m y = v) : upd m x u y = v := (if_neg hn).trans h
theorem upd_eq {m : Str → Option Value} {x : Str} {u : Value} : upd m x u x = some u := if_pos rfl

theorem ex_assign {x : Str} {p' : Pos} (F : Fr h₀ c.env.locals h m) (hv : Ev c h e P)
    (k : ∀ v h₂ h₃ tk', Grows h h₂ → P v h₂ → Heap.SameBut c.env.locals h₂ h₃ → Fr h₀ c.env.locals h₃ (upd m x v) → wpAny c.M c.A (execs rest c.env) Q E (c.st h₃ tk'))
    (hl : c.env.kindOf x = some .local := by rfl) (hs : swapsWith e (some (.Name x p')) pos.line c.env = pure false := by rfl)
    (hp : (c.env.scope.kind == .class || (c.env.scope.kind == .module && c.env.locals != c.env.globals)) = false := by rfl) :
    wpAny c.M c.A (execs (.Assign [.Name x p'] e pos :: rest) c.env) Q E (c.st h tk) :=
  wpAny_execs_cons (wpAny_Assign_Name (hv h (.refl _) tk _ _ fun v h₂ tk₂ g₂ pv => wpAny_storeName_local hl (F.ns.keeps g₂) (fun h₃ hn hs => k v h₂ h₃ _ g₂ pv hs ((F.after g₂).set hn hs)) hp) hs)
theorem ex_aug {x : Str} {p' : Pos} {op : Operator} {old : Value} {P' : Value → Heap → Prop} (F : Fr h₀ c.env.locals h m) (ho : m x = some old) (hv : Ev c h e P) (hop : ∀ v h₁, P v h₁ → Go c h₁ (inplaceOp op old v) P')
    (k : ∀ v h₂ h₃ tk', Grows h h₂ → P' v h₂ → Heap.SameBut c.env.locals h₂ h₃ → Fr h₀ c.env.locals h₃ (upd m x v) → wpAny c.M c.A (execs rest c.env) Q E (c.st h₃ tk'))
    (hl : c.env.kindOf x = some .local := by rfl) (hk : c.env.scope.kind = .function := by rfl)
    (hp : (c.env.scope.kind == .class || (c.env.scope.kind == .module && c.env.locals != c.env.globals)) = false := by rfl) :
    wpAny c.M c.A (execs (.AugAssign (.Name x p') op e pos :: rest) c.env) Q E (c.st h tk) :=
  wpAny_execs_cons (wpAny_AugAssign_Name (wpAny_loadName_local hk hl F.ns ho (hv h (.refl _) tk _ _ fun v h₂ tk₂ g₂ pv => hop v h₂ pv tk₂ _ _ fun v h₃ tk₃ g₃ pv =>
    wpAny_storeName_local hl (F.ns.keeps (g₂.trans g₃)) (fun h₄ hn hs => k v h₃ h₄ _ (g₂.trans g₃) pv hs ((F.after (g₂.trans g₃)).set hn hs)) hp)))
theorem ex_if {b : Bool} {body orelse : List Stmt} (ht : Ts c h e b)
    (k : ∀ h₂ tk', Grows h h₂ → wpAny c.M c.A (execs (if b then body else orelse) c.env) (fun f s' => match f with | .next => wpAny c.M c.A (execs rest c.env) Q E s' | f => Q f s') E (c.st h₂ tk')) :
    wpAny c.M c.A (execs (.If e body orelse pos :: rest) c.env) Q E (c.st h tk) :=
  wpAny_execs_cons (wpAny_If (ht h (.refl _) tk _ _ fun h₂ tk₂ g₂ => by cases b <;> exact k h₂ tk₂ g₂))
theorem ex_return (hv : Ev c h e P) (k : ∀ v h₂ tk', Grows h h₂ → P v h₂ → Q (.ret v) (c.st h₂ tk')) : wpAny c.M c.A (execs (.Return (some e) pos :: rest) c.env) Q E (c.st h tk) :=
  wpAny_execs_cons (wpAny_Return_some (hv h (.refl _) tk _ _ fun v h₂ tk₂ g₂ pv => k v h₂ tk₂ g₂ pv))
theorem ex_break (k : Q .brk (c.st h tk)) : wpAny c.M c.A (execs (.Break pos :: rest) c.env) Q E (c.st h tk) := wpAny_execs_cons (wpAny_Break k)
theorem ex_continue (k : Q .cont (c.st h tk)) : wpAny c.M c.A (execs (.Continue pos :: rest) c.env) Q E (c.st h tk) := wpAny_execs_cons (wpAny_Continue k)
theorem ex_nil (k : Q .next (c.st h tk)) : wpAny c.M c.A (execs [] c.env) Q E (c.st h tk) := wpAny_execs_nil k
/-- a while: a measure, a word of heap and map -/
theorem ex_while {body : List Stmt} (I : Nat → Heap → (Str → Option Value) → Prop) (hI : ∃ n, I n h m) (F : Fr h₀ c.env.locals h m)
    (turn : ∀ n h m, Fr h₀ c.env.locals h m → I n h m → ∃ b, Ts c h e b ∧ ∀ h₂ tk, Grows h h₂ → Fr h₀ c.env.locals h₂ m →
      if b then wpAny c.M c.A (execs body c.env) (fun f s₃ => match f with
          | .next | .cont => ∃ n' h₃ m₃ tk₃, n' < n ∧ s₃ = c.st h₃ tk₃ ∧ Fr h₀ c.env.locals h₃ m₃ ∧ I n' h₃ m₃
          | .brk => wpAny c.M c.A (execs rest c.env) Q E s₃
          | .ret v => Q (.ret v) s₃) (fun _ _ => False) (c.st h₂ tk)
      else wpAny c.M c.A (execs rest c.env) Q E (c.st h₂ tk)) :
    wpAny c.M c.A (execs (.While e body [] pos :: rest) c.env) Q E (c.st h tk) := by
  obtain ⟨n, hn⟩ := hI
  refine wpAny_execs_cons (wpAny_While (codeAny_whileLoop (fun n s => ∃ h m tk, s = c.st h tk ∧ Fr h₀ c.env.locals h m ∧ I n h m) ?_ n ⟨h, m, tk, rfl, F, hn⟩))
  rintro n s ⟨h, m, tk, rfl, F, hi⟩
  obtain ⟨b, ht, kb⟩ := turn n h m F hi
  refine ht h (.refl _) tk _ _ fun h₂ tk₂ g₂ => ?_
  have z := kb h₂ tk₂ g₂ (F.after g₂)
  cases b with
  | false =>
    exact wpAny_execs_nil z
  | true =>
    refine wpAny_mono z (fun f s₃ q => ?_) fun _ _ x => x.elim
    cases f with
    | next => obtain ⟨n', h₃, m₃, tk₃, q1, q2, q3, q4⟩ := q; exact ⟨n', q1, h₃, m₃, tk₃, q2, q3, q4⟩
    | cont => obtain ⟨n', h₃, m₃, tk₃, q1, q2, q3, q4⟩ := q; exact ⟨n', q1, h₃, m₃, tk₃, q2, q3, q4⟩
    | brk => exact q
    | ret v => exact q
end

/-- a def of the text, its qualified name told apart -/
def fdOf (name qual : Str) (params : Arguments) (body : List Stmt) (scope : Scope) (pm cd doc : Value) : FuncData :=
  { name := name, qualname := qual, params := params, body := .stmts body, scope := scope, globals := mainGlobals, closure := [], defaults := .none, kwdefaults := .none, doc := doc, pyModule := pm, code := cd, builtins := builtinsNs }
/-- a function of the text stands at f -/
def FnAt (h : Heap) (f : Addr) (name qual : Str) (params : Arguments) (body : List Stmt) (scope : Scope) : Prop :=
  ∃ o pm cd doc, h.get? f = some o ∧ o.data = .func (fdOf name qual params body scope pm cd doc) ∧ h.CodeRec cd qual
abbrev FnSt (h : Heap) (f : Addr) (qual : Str) (st : Stmt) : Prop := match st with
  | .FunctionDef n a b _ _ _ s _ _ _ => FnAt h f n qual a b s
  | _ => False
theorem FnAt.keeps {h h' : Heap} {f : Addr} {name qual : Str} {params : Arguments} {body : List Stmt} {scope : Scope} (x : FnAt h f name qual params body scope) (g : Grows h h') : FnAt h' f name qual params body scope :=
  let ⟨o, pm, cd, doc, a, b, d⟩ := x; ⟨o, pm, cd, doc, g _ _ a, b, d.keeps g⟩

/-- a call of such a function, seen from the state at hand -/
theorem call_fn {c : Cx} {h : Heap} {f : Addr} {name qual : Str} {params : Arguments} {body : List Stmt} {scope : Scope} {vs : List Value} {binds : List (Str × Value)} {P : Value → Heap → Prop}
    (hf : FnAt h f name qual params body scope) (hlim : h.NoLimit) (hroom : c.A.depth < recursionLimit)
    (hbind : ∀ pm cd doc, bindArgs (fdOf name qual params body scope pm cd doc) ⟨vs, []⟩ = pure binds) (hloc : ∀ x ∈ binds, scope.names.lookup x.1 = some .local)
    (k : ∀ cd h₁ tk, Fr h h.objs.size h₁ (fun x => binds.reverse.lookup x) →
      wpAny c.M (c.A.deeper (envOf qual scope h.objs.size f cd)) (execs body (envOf qual scope h.objs.size f cd)) (fun fl s' => ∃ h₂ tk', s' = c.st h₂ tk' ∧ Grows h h₂ ∧ P (match fl with | .ret v => v | _ => .none) h₂) (fun _ _ => False) (c.st h₁ tk))
    (hco : scope.isCoroutine = false := by rfl) (hgen : scope.isGenerator = false := by rfl) (hk : scope.kind = .function := by rfl) (hcell : ∀ x ∈ scope.names, x.2 ≠ .cell := by decide) :
    Go c h (call (.ref f) vs) P := by
  intro tk Q E hQ
  obtain ⟨o, pm, cd, doc, ho, hd, hcd⟩ := hf
  refine wpAny_call (codeAny_call_function (s := c.st h tk) hroom ho hd hco hgen rfl hcd ?_)
  rw [hbind]
  refine wpAny_pure (wpAny_newFunctionEnv hcell hloc (fun h₁ hns hsb => ⟨hlim.fresh _ hsb, ?_⟩) hk)
  have F : Fr h h.objs.size h₁ (fun x => binds.reverse.lookup x) := ⟨hns, fun b o e => hsb.extBut b o (Nat.ne_of_lt (Heap.lt_size e)) (Heap.get?_push_of_some _ e), Nat.le_refl _⟩
  refine codeAny_func (wpAny_mono (k cd h₁ _ F) (fun fl s' ⟨h₂, tk', e, g, p⟩ => ?_) fun _ _ x => x.elim)
  subst e
  exact hQ _ h₂ tk' g p
end Mine
end

section
open PySem PySem.W PyProof.Rows PySem.Calls
set_option maxRecDepth 100000
set_option maxHeartbeats 4000000
set_option linter.unusedVariables false
namespace Mine
/-- the letters, figures and low lines -/
def isWord (c : Nat) : Bool := (97 ≤ c && c ≤ 122) || (65 ≤ c && c ≤ 90) || (48 ≤ c && c ≤ 57) || c == 95
/-- the length of the run that a text opens with -/
def runOf : List Nat → Nat
  | [] => 0
  | c :: r => if isWord c then runOf r + 1 else 0
def wordRun (x : Str) (p : Nat) : Nat := p + runOf (x.cps.toList.drop p)
theorem drop_at {x : Str} {p : Nat} (hp : p < x.length) : x.cps.toList.drop p = x.cps.getD p 0 :: x.cps.toList.drop (p + 1) := by
  have h : p < x.cps.toList.length := by simpa [Str.length] using hp
  rw [List.drop_eq_getElem_cons h]
  congr 1
  simp only [Array.getD_eq_getD_getElem?, Array.getElem_toList]
  rw [Array.getElem?_eq_getElem (by simpa using h)]; rfl
theorem wordRun_on {x : Str} {p : Nat} (hp : p < x.length) (hw : isWord (x.cps.getD p 0) = true) : wordRun x (p + 1) = wordRun x p := by
  unfold wordRun
  rw [drop_at hp, runOf, if_pos hw]; omega
theorem wordRun_off {x : Str} {p : Nat} (hp : p < x.length) (hw : isWord (x.cps.getD p 0) = false) : wordRun x p = p := by
  unfold wordRun
  rw [drop_at hp, runOf, hw]; rfl
theorem wordRun_end {x : Str} {p : Nat} (hp : p = x.length) : wordRun x p = p := by
  unfold wordRun
  rw [List.drop_eq_nil_of_le (by rw [hp]; simp [Str.length])]; rfl
theorem wordRun_le {x : Str} {p : Nat} (hp : p ≤ x.length) : wordRun x p ≤ x.length := by
  have : ∀ l : List Nat, runOf l ≤ l.length := by
    intro l; induction l with
    | nil => exact Nat.le_refl _
    | cons c r ih => unfold runOf; split <;> simp <;> omega
  have := this (x.cps.toList.drop p)
  unfold wordRun
  rw [List.length_drop] at this
  have e : x.cps.toList.length = x.length := rfl
  omega
theorem wordRun_ge (x : Str) (p : Nat) : p ≤ wordRun x p := Nat.le_add_right _ _
/-- one sign -/
abbrev one (n : Nat) : Str := ⟨#[n]⟩
theorem le1 (a b : Nat) : (!decide ((one b).cps.toList < (one a).cps.toList)) = decide (a ≤ b) := by
  have : ((one b).cps.toList < (one a).cps.toList) ↔ b < a := by
    show [b] < [a] ↔ b < a
    rw [List.cons_lt_cons_iff]
    exact ⟨fun q => q.elim id fun q => absurd q.2 (List.not_lt_nil _), .inl⟩
  rw [Bool.eq_iff_iff]
  simp only [Bool.not_eq_true', decide_eq_false_iff_not, decide_eq_true_eq, this]
  omega
theorem eq1 (a b : Nat) : (one a == one b) = (a == b) := by
  by_cases e : a = b
  · subst e; rw [beq_self_eq_true, beq_self_eq_true]
  · rw [beq_eq_false_iff_ne.mpr e, beq_eq_false_iff_ne]
    intro h
    have h2 : (#[a] : Array Nat) = #[b] := congrArg Str.cps h
    exact e (List.singleton_inj.mp (congrArg Array.toList h2))
theorem lit_one (n : Nat) (s : String) (h : Str.ofString s = one n := by decide +kernel) : Str.ofString s = one n := h
theorem item_one {x : Str} {q : Nat} (h : q < x.length) : Txt.item x q = one (x.cps.getD q 0) := PyProof.Rows.item_at (by omega) (by omega) (by omega)

section
variable {c : Cx} {h : Heap} {m : Str → Option Value} {sign : Str} {pos p1 p2 p3 : Pos}
/-- 'lo' <= sign and sign <= 'hi' -/
theorem ts_lo {lo sg : Expr} {a n : Nat} {s : Str} (hs : s = one a) (hl : Ev c h lo (IsS s)) (hr : Ev c h sg (IsS (one n))) (hm : behindInMarks .LtE sg = false := by with_unfolding_all rfl) :
    Ts c h (.Compare lo [.LtE] [sg] pos) (decide (a ≤ n)) := Ts.of (Ts.cmp hl hr (up_s _) cmp_les hm) (by rw [hs]; exact le1 a n)
theorem ts_hi {hi sg : Expr} {b n : Nat} {s : Str} (hs : s = one b) (hl : Ev c h sg (IsS (one n))) (hr : Ev c h hi (IsS s)) (hm : behindInMarks .LtE hi = false := by with_unfolding_all rfl) :
    Ts c h (.Compare sg [.LtE] [hi] pos) (decide (n ≤ b)) := Ts.of (Ts.cmp hl hr (up_s _) cmp_les hm) (by rw [hs]; exact le1 n b)
theorem ts_is {e sg : Expr} {b n : Nat} {s : Str} (hs : s = one b) (hl : Ev c h sg (IsS (one n))) (hr : Ev c h e (IsS s)) (hm : behindInMarks .Eq e = false := by with_unfolding_all rfl) :
    Ts c h (.Compare sg [.Eq] [e] pos) (n == b) := Ts.of (Ts.cmp hl hr (up_s _) cmp_eqs hm) (by rw [hs]; exact eq1 n b)
end

theorem word_run {c : Cx} {h : Heap} {mg mb : Str → Option Value} {f : Addr} {x : Str} {t1 t2 : Tok} {p : Nat}
    (hroom : c.A.depth < recursionLimit) (G : Gl h mg mb) (hlen : mg "len" = none) (hf : FnSt h f "_word_run" (atTop 1)) (hx : x.length ≤ 2 ^ 20) (hp : p ≤ x.length) :
    Go c h (call (.ref f) [.str x t1, .int p t2]) (IsI (wordRun x p)) := by
  refine call_fn (binds := [("text", .str x t1), ("place", .int p t2)]) hf G.nolimit hroom (fun _ _ _ => by with_unfolding_all rfl) (locs rfl) (fun cd h₁ tk F => ?_)
  generalize hA : c.A.deeper _ = A'
  let c' : Cx := ⟨c.w, A', c.g, c.dr, c.os, envOf "_word_run" (fnScope (atTop 1)) h.objs.size f cd⟩
  have G' : ∀ {h' m}, Fr h h.objs.size h' m → Gl h' mg mb := fun F => G.keeps F.keep
  refine ex_while (c := c') (h₀ := h) (fun n h' m => ∃ tkq, ∃ q : Nat, m "text" = some (.str x t1) ∧ m "place" = some (.int q tkq) ∧ p ≤ q ∧ q ≤ x.length ∧ wordRun x q = wordRun x p ∧ x.length - q = n) ⟨_, _, p, rfl, rfl, Nat.le_refl _, hp, rfl, rfl⟩ F ?_
  rintro n h₂ m F₂ ⟨tkq, q, ht, hq, hpq, hqx, hw, hn⟩
  refine ⟨decide ((q : Int) < x.length), Ts.cmp (Ev.locI F₂.ns hq) (Ev.len (Ev.blt (G' F₂) hlen rfl) (Ev.locS F₂.ns ht) (by omega)) (up_i _) cmp_lt, ?_⟩
  intro h₃ tk₃ g₃ F₃
  by_cases hlt : (q : Int) < x.length
  · rw [decide_eq_true hlt, if_pos rfl]
    have hql : q < x.length := by omega
    refine ex_assign (c := c') F₃ (Ev.item (Ev.locS F₃.ns ht) (Ev.locI F₃.ns hq) (by omega) (by omega) (by omega)) ?_
    rintro v h₄ h₅ tk₅ g₄ ⟨ts, rfl⟩ sb F₅
    rw [item_one hql] at F₅
    generalize hn' : x.cps.getD q 0 = n' at F₅
    have es : ∀ {h}, Grows h₅ h → Ev c' h (.Name "sign" default) (IsS (one n')) := fun g => (Ev.locS F₅.ns upd_eq).up g
    refine ex_if (c := c') (b := !(isWord n')) ?_ ?_
    · refine (Ts.not (Ts.or (Ts.and (ts_lo (a := 97) (by decide +kernel) Ev.str (Ev.locS F₅.ns upd_eq)) fun _ => Ts.and (ts_hi (b := 122) (by decide +kernel) (Ev.locS F₅.ns upd_eq) Ev.str) fun _ => Ts.andNil) fun _ =>
        Ts.or (Ts.and (ts_lo (a := 65) (by decide +kernel) Ev.str (Ev.locS F₅.ns upd_eq)) fun _ => Ts.and (ts_hi (b := 90) (by decide +kernel) (Ev.locS F₅.ns upd_eq) Ev.str) fun _ => Ts.andNil) fun _ =>
        Ts.or (Ts.and (ts_lo (a := 48) (by decide +kernel) Ev.str (Ev.locS F₅.ns upd_eq)) fun _ => Ts.and (ts_hi (b := 57) (by decide +kernel) (Ev.locS F₅.ns upd_eq) Ev.str) fun _ => Ts.andNil) fun _ =>
        Ts.or (ts_is (b := 95) (by decide +kernel) (Ev.locS F₅.ns upd_eq) Ev.str) fun _ => Ts.orNil)).of ?_
      unfold isWord
      simp only [Bool.and_true, Bool.or_false, Bool.or_assoc]
    · intro h₆ tk₆ g₆
      have F₆ := F₅.after g₆
      cases hw' : isWord n' with
      | false =>
        refine ex_break (c := c') ?_
        refine ex_return (c := c') (Ev.locI F₆.ns (upd_ne (by decide) hq)) ?_
        rintro v h₇ tk₇ g₇ ⟨t, rfl⟩
        refine ⟨h₇, tk₇, rfl, (F₆.after g₇).keep, t, ?_⟩
        rw [← hw, wordRun_off hql (by rw [hn']; exact hw')]
      | true =>
        refine ex_nil (c := c') ?_
        refine ex_aug (c := c') (P' := IsI (q + 1)) F₆ (upd_ne (by decide) hq) Ev.int (fun v h' ⟨t, e⟩ tk Q E hQ => by subst e; exact PyProof.Rows.iadd_int (hQ _ _ _ (.refl _) ⟨_, rfl⟩)) ?_
        rintro v h₇ h₈ tk₈ g₇ ⟨t, rfl⟩ sb' F₈
        refine ex_nil (c := c') ⟨x.length - (q + 1), h₈, _, tk₈, by omega, rfl, F₈, t, q + 1, upd_ne (by decide) (upd_ne (by decide) ht), by rw [upd_eq]; rfl, by omega, by omega, ?_, rfl⟩
        rw [wordRun_on hql (by rw [hn']; exact hw'), hw]
  · rw [decide_eq_false hlt, if_neg Bool.false_ne_true]
    refine ex_return (c := c') (Ev.locI F₃.ns hq) ?_
    rintro v h₇ tk₇ g₇ ⟨t, rfl⟩
    refine ⟨h₇, tk₇, rfl, (F₃.after g₇).keep, t, ?_⟩
    rw [← hw, wordRun_end (by omega)]
end Mine
end

section
open PySem PySem.W PyProof.Rows PySem.Calls
set_option maxRecDepth 100000
set_option maxHeartbeats 4000000
set_option linter.unusedVariables false
namespace Mine
def isFig (n : Nat) : Bool := decide (48 ≤ n) && decide (n ≤ 57)
abbrev tupObj (vs : List Value) : Obj := { cls := .type "tuple", data := .seq vs.toArray }
abbrev IsTupOf (Pv : List Value → Heap → Prop) : Value → Heap → Prop := fun v h => ∃ a vs, v = .ref a ∧ h.get? a = some (tupObj vs) ∧ Pv vs h
section
variable {c : Cx} {h : Heap} {pos : Pos} {e : Expr} {P : Value → Heap → Prop}
theorem Ev.tuple {es : List Expr} {k : Nat} {Pv : List Value → Heap → Prop} (x : Evs c h pos es Pv) (hn : ∀ vs h, Pv vs h → vs.length ≤ 2 ^ 24) (up : ∀ vs h h', Grows h h' → Pv vs h → Pv vs h') : Ev c h (.Tuple es k pos) (IsTupOf Pv) :=
  fun h₁ g₁ tk Q E hQ => Tuple_ (x h₁ g₁ tk _ _ fun vs h₂ tk₂ g₂ p => by
    have hl := hn vs h₂ p
    exact wpAny_newObj_type (hQ _ _ _ (g₂.trans (Grows.push _ _)) ⟨_, vs, rfl, Heap.get?_push_size _ rfl, up _ _ _ (Grows.push _ _) p⟩) (by show vs.toArray.size ≤ sizeLine; rw [List.size_toArray, sizeLine_eq]; omega))
/-- a call of a type by its name, with one argument -/
theorem Ev.callT {fn : Expr} {T : String} {Pa : Value → Heap → Prop} (hf : Ev c h fn (IsV (.type T))) (ha : Ev c h e Pa) (hb : ∀ v h₁, Grows h h₁ → Pa v h₁ → Go c h₁ (call (.type T) [v]) P)
    (he : eval (.Call fn [e] [] pos) c.env = (do callWith pos (← eval fn c.env) [] (backTo pos (starEach [e] c.env)) (backToKw pos (keywordEach [] c.env))) := by rfl)
    (hs : starEach [e] c.env = [(false, eval e c.env)] := by rfl) : Ev c h (.Call fn [e] [] pos) P := by
  intro h₁ g₁ tk Q E hQ
  refine Call_ (hf h₁ g₁ tk _ _ fun v h₂ tk' g₂ p => ?_) he
  obtain rfl : v = .type T := p
  rw [hs]
  refine PySem.callWith_type1 (t := eval e c.env) ?_
  exact ha h₂ (g₁.trans g₂) tk' _ _ fun v h₃ tk₃ g₃ p => hb v h₃ ((g₁.trans g₂).trans g₃) p tk₃ Q E fun v h₄ tk₄ g₄ pv => hQ v h₄ tk₄ ((g₂.trans g₃).trans g₄) pv
end
theorem is_figure {c : Cx} {h : Heap} {mg mb : Str → Option Value} {f : Addr} {n : Nat} {t : Tok}
    (hroom : c.A.depth < recursionLimit) (G : Gl h mg mb) (hf : FnSt h f "_is_figure" (atTop 2)) :
    Go c h (call (.ref f) [.str (one n) t]) (IsV (.bool (isFig n))) := by
  refine call_fn (binds := [("sign", .str (one n) t)]) hf G.nolimit hroom (fun _ _ _ => by with_unfolding_all rfl) (locs rfl) (fun cd h₁ tk F => ?_)
  generalize hA : c.A.deeper _ = A'
  let c' : Cx := ⟨c.w, A', c.g, c.dr, c.os, envOf "_is_figure" (fnScope (atTop 2)) h.objs.size f cd⟩
  have e1 : ∀ a b : Str, ∀ x y : Nat, a = one x → b = one y → (!decide (b.cps.toList < a.cps.toList)) = decide (x ≤ y) := fun a b x y h1 h2 => by rw [h1, h2]; exact le1 x y
  refine ex_return (c := c') (Ev.and2 (Ev.cmp Ev.str (Ev.locS F.ns rfl) (up_s _) cmp_les) fun _ => Ev.cmp (Ev.locS F.ns rfl) Ev.str (up_s _) cmp_les) ?_
  rintro v h₂ tk₂ g₂ rfl
  refine ⟨h₂, tk₂, rfl, (F.after g₂).keep, ?_⟩
  rw [e1 _ _ 48 n (by decide +kernel) rfl, e1 _ _ n 57 rfl (by decide +kernel)]; rfl
theorem rec_lim : recursionLimit = 1000 := by decide
structure Rd (h : Heap) (mg mb : Str → Option Value) : Prop where
  G : Gl h mg mb
  len : mg "len" = none
  int : mg "int" = none
  wr : ∃ f, mg "_word_run" = some (.ref f) ∧ FnSt h f "_word_run" (atTop 1)
  fig : ∃ f, mg "_is_figure" = some (.ref f) ∧ FnSt h f "_is_figure" (atTop 2)
theorem Rd.keeps {h h' : Heap} {mg mb} (R : Rd h mg mb) (g : Grows h h') : Rd h' mg mb :=
  ⟨R.G.keeps g, R.len, R.int, let ⟨f, a, b⟩ := R.wr; ⟨f, a, FnAt.keeps b g⟩, let ⟨f, a, b⟩ := R.fig; ⟨f, a, FnAt.keeps b g⟩⟩
section
variable {c : Cx} {h : Heap} {mg mb m : Str → Option Value} {pos p' : Pos} {e l r : Expr}
theorem ev_word_run {x : Str} {p : Nat} (R : Rd h mg mb) (hroom : c.A.depth < 900) (hl : Ev c h l (IsS x)) (hr : Ev c h r (IsI p)) (hx : x.length ≤ 2 ^ 20) (hp : p ≤ x.length)
    (hg : c.env.globals = mainGlobals := by rfl) (hk : c.env.scope.kind = .function := by rfl) (hkl : c.env.kindOf "_word_run" = some .globalImplicit := by rfl)
    (he : ∀ p', eval (.Call (.Name "_word_run" p') [l, r] [] pos) c.env = (do callWith pos (← eval (.Name "_word_run" p') c.env) [] (backTo pos (starEach [l, r] c.env)) (backToKw pos (keywordEach [] c.env))) := by intro _; rfl)
    (hs : starEach [l, r] c.env = [(false, eval l c.env), (false, eval r c.env)] := by rfl) (hs2 : starEach [r] c.env = [(false, eval r c.env)] := by rfl) :
    Ev c h (.Call (.Name "_word_run" p') [l, r] [] pos) (IsI (wordRun x p)) := by
  obtain ⟨f, hm, hf⟩ := R.wr
  have hf' := hf
  obtain ⟨o, pm, cd, doc, ho, hd, _⟩ := hf
  refine Ev.callF (Ev.glob (mg := mg) (hg ▸ R.G.g) hm hk hkl) ho hd (Evs.cons hl (Evs.cons hr Evs.nil (up_i _) hs2) (up_s _) (by rw [hs, hs2])) (fun vs h₁ g ⟨v, r, e1, ⟨t, e2⟩, v', r', e3, ⟨t', e4⟩, e5⟩ => ?_) (he _) (by rw [hs, hs2])
  subst e1 e2 e3 e4 e5
  exact word_run (by rw [rec_lim]; omega) (R.G.keeps g) R.len (FnAt.keeps hf' g) hx hp
theorem ev_is_figure {n : Nat} (R : Rd h mg mb) (hroom : c.A.depth < 900) (hl : Ev c h l (IsS (one n)))
    (hg : c.env.globals = mainGlobals := by rfl) (hk : c.env.scope.kind = .function := by rfl) (hkl : c.env.kindOf "_is_figure" = some .globalImplicit := by rfl)
    (he : ∀ p', eval (.Call (.Name "_is_figure" p') [l] [] pos) c.env = (do callWith pos (← eval (.Name "_is_figure" p') c.env) [] (backTo pos (starEach [l] c.env)) (backToKw pos (keywordEach [] c.env))) := by intro _; rfl)
    (hs : starEach [l] c.env = [(false, eval l c.env)] := by rfl) :
    Ev c h (.Call (.Name "_is_figure" p') [l] [] pos) (IsV (.bool (isFig n))) := by
  obtain ⟨f, hm, hf⟩ := R.fig
  have hf' := hf
  obtain ⟨o, pm, cd, doc, ho, hd, _⟩ := hf
  refine Ev.callF (Ev.glob (mg := mg) (hg ▸ R.G.g) hm hk hkl) ho hd (Evs.cons hl Evs.nil (up_s _) hs) (fun vs h₁ g ⟨v, r, e1, ⟨t, e2⟩, e3⟩ => ?_) (he _) hs
  subst e1 e2 e3
  exact is_figure (by rw [rec_lim]; omega) (R.G.keeps g) (FnAt.keeps hf' g)
theorem Ev.item1 {x : Str} {q : Nat} {value slice : Expr} (hv : Ev c h value (IsS x)) (hi : Ev c h slice (IsI q)) (hx : x.length ≤ 2 ^ 20) (h2 : q < x.length)
    (hs : ∀ t u, subscripted slice false (.str x t) (.int q u) = operate [.str x t, .int q u] (getItem (.str x t) (.int q u)) := by intro _ _; with_unfolding_all rfl)
    (ht : ∀ t r, letTemporaryGo value (.str x t) r = pure () := by intro _ _; with_unfolding_all rfl) : Ev c h (.Subscript value slice pos) (IsS (one (x.cps.getD q 0))) := by
  have := Ev.item (pos := pos) hv hi (by omega) (by omega) (by omega) hs ht
  rw [item_one h2] at this; exact this
end
/-- the figures from a place on -/
def figOf : List Nat → Nat
  | [] => 0
  | n :: r => if isFig n then figOf r + 1 else 0
def figRun (x : Str) (p : Nat) : Nat := p + figOf (x.cps.toList.drop p)
theorem figRun_on {x : Str} {p : Nat} (hp : p < x.length) (hw : isFig (x.cps.getD p 0) = true) : figRun x (p + 1) = figRun x p := by
  unfold figRun
  rw [drop_at hp, figOf, if_pos hw]; omega
theorem figRun_off {x : Str} {p : Nat} (hp : p < x.length) (hw : isFig (x.cps.getD p 0) = false) : figRun x p = p := by
  unfold figRun
  rw [drop_at hp, figOf, hw]; rfl
theorem figRun_end {x : Str} {p : Nat} (hp : p = x.length) : figRun x p = p := by
  unfold figRun
  rw [List.drop_eq_nil_of_le (by rw [hp]; simp [Str.length])]; rfl
/-- the last figure at or ahead of a place, none at 0 -/
def figBack (x : Str) : Nat → Nat
  | 0 => 0
  | p + 1 => if isFig (x.cps.getD (p + 1) 0) then p + 1 else figBack x p
theorem figBack_le (x : Str) : ∀ p, figBack x p ≤ p
  | 0 => Nat.le_refl _
  | p + 1 => by unfold figBack; split; exact Nat.le_refl _; exact Nat.le_succ_of_le (figBack_le x p)

/-- what a rule's row reads as: (ending, intact, number, what comes, go on) -/
structure Rule where
  e : Str
  i : Bool
  n : Int
  a : Str
  g : Bool
  deriving DecidableEq
def stop? (n : Nat) : Bool := n == 46 || n == 62
def readRule (x : Str) : Option Rule :=
  let k := wordRun x 0
  if 0 < k ∧ k < x.length then
    if x.cps.getD k 0 = 42 then
      let q := figRun x (k + 1)
      let r := wordRun x q
      if k + 1 < q ∧ r < x.length ∧ stop? (x.cps.getD r 0) = true then
        (PySem.intText? (Txt.slice x (some ((k + 1 : Nat) : Int)) (some q))).map fun n => ⟨Txt.slice x none (some k), true, n, Txt.slice x (some q) (some r), x.cps.getD r 0 == 62⟩
      else none
    else
      let p := figBack x (k - 1)
      if 0 < p ∧ stop? (x.cps.getD k 0) = true then
        (PySem.intText? (one (x.cps.getD p 0))).map fun n => ⟨Txt.slice x none (some p), false, n, Txt.slice x (some ((p + 1 : Nat) : Int)) (some k), x.cps.getD k 0 == 62⟩
      else none
  else none
/-- the tuple of a rule -/
abbrev IsRule (u : Rule) : List Value → Heap → Prop := fun vs _ => ∃ t1 t2 t3, vs = [.str u.e t1, .bool u.i, .int u.n t2, .str u.a t3, .bool u.g]

theorem read_rule {c : Cx} {h : Heap} {mg mb : Str → Option Value} {f : Addr} {x : Str} {t : Tok} {u : Rule}
    (hroom : c.A.depth < 800) (R : Rd h mg mb) (hf : FnSt h f "_read_rule" (atTop 3)) (hx : x.length ≤ 200) (hu : readRule x = some u) :
    Go c h (call (.ref f) [.str x t]) (IsTupOf (IsRule u)) := by
  refine call_fn (binds := [("line", .str x t)]) hf R.G.nolimit (by rw [rec_lim]; omega) (fun _ _ _ => by with_unfolding_all rfl) (locs rfl) (fun cd h₁ tk F => ?_)
  have hroom' : (c.A.deeper (envOf "_read_rule" (fnScope (atTop 3)) h.objs.size f cd)).depth < 900 := by rw [depth_deeper]; omega
  generalize hA : c.A.deeper _ = A'
  replace hroom' : A'.depth < 900 := hA ▸ hroom'
  let c' : Cx := ⟨c.w, A', c.g, c.dr, c.os, envOf "_read_rule" (fnScope (atTop 3)) h.objs.size f cd⟩
  have RF : ∀ {h' m}, Fr h h.objs.size h' m → Rd h' mg mb := fun F => R.keeps F.keep
  refine ex_assign (c := c') (P := IsI (wordRun x 0)) F (ev_word_run (RF F) hroom' (Ev.locS F.ns rfl) Ev.int (by omega) (Nat.zero_le _)) ?_
  rintro v h₂ h₃ tk₃ g₂ ⟨tk', rfl⟩ sb F₃
  generalize hk : wordRun x 0 = k at F₃
  have hkx : k ≤ x.length := hk ▸ wordRun_le (Nat.zero_le _)
  unfold readRule at hu
  rw [hk] at hu
  dsimp only at hu
  split at hu
  case isFalse => cases hu
  rename_i hk0
  obtain ⟨hk0, hkl⟩ := hk0
  have lk : upd (fun y => List.lookup y [(Str.ofString "line", Value.str x t)].reverse) "k" (.int k tk') "line" = some (.str x t) := upd_ne (by decide) rfl
  refine ex_if (c := c') (b := x.cps.getD k 0 == 42) ?_ ?_
  · refine (Ts.and (Ts.cmp (Ev.locI F₃.ns upd_eq) Ev.int (up_i _) cmp_gt) fun _ => Ts.and (Ts.cmp (Ev.locI F₃.ns upd_eq) (Ev.len (Ev.blt (RF F₃).G (RF F₃).len rfl) (Ev.locS F₃.ns lk) (by omega)) (up_i _) cmp_lt) fun _ =>
      Ts.and (ts_is (b := 42) (by decide +kernel) (Ev.item1 (q := k) (Ev.locS F₃.ns lk) (Ev.locI F₃.ns upd_eq) (by omega) hkl) Ev.str) fun _ => Ts.andNil).of ?_
    rw [decide_eq_true (by omega), decide_eq_true (by omega)]
    simp
  intro h₄ tk₄ g₄
  have F₄ := F₃.after g₄
  split at hu
  · -- the word is to be whole
    rename_i hst
    rw [beq_iff_eq.mpr hst, if_pos rfl]
    refine ex_assign (c := c') (P := IsI ((k + 1 : Nat) : Int)) F₄ (Ev.add (Ev.locI F₄.ns upd_eq) Ev.int) ?_
    rintro v h₅ h₆ tk₆ g₅ ⟨tp, rfl⟩ sb₅ F₆
    refine ex_assign (c := c') F₆ (Ev.locI F₆.ns upd_eq) ?_
    rintro v h₇ h₈ tk₈ g₇ ⟨tq, rfl⟩ sb₇ F₈
    have base : ∀ (mm : Str → Option Value), mm = upd (upd (upd (fun y => List.lookup y [(Str.ofString "line", Value.str x t)].reverse) "k" (.int k tk')) "p" (.int ((k + 1 : Nat) : Int) tp)) "q" (.int ((k + 1 : Nat) : Int) tq) →
      mm "line" = some (.str x t) ∧ mm "k" = some (.int k tk') ∧ mm "p" = some (.int ((k + 1 : Nat) : Int) tp) ∧ mm "q" = some (.int ((k + 1 : Nat) : Int) tq) := fun mm e => by
        subst e; exact ⟨upd_ne (by decide) (upd_ne (by decide) lk), upd_ne (by decide) (upd_ne (by decide) upd_eq), upd_ne (by decide) upd_eq, upd_eq⟩
    obtain ⟨b1, b2, b3, b4⟩ := base _ rfl
    refine ex_while (c := c') (h₀ := h) (fun n h' m => ∃ tkq, ∃ q : Nat, m "line" = some (.str x t) ∧ m "k" = some (.int k tk') ∧ m "p" = some (.int ((k + 1 : Nat) : Int) tp) ∧ m "q" = some (.int q tkq) ∧ k + 1 ≤ q ∧ q ≤ x.length ∧ figRun x q = figRun x (k + 1) ∧ x.length - q = n)
      ⟨_, _, k + 1, b1, b2, b3, b4, Nat.le_refl _, by omega, rfl, rfl⟩ F₈ ?_
    clear b1 b2 b3 b4 base
    rintro n h₉ m F₉ ⟨tkq, q, m1, m2, m3, m4, q1, q2, q3, q4⟩
    refine ⟨decide ((q : Int) < x.length) && isFig (x.cps.getD q 0), ?_, ?_⟩
    · by_cases hq : q < x.length
      · exact (Ts.and (Ts.cmp (Ev.locI F₉.ns m4) (Ev.len (Ev.blt (RF F₉).G (RF F₉).len rfl) (Ev.locS F₉.ns m1) (by omega)) (up_i _) cmp_lt) fun _ =>
          Ts.and (Ts.bool (ev_is_figure (RF F₉) hroom' (Ev.item1 (q := q) (Ev.locS F₉.ns m1) (Ev.locI F₉.ns m4) (by omega) hq))) fun _ => Ts.andNil).of (by simp)
      · have e : decide ((q : Int) < x.length) = false := decide_eq_false (by omega)
        exact (Ts.and (b' := true) (Ts.cmp (Ev.locI F₉.ns m4) (Ev.len (Ev.blt (RF F₉).G (RF F₉).len rfl) (Ev.locS F₉.ns m1) (by omega)) (up_i _) cmp_lt) fun z => by rw [e] at z; cases z).of (by rw [e]; rfl)
    intro h₁₀ tk₁₀ g₁₀ F₁₀
    cases hb : (decide ((q : Int) < x.length) && isFig (x.cps.getD q 0)) with
    | true =>
      rw [if_pos rfl]
      obtain ⟨z1, z2⟩ := Bool.and_eq_true_iff.mp hb
      have hql : q < x.length := by have := of_decide_eq_true z1; omega
      refine ex_aug (c := c') (P' := IsI (q + 1)) F₁₀ m4 Ev.int (fun v h' ⟨t, e⟩ tk Q E hQ => by subst e; exact PyProof.Rows.iadd_int (hQ _ _ _ (.refl _) ⟨_, rfl⟩)) ?_
      rintro v h₁₁ h₁₂ tk₁₂ g₁₁ ⟨tn, rfl⟩ sb' F₁₂
      exact ex_nil (c := c') ⟨x.length - (q + 1), h₁₂, _, tk₁₂, by omega, rfl, F₁₂, tn, q + 1, upd_ne (by decide) m1, upd_ne (by decide) m2, upd_ne (by decide) m3, by rw [upd_eq]; rfl, by omega, by omega, by rw [figRun_on hql z2, q3], rfl⟩
    | false =>
      rw [if_neg Bool.false_ne_true]
      have hqe : figRun x (k + 1) = q := by
        rw [← q3]
        by_cases hq : q < x.length
        · rw [decide_eq_true (by omega), Bool.true_and] at hb
          exact figRun_off hq hb
        · exact figRun_end (by omega)
      rw [hqe] at hu
      refine ex_assign (c := c') (P := IsI (wordRun x q)) F₁₀ (ev_word_run (RF F₁₀) hroom' (Ev.locS F₁₀.ns m1) (Ev.locI F₁₀.ns m4) (by omega) q2) ?_
      rintro v h₁₁ h₁₂ tk₁₂ g₁₁ ⟨tr, rfl⟩ sb' F₁₂
      have hrl := wordRun_le (x := x) (p := q) q2
      generalize hr : wordRun x q = r at *
      split at hu
      case isFalse => cases hu
      rename_i hc
      obtain ⟨c1, c2, c3⟩ := hc
      have n1 : upd m "r" (.int r tr) "line" = some (.str x t) := upd_ne (by decide) m1
      have n2 : upd m "r" (.int r tr) "k" = some (.int k tk') := upd_ne (by decide) m2
      have n3 : upd m "r" (.int r tr) "p" = some (.int ((k + 1 : Nat) : Int) tp) := upd_ne (by decide) m3
      have n4 : upd m "r" (.int r tr) "q" = some (.int q tkq) := upd_ne (by decide) m4
      refine ex_if (c := c') (b := true) ?_ ?_
      · refine (Ts.and (Ts.cmp (Ev.locI F₁₂.ns n4) (Ev.locI F₁₂.ns n3) (up_i _) cmp_gt) fun _ => Ts.and (Ts.cmp (Ev.locI F₁₂.ns upd_eq) (Ev.len (Ev.blt (RF F₁₂).G (RF F₁₂).len rfl) (Ev.locS F₁₂.ns n1) (by omega)) (up_i _) cmp_lt) fun _ =>
          Ts.and (Ts.or (ts_is (b := 46) (by decide +kernel) (Ev.item1 (q := r) (Ev.locS F₁₂.ns n1) (Ev.locI F₁₂.ns upd_eq) (by omega) c2) Ev.str) fun _ => Ts.or (ts_is (b := 62) (by decide +kernel) (Ev.item1 (q := r) (Ev.locS F₁₂.ns n1) (Ev.locI F₁₂.ns upd_eq) (by omega) c2) Ev.str) fun _ => Ts.orNil) fun _ => Ts.andNil).of ?_
        rw [decide_eq_true (by omega), decide_eq_true (by omega), Bool.or_false, Bool.and_true]
        exact c3
      intro h₁₃ tk₁₃ g₁₃
      have F₁₃ := F₁₂.after g₁₃
      rw [if_pos rfl]
      obtain ⟨d, hd, rfl⟩ := Option.map_eq_some_iff.mp hu
      refine ex_return (c := c') (Ev.tuple (Evs.cons (Ev.slice_ns (Ev.locS F₁₃.ns n1) (Ev.locI F₁₃.ns n2) (by omega)) (Evs.cons Ev.bool (Evs.cons (P := IsI d)
        (Ev.callT (Ev.blt (RF F₁₃).G (RF F₁₃).int rfl) (Ev.slice_ss (Ev.locS F₁₃.ns n1) (Ev.locI F₁₃.ns n3) (Ev.locI F₁₃.ns n4) (by omega)) fun v h' g ⟨tt, e⟩ tk Q E hQ => by
          subst e; exact KIN.call_text hd (Nat.le_trans (Txt.slice_le x _ _) (by omega)) (hQ _ _ _ (.refl _) ⟨_, rfl⟩))
        (Evs.cons (Ev.slice_ss (Ev.locS F₁₃.ns n1) (Ev.locI F₁₃.ns n4) (Ev.locI F₁₃.ns upd_eq) (by omega)) (Evs.cons (Ev.cmp (Ev.item1 (q := r) (Ev.locS F₁₃.ns n1) (Ev.locI F₁₃.ns upd_eq) (by omega) c2) Ev.str (up_s _) cmp_eqs) Evs.nil (up_v _)) (up_s _)) (up_i _)) (up_v _)) (up_s _))
        ?_ ?_) ?_
      · rintro vs h' ⟨v1, r1, rfl, _, v2, r2, rfl, _, v3, r3, rfl, _, v4, r4, rfl, _, v5, r5, rfl, _, rfl⟩
        show 5 ≤ 2 ^ 24
        decide
      · exact fun _ _ _ _ p => p
      · rintro v h₁₄ tk₁₄ g₁₄ ⟨a, vs, rfl, ha, v1, r1, rfl, ⟨t1, rfl⟩, v2, r2, rfl, rfl, v3, r3, rfl, ⟨t3, rfl⟩, v4, r4, rfl, ⟨t4, rfl⟩, v5, r5, rfl, rfl, rfl⟩
        refine ⟨h₁₄, tk₁₄, rfl, (F₁₃.after g₁₄).keep, a, _, rfl, ha, t1, t3, t4, ?_⟩
        rw [show (Str.ofString ">") = one 62 by decide +kernel, eq1]
  · -- the word need not be whole
    rename_i hst
    rw [beq_eq_false_iff_ne.mpr hst, if_neg Bool.false_ne_true]
    refine ex_nil (c := c') ?_
    refine ex_assign (c := c') (P := IsI ((k - 1 : Nat) : Int)) F₄ ((Ev.sub (Ev.locI F₄.ns upd_eq) Ev.int).mono fun v _ ⟨tt, e⟩ => ⟨tt, by rw [e]; congr 1; omega⟩) ?_
    rintro v h₅ h₆ tk₆ g₅ ⟨tp, rfl⟩ sb₅ F₆
    refine ex_while (c := c') (h₀ := h) (fun n h' m => ∃ tkq, ∃ q : Nat, m "line" = some (.str x t) ∧ m "k" = some (.int k tk') ∧ m "p" = some (.int q tkq) ∧ q < k ∧ figBack x q = figBack x (k - 1) ∧ q = n)
      ⟨_, tp, k - 1, upd_ne (by decide) lk, upd_ne (by decide) upd_eq, upd_eq, by omega, rfl, rfl⟩ F₆ ?_
    rintro n h₉ m F₉ ⟨tkq, q, m1, m2, m3, q1, q2, q3⟩
    refine ⟨decide (0 < q) && !isFig (x.cps.getD q 0), ?_, ?_⟩
    · exact (Ts.and (Ts.cmp (Ev.locI F₉.ns m3) Ev.int (up_i _) cmp_gt) fun _ =>
          Ts.and (Ts.not (Ts.bool (ev_is_figure (RF F₉) hroom' (Ev.item1 (q := q) (Ev.locS F₉.ns m1) (Ev.locI F₉.ns m3) (by omega) (by omega))))) fun _ => Ts.andNil).of (by simp)
    intro h₁₀ tk₁₀ g₁₀ F₁₀
    cases hb : (decide (0 < q) && !isFig (x.cps.getD q 0)) with
    | true =>
      rw [if_pos rfl]
      obtain ⟨z1, z2⟩ := Bool.and_eq_true_iff.mp hb
      have hq0 : 0 < q := of_decide_eq_true z1
      refine ex_aug (c := c') (P' := IsI ((q - 1 : Nat) : Int)) F₁₀ m3 Ev.int (fun v h' ⟨t, e⟩ tk Q E hQ => by subst e; exact PyProof.Rows.isub_int (hQ _ _ _ (.refl _) ⟨_, by congr 1; omega⟩)) ?_
      rintro v h₁₁ h₁₂ tk₁₂ g₁₁ ⟨tn, rfl⟩ sb' F₁₂
      refine ex_nil (c := c') ⟨q - 1, h₁₂, _, tk₁₂, by omega, rfl, F₁₂, tn, q - 1, upd_ne (by decide) m1, upd_ne (by decide) m2, upd_eq, by omega, ?_, rfl⟩
      rw [← q2]
      obtain ⟨q', rfl⟩ : ∃ q', q = q' + 1 := ⟨q - 1, by omega⟩
      rw [Bool.not_eq_true'] at z2
      show figBack x q' = figBack x (q' + 1)
      rw [figBack, z2]; rfl
    | false =>
      rw [if_neg Bool.false_ne_true]
      have hqe : figBack x (k - 1) = q := by
        rw [← q2]
        cases q with
        | zero => rfl
        | succ q' =>
          rw [decide_eq_true (by omega), Bool.true_and, Bool.not_eq_false'] at hb
          rw [figBack, if_pos hb]
      rw [hqe] at hu
      split at hu
      case isFalse => cases hu
      rename_i hc
      obtain ⟨c1, c2⟩ := hc
      refine ex_if (c := c') (b := true) ?_ ?_
      · refine (Ts.and (Ts.cmp (Ev.locI F₁₀.ns m3) Ev.int (up_i _) cmp_gt) fun _ => Ts.and (Ts.cmp (Ev.locI F₁₀.ns m2) (Ev.len (Ev.blt (RF F₁₀).G (RF F₁₀).len rfl) (Ev.locS F₁₀.ns m1) (by omega)) (up_i _) cmp_lt) fun _ =>
          Ts.and (Ts.or (ts_is (b := 46) (by decide +kernel) (Ev.item1 (q := k) (Ev.locS F₁₀.ns m1) (Ev.locI F₁₀.ns m2) (by omega) hkl) Ev.str) fun _ => Ts.or (ts_is (b := 62) (by decide +kernel) (Ev.item1 (q := k) (Ev.locS F₁₀.ns m1) (Ev.locI F₁₀.ns m2) (by omega) hkl) Ev.str) fun _ => Ts.orNil) fun _ => Ts.andNil).of ?_
        rw [decide_eq_true (by omega), decide_eq_true (by omega), Bool.or_false, Bool.and_true]
        exact c2
      intro h₁₃ tk₁₃ g₁₃
      have F₁₃ := F₁₀.after g₁₃
      rw [if_pos rfl]
      obtain ⟨d, hd, rfl⟩ := Option.map_eq_some_iff.mp hu
      refine ex_return (c := c') (Ev.tuple (Evs.cons (Ev.slice_ns (Ev.locS F₁₃.ns m1) (Ev.locI F₁₃.ns m3) (by omega)) (Evs.cons Ev.bool (Evs.cons (P := IsI d)
        (Ev.callT (Ev.blt (RF F₁₃).G (RF F₁₃).int rfl) (Ev.item1 (q := q) (Ev.locS F₁₃.ns m1) (Ev.locI F₁₃.ns m3) (by omega) (by omega)) fun v h' g ⟨tt, e⟩ tk Q E hQ => by
          subst e; exact KIN.call_text hd (by show 1 ≤ 640; decide) (hQ _ _ _ (.refl _) ⟨_, rfl⟩))
        (Evs.cons (Ev.slice_ss (i := ((q + 1 : Nat) : Int)) (Ev.locS F₁₃.ns m1) (Ev.add (Ev.locI F₁₃.ns m3) Ev.int) (Ev.locI F₁₃.ns m2) (by omega)) (Evs.cons (Ev.cmp (Ev.item1 (q := k) (Ev.locS F₁₃.ns m1) (Ev.locI F₁₃.ns m2) (by omega) hkl) Ev.str (up_s _) cmp_eqs) Evs.nil (up_v _)) (up_s _)) (up_i _)) (up_v _)) (up_s _))
        ?_ ?_) ?_
      · rintro vs h' ⟨v1, r1, rfl, _, v2, r2, rfl, _, v3, r3, rfl, _, v4, r4, rfl, _, v5, r5, rfl, _, rfl⟩
        show 5 ≤ 2 ^ 24
        decide
      · exact fun _ _ _ _ p => p
      · rintro v h₁₄ tk₁₄ g₁₄ ⟨a, vs, rfl, ha, v1, r1, rfl, ⟨t1, rfl⟩, v2, r2, rfl, rfl, v3, r3, rfl, ⟨t3, rfl⟩, v4, r4, rfl, ⟨t4, rfl⟩, v5, r5, rfl, rfl, rfl⟩
        refine ⟨h₁₄, tk₁₄, rfl, (F₁₃.after g₁₄).keep, a, _, rfl, ha, t1, t3, t4, ?_⟩
        rw [show (Str.ofString ">") = one 62 by decide +kernel, eq1]
end Mine
end

section
open PySem PySem.W PyProof.Rows PySem.Calls
set_option maxRecDepth 100000
set_option maxHeartbeats 4000000
set_option linter.unusedVariables false
namespace Mine
/-- a tree, its end told whole -/
def GoX (c : Cx) (h : Heap) (t : Sem Value) (P : Value → Heap → Prop) : Prop :=
  ∀ (tk : Nat) (Q : Value → Shared → Prop) (E : Value → Shared → Prop), (∀ v h₂ tk', P v h₂ → Q v (c.st h₂ tk')) → wpAny c.M c.A t Q E (c.st h tk)
/-- a call of a def of the text, its end told whole -/
theorem call_fnX {c : Cx} {h : Heap} {f : Addr} {name qual : Str} {params : Arguments} {body : List Stmt} {scope : Scope} {vs : List Value} {binds : List (Str × Value)} {P : Value → Heap → Prop}
    (hf : FnAt h f name qual params body scope) (hlim : h.NoLimit) (hroom : c.A.depth < recursionLimit)
    (hbind : ∀ pm cd doc, bindArgs (fdOf name qual params body scope pm cd doc) ⟨vs, []⟩ = pure binds) (hloc : ∀ x ∈ binds, scope.names.lookup x.1 = some .local)
    (k : ∀ cd h₁ tk, Fr h h.objs.size h₁ (fun x => binds.reverse.lookup x) →
      wpAny c.M (c.A.deeper (envOf qual scope h.objs.size f cd)) (execs body (envOf qual scope h.objs.size f cd)) (fun fl s' => ∃ h₂ tk', s' = c.st h₂ tk' ∧ P (match fl with | .ret v => v | _ => .none) h₂) (fun _ _ => False) (c.st h₁ tk))
    (hco : scope.isCoroutine = false := by rfl) (hgen : scope.isGenerator = false := by rfl) (hk : scope.kind = .function := by rfl) (hcell : ∀ x ∈ scope.names, x.2 ≠ .cell := by decide)
    (tk : Nat) (R : Result → Shared → Prop) (hQ : ∀ v h₂ tk', P v h₂ → R (.ok (.ret v)) (c.st h₂ tk')) : codeAny c.M c.A (.call (.ref f) ⟨vs, []⟩) R (c.st h tk) := by
  obtain ⟨o, pm, cd, doc, ho, hd, hcd⟩ := hf
  refine codeAny_call_function (s := c.st h tk) hroom ho hd hco hgen rfl hcd ?_
  rw [hbind]
  refine wpAny_pure (wpAny_newFunctionEnv hcell hloc (fun h₁ hns hsb => ⟨hlim.fresh _ hsb, ?_⟩) hk)
  have F : Fr h h.objs.size h₁ (fun x => binds.reverse.lookup x) := ⟨hns, fun b o e => hsb.extBut b o (Nat.ne_of_lt (Heap.lt_size e)) (Heap.get?_push_of_some _ e), Nat.le_refl _⟩
  refine codeAny_func (wpAny_mono (k cd h₁ _ F) (fun fl s' ⟨h₂, tk', e, p⟩ => ?_) fun _ _ x => x.elim)
  subst e
  exact hQ _ h₂ tk' p
theorem GoX.call {c : Cx} {h : Heap} {f : Addr} {vs : List Value} {P : Value → Heap → Prop} (x : ∀ (tk : Nat) (R : Result → Shared → Prop), (∀ v h₂ tk', P v h₂ → R (.ok (.ret v)) (c.st h₂ tk')) → codeAny c.M c.A (.call (.ref f) ⟨vs, []⟩) R (c.st h tk)) :
    GoX c h (call (.ref f) vs) P := fun tk Q E hQ => wpAny_call (x tk _ fun v h₂ tk' p => hQ v h₂ tk' p)
theorem fr_base {h₀ h₁ h : Heap} {L : Addr} {m : Str → Option Value} (F : Fr h₁ L h m) (g : Grows h₀ h₁) (hs : h₀.objs.size ≤ h₁.objs.size) : Fr h₀ L h m :=
  ⟨F.ns, fun b o e => F.keep b o (g b o e), Nat.le_trans hs F.above⟩
/-- objects that are no tables of names lie elsewhere than a frame's -/
theorem ns_ne {h : Heap} {L a : Addr} {m : Str → Option Value} {o : Obj} (n : h.Ns L m) (e : h.get? a = some o) (hd : ∀ es ep, o.data ≠ .dict es ep) : a ≠ L := by
  rintro rfl
  obtain ⟨o', es, ep, e', d, _⟩ := n
  rw [e] at e'
  cases e'
  exact hd _ _ d

section
variable {c : Cx} {h : Heap} {m : Str → Option Value} {pos : Pos} {e : Expr} {P : Value → Heap → Prop} {rest : List Stmt} {Q : Flow → Shared → Prop} {E : Value → Shared → Prop} {tk : Nat} {h₀ : Heap}
/-- a for over a list, by an invariant over the place -/
theorem ex_for {target iter : Expr} {body : List Stmt} (F : Fr h₀ c.env.locals h m)
    (hi : Ev c h iter P) (hh : c.A.handled = none)
    (k : ∀ v h₂, Grows h h₂ → P v h₂ → Fr h₀ c.env.locals h₂ m → ∃ (l : Addr) (items : Array Value) (I : Nat → Heap → (Str → Option Value) → Prop), v = .ref l ∧ h₂.IsList l items ∧
      (∀ h₃, Grows h₂ h₃ → I 0 h₃ m) ∧
      (∀ i h h' m it, I i h m → h.IsListIter it l i → Heap.ExtBut it h h' → Fr h₀ c.env.locals h m → I i h' m) ∧
      (∀ i v h₁ m₁ tk it, items[i]? = some v → Fr h₀ c.env.locals h₁ m₁ → I i h₁ m₁ → h₁.IsList l items → h₁.IsListIter it l (i + 1) → it ≠ c.env.locals → l ≠ c.env.locals → it ≠ l →
        wpAny c.M c.A (assign target c.env v) (fun _ s₂ => wpAny c.M c.A (execs body c.env) (fun f s₃ => match f with
          | .next | .cont => ∃ h₃ m₃ tk₃, s₃ = c.st h₃ tk₃ ∧ Fr h₀ c.env.locals h₃ m₃ ∧ I (i + 1) h₃ m₃ ∧ h₃.IsListIter it l (i + 1) ∧ h₃.IsList l items
          | .brk => wpAny c.M c.A (execs rest c.env) Q E s₃
          | .ret v => Q (.ret v) s₃) (fun _ _ => False) s₂) (fun _ _ => False) (c.st h₁ tk)) ∧
      (∀ h₂ m₂ tk, Fr h₀ c.env.locals h₂ m₂ → I items.size h₂ m₂ → wpAny c.M c.A (execs rest c.env) Q E (c.st h₂ tk)))
    (hs : ∀ x, foldedSetIterable iter c.env x = pure x := by intro _; rfl) (ht : ∀ it v, letOwnedTupleGo target it v = pure () := by intro _ _; rfl) :
    wpAny c.M c.A (execs (.For target iter body [] pos :: rest) c.env) Q E (c.st h tk) := by
  refine wpAny_execs_cons (wpAny_For (hi h (.refl _) tk _ _ fun v h₂ tk₂ g₂ pv => ?_) hs)
  obtain ⟨l, items, I, rfl, hl, h0, st, turn, fin⟩ := k v h₂ g₂ pv (F.after g₂)
  refine wpAny_pyIter_list (s := c.st h₂ tk₂) hl ?_
  have F₂ := F.after g₂
  have F₃ : Fr h₀ c.env.locals (h₂.push { cls := .type "list_iterator", data := .fields #[.ref l, .int 0 0] }) m := F₂.after (Grows.push _ _)
  have hit : Heap.IsListIter (h₂.push { cls := .type "list_iterator", data := .fields #[.ref l, .int 0 0] }) h₂.objs.size l 0 := ⟨_, Heap.get?_push_size _ rfl, rfl, rfl⟩
  have nit : h₂.objs.size ≠ c.env.locals := by
    obtain ⟨oit, e1, _, e2⟩ := hit
    exact ns_ne F₃.ns e1 fun es ep x => by rw [e2] at x; cases x
  have nl : l ≠ c.env.locals := by
    obtain ⟨ol, e1, _, nn, e2⟩ := hl
    exact ns_ne F₂.ns e1 fun es ep x => by rw [e2] at x; cases x
  have nil' : h₂.objs.size ≠ l := by
    obtain ⟨ol, e1, _⟩ := hl
    exact Nat.ne_of_gt (Heap.lt_size e1)
  have nh : ∀ b o, h₀.get? b = some o → b ≠ h₂.objs.size := fun b o e => Nat.ne_of_lt (Heap.lt_size (F₂.keep b o e))
  generalize h₂.objs.size = it at *
  refine codeAny_forLoop (fun n s => ∃ h' m' tk' i, s = c.st h' tk' ∧ Fr h₀ c.env.locals h' m' ∧ I i h' m' ∧ h'.IsListIter it l i ∧ h'.IsList l items ∧ i ≤ items.size ∧ n = items.size + 1 - i)
    ?_ (items.size + 1) ⟨_, m, tk₂, 0, rfl, F₃, h0 _ (Grows.push _ _), hit, hl.push _, Nat.zero_le _, rfl⟩ (ht (.ref it))
  rintro n s ⟨h', m', tk', i, rfl, F', hI, hit', hl', hle, rfl⟩
  cases hv : items[i]? with
  | none =>
    have hsz : i = items.size := Nat.le_antisymm hle (by simpa using hv)
    subst hsz
    refine wpAny_pyNext_list_end (s := c.st h' tk') hh hit' hl' hv fun h₁ he₁ => wpAny_execs_nil ?_
    exact fin h₁ m' tk' ⟨F'.ns.extBut he₁ (Ne.symm nit), fun b o e => he₁ b o (nh b o e) (F'.keep b o e), F'.above⟩ (st _ _ _ _ _ hI hit' he₁ F')
  | some v =>
    have hlt : i < items.size := (Array.getElem?_eq_some_iff.mp hv).1
    refine wpAny_pyNext_list_item (s := c.st h' tk') hit' hl' hv fun h₁ hit₁ hs₁ => ?_
    have F₁ : Fr h₀ c.env.locals h₁ m' := ⟨F'.ns.sameBut hs₁ (Ne.symm nit), fun b o e => hs₁.extBut b o (nh b o e) (F'.keep b o e), F'.above⟩
    refine wpAny_mono (turn i v h₁ m' tk' it hv F₁ (st _ _ _ _ _ hI hit' hs₁.extBut F') (hl'.extBut hs₁.extBut (Ne.symm nil')) hit₁ nit nl nil') (fun _ s₂ h₂ => wpAny_mono h₂ (fun f s₃ q => ?_) fun _ _ x => x.elim) fun _ _ x => x.elim
    cases f with
    | next => obtain ⟨h₃, m₃, tk₃, q1, q2, q3, q4, q5⟩ := q; exact ⟨items.size + 1 - (i + 1), by omega, h₃, m₃, tk₃, i + 1, q1, q2, q3, q4, q5, hlt, rfl⟩
    | cont => obtain ⟨h₃, m₃, tk₃, q1, q2, q3, q4, q5⟩ := q; exact ⟨items.size + 1 - (i + 1), by omega, h₃, m₃, tk₃, i + 1, q1, q2, q3, q4, q5, hlt, rfl⟩
    | brk => exact q
    | ret v => exact q

/-- a name bound by an assignment's target -/
theorem as_name {x : Str} {p' : Pos} {v : Value} {Q : Unit → Shared → Prop} (F : Fr h₀ c.env.locals h m)
    (k : ∀ h₃ tk', Heap.SameBut c.env.locals h h₃ → Fr h₀ c.env.locals h₃ (upd m x v) → Q () (c.st h₃ tk'))
    (hl : c.env.kindOf x = some .local := by rfl)
    (hp : (c.env.scope.kind == .class || (c.env.scope.kind == .module && c.env.locals != c.env.globals)) = false := by rfl) :
    wpAny c.M c.A (assign (.Name x p') c.env v) Q E (c.st h tk) :=
  PyProof.Rows.assign_Name (wpAny_storeName_local hl F.ns (fun h₃ hn hs => k h₃ _ hs (F.set hn hs)) hp)
/-- a tuple of five, taken apart into five names -/
theorem as_five {a b d f g : Str} {pa pb pd pf pg : Pos} {k' : Nat} {t : Addr} {v1 v2 v3 v4 v5 : Value} {Q : Unit → Shared → Prop} (F : Fr h₀ c.env.locals h m) (ht : h.get? t = some (tupObj [v1, v2, v3, v4, v5])) (hh : c.A.handled = none)
    (k : ∀ h₂ h₃ tk', Grows h h₂ → Heap.SameBut c.env.locals h₂ h₃ → Fr h₀ c.env.locals h₃ (upd (upd (upd (upd (upd m a v1) b v2) d v3) f v4) g v5) → Q () (c.st h₃ tk'))
    (ha : c.env.kindOf a = some .local := by rfl) (hb : c.env.kindOf b = some .local := by rfl) (hd : c.env.kindOf d = some .local := by rfl) (hf : c.env.kindOf f = some .local := by rfl) (hg : c.env.kindOf g = some .local := by rfl)
    (hp : (c.env.scope.kind == .class || (c.env.scope.kind == .module && c.env.locals != c.env.globals)) = false := by rfl) :
    wpAny c.M c.A (assign (.Tuple [.Name a pa, .Name b pb, .Name d pd, .Name f pf, .Name g pg] k' pos) c.env (.ref t)) Q E (c.st h tk) := by
  refine PySem.wpAny_assign_Tuple (s := c.st h tk) (items := #[v1, v2, v3, v4, v5]) hh ?_ ?_ ?_ fun h₂ he => ?_
  · exact ⟨_, ht, rfl, 0, rfl⟩
  · rfl
  · rfl
  have g₂ : Grows h h₂ := fun b o e => he b o (Nat.ne_of_lt (Heap.lt_size e)) e
  have F₂ := F.after g₂
  show wpAny c.M c.A (do holding [v2, v3, v4, v5] (assign (.Name a pa) c.env v1); holding [v3, v4, v5] (assign (.Name b pb) c.env v2); holding [v4, v5] (assign (.Name d pd) c.env v3); holding [v5] (assign (.Name f pf) c.env v4); holding [] (assign (.Name g pg) c.env v5); pure ()) Q E (c.st h₂ tk)
  refine wpAny_bind (wpAny_holding (as_name F₂ (fun h3 t3 s3 F3 => ?_) ha hp))
  refine wpAny_bind (wpAny_holding (as_name F3 (fun h4 t4 s4 F4 => ?_) hb hp))
  refine wpAny_bind (wpAny_holding (as_name F4 (fun h5 t5 s5 F5 => ?_) hd hp))
  refine wpAny_bind (wpAny_holding (as_name F5 (fun h6 t6 s6 F6 => ?_) hf hp))
  refine wpAny_bind (wpAny_holding (as_name F6 (fun h7 t7 s7 F7 => ?_) hg hp))
  exact wpAny_pure (k h₂ h7 t7 g₂ ((((s3.trans s4).trans s5).trans s6).trans s7) F7)
theorem ex_five {a b d f g : Str} {pa pb pd pf pg p1 : Pos} {k' : Nat} {t : Addr} {v1 v2 v3 v4 v5 : Value} (F : Fr h₀ c.env.locals h m) (he : Ev c h e (fun v h' => v = .ref t)) (ht : h.get? t = some (tupObj [v1, v2, v3, v4, v5])) (hh : c.A.handled = none)
    (k : ∀ h₂ h₃ tk', Grows h h₂ → Heap.SameBut c.env.locals h₂ h₃ → Fr h₀ c.env.locals h₃ (upd (upd (upd (upd (upd m a v1) b v2) d v3) f v4) g v5) → wpAny c.M c.A (execs rest c.env) Q E (c.st h₃ tk'))
    (hs : swapsWithSole [.Tuple [.Name a pa, .Name b pb, .Name d pd, .Name f pf, .Name g pg] k' p1] e pos.line c.env = pure false := by rfl)
    (hw : swappedStores [.Tuple [.Name a pa, .Name b pb, .Name d pd, .Name f pf, .Name g pg] k' p1] e c.env = pure none := by rfl)
    (ha : c.env.kindOf a = some .local := by rfl) (hb : c.env.kindOf b = some .local := by rfl) (hd : c.env.kindOf d = some .local := by rfl) (hf : c.env.kindOf f = some .local := by rfl) (hg : c.env.kindOf g = some .local := by rfl)
    (hp : (c.env.scope.kind == .class || (c.env.scope.kind == .module && c.env.locals != c.env.globals)) = false := by rfl) :
    wpAny c.M c.A (execs (.Assign [.Tuple [.Name a pa, .Name b pb, .Name d pd, .Name f pf, .Name g pg] k' p1] e pos :: rest) c.env) Q E (c.st h tk) :=
  wpAny_execs_cons (Assign_Tuple (he h (.refl _) tk _ _ fun v h₂ tk₂ g₂ ev => by
    subst ev
    exact as_five (F.after g₂) (g₂ _ _ ht) hh (fun h₃ h₄ tk' g s F' => k h₃ h₄ tk' (g₂.trans g) s F') ha hb hd hf hg hp) hs hw)
/-- lists and tables are put into -/
theorem ex_append {o elt : Expr} {apos p1 : Pos} {l : Addr} {items : Array Value} {pl : Sem Bool} (ho : Ev c h o (IsV (.ref l))) (hl : h.PlainList l items) (he : Ev c h elt P) (hz : items.size ≤ 1000)
    (k : ∀ v h₂ h₃ tk', Grows h h₂ → P v h₂ → h₃.PlainList l (items.push v) → Heap.SameBut l h₂ h₃ → wpAny c.M c.A (execs rest c.env) Q E (c.st h₃ tk'))
    (h1 : eval (.Call (.Attribute o "append" apos) [elt] [] p1) c.env = (do
      let ov ← eval o c.env
      standAt apos.atName
      let (f, first) ← holding [ov] (getMethod ov "append" pl)
      callWith p1 f first (backTo p1 (starEach [elt] c.env)) []) := by rfl)
    (hs : starEach [elt] c.env = [(false, eval elt c.env)] := by rfl) (hi : interactive c.env = false := by rfl) (hsw : swapsWith (.Call (.Attribute o "append" apos) [elt] [] p1) none pos.line c.env = pure false := by rfl) :
    wpAny c.M c.A (execs (.Expr (.Call (.Attribute o "append" apos) [elt] [] p1) pos :: rest) c.env) Q E (c.st h tk) := by
  refine wpAny_execs_cons (wpAny_Expr (MethodCall_ (ho h (.refl _) tk _ _ fun ov h₂ tk₂ g₂ e => ?_) h1) hi hsw)
  obtain rfl : ov = .ref l := e
  obtain ⟨n, hl0⟩ := hl
  refine getMethod_list_append (s := c.st h₂ tk₂) (g₂ _ _ hl0) rfl rfl ?_
  refine callWith_method1 ?_ hs
  refine args_cons (he h₂ g₂ tk₂ _ _ fun v h₃ tk₃ g₃ p => args_nil ?_) hs
  refine wpAny_list_append_plain (s := c.st h₃ tk₃) ⟨n, g₃ _ _ (g₂ _ _ hl0)⟩ (fun h₄ hp hsb => ?_) (by rw [sizeLine_eq]; omega)
  exact k v h₃ h₄ tk₃ (g₂.trans g₃) p hp hsb
theorem ex_setitem {o i value : Expr} {p1 : Pos} {d : Addr} {kvs : List (Str × Value)} {x : Str} (hv : Ev c h value P) (up : Up P) (ho : Ev c h o (IsV (.ref d))) (hi : Ev c h i (IsS x)) (hd : h.DictOf (strKind pw c.w) d kvs) (hz : kvs.length ≤ 1000)
    (k : ∀ v h₂ h₃ tk', Grows h h₂ → P v h₂ → h₃.DictOf (strKind pw c.w) d (stored kvs x v) → Heap.SameBut d h₂ h₃ → wpAny c.M c.A (execs rest c.env) Q E (c.st h₃ tk'))
    (hs : swapsWith value (some (.Subscript o i p1)) pos.line c.env = pure false := by rfl) :
    wpAny c.M c.A (execs (.Assign [.Subscript o i p1] value pos :: rest) c.env) Q E (c.st h tk) := by
  refine wpAny_execs_cons (wpAny_Assign_Subscript (hv h (.refl _) tk _ _ fun v h₂ tk₂ g₂ p => ho h₂ g₂ tk₂ _ _ fun ov h₃ tk₃ g₃ e => hi h₃ (g₂.trans g₃) tk₃ _ _ fun iv h₄ tk₄ g₄ e' => ?_) hs)
  obtain rfl : ov = .ref d := e
  obtain ⟨t, rfl⟩ := e'
  have g := (g₂.trans g₃).trans g₄
  exact wpAny_setItem_pairs (s := c.st h₄ tk₄) (strKind_is pw c.w x t) (hd.keep g) (fun h₅ hd' hsb => k v h₄ h₅ _ g (up _ _ _ (g₃.trans g₄) p) hd' hsb) (by rw [sizeLine_eq]; omega)
theorem Ev.newList0 : Ev c h (.List [] pos) (fun v h' => ∃ a, v = .ref a ∧ h'.PlainList a #[] ∧ h.get? a = none) :=
  fun h₁ g₁ tk Q E hQ => List_ (args_nil (wpAny_newList (s := c.st h₁ tk) (hQ _ _ _ (Grows.push _ _) ⟨_, rfl, ⟨0, Heap.get?_push_size _ rfl⟩, by
    cases z : h.get? h₁.objs.size with
    | none => rfl
    | some o => exact absurd (Heap.lt_size (g₁ _ _ z)) (Nat.lt_irrefl _)⟩) (by decide)))
theorem Ev.dictAt {o i : Expr} {d : Addr} {kvs : List (Str × Value)} {x : Str} {v : Value} (ho : Ev c h o (IsV (.ref d))) (hi : Ev c h i (IsS x)) (hd : h.DictOf (strKind pw c.w) d kvs) (hv : valueAt kvs x = some v)
    (hs : ∀ t, subscripted i false (.ref d) (.str x t) = operate [.ref d, .str x t] (getItem (.ref d) (.str x t)) := by intro _; with_unfolding_all rfl) : Ev c h (.Subscript o i pos) (IsV v) := by
  intro h₁ g₁ tk Q E hQ
  refine Subscript_ (ho h₁ g₁ tk _ _ fun ov h₂ tk₂ g₂ e => hi h₂ (g₁.trans g₂) tk₂ _ _ fun iv h₃ tk₃ g₃ e' => ?_)
  obtain rfl : ov = .ref d := e
  obtain ⟨t, rfl⟩ := e'
  have hd' := hd.keep ((g₁.trans g₂).trans g₃)
  exact tail_any (s := c.st h₃ tk₃) hd'.typeIs slot_dict_getitem.lookup (wpAny_getItem_of (s := c.st h₃ tk₃) (strKind_is pw c.w x t) hd'.mapOf hv (hQ _ h₃ _ (g₂.trans g₃) rfl)) (hs t)
theorem cmp_notin {d : Addr} {kvs : List (Str × Value)} {x : Str} (hds : (d == sysModules) = false) : Cmp c .NotIn (IsS x) (fun v h => v = .ref d ∧ h.DictOf (strKind pw c.w) d kvs) (!(valueAt kvs x).isSome) :=
  fun a b h ⟨t, e1⟩ ⟨e2, hd⟩ tk Q E hQ => by
    subst e1 e2
    exact wpAny_notIn_of (s := c.st h tk) (strKind_is pw c.w x t) hds hd.mapOf (hQ _)
end
end Mine
end

section
open PySem PySem.W PyProof.Rows PySem.Calls
set_option maxRecDepth 100000
set_option maxHeartbeats 0
set_option linter.unusedVariables false
namespace Mine
def theText : Str := match atTop 5 with | .Assign _ (.Constant (.str x) _ _) _ => x | _ => ""
noncomputable def oA11 (P : Params) : Obj := ⟨.type "tuple", none, .seq (List.toArray []) 0, List.toArray []⟩
noncomputable def oA12 (P : Params) : Obj := ⟨.none, none, .fields (List.toArray []), List.toArray []⟩
noncomputable def oA13 (P : Params) : Obj := ⟨.type "code", none, .fields (List.toArray [.str (Str.ofString "<module>") 182, .str (Str.ofString "<module>") 183, .str (Str.ofString "/claim/cut.py") 184, .int (1) 0, .int (0) 0, .int (0) 0, .int (0) 0, .int (0) 0, .ref 11, .bool false, .int (181) 0, .ref 12, .none, .none, .none, .none, .int (185) 0, .int (1) 0, .str (Str.ofString "/claim/cut.py") 186]), List.toArray []⟩
noncomputable def oA14 (P : Params) : Obj := ⟨.type "frame", none, .plain, List.toArray [some (.ref 13), some (.ref 3), some (.ref 3), none, some (.str (Str.ofString "__main__") 164), none, some (.ref 0)]⟩
noncomputable def treeA (P : Params) : BT := (.node (boot_o_0 P) (.node (boot_o_1 P) (.node (boot_o_3 P) (.node (boot_o_7 P) .nil .nil) (.node (oA11 P) .nil .nil)) (.node (boot_o_5 P) (.node (boot_o_9 P) .nil .nil) (.node (oA13 P) .nil .nil))) (.node (boot_o_2 P) (.node (boot_o_4 P) (.node (boot_o_8 P) .nil .nil) (.node (oA12 P) .nil .nil)) (.node (boot_o_6 P) (.node (boot_o_10 P) .nil .nil) (.node (oA14 P) .nil .nil))))
-- size 15 toks 187
noncomputable def oB3 (P : Params) : Obj := ⟨.type "dict", none, .dict (List.toArray [⟨PyData.keyHash P (Str.ofString "__name__"), .str (Str.ofString "__name__") 165, .str (Str.ofString "whoosh.lang.paicehusk") 187⟩, ⟨PyData.keyHash P (Str.ofString "__doc__"), .str (Str.ofString "__doc__") 166, .none⟩, ⟨PyData.keyHash P (Str.ofString "__package__"), .str (Str.ofString "__package__") 167, .none⟩, ⟨PyData.keyHash P (Str.ofString "__loader__"), .str (Str.ofString "__loader__") 168, .builtin "__main__.__loader__#opaque"⟩, ⟨PyData.keyHash P (Str.ofString "__spec__"), .str (Str.ofString "__spec__") 169, .none⟩, ⟨PyData.keyHash P (Str.ofString "__annotations__"), .str (Str.ofString "__annotations__") 170, .ref 6⟩, ⟨PyData.keyHash P (Str.ofString "__builtins__"), .str (Str.ofString "__builtins__") 171, .ref 4⟩, ⟨PyData.keyHash P (Str.ofString "__file__"), .str (Str.ofString "__file__") 173, .str (Str.ofString "/claim/cut.py") 172⟩, ⟨PyData.keyHash P (Str.ofString "__cached__"), .str (Str.ofString "__cached__") 174, .none⟩, ⟨PyData.keyHash P (Str.ofString "_word_run"), .str (Str.ofString "_word_run") 197, .ref 21⟩, ⟨PyData.keyHash P (Str.ofString "_is_figure"), .str (Str.ofString "_is_figure") 204, .ref 28⟩, ⟨PyData.keyHash P (Str.ofString "_read_rule"), .str (Str.ofString "_read_rule") 215, .ref 35⟩]) 12, List.toArray []⟩
noncomputable def oB12 (P : Params) : Obj := ⟨.none, none, .fields (List.toArray [.int (2) 0, .int (0) 0, .ref 20, .int (9) 0, .int (0) 0, .ref 27, .int (11) 0, .int (0) 0, .ref 34]), List.toArray []⟩
noncomputable def oB15 (P : Params) : Obj := ⟨.type "tuple", none, .seq (List.toArray []) 0, List.toArray []⟩
noncomputable def oB16 (P : Params) : Obj := ⟨.none, none, .fields (List.toArray []), List.toArray []⟩
noncomputable def oB17 (P : Params) : Obj := ⟨.type "tuple", none, .seq (List.toArray [.str (Str.ofString "text") 192, .str (Str.ofString "place") 193, .str (Str.ofString "sign") 194]) 0, List.toArray []⟩
noncomputable def oB18 (P : Params) : Obj := ⟨.type "tuple", none, .seq (List.toArray []) 0, List.toArray []⟩
noncomputable def oB19 (P : Params) : Obj := ⟨.none, none, .func { name := (Str.ofString "_word_run"), qualname := (Str.ofString "_word_run"), params := fnParams (atTop 1), body := .stmts (fnBody (atTop 1)), scope := fnScope (atTop 1), globals := 0, closure := [], defaults := .none, kwdefaults := .none, doc := .none, pyModule := .none, annotations := none, code := .none, closureTuple := .none, builtins := 0 }, List.toArray []⟩
noncomputable def oB20 (P : Params) : Obj := ⟨.type "code", none, .fields (List.toArray [.str (Str.ofString "_word_run") 189, .str (Str.ofString "_word_run") 190, .str (Str.ofString "/claim/cut.py") 191, .int (2) 0, .int (2) 0, .int (0) 0, .int (0) 0, .int (3) 0, .ref 15, .bool true, .int (181) 0, .ref 16, .none, .ref 17, .ref 18, .ref 19, .int (195) 0, .int (2) 0, .str (Str.ofString "/claim/cut.py") 196]), List.toArray []⟩
noncomputable def oB21 (P : Params) : Obj := ⟨.type "function", none, .func { name := (Str.ofString "_word_run"), qualname := (Str.ofString "_word_run"), params := fnParams (atTop 1), body := .stmts (fnBody (atTop 1)), scope := fnScope (atTop 1), globals := 3, closure := [], defaults := .none, kwdefaults := .none, doc := .none, pyModule := .str (Str.ofString "whoosh.lang.paicehusk") 187, annotations := none, code := .ref 20, closureTuple := .none, builtins := 0 }, List.toArray []⟩
noncomputable def oB22 (P : Params) : Obj := ⟨.type "tuple", none, .seq (List.toArray []) 0, List.toArray []⟩
noncomputable def oB23 (P : Params) : Obj := ⟨.none, none, .fields (List.toArray []), List.toArray []⟩
noncomputable def oB24 (P : Params) : Obj := ⟨.type "tuple", none, .seq (List.toArray [.str (Str.ofString "sign") 201]) 0, List.toArray []⟩
noncomputable def oB25 (P : Params) : Obj := ⟨.type "tuple", none, .seq (List.toArray []) 0, List.toArray []⟩
noncomputable def oB26 (P : Params) : Obj := ⟨.none, none, .func { name := (Str.ofString "_is_figure"), qualname := (Str.ofString "_is_figure"), params := fnParams (atTop 2), body := .stmts (fnBody (atTop 2)), scope := fnScope (atTop 2), globals := 0, closure := [], defaults := .none, kwdefaults := .none, doc := .none, pyModule := .none, annotations := none, code := .none, closureTuple := .none, builtins := 0 }, List.toArray []⟩
noncomputable def oB27 (P : Params) : Obj := ⟨.type "code", none, .fields (List.toArray [.str (Str.ofString "_is_figure") 198, .str (Str.ofString "_is_figure") 199, .str (Str.ofString "/claim/cut.py") 200, .int (9) 0, .int (1) 0, .int (0) 0, .int (0) 0, .int (3) 0, .ref 22, .bool true, .int (181) 0, .ref 23, .none, .ref 24, .ref 25, .ref 26, .int (202) 0, .int (9) 0, .str (Str.ofString "/claim/cut.py") 203]), List.toArray []⟩
noncomputable def oB28 (P : Params) : Obj := ⟨.type "function", none, .func { name := (Str.ofString "_is_figure"), qualname := (Str.ofString "_is_figure"), params := fnParams (atTop 2), body := .stmts (fnBody (atTop 2)), scope := fnScope (atTop 2), globals := 3, closure := [], defaults := .none, kwdefaults := .none, doc := .none, pyModule := .str (Str.ofString "whoosh.lang.paicehusk") 187, annotations := none, code := .ref 27, closureTuple := .none, builtins := 0 }, List.toArray []⟩
noncomputable def oB29 (P : Params) : Obj := ⟨.type "tuple", none, .seq (List.toArray []) 0, List.toArray []⟩
noncomputable def oB30 (P : Params) : Obj := ⟨.none, none, .fields (List.toArray []), List.toArray []⟩
noncomputable def oB31 (P : Params) : Obj := ⟨.type "tuple", none, .seq (List.toArray [.str (Str.ofString "line") 208, .str (Str.ofString "k") 209, .str (Str.ofString "p") 210, .str (Str.ofString "q") 211, .str (Str.ofString "r") 212]) 0, List.toArray []⟩
noncomputable def oB32 (P : Params) : Obj := ⟨.type "tuple", none, .seq (List.toArray []) 0, List.toArray []⟩
noncomputable def oB33 (P : Params) : Obj := ⟨.none, none, .func { name := (Str.ofString "_read_rule"), qualname := (Str.ofString "_read_rule"), params := fnParams (atTop 3), body := .stmts (fnBody (atTop 3)), scope := fnScope (atTop 3), globals := 0, closure := [], defaults := .none, kwdefaults := .none, doc := .none, pyModule := .none, annotations := none, code := .none, closureTuple := .none, builtins := 0 }, List.toArray []⟩
noncomputable def oB34 (P : Params) : Obj := ⟨.type "code", none, .fields (List.toArray [.str (Str.ofString "_read_rule") 205, .str (Str.ofString "_read_rule") 206, .str (Str.ofString "/claim/cut.py") 207, .int (11) 0, .int (1) 0, .int (0) 0, .int (0) 0, .int (3) 0, .ref 29, .bool true, .int (181) 0, .ref 30, .none, .ref 31, .ref 32, .ref 33, .int (213) 0, .int (11) 0, .str (Str.ofString "/claim/cut.py") 214]), List.toArray []⟩
noncomputable def oB35 (P : Params) : Obj := ⟨.type "function", none, .func { name := (Str.ofString "_read_rule"), qualname := (Str.ofString "_read_rule"), params := fnParams (atTop 3), body := .stmts (fnBody (atTop 3)), scope := fnScope (atTop 3), globals := 3, closure := [], defaults := .none, kwdefaults := .none, doc := .none, pyModule := .str (Str.ofString "whoosh.lang.paicehusk") 187, annotations := none, code := .ref 34, closureTuple := .none, builtins := 0 }, List.toArray []⟩
noncomputable def treeB (P : Params) : BT := (.node (boot_o_0 P) (.node (boot_o_1 P) (.node (oB3 P) (.node (boot_o_7 P) (.node (oB15 P) (.node (oB31 P) .nil .nil) .nil) (.node (oB23 P) .nil .nil)) (.node (oA11 P) (.node (oB19 P) (.node (oB35 P) .nil .nil) .nil) (.node (oB27 P) .nil .nil))) (.node (boot_o_5 P) (.node (boot_o_9 P) (.node (oB17 P) (.node (oB33 P) .nil .nil) .nil) (.node (oB25 P) .nil .nil)) (.node (oA13 P) (.node (oB21 P) .nil .nil) (.node (oB29 P) .nil .nil)))) (.node (boot_o_2 P) (.node (boot_o_4 P) (.node (boot_o_8 P) (.node (oB16 P) (.node (oB32 P) .nil .nil) .nil) (.node (oB24 P) .nil .nil)) (.node (oB12 P) (.node (oB20 P) .nil .nil) (.node (oB28 P) .nil .nil))) (.node (boot_o_6 P) (.node (boot_o_10 P) (.node (oB18 P) (.node (oB34 P) .nil .nil) .nil) (.node (oB26 P) .nil .nil)) (.node (oA14 P) (.node (oB22 P) .nil .nil) (.node (oB30 P) .nil .nil)))))
-- size 36 toks 216
noncomputable def oC3 (P : Params) : Obj := ⟨.type "dict", none, .dict (List.toArray [⟨PyData.keyHash P (Str.ofString "__name__"), .str (Str.ofString "__name__") 165, .str (Str.ofString "whoosh.lang.paicehusk") 187⟩, ⟨PyData.keyHash P (Str.ofString "__doc__"), .str (Str.ofString "__doc__") 166, .none⟩, ⟨PyData.keyHash P (Str.ofString "__package__"), .str (Str.ofString "__package__") 167, .none⟩, ⟨PyData.keyHash P (Str.ofString "__loader__"), .str (Str.ofString "__loader__") 168, .builtin "__main__.__loader__#opaque"⟩, ⟨PyData.keyHash P (Str.ofString "__spec__"), .str (Str.ofString "__spec__") 169, .none⟩, ⟨PyData.keyHash P (Str.ofString "__annotations__"), .str (Str.ofString "__annotations__") 170, .ref 6⟩, ⟨PyData.keyHash P (Str.ofString "__builtins__"), .str (Str.ofString "__builtins__") 171, .ref 4⟩, ⟨PyData.keyHash P (Str.ofString "__file__"), .str (Str.ofString "__file__") 173, .str (Str.ofString "/claim/cut.py") 172⟩, ⟨PyData.keyHash P (Str.ofString "__cached__"), .str (Str.ofString "__cached__") 174, .none⟩, ⟨PyData.keyHash P (Str.ofString "_word_run"), .str (Str.ofString "_word_run") 197, .ref 21⟩, ⟨PyData.keyHash P (Str.ofString "_is_figure"), .str (Str.ofString "_is_figure") 204, .ref 28⟩, ⟨PyData.keyHash P (Str.ofString "_read_rule"), .str (Str.ofString "_read_rule") 215, .ref 35⟩, ⟨PyData.keyHash P (Str.ofString "PaiceHuskStemmer"), .str (Str.ofString "PaiceHuskStemmer") 297, .ref 78⟩, ⟨PyData.keyHash P (Str.ofString "defaultrules"), .str (Str.ofString "defaultrules") 299, .str theText 298⟩]) 14, List.toArray []⟩
noncomputable def oC12 (P : Params) : Obj := ⟨.none, none, .fields (List.toArray [.int (2) 0, .int (0) 0, .ref 20, .int (9) 0, .int (0) 0, .ref 27, .int (11) 0, .int (0) 0, .ref 34, .int (28) 0, .int (0) 0, .ref 41]), List.toArray []⟩
noncomputable def oC36 (P : Params) : Obj := ⟨.type "tuple", none, .seq (List.toArray [.type "object"]) 0, List.toArray []⟩
noncomputable def oC37 (P : Params) : Obj := ⟨.type "builtin_function_or_method", none, .fields (List.toArray [.builtin "type.__prepare__", .type "type"]), List.toArray []⟩
noncomputable def oC38 (P : Params) : Obj := ⟨.type "dict", none, .dict (List.toArray [⟨PyData.keyHash P (Str.ofString "__module__"), .str (Str.ofString "__module__") 223, .str (Str.ofString "whoosh.lang.paicehusk") 187⟩, ⟨PyData.keyHash P (Str.ofString "__qualname__"), .str (Str.ofString "__qualname__") 225, .str (Str.ofString "PaiceHuskStemmer") 224⟩, ⟨PyData.keyHash P (Str.ofString "__firstlineno__"), .str (Str.ofString "__firstlineno__") 227, .int (28) 226⟩, ⟨PyData.keyHash P (Str.ofString "__init__"), .str (Str.ofString "__init__") 235, .ref 49⟩, ⟨PyData.keyHash P (Str.ofString "read_rules"), .str (Str.ofString "read_rules") 252, .ref 56⟩, ⟨PyData.keyHash P (Str.ofString "first_vowel"), .str (Str.ofString "first_vowel") 258, .ref 61⟩, ⟨PyData.keyHash P (Str.ofString "strip_prefix"), .str (Str.ofString "strip_prefix") 267, .ref 68⟩, ⟨PyData.keyHash P (Str.ofString "stem"), .str (Str.ofString "stem") 288, .ref 75⟩, ⟨PyData.keyHash P (Str.ofString "__static_attributes__"), .str (Str.ofString "__static_attributes__") 290, .ref 76⟩]) 9, List.toArray []⟩
noncomputable def oC39 (P : Params) : Obj := ⟨.type "tuple", none, .seq (List.toArray []) 0, List.toArray []⟩
noncomputable def oC40 (P : Params) : Obj := ⟨.none, none, .fields (List.toArray [.int (30) 0, .int (4) 0, .ref 48, .int (34) 0, .int (4) 0, .ref 55, .int (51) 0, .int (4) 0, .ref 60, .int (58) 0, .int (4) 0, .ref 67, .int (64) 0, .int (4) 0, .ref 74]), List.toArray []⟩
noncomputable def oC41 (P : Params) : Obj := ⟨.type "code", none, .fields (List.toArray [.str (Str.ofString "PaiceHuskStemmer") 218, .str (Str.ofString "PaiceHuskStemmer") 219, .str (Str.ofString "/claim/cut.py") 220, .int (28) 0, .int (0) 0, .int (0) 0, .int (0) 0, .int (0) 0, .ref 39, .bool false, .int (181) 0, .ref 40, .none, .none, .none, .none, .int (221) 0, .int (28) 0, .str (Str.ofString "/claim/cut.py") 222]), List.toArray []⟩
noncomputable def oC42 (P : Params) : Obj := ⟨.type "frame", none, .plain, List.toArray [some (.ref 41), some (.ref 3), some (.ref 38), none, some (.str (Str.ofString "whoosh.lang.paicehusk") 187), none, some (.ref 0)]⟩
noncomputable def oC43 (P : Params) : Obj := ⟨.type "tuple", none, .seq (List.toArray []) 0, List.toArray []⟩
noncomputable def oC44 (P : Params) : Obj := ⟨.none, none, .fields (List.toArray []), List.toArray []⟩
noncomputable def oC45 (P : Params) : Obj := ⟨.type "tuple", none, .seq (List.toArray [.str (Str.ofString "self") 231, .str (Str.ofString "ruletable") 232]) 0, List.toArray []⟩
noncomputable def oC46 (P : Params) : Obj := ⟨.type "tuple", none, .seq (List.toArray []) 0, List.toArray []⟩
noncomputable def oC47 (P : Params) : Obj := ⟨.none, none, .func { name := (Str.ofString "__init__"), qualname := (Str.ofString "PaiceHuskStemmer.__init__"), params := fnParams (atCls 4 0), body := .stmts (fnBody (atCls 4 0)), scope := fnScope (atCls 4 0), globals := 0, closure := [], defaults := .none, kwdefaults := .none, doc := .none, pyModule := .none, annotations := none, code := .none, closureTuple := .none, builtins := 0 }, List.toArray []⟩
noncomputable def oC48 (P : Params) : Obj := ⟨.type "code", none, .fields (List.toArray [.str (Str.ofString "__init__") 228, .str (Str.ofString "PaiceHuskStemmer.__init__") 229, .str (Str.ofString "/claim/cut.py") 230, .int (30) 0, .int (2) 0, .int (0) 0, .int (0) 0, .int (3) 0, .ref 43, .bool true, .int (181) 0, .ref 44, .none, .ref 45, .ref 46, .ref 47, .int (233) 0, .int (30) 0, .str (Str.ofString "/claim/cut.py") 234]), List.toArray []⟩
noncomputable def oC49 (P : Params) : Obj := ⟨.type "function", none, .func { name := (Str.ofString "__init__"), qualname := (Str.ofString "PaiceHuskStemmer.__init__"), params := fnParams (atCls 4 0), body := .stmts (fnBody (atCls 4 0)), scope := fnScope (atCls 4 0), globals := 3, closure := [], defaults := .none, kwdefaults := .none, doc := .none, pyModule := .str (Str.ofString "whoosh.lang.paicehusk") 187, annotations := none, code := .ref 48, closureTuple := .none, builtins := 0 }, List.toArray []⟩
noncomputable def oC50 (P : Params) : Obj := ⟨.type "tuple", none, .seq (List.toArray []) 0, List.toArray []⟩
noncomputable def oC51 (P : Params) : Obj := ⟨.none, none, .fields (List.toArray []), List.toArray []⟩
noncomputable def oC52 (P : Params) : Obj := ⟨.type "tuple", none, .seq (List.toArray [.str (Str.ofString "self") 239, .str (Str.ofString "ruletable") 240, .str (Str.ofString "rules") 241, .str (Str.ofString "line") 242, .str (Str.ofString "match") 243, .str (Str.ofString "ending") 244, .str (Str.ofString "intact") 245, .str (Str.ofString "num") 246, .str (Str.ofString "append") 247, .str (Str.ofString "cont") 248, .str (Str.ofString "lastchar") 249]) 0, List.toArray []⟩
noncomputable def oC53 (P : Params) : Obj := ⟨.type "tuple", none, .seq (List.toArray []) 0, List.toArray []⟩
noncomputable def oC54 (P : Params) : Obj := ⟨.none, none, .func { name := (Str.ofString "read_rules"), qualname := (Str.ofString "PaiceHuskStemmer.read_rules"), params := fnParams (atCls 4 1), body := .stmts (fnBody (atCls 4 1)), scope := fnScope (atCls 4 1), globals := 0, closure := [], defaults := .none, kwdefaults := .none, doc := .none, pyModule := .none, annotations := none, code := .none, closureTuple := .none, builtins := 0 }, List.toArray []⟩
noncomputable def oC55 (P : Params) : Obj := ⟨.type "code", none, .fields (List.toArray [.str (Str.ofString "read_rules") 236, .str (Str.ofString "PaiceHuskStemmer.read_rules") 237, .str (Str.ofString "/claim/cut.py") 238, .int (34) 0, .int (2) 0, .int (0) 0, .int (0) 0, .int (3) 0, .ref 50, .bool true, .int (181) 0, .ref 51, .none, .ref 52, .ref 53, .ref 54, .int (250) 0, .int (34) 0, .str (Str.ofString "/claim/cut.py") 251]), List.toArray []⟩
noncomputable def oC56 (P : Params) : Obj := ⟨.type "function", none, .func { name := (Str.ofString "read_rules"), qualname := (Str.ofString "PaiceHuskStemmer.read_rules"), params := fnParams (atCls 4 1), body := .stmts (fnBody (atCls 4 1)), scope := fnScope (atCls 4 1), globals := 3, closure := [], defaults := .none, kwdefaults := .none, doc := .none, pyModule := .str (Str.ofString "whoosh.lang.paicehusk") 187, annotations := none, code := .ref 55, closureTuple := .none, builtins := 0 }, List.toArray []⟩
noncomputable def oC57 (P : Params) : Obj := ⟨.type "tuple", none, .seq (List.toArray []) 0, List.toArray []⟩
noncomputable def oC58 (P : Params) : Obj := ⟨.none, none, .fields (List.toArray []), List.toArray []⟩
noncomputable def oC59 (P : Params) : Obj := ⟨.none, none, .func { name := (Str.ofString "first_vowel"), qualname := (Str.ofString "PaiceHuskStemmer.first_vowel"), params := fnParams (atCls 4 2), body := .stmts (fnBody (atCls 4 2)), scope := fnScope (atCls 4 2), globals := 0, closure := [], defaults := .none, kwdefaults := .none, doc := .none, pyModule := .none, annotations := none, code := .none, closureTuple := .none, builtins := 0 }, List.toArray []⟩
noncomputable def oC60 (P : Params) : Obj := ⟨.type "code", none, .fields (List.toArray [.str (Str.ofString "first_vowel") 253, .str (Str.ofString "PaiceHuskStemmer.first_vowel") 254, .str (Str.ofString "/claim/cut.py") 255, .int (51) 0, .int (2) 0, .int (0) 0, .int (0) 0, .int (3) 0, .ref 57, .bool true, .int (181) 0, .ref 58, .none, .none, .none, .ref 59, .int (256) 0, .int (51) 0, .str (Str.ofString "/claim/cut.py") 257]), List.toArray []⟩
noncomputable def oC61 (P : Params) : Obj := ⟨.type "function", none, .func { name := (Str.ofString "first_vowel"), qualname := (Str.ofString "PaiceHuskStemmer.first_vowel"), params := fnParams (atCls 4 2), body := .stmts (fnBody (atCls 4 2)), scope := fnScope (atCls 4 2), globals := 3, closure := [], defaults := .none, kwdefaults := .none, doc := .none, pyModule := .str (Str.ofString "whoosh.lang.paicehusk") 187, annotations := none, code := .ref 60, closureTuple := .none, builtins := 0 }, List.toArray []⟩
noncomputable def oC62 (P : Params) : Obj := ⟨.type "tuple", none, .seq (List.toArray []) 0, List.toArray []⟩
noncomputable def oC63 (P : Params) : Obj := ⟨.none, none, .fields (List.toArray []), List.toArray []⟩
noncomputable def oC64 (P : Params) : Obj := ⟨.type "tuple", none, .seq (List.toArray [.str (Str.ofString "self") 262, .str (Str.ofString "word") 263, .str (Str.ofString "prefix") 264]) 0, List.toArray []⟩
noncomputable def oC65 (P : Params) : Obj := ⟨.type "tuple", none, .seq (List.toArray []) 0, List.toArray []⟩
noncomputable def oC66 (P : Params) : Obj := ⟨.none, none, .func { name := (Str.ofString "strip_prefix"), qualname := (Str.ofString "PaiceHuskStemmer.strip_prefix"), params := fnParams (atCls 4 3), body := .stmts (fnBody (atCls 4 3)), scope := fnScope (atCls 4 3), globals := 0, closure := [], defaults := .none, kwdefaults := .none, doc := .none, pyModule := .none, annotations := none, code := .none, closureTuple := .none, builtins := 0 }, List.toArray []⟩
noncomputable def oC67 (P : Params) : Obj := ⟨.type "code", none, .fields (List.toArray [.str (Str.ofString "strip_prefix") 259, .str (Str.ofString "PaiceHuskStemmer.strip_prefix") 260, .str (Str.ofString "/claim/cut.py") 261, .int (58) 0, .int (2) 0, .int (0) 0, .int (0) 0, .int (3) 0, .ref 62, .bool true, .int (181) 0, .ref 63, .none, .ref 64, .ref 65, .ref 66, .int (265) 0, .int (58) 0, .str (Str.ofString "/claim/cut.py") 266]), List.toArray []⟩
noncomputable def oC68 (P : Params) : Obj := ⟨.type "function", none, .func { name := (Str.ofString "strip_prefix"), qualname := (Str.ofString "PaiceHuskStemmer.strip_prefix"), params := fnParams (atCls 4 3), body := .stmts (fnBody (atCls 4 3)), scope := fnScope (atCls 4 3), globals := 3, closure := [], defaults := .none, kwdefaults := .none, doc := .none, pyModule := .str (Str.ofString "whoosh.lang.paicehusk") 187, annotations := none, code := .ref 67, closureTuple := .none, builtins := 0 }, List.toArray []⟩
noncomputable def oC69 (P : Params) : Obj := ⟨.type "tuple", none, .seq (List.toArray []) 0, List.toArray []⟩
noncomputable def oC70 (P : Params) : Obj := ⟨.none, none, .fields (List.toArray []), List.toArray []⟩
noncomputable def oC71 (P : Params) : Obj := ⟨.type "tuple", none, .seq (List.toArray [.str (Str.ofString "self") 271, .str (Str.ofString "word") 272, .str (Str.ofString "rules") 273, .str (Str.ofString "k") 274, .str (Str.ofString "stem") 275, .str (Str.ofString "is_intact") 276, .str (Str.ofString "continuing") 277, .str (Str.ofString "pfv") 278, .str (Str.ofString "rulelist") 279, .str (Str.ofString "ending") 280, .str (Str.ofString "intact") 281, .str (Str.ofString "num") 282, .str (Str.ofString "append") 283, .str (Str.ofString "cont") 284, .str (Str.ofString "newlen") 285]) 0, List.toArray []⟩
noncomputable def oC72 (P : Params) : Obj := ⟨.type "tuple", none, .seq (List.toArray []) 0, List.toArray []⟩
noncomputable def oC73 (P : Params) : Obj := ⟨.none, none, .func { name := (Str.ofString "stem"), qualname := (Str.ofString "PaiceHuskStemmer.stem"), params := fnParams (atCls 4 4), body := .stmts (fnBody (atCls 4 4)), scope := fnScope (atCls 4 4), globals := 0, closure := [], defaults := .none, kwdefaults := .none, doc := .none, pyModule := .none, annotations := none, code := .none, closureTuple := .none, builtins := 0 }, List.toArray []⟩
noncomputable def oC74 (P : Params) : Obj := ⟨.type "code", none, .fields (List.toArray [.str (Str.ofString "stem") 268, .str (Str.ofString "PaiceHuskStemmer.stem") 269, .str (Str.ofString "/claim/cut.py") 270, .int (64) 0, .int (2) 0, .int (0) 0, .int (0) 0, .int (3) 0, .ref 69, .bool true, .int (181) 0, .ref 70, .none, .ref 71, .ref 72, .ref 73, .int (286) 0, .int (64) 0, .str (Str.ofString "/claim/cut.py") 287]), List.toArray []⟩
noncomputable def oC75 (P : Params) : Obj := ⟨.type "function", none, .func { name := (Str.ofString "stem"), qualname := (Str.ofString "PaiceHuskStemmer.stem"), params := fnParams (atCls 4 4), body := .stmts (fnBody (atCls 4 4)), scope := fnScope (atCls 4 4), globals := 3, closure := [], defaults := .none, kwdefaults := .none, doc := .none, pyModule := .str (Str.ofString "whoosh.lang.paicehusk") 187, annotations := none, code := .ref 74, closureTuple := .none, builtins := 0 }, List.toArray []⟩
noncomputable def oC76 (P : Params) : Obj := ⟨.type "tuple", none, .seq (List.toArray [.str (Str.ofString "rules") 289]) 0, List.toArray []⟩
noncomputable def oC77 (P : Params) : Obj := ⟨.type "dict", none, .dict (List.toArray [⟨PyData.keyHash P (Str.ofString "__module__"), .str (Str.ofString "__module__") 223, .str (Str.ofString "whoosh.lang.paicehusk") 187⟩, ⟨PyData.keyHash P (Str.ofString "__firstlineno__"), .str (Str.ofString "__firstlineno__") 227, .int (28) 226⟩, ⟨PyData.keyHash P (Str.ofString "__init__"), .str (Str.ofString "__init__") 235, .ref 49⟩, ⟨PyData.keyHash P (Str.ofString "read_rules"), .str (Str.ofString "read_rules") 252, .ref 56⟩, ⟨PyData.keyHash P (Str.ofString "first_vowel"), .str (Str.ofString "first_vowel") 258, .ref 61⟩, ⟨PyData.keyHash P (Str.ofString "strip_prefix"), .str (Str.ofString "strip_prefix") 267, .ref 68⟩, ⟨PyData.keyHash P (Str.ofString "stem"), .str (Str.ofString "stem") 288, .ref 75⟩, ⟨PyData.keyHash P (Str.ofString "__static_attributes__"), .str (Str.ofString "__static_attributes__") 290, .ref 76⟩, ⟨PyData.keyHash P (Str.ofString "__dict__"), .str (Str.ofString "__dict__") 292, .ref 79⟩, ⟨PyData.keyHash P (Str.ofString "__weakref__"), .str (Str.ofString "__weakref__") 294, .ref 80⟩, ⟨PyData.keyHash P (Str.ofString "__doc__"), .str (Str.ofString "__doc__") 295, .none⟩]) 4, List.toArray []⟩
noncomputable def oC78 (P : Params) : Obj := ⟨.type "type", none, .cls { name := (Str.ofString "PaiceHuskStemmer"), bases := [.type "object"], mro := [.ref 78, .type "object"], ns := 77, qualname := (Str.ofString "PaiceHuskStemmer"), hasDict := true, slotNames := [], subclasses := [], abstract := false, collection := none, hasDel := false }, List.toArray [some (.ref 36), none, some (.str (Str.ofString "PaiceHuskStemmer") 216), some (.str (Str.ofString "PaiceHuskStemmer") 224), some (.builtin "object.__new__"), some (.bool true)]⟩
noncomputable def oC79 (P : Params) : Obj := ⟨.type "getset_descriptor", none, .fields (List.toArray [.str (Str.ofString "__dict__") 291, .ref 78, .builtin "function.__dict__", .builtin "function.__dict__#set"]), List.toArray []⟩
noncomputable def oC80 (P : Params) : Obj := ⟨.type "getset_descriptor", none, .fields (List.toArray [.str (Str.ofString "__weakref__") 293, .ref 78, .builtin "ExceptionGroup.__weakref__", .none]), List.toArray []⟩
noncomputable def oC81 (P : Params) : Obj := ⟨.type "super", none, .fields (List.toArray [.ref 78, .ref 78, .ref 78]), List.toArray []⟩
noncomputable def oC82 (P : Params) : Obj := ⟨.type "builtin_function_or_method", none, .fields (List.toArray [.builtin "object.__init_subclass__", .ref 78]), List.toArray []⟩
noncomputable def treeC (P : Params) : BT := (.node (boot_o_0 P) (.node (boot_o_1 P) (.node (oC3 P) (.node (boot_o_7 P) (.node (oB15 P) (.node (oB31 P) (.node (oC63 P) .nil .nil) .nil) (.node (oC47 P) (.node (oC79 P) .nil .nil) .nil)) (.node (oB23 P) (.node (oC39 P) (.node (oC71 P) .nil .nil) .nil) (.node (oC55 P) .nil .nil))) (.node (oA11 P) (.node (oB19 P) (.node (oB35 P) (.node (oC67 P) .nil .nil) .nil) (.node (oC51 P) .nil .nil)) (.node (oB27 P) (.node (oC43 P) (.node (oC75 P) .nil .nil) .nil) (.node (oC59 P) .nil .nil)))) (.node (boot_o_5 P) (.node (boot_o_9 P) (.node (oB17 P) (.node (oB33 P) (.node (oC65 P) .nil .nil) .nil) (.node (oC49 P) (.node (oC81 P) .nil .nil) .nil)) (.node (oB25 P) (.node (oC41 P) (.node (oC73 P) .nil .nil) .nil) (.node (oC57 P) .nil .nil))) (.node (oA13 P) (.node (oB21 P) (.node (oC37 P) (.node (oC69 P) .nil .nil) .nil) (.node (oC53 P) .nil .nil)) (.node (oB29 P) (.node (oC45 P) (.node (oC77 P) .nil .nil) .nil) (.node (oC61 P) .nil .nil))))) (.node (boot_o_2 P) (.node (boot_o_4 P) (.node (boot_o_8 P) (.node (oB16 P) (.node (oB32 P) (.node (oC64 P) .nil .nil) .nil) (.node (oC48 P) (.node (oC80 P) .nil .nil) .nil)) (.node (oB24 P) (.node (oC40 P) (.node (oC72 P) .nil .nil) .nil) (.node (oC56 P) .nil .nil))) (.node (oC12 P) (.node (oB20 P) (.node (oC36 P) (.node (oC68 P) .nil .nil) .nil) (.node (oC52 P) .nil .nil)) (.node (oB28 P) (.node (oC44 P) (.node (oC76 P) .nil .nil) .nil) (.node (oC60 P) .nil .nil)))) (.node (boot_o_6 P) (.node (boot_o_10 P) (.node (oB18 P) (.node (oB34 P) (.node (oC66 P) .nil .nil) .nil) (.node (oC50 P) (.node (oC82 P) .nil .nil) .nil)) (.node (oB26 P) (.node (oC42 P) (.node (oC74 P) .nil .nil) .nil) (.node (oC58 P) .nil .nil))) (.node (oA14 P) (.node (oB22 P) (.node (oC38 P) (.node (oC70 P) .nil .nil) .nil) (.node (oC54 P) .nil .nil)) (.node (oB30 P) (.node (oC46 P) (.node (oC78 P) .nil .nil) .nil) (.node (oC62 P) .nil .nil))))))
-- size 83 toks 300

abbrev envM : Env := { scope := pw.main.scope, locals := mainNs, globals := mainNs, cells := [], code := .ref 13, frame := some 14 }
abbrev p0 : Pos := ⟨0, 0, 0, 0⟩
abbrev cdM : Code := .body (behindTheImports pw) envM
noncomputable def stA (w : World) (os : OsState) : SharedT := ⟨treeA w.params, 15, (boot_heap w.params).life, #[], boot_drawn, 187, os⟩
noncomputable def stB (w : World) (os : OsState) : SharedT := ⟨treeB w.params, 36, (boot_heap w.params).life, #[], boot_drawn, 216, os⟩
noncomputable def stC (w : World) (os : OsState) : SharedT := ⟨treeC w.params, 83, (boot_heap w.params).life, #[], boot_drawn, 300, os⟩
theorem pre_run (w : World) (os : OsState) : topGo treeTable pw w 11 (some (.ref 6)) 12 ⟨boot_heap w.params, #[], boot_drawn, boot_toks, os⟩ (topStub pw) = some ((stA w os).abs, ⟨denote treeTable cdM, cdM, p0, [topFrame p0]⟩) := by kernel_rfl
theorem blk_run (w : World) (os : OsState) : segRunT treeTable pw w 11 (some (.ref 6)) 1 1 (stA w os) (blockOf (behindTheImports pw) envM cdM p0 [topFrame p0]) = some (.next, stA w os, cdM, p0) := by kernel_rfl
theorem sts_B (w : World) (os : OsState) : segRunT treeTable pw w 11 (some (.ref 6)) 1 103 (stA w os) (piecesOf ((behindTheImports pw).take 4) envM cdM p0 [topFrame p0]) = some (.next, stB w os, cdM, ⟨11, 0, 27, 15⟩) := by kernel_rfl
theorem sts_C (w : World) (os : OsState) : segRunT treeTable pw w 11 (some (.ref 6)) 1 383 (stB w os) (piecesOf (((behindTheImports pw).drop 4).take 2) envM cdM ⟨11, 0, 27, 15⟩ [topFrame p0]) = some (.next, stC w os, cdM, ⟨90, 0, 90, 12⟩) := by kernel_rfl
noncomputable def hC (P : Params) : Heap := absHeap (treeC P) 83 (boot_heap P).life
theorem hC_size (P : Params) : (hC P).objs.size = 83 := absHeap_size ..
theorem hC_at {P : Params} {a : Nat} {o : Obj} (h : Nat.blt a 83 = true) (g : (treeC P).get a = some o) (al : alive o = some o) : (hC P).get? a = some o := (abs_get (Nat.le_of_ble_eq_true h) g).trans al
theorem hC_0 (P : Params) : (hC P).get? 0 = some (boot_o_0 P) := hC_at rfl rfl rfl
theorem hC_1 (P : Params) : (hC P).get? 1 = some (boot_o_1 P) := hC_at rfl rfl rfl
theorem hC_2 (P : Params) : (hC P).get? 2 = some (boot_o_2 P) := hC_at rfl rfl rfl
theorem hC_3 (P : Params) : (hC P).get? 3 = some (oC3 P) := hC_at rfl rfl rfl
theorem hC_4 (P : Params) : (hC P).get? 4 = some (boot_o_4 P) := hC_at rfl rfl rfl
theorem hC_5 (P : Params) : (hC P).get? 5 = some (boot_o_5 P) := hC_at rfl rfl rfl
theorem hC_6 (P : Params) : (hC P).get? 6 = some (boot_o_6 P) := hC_at rfl rfl rfl
theorem hC_7 (P : Params) : (hC P).get? 7 = some (boot_o_7 P) := hC_at rfl rfl rfl
theorem hC_8 (P : Params) : (hC P).get? 8 = some (boot_o_8 P) := hC_at rfl rfl rfl
theorem hC_9 (P : Params) : (hC P).get? 9 = some (boot_o_9 P) := hC_at rfl rfl rfl
theorem hC_10 (P : Params) : (hC P).get? 10 = some (boot_o_10 P) := hC_at rfl rfl rfl
theorem hC_11 (P : Params) : (hC P).get? 11 = some (oA11 P) := hC_at rfl rfl rfl
theorem hC_12 (P : Params) : (hC P).get? 12 = some (oC12 P) := hC_at rfl rfl rfl
theorem hC_13 (P : Params) : (hC P).get? 13 = some (oA13 P) := hC_at rfl rfl rfl
theorem hC_14 (P : Params) : (hC P).get? 14 = some (oA14 P) := hC_at rfl rfl rfl
theorem hC_15 (P : Params) : (hC P).get? 15 = some (oB15 P) := hC_at rfl rfl rfl
theorem hC_16 (P : Params) : (hC P).get? 16 = some (oB16 P) := hC_at rfl rfl rfl
theorem hC_17 (P : Params) : (hC P).get? 17 = some (oB17 P) := hC_at rfl rfl rfl
theorem hC_18 (P : Params) : (hC P).get? 18 = some (oB18 P) := hC_at rfl rfl rfl
theorem hC_19 (P : Params) : (hC P).get? 19 = some (oB19 P) := hC_at rfl rfl rfl
theorem hC_20 (P : Params) : (hC P).get? 20 = some (oB20 P) := hC_at rfl rfl rfl
theorem hC_21 (P : Params) : (hC P).get? 21 = some (oB21 P) := hC_at rfl rfl rfl
theorem hC_22 (P : Params) : (hC P).get? 22 = some (oB22 P) := hC_at rfl rfl rfl
theorem hC_23 (P : Params) : (hC P).get? 23 = some (oB23 P) := hC_at rfl rfl rfl
theorem hC_24 (P : Params) : (hC P).get? 24 = some (oB24 P) := hC_at rfl rfl rfl
theorem hC_25 (P : Params) : (hC P).get? 25 = some (oB25 P) := hC_at rfl rfl rfl
theorem hC_26 (P : Params) : (hC P).get? 26 = some (oB26 P) := hC_at rfl rfl rfl
theorem hC_27 (P : Params) : (hC P).get? 27 = some (oB27 P) := hC_at rfl rfl rfl
theorem hC_28 (P : Params) : (hC P).get? 28 = some (oB28 P) := hC_at rfl rfl rfl
theorem hC_29 (P : Params) : (hC P).get? 29 = some (oB29 P) := hC_at rfl rfl rfl
theorem hC_30 (P : Params) : (hC P).get? 30 = some (oB30 P) := hC_at rfl rfl rfl
theorem hC_31 (P : Params) : (hC P).get? 31 = some (oB31 P) := hC_at rfl rfl rfl
theorem hC_32 (P : Params) : (hC P).get? 32 = some (oB32 P) := hC_at rfl rfl rfl
theorem hC_33 (P : Params) : (hC P).get? 33 = some (oB33 P) := hC_at rfl rfl rfl
theorem hC_34 (P : Params) : (hC P).get? 34 = some (oB34 P) := hC_at rfl rfl rfl
theorem hC_35 (P : Params) : (hC P).get? 35 = some (oB35 P) := hC_at rfl rfl rfl
theorem hC_36 (P : Params) : (hC P).get? 36 = some (oC36 P) := hC_at rfl rfl rfl
theorem hC_37 (P : Params) : (hC P).get? 37 = some (oC37 P) := hC_at rfl rfl rfl
theorem hC_38 (P : Params) : (hC P).get? 38 = some (oC38 P) := hC_at rfl rfl rfl
theorem hC_39 (P : Params) : (hC P).get? 39 = some (oC39 P) := hC_at rfl rfl rfl
theorem hC_40 (P : Params) : (hC P).get? 40 = some (oC40 P) := hC_at rfl rfl rfl
theorem hC_41 (P : Params) : (hC P).get? 41 = some (oC41 P) := hC_at rfl rfl rfl
theorem hC_42 (P : Params) : (hC P).get? 42 = some (oC42 P) := hC_at rfl rfl rfl
theorem hC_43 (P : Params) : (hC P).get? 43 = some (oC43 P) := hC_at rfl rfl rfl
theorem hC_44 (P : Params) : (hC P).get? 44 = some (oC44 P) := hC_at rfl rfl rfl
theorem hC_45 (P : Params) : (hC P).get? 45 = some (oC45 P) := hC_at rfl rfl rfl
theorem hC_46 (P : Params) : (hC P).get? 46 = some (oC46 P) := hC_at rfl rfl rfl
theorem hC_47 (P : Params) : (hC P).get? 47 = some (oC47 P) := hC_at rfl rfl rfl
theorem hC_48 (P : Params) : (hC P).get? 48 = some (oC48 P) := hC_at rfl rfl rfl
theorem hC_49 (P : Params) : (hC P).get? 49 = some (oC49 P) := hC_at rfl rfl rfl
theorem hC_50 (P : Params) : (hC P).get? 50 = some (oC50 P) := hC_at rfl rfl rfl
theorem hC_51 (P : Params) : (hC P).get? 51 = some (oC51 P) := hC_at rfl rfl rfl
theorem hC_52 (P : Params) : (hC P).get? 52 = some (oC52 P) := hC_at rfl rfl rfl
theorem hC_53 (P : Params) : (hC P).get? 53 = some (oC53 P) := hC_at rfl rfl rfl
theorem hC_54 (P : Params) : (hC P).get? 54 = some (oC54 P) := hC_at rfl rfl rfl
theorem hC_55 (P : Params) : (hC P).get? 55 = some (oC55 P) := hC_at rfl rfl rfl
theorem hC_56 (P : Params) : (hC P).get? 56 = some (oC56 P) := hC_at rfl rfl rfl
theorem hC_57 (P : Params) : (hC P).get? 57 = some (oC57 P) := hC_at rfl rfl rfl
theorem hC_58 (P : Params) : (hC P).get? 58 = some (oC58 P) := hC_at rfl rfl rfl
theorem hC_59 (P : Params) : (hC P).get? 59 = some (oC59 P) := hC_at rfl rfl rfl
theorem hC_60 (P : Params) : (hC P).get? 60 = some (oC60 P) := hC_at rfl rfl rfl
theorem hC_61 (P : Params) : (hC P).get? 61 = some (oC61 P) := hC_at rfl rfl rfl
theorem hC_62 (P : Params) : (hC P).get? 62 = some (oC62 P) := hC_at rfl rfl rfl
theorem hC_63 (P : Params) : (hC P).get? 63 = some (oC63 P) := hC_at rfl rfl rfl
theorem hC_64 (P : Params) : (hC P).get? 64 = some (oC64 P) := hC_at rfl rfl rfl
theorem hC_65 (P : Params) : (hC P).get? 65 = some (oC65 P) := hC_at rfl rfl rfl
theorem hC_66 (P : Params) : (hC P).get? 66 = some (oC66 P) := hC_at rfl rfl rfl
theorem hC_67 (P : Params) : (hC P).get? 67 = some (oC67 P) := hC_at rfl rfl rfl
theorem hC_68 (P : Params) : (hC P).get? 68 = some (oC68 P) := hC_at rfl rfl rfl
theorem hC_69 (P : Params) : (hC P).get? 69 = some (oC69 P) := hC_at rfl rfl rfl
theorem hC_70 (P : Params) : (hC P).get? 70 = some (oC70 P) := hC_at rfl rfl rfl
theorem hC_71 (P : Params) : (hC P).get? 71 = some (oC71 P) := hC_at rfl rfl rfl
theorem hC_72 (P : Params) : (hC P).get? 72 = some (oC72 P) := hC_at rfl rfl rfl
theorem hC_73 (P : Params) : (hC P).get? 73 = some (oC73 P) := hC_at rfl rfl rfl
theorem hC_74 (P : Params) : (hC P).get? 74 = some (oC74 P) := hC_at rfl rfl rfl
theorem hC_75 (P : Params) : (hC P).get? 75 = some (oC75 P) := hC_at rfl rfl rfl
theorem hC_76 (P : Params) : (hC P).get? 76 = some (oC76 P) := hC_at rfl rfl rfl
theorem hC_77 (P : Params) : (hC P).get? 77 = some (oC77 P) := hC_at rfl rfl rfl
theorem hC_78 (P : Params) : (hC P).get? 78 = some (oC78 P) := hC_at rfl rfl rfl
theorem hC_79 (P : Params) : (hC P).get? 79 = some (oC79 P) := hC_at rfl rfl rfl
theorem hC_80 (P : Params) : (hC P).get? 80 = some (oC80 P) := hC_at rfl rfl rfl
theorem hC_81 (P : Params) : (hC P).get? 81 = some (oC81 P) := hC_at rfl rfl rfl
theorem hC_82 (P : Params) : (hC P).get? 82 = some (oC82 P) := hC_at rfl rfl rfl
end Mine
end

section
open PySem PySem.W PyProof.Rows PySem.Calls
set_option maxRecDepth 100000
set_option maxHeartbeats 4000000
set_option linter.unusedVariables false
namespace Mine
def rev (x : Str) : Str := ⟨x.cps.toList.reverse.toArray⟩
theorem rev_len (x : Str) : (rev x).length = x.length := by simp [rev, Str.length]
theorem sliceBy_rev (x : Str) (u : Tok) : Txt.sliceBy x none none (-1, u) = rev x := by
  have h : (Txt.sliceBy x none none (-1, u)).cps.toList = x.cps.toList.reverse := by
    rw [step_rev_list]
    apply List.ext_getElem
    · simp [Str.length]
    · intro i h1 h2
      simp only [List.length_reverse] at h2
      simp only [List.getElem_map, List.getElem_range, List.getElem_reverse]
      have e : x.cps.toList.length = x.length := rfl
      rw [Array.getD_eq_getD_getElem?, Array.getElem?_eq_getElem (by show _ < x.length; omega)]
      rfl
  show _ = (⟨x.cps.toList.reverse.toArray⟩ : Str)
  have : (Txt.sliceBy x none none (-1, u)).cps = x.cps.toList.reverse.toArray := by rw [← h]
  cases hz : Txt.sliceBy x none none (-1, u) with
  | mk cps => rw [hz] at this; exact congrArg Str.mk this

section
variable {c : Cx} {h : Heap} {m : Str → Option Value} {pos : Pos} {e : Expr}
theorem Ev.neg {i : Int} (x : Ev c h e (IsI i)) : Ev c h (.UnaryOp .USub e pos) (IsI (-i)) := fun h₁ g₁ tk Q E hQ => UnaryOp_ (x h₁ g₁ tk _ _ fun v h₂ tk₂ g₂ ⟨t, e⟩ => by
  subst e
  exact PyProof.Rows.neg_int (hQ _ _ _ g₂ ⟨_, rfl⟩))
theorem Ev.rev {x : Str} {value st : Expr} {ps : Pos} (hv : Ev c h value (IsS x)) (hst : Ev c h st (IsI (-1))) (hx : x.length ≤ 2 ^ 24)
    (hs : ∀ t k, subscripted (.Slice none none (some st) ps) false (.str x t) (.ref k) = operate [.ref k, .str x t] (getItem (.str x t) (.ref k)) := by intro _ _; with_unfolding_all rfl)
    (ht : ∀ t r, letTemporaryGo value (.str x t) r = pure () := by intro _ _; with_unfolding_all rfl) : Ev c h (.Subscript value (.Slice none none (some st) ps) pos) (IsS (Mine.rev x)) := by
  intro h₁ g₁ tk Q E hQ
  refine Subscript_ (hv h₁ g₁ tk _ _ fun v h₂ tk₂ g₂ p => ?_)
  obtain ⟨t, rfl⟩ := p
  refine wpAny_Slice (evalPart_none (evalPart_none (evalPart_some (hst h₂ (g₁.trans g₂) tk₂ _ _ fun v h₄ tk₄ g₄ p => ?_))))
  obtain ⟨u, rfl⟩ := p
  refine tail_of_ItemOn ⟨"str", _, F.slot_str_getitem.lookup, typeIs_str _ _ _, wpAny_getItem_str_slice (s := c.st _ tk₄) (l := none) (u := none) (st := some (-1, u)) ⟨_, Heap.get?_push_size _ rfl, rfl, rfl⟩ rfl
    (post_val_or_str ⟨?_, fun t' k => ?_⟩)⟩ (hs t _) (ht t)
  · show (Txt.sliceBy x none none (-1, u)).length ≤ _
    rw [sliceBy_rev, rev_len, sizeLine_eq]; omega
  · show Q (.str (Txt.sliceBy x none none (-1, u)) t') _
    rw [sliceBy_rev]
    exact hQ _ _ _ ((g₂.trans g₄).trans (Grows.push _ _)) ⟨_, rfl⟩
end

/-- the class and its methods, written out -/
noncomputable def clsK (P : Params) : Frag := [(77, oC77 P), (78, oC78 P), (49, oC49 P), (56, oC56 P), (61, oC61 P), (68, oC68 P), (75, oC75 P)]
theorem clsK_in (P : Params) : (clsK P).In (hC P) := by
  refine Frag.in_of (as := [77, 78, 49, 56, 61, 68, 75]) rfl ?_
  simp only [List.map_cons, List.map_nil, clsK, hC_77, hC_78, hC_49, hC_56, hC_61, hC_68, hC_75]
theorem k_makes (P : Params) : makesIn (clsK P) 78 = true := by kernel_rfl
theorem k_init (P : Params) : findIn (clsK P) (.ref 78) "__init__" = some (some (.ref 49)) := by kernel_rfl
theorem k_fn49 (P : Params) : typeIn (clsK P) (.ref 49) = some (.type "function") := by kernel_rfl
theorem k_get (P : Params) (n : Str) : plainGet (clsK P) 78 n = true := by kernel_rfl
theorem k_hasDict (P : Params) : hasDictIn (clsK P) 78 = true := by kernel_rfl
theorem k_rules (P : Params) : findIn (clsK P) (.ref 78) "rules" = some none := by kernel_rfl
theorem k_setattr (P : Params) : findIn (clsK P) (.ref 78) "__setattr__" = some (some (.builtin "object.__setattr__")) := by kernel_rfl
theorem k_over (P : Params) : plainOver (clsK P) 78 = true := by kernel_rfl
theorem k_taker (P : Params) : takerIn (clsK P) 78 "rules" = some none := by kernel_rfl
theorem k_m56 (P : Params) : findIn (clsK P) (.ref 78) "read_rules" = some (some (.ref 56)) := by kernel_rfl
theorem k_m61 (P : Params) : findIn (clsK P) (.ref 78) "first_vowel" = some (some (.ref 61)) := by kernel_rfl
theorem k_m68 (P : Params) : findIn (clsK P) (.ref 78) "strip_prefix" = some (some (.ref 68)) := by kernel_rfl
theorem k_m75 (P : Params) : findIn (clsK P) (.ref 78) "stem" = some (some (.ref 75)) := by kernel_rfl
theorem k_f56 (P : Params) : isFn (clsK P) (.ref 56) = true := by kernel_rfl
theorem k_f61 (P : Params) : isFn (clsK P) (.ref 61) = true := by kernel_rfl
theorem k_f68 (P : Params) : isFn (clsK P) (.ref 68) = true := by kernel_rfl
theorem k_f75 (P : Params) : isFn (clsK P) (.ref 75) = true := by kernel_rfl

/-- a rule lies at a value -/
def RuleAt (h : Heap) (v : Value) (u : Rule) : Prop := ∃ a vs, v = .ref a ∧ h.get? a = some (tupObj vs) ∧ IsRule u vs h
def RulesAt (h : Heap) (items : Array Value) (rs : List Rule) : Prop := items.size = rs.length ∧ ∀ (i : Nat) v u, items[i]? = some v → rs[i]? = some u → RuleAt h v u
theorem RuleAt.ext {h h' : Heap} {v : Value} {u : Rule} (x : RuleAt h v u) {L : Addr} (g : Heap.ExtBut L h h') (ha : ∀ vs, h.get? L ≠ some (tupObj vs)) : RuleAt h' v u := by
  obtain ⟨a, vs, e, z, r⟩ := x
  exact ⟨a, vs, e, g a _ (fun q => ha vs (q ▸ z)) z, r⟩
/-- the table of rules lies at R; its lists keep away from av -/
def TabIn (w : World) (h : Heap) (R : Addr) (T : List (Str × List Rule)) (av : Addr → Prop) : Prop :=
  ∃ Lk : Str → Addr, h.DictOf (strKind pw w) R (T.map fun p => (p.1, .ref (Lk p.1))) ∧
    (∀ p ∈ T, ¬ av (Lk p.1) ∧ ∃ items, h.PlainList (Lk p.1) items ∧ RulesAt h items p.2) ∧ (∀ p ∈ T, ∀ q ∈ T, Lk p.1 = Lk q.1 → p.1 = q.1)
theorem dictOf_ne {K : Type} [DecidableEq K] {w : World} {knd : KeyKind pw w K} {h : Heap} {R a : Addr} {kvs : List (K × Value)} {o : Obj} (d : h.DictOf knd R kvs) (e : h.get? a = some o) (hd : ∀ es ep, o.data ≠ .dict es ep) : R ≠ a := by
  rintro rfl
  obtain ⟨o', es, ep, e', _, d, _⟩ := d
  rw [e] at e'
  cases e'
  exact hd _ _ d
theorem TabIn.grows {w : World} {h h' : Heap} {R : Addr} {T : List (Str × List Rule)} {av : Addr → Prop} (x : TabIn w h R T av) (g : Grows h h') : TabIn w h' R T av := by
  obtain ⟨Lk, d, f, inj⟩ := x
  refine ⟨Lk, d.keep g, fun p hp => ?_, inj⟩
  obtain ⟨a, items, ⟨n, pl⟩, ra⟩ := f p hp
  exact ⟨a, items, ⟨n, g _ _ pl⟩, ra.1, fun i v u h1 h2 => let ⟨a, vs, e1, e2, e3⟩ := ra.2 i v u h1 h2; ⟨a, vs, e1, g _ _ e2, e3⟩⟩
/-- what turns elsewhere leaves it be -/
theorem TabIn.ext {w : World} {h h' : Heap} {R L : Addr} {T : List (Str × List Rule)} {av : Addr → Prop} (x : TabIn w h R T av) (g : Heap.ExtBut L h h') (hR : R ≠ L) (hL : ∀ o, h.get? L = some o → ∀ xs n, o.data ≠ .seq xs n) : TabIn w h' R T av := by
  obtain ⟨Lk, d, f, inj⟩ := x
  refine ⟨Lk, d.extBut g hR, fun p hp => ?_, inj⟩
  obtain ⟨a, items, ⟨n, pl⟩, ra⟩ := f p hp
  refine ⟨a, items, ⟨n, g _ _ (fun q => ?_) pl⟩, ra.1, fun i v u h1 h2 => (ra.2 i v u h1 h2).ext g fun vs z => hL _ z _ _ rfl⟩
  exact hL _ (q ▸ pl) _ _ rfl
theorem TabIn.nodup {w : World} {h : Heap} {R : Addr} {T : List (Str × List Rule)} {av : Addr → Prop} (x : TabIn w h R T av) : (T.map (·.1)).Nodup := by
  obtain ⟨Lk, ⟨_, _, _, _, _, _, _, _, n⟩, _, _⟩ := x
  rw [List.map_map] at n
  exact n
def hasKey (T : List (Str × List Rule)) (k : Str) : Bool := T.any fun p => p.1 = k
theorem valueAt_map (T : List (Str × List Rule)) (Lk : Str → Addr) (k : Str) : valueAt (T.map fun p => (p.1, Value.ref (Lk p.1))) k = if hasKey T k then some (.ref (Lk k)) else none := by
  unfold valueAt hasKey
  induction T with
  | nil => rfl
  | cons p T ih =>
    rw [List.map_cons, List.find?_cons, List.any_cons]
    by_cases hk : p.1 = k
    · subst hk; simp
    · simp only [hk, decide_false, Bool.false_or]
      exact ih
/-- the table's dict; a key that is new -/
theorem TabIn.dict {w : World} {h : Heap} {R : Addr} {T : List (Str × List Rule)} {av : Addr → Prop} (x : TabIn w h R T av) :
    ∃ kvs, h.DictOf (strKind pw w) R kvs ∧ kvs.length = T.length ∧ (∀ k, (valueAt kvs k).isSome = hasKey T k) ∧
      ∀ k a h₂ h₃, hasKey T k = false → Grows h h₂ → h.get? a = none → h₂.PlainList a #[] → (∀ b, av b → (h.get? b).isSome = true) → h₃.DictOf (strKind pw w) R (stored kvs k (.ref a)) → Heap.SameBut R h₂ h₃ → TabIn w h₃ R (T ++ [(k, [])]) av := by
  obtain ⟨Lk, dd, f, inj⟩ := x
  refine ⟨_, dd, by rw [List.length_map], fun k => by rw [valueAt_map]; cases hasKey T k <;> rfl, fun k a h₂ h₃ hk g hn ha hav d hs => ?_⟩
  have nk : ∀ p ∈ T, p.1 ≠ k := fun p hp e => by
    have : hasKey T k = true := List.any_eq_true.mpr ⟨p, hp, by simp [e]⟩
    rw [hk] at this; cases this
  have na : ∀ p ∈ T, Lk p.1 ≠ a := fun p hp e => by
    obtain ⟨_, items, ⟨n, pl⟩, _⟩ := f p hp
    rw [e, hn] at pl; cases pl
  have Ra : R ≠ a := by rintro rfl; obtain ⟨o, _, _, e, _⟩ := dd; rw [hn] at e; cases e
  obtain ⟨n0, ha⟩ := ha
  have Rd2 := dd.keep g
  refine ⟨fun s => if s = k then a else Lk s, ?_, fun p hp => ?_, fun p hp q hq e => ?_⟩
  · have := d
    unfold stored at this
    rw [if_neg (by
      intro z
      obtain ⟨q, hq, e⟩ := List.any_eq_true.mp z
      obtain ⟨p, hp, rfl⟩ := List.mem_map.mp hq
      exact nk p hp (of_decide_eq_true e))] at this
    rw [List.map_append, List.map_cons, List.map_nil]
    dsimp only
    rw [if_pos rfl]
    have e : (T.map fun p => (p.1, Value.ref (if p.1 = k then a else Lk p.1))) = T.map fun p => (p.1, Value.ref (Lk p.1)) := List.map_congr_left fun p hp => by rw [if_neg (nk p hp)]
    rw [e]; exact this
  · dsimp only
    rcases List.mem_append.mp hp with hp | hp
    · obtain ⟨av', items, ⟨n, pl⟩, ra⟩ := f p hp
      rw [if_neg (nk p hp)]
      refine ⟨av', items, ⟨n, hs.extBut _ _ (Ne.symm (dictOf_ne Rd2 (g _ _ pl) fun _ _ z => by cases z)) (g _ _ pl)⟩, ra.1, fun i v u h1 h2 => ?_⟩
      obtain ⟨b, vs, e1, e2, e3⟩ := ra.2 i v u h1 h2
      exact ⟨b, vs, e1, hs.extBut _ _ (Ne.symm (dictOf_ne Rd2 (g _ _ e2) fun _ _ z => by cases z)) (g _ _ e2), e3⟩
    · obtain rfl : p = (k, []) := by simpa using hp
      rw [if_pos rfl]
      refine ⟨fun z => ?_, #[], ⟨n0, hs.extBut _ _ (Ne.symm Ra) ha⟩, rfl, fun i v u h1 _ => by simp at h1⟩
      have := hav a z
      rw [hn] at this; cases this
  · dsimp only at e
    rcases List.mem_append.mp hp with hp | hp <;> rcases List.mem_append.mp hq with hq | hq
    · rw [if_neg (nk p hp), if_neg (nk q hq)] at e
      exact inj p hp q hq e
    · obtain rfl : q = (k, []) := by simpa using hq
      rw [if_neg (nk p hp), if_pos rfl] at e
      exact absurd e (na p hp)
    · obtain rfl : p = (k, []) := by simpa using hp
      rw [if_neg (nk q hq), if_pos rfl] at e
      exact absurd e.symm (na q hq)
    · obtain rfl : p = (k, []) := by simpa using hp
      obtain rfl : q = (k, []) := by simpa using hq
      rfl
/-- a rule put behind a key's others -/
def putRule (T : List (Str × List Rule)) (k : Str) (u : Rule) : List (Str × List Rule) := T.map fun p => if p.1 = k then (p.1, p.2 ++ [u]) else p
theorem putRule_keys (T : List (Str × List Rule)) (k : Str) (u : Rule) (Lk : Str → Addr) : ((putRule T k u).map fun p => (p.1, Value.ref (Lk p.1))) = T.map fun p => (p.1, Value.ref (Lk p.1)) := by
  unfold putRule
  rw [List.map_map]
  refine List.map_congr_left fun p _ => ?_
  simp only [Function.comp]
  split <;> rfl
theorem nodup_key {α : Type} : ∀ {T : List (Str × α)}, (T.map (·.1)).Nodup → ∀ {p q : Str × α}, p ∈ T → q ∈ T → p.1 = q.1 → p = q
  | [], _, _, _, hp, _, _ => nomatch hp
  | r :: T, nd, p, q, hp, hq, e => by
    rw [List.map_cons, List.nodup_cons] at nd
    rcases List.mem_cons.mp hp with h1 | h1 <;> rcases List.mem_cons.mp hq with h2 | h2
    · rw [h1, h2]
    · exact absurd (List.mem_map.mpr ⟨q, h2, by rw [← e, h1]⟩) nd.1
    · exact absurd (List.mem_map.mpr ⟨p, h1, by rw [e, h2]⟩) nd.1
    · exact nodup_key nd.2 h1 h2 e
theorem TabIn.at {w : World} {h : Heap} {R : Addr} {k : Str} {T : List (Str × List Rule)} {av : Addr → Prop} (x : TabIn w h R T av) (hk : hasKey T k = true) :
    ∃ l items kvs, ¬ av l ∧ h.DictOf (strKind pw w) R kvs ∧ valueAt kvs k = some (.ref l) ∧ h.PlainList l items ∧ items.size ≤ (T.map (·.2.length)).sum ∧
      ∀ u v h₂ h₃, Grows h h₂ → RuleAt h₂ v u → h₃.PlainList l (items.push v) → Heap.SameBut l h₂ h₃ → TabIn w h₃ R (putRule T k u) av := by
  obtain ⟨Lk, d, f, inj⟩ := x
  obtain ⟨p0, hp0, e0⟩ := List.any_eq_true.mp hk
  have e0 : p0.1 = k := of_decide_eq_true e0
  subst e0
  obtain ⟨av0, items, pl0, ra0⟩ := f p0 hp0
  refine ⟨Lk p0.1, items, _, av0, d, by rw [valueAt_map, hk]; rfl, pl0, ?_, fun u v h₂ h₃ g rv pl hs => ⟨Lk, ?_, fun p hp => ?_, fun p hp q hq e => ?_⟩⟩
  · rw [ra0.1]
    have : ∀ T : List (Str × List Rule), p0 ∈ T → p0.2.length ≤ (T.map (·.2.length)).sum := by
      intro T; induction T with
      | nil => intro h; cases h
      | cons q T ih =>
        intro h
        rw [List.map_cons, List.sum_cons]
        rcases List.mem_cons.mp h with rfl | h
        · omega
        · have := ih h; omega
    exact this T hp0
  all_goals obtain ⟨n0, pl0⟩ := pl0
  · rw [putRule_keys]
    exact (d.keep g).sameBut hs (dictOf_ne d pl0 fun _ _ z => by cases z)
  · obtain ⟨p', hp', rfl⟩ := List.mem_map.mp hp
    obtain ⟨av', its, ⟨n, pl'⟩, ra⟩ := f p' hp'
    have tup : ∀ v u, RuleAt h₂ v u → RuleAt h₃ v u := fun v u r => r.ext hs.extBut fun vs z => by
      rw [g _ _ pl0] at z
      exact absurd (Value.type.inj (congrArg Obj.cls (Option.some.inj z))) (by decide)
    have up : ∀ v u, RuleAt h v u → RuleAt h₂ v u := fun v u ⟨a, vs, e1, e2, e3⟩ => ⟨a, vs, e1, g _ _ e2, e3⟩
    by_cases hk' : p'.1 = p0.1
    · have e : p' = p0 := by
        have nd : (T.map (·.1)).Nodup := by
          obtain ⟨_, _, _, _, _, _, _, _, n⟩ := d
          rw [List.map_map] at n; exact n
        exact nodup_key nd hp' hp0 hk'
      subst e
      simp only [if_pos]
      refine ⟨av', items.push v, pl, by rw [Array.size_push, ra0.1, List.length_append]; rfl, fun i v' u' h1 h2 => ?_⟩
      rw [Array.getElem?_push] at h1
      split at h1
      · rename_i hi
        rw [hi, ra0.1, List.getElem?_append_right (Nat.le_refl _), Nat.sub_self] at h2
        cases h1; cases h2
        exact tup _ _ rv
      · rename_i hi
        have hlt : i < p'.2.length := by rw [← ra0.1]; exact (Array.getElem?_eq_some_iff.mp h1).1
        rw [List.getElem?_append_left hlt] at h2
        exact tup _ _ (up _ _ (ra0.2 i v' u' h1 h2))
    · simp only [if_neg hk']
      refine ⟨av', its, ⟨n, hs.extBut _ _ (fun q => hk' (inj p' hp' p0 hp0 q)) (g _ _ pl')⟩, ra.1, fun i v' u' h1 h2 => tup _ _ (up _ _ (ra.2 i v' u' h1 h2))⟩
  · obtain ⟨p', hp', rfl⟩ := List.mem_map.mp hp
    obtain ⟨q', hq', rfl⟩ := List.mem_map.mp hq
    have k1 : (if p'.1 = p0.1 then (p'.1, p'.2 ++ [u]) else p').1 = p'.1 := by split <;> rfl
    have k2 : (if q'.1 = p0.1 then (q'.1, q'.2 ++ [u]) else q').1 = q'.1 := by split <;> rfl
    rw [k1, k2] at e ⊢
    exact inj p' hp' q' hq' e
end Mine
end

section
open PySem PySem.W PyProof.Rows PySem.Calls
set_option maxRecDepth 100000
set_option maxHeartbeats 4000000
set_option linter.unusedVariables false
namespace Mine
abbrev Table := List (Str × List Rule)
def addRule (T : Table) (u : Rule) : Table :=
  let u' : Rule := { u with e := rev u.e }
  let k := Txt.item u'.e (-1)
  putRule (if hasKey T k then T else T ++ [(k, [])]) k u'
def okRule (u : Rule) : Bool := decide (1 ≤ u.e.length) && decide (u.e.length ≤ 200)
def procLine (T : Table) (x : Str) : Table := if (Txt.strip x).length = 0 then T else match readRule (Txt.strip x) with
  | some u => addRule T u
  | none => T
def okLine (x : Str) : Bool := decide (x.length ≤ 200) && (decide ((Txt.strip x).length = 0) || (readRule (Txt.strip x)).any okRule)
def sizeT (T : Table) : Nat := (T.map (·.2.length)).sum

structure Bd (w : World) (h : Heap) (R : Addr) (T : Table) (av : Addr → Prop) (fx : List (Addr × Obj)) (it l : Addr) (i : Nat) (items : Array Value) : Prop where
  tab : TabIn w h R T av
  fx : ∀ p ∈ fx, h.get? p.1 = some p.2
  it : h.IsListIter it l i
  ls : h.IsList l items
section
variable {w : World} {h h' : Heap} {R : Addr} {T : Table} {av : Addr → Prop} {fx : List (Addr × Obj)} {it l : Addr} {i : Nat} {items : Array Value}
theorem Bd.grows (x : Bd w h R T av fx it l i items) (g : Grows h h') : Bd w h' R T av fx it l i items :=
  ⟨x.tab.grows g, fun p hp => g _ _ (x.fx p hp), x.it.at fun o e => g _ _ e, x.ls.at fun o e => g _ _ e⟩
theorem Bd.loc {L : Addr} {m : Str → Option Value} (x : Bd w h R T av fx it l i items) (n : h.Ns L m) (g : Heap.ExtBut L h h') (hR : R ≠ L) (hf : ∀ p ∈ fx, p.1 ≠ L) (hi : it ≠ L) (hl : l ≠ L) : Bd w h' R T av fx it l i items :=
  ⟨x.tab.ext (L := L) g hR (fun o e xs k z => by
      obtain ⟨o', es, ep, e', d, _⟩ := n
      rw [e] at e'
      cases e'
      exact absurd (z.symm.trans d) (by intro y; cases y)),
    fun p hp => g _ _ (hf p hp) (x.fx p hp), x.it.extBut g hi, x.ls.extBut g hl⟩
theorem Bd.of_tab {L : Addr} (x : Bd w h R T av fx it l i items) {T' : Table} (t : TabIn w h' R T' av) (g : Heap.ExtBut L h h') (hf : ∀ p ∈ fx, p.1 ≠ L) (hi : it ≠ L) (hl : l ≠ L) : Bd w h' R T' av fx it l i items :=
  ⟨t, fun p hp => g _ _ (hf p hp) (x.fx p hp), x.it.extBut g hi, x.ls.extBut g hl⟩
theorem Bd.it_ne (x : Bd w h R T av fx it l i items) : it ≠ R := by
  obtain ⟨o, e, _, d⟩ := x.it
  obtain ⟨Lk, dd, _⟩ := x.tab
  exact Ne.symm (dictOf_ne dd e fun es ep z => by rw [d] at z; cases z)
theorem Bd.l_ne (x : Bd w h R T av fx it l i items) : l ≠ R := by
  obtain ⟨o, e, _, n, d⟩ := x.ls
  obtain ⟨Lk, dd, _⟩ := x.tab
  exact Ne.symm (dictOf_ne dd e fun es ep z => by rw [d] at z; cases z)
end

section
variable {c : Cx} {h : Heap} {mg mb m : Str → Option Value} {pos p' : Pos} {e l r : Expr}
theorem Ts.tup {vs : List Value} {a : Addr} (hv : Ev c h e (fun v h' => v = .ref a ∧ h'.get? a = some (tupObj vs))) (hn : vs.length ≤ 2 ^ 20)
    (he : isTrue e c.env (eval e c.env) = (do let v ← eval e c.env; standAt e.pos; holding [v] (truthy v)) := by rfl) : Ts c h e ((vs.length : Int) != 0) :=
  fun h₁ g₁ tk Q E hQ => isTrue_plain (hv h₁ g₁ tk _ _ fun v h₂ tk₂ g₂ ⟨e1, e2⟩ => by
    subst e1
    refine truthy_tuple (s := c.st h₂ tk₂) (items := vs.toArray) ⟨_, e2, rfl, _, rfl⟩ ?_ ?_
    · rw [List.size_toArray]; omega
    · have e3 : (!vs.toArray.isEmpty) = ((vs.length : Int) != 0) := by
        cases vs with
        | nil => rfl
        | cons v r =>
          show true = _
          symm
          rw [bne_iff_ne]
          simp only [List.length_cons]
          omega
      rw [e3]
      exact hQ h₂ _ g₂) he
theorem ev_read_rule {x : Str} {u : Rule} (R : Rd h mg mb) (hrr : ∃ f, mg "_read_rule" = some (.ref f) ∧ FnSt h f "_read_rule" (atTop 3)) (hroom : c.A.depth < 800) (hl : Ev c h l (IsS x)) (hx : x.length ≤ 200) (hu : readRule x = some u)
    (hg : c.env.globals = mainGlobals := by rfl) (hk : c.env.scope.kind = .function := by rfl) (hkl : c.env.kindOf "_read_rule" = some .globalImplicit := by rfl)
    (he : ∀ p', eval (.Call (.Name "_read_rule" p') [l] [] pos) c.env = (do callWith pos (← eval (.Name "_read_rule" p') c.env) [] (backTo pos (starEach [l] c.env)) (backToKw pos (keywordEach [] c.env))) := by intro _; rfl)
    (hs : starEach [l] c.env = [(false, eval l c.env)] := by rfl) : Ev c h (.Call (.Name "_read_rule" p') [l] [] pos) (IsTupOf (IsRule u)) := by
  obtain ⟨f, hm, hf⟩ := hrr
  have hf' := hf
  obtain ⟨o, pm, cd, doc, ho, hd, _⟩ := hf
  refine Ev.callF (Ev.glob (mg := mg) (hg ▸ R.G.g) hm hk hkl) ho hd (Evs.cons hl Evs.nil (up_s _) hs) (fun vs h₁ g ⟨v, r, e1, ⟨t, e2⟩, e3⟩ => ?_) (he _) hs
  subst e1 e2 e3
  exact read_rule hroom (R.keeps g) (FnAt.keeps hf' g) hx hu
theorem Ev.strip {o : Expr} {apos : Pos} {x : Str} {pl : Sem Bool} (ho : Ev c h o (IsS x)) (hx : x.length ≤ 2 ^ 24)
    (he : eval (.Call (.Attribute o "strip" apos) [] [] pos) c.env = (do
      let ov ← eval o c.env
      standAt apos.atName
      let (f, first) ← holding [ov] (getMethod ov "strip" pl)
      callWith pos f first (backTo pos (starEach [] c.env)) []) := by rfl) : Ev c h (.Call (.Attribute o "strip" apos) [] [] pos) (IsS (Txt.strip x)) :=
  Ev.meth0 (pl := pl) ho (fun ov h₁ g ⟨t, e⟩ pl tk Q E hQ => by subst e; exact GM.strip hQ) (fun ov h₁ g ⟨t, e⟩ tk Q E hQ => by
    subst e
    exact SCL.strip (fun t' k _ => hQ _ _ _ (.refl _) ⟨_, rfl⟩) (by rw [sizeLine_eq]; omega)) he
end

theorem TabIn.loc {w : World} {h h' : Heap} {R L : Addr} {T : Table} {av : Addr → Prop} {m : Str → Option Value} (x : TabIn w h R T av) (n : h.Ns L m) (g : Heap.ExtBut L h h') (hR : R ≠ L) : TabIn w h' R T av :=
  x.ext g hR fun o e xs k z => by
    obtain ⟨o', es', ep, e', d, _⟩ := n
    rw [e] at e'
    cases e'
    exact absurd (z.symm.trans d) (by intro y; cases y)
theorem fr_other {h₀ h h' : Heap} {L a : Addr} {m : Str → Option Value} (F : Fr h₀ L h m) (s : Heap.SameBut a h h') (n : a ≠ L) (k : ∀ o, h₀.get? a = some o → False) : Fr h₀ L h' m :=
  ⟨F.ns.sameBut s (Ne.symm n), fun b o e => s.extBut _ _ (fun q => k o (q ▸ e)) (F.keep b o e), F.above⟩
theorem hasKey_put (T : Table) (k k' : Str) (u : Rule) : hasKey (putRule T k u) k' = hasKey T k' := by
  unfold hasKey putRule
  rw [List.any_map]
  congr 1
  funext p
  simp only [Function.comp]
  split <;> rfl
theorem put_len (T : Table) (k : Str) (u : Rule) : (putRule T k u).length = T.length := by unfold putRule; rw [List.length_map]
theorem put_size (T : Table) (k : Str) (u : Rule) (n : (T.map (·.1)).Nodup) : sizeT (putRule T k u) ≤ sizeT T + 1 := by
  induction T with
  | nil => exact Nat.zero_le _
  | cons p T ih =>
    rw [List.map_cons, List.nodup_cons] at n
    unfold putRule sizeT
    simp only [List.map_cons, List.sum_cons]
    by_cases hk : p.1 = k
    · have e : (T.map fun p => if p.1 = k then (p.1, p.2 ++ [u]) else p) = T := by
        conv => rhs; rw [← List.map_id T]
        refine List.map_congr_left fun q hq => ?_
        rw [if_neg fun z => n.1 (List.mem_map.mpr ⟨q, hq, z.trans hk.symm⟩)]
        rfl
      rw [if_pos hk, e, List.length_append]
      simp only [List.length_cons, List.length_nil]
      omega
    · have := ih n.2
      unfold putRule sizeT at this
      rw [if_neg hk]
      omega
theorem add_len (T : Table) (u : Rule) : (addRule T u).length ≤ T.length + 1 := by
  unfold addRule
  dsimp only
  rw [put_len]
  split
  · omega
  · rw [List.length_append]; exact Nat.le_refl _
theorem Ev.and_ {c : Cx} {h : Heap} {e : Expr} {P : Value → Heap → Prop} {X : Heap → Prop} (x : Ev c h e P) (k : ∀ h', Grows h h' → X h') : Ev c h e (fun v h' => P v h' ∧ X h') :=
  fun h₁ g₁ tk Q E hQ => x h₁ g₁ tk Q E fun v h₂ tk' g p => hQ v h₂ tk' g ⟨p, k h₂ (g₁.trans g)⟩
/-- self.rules -/
theorem ev_rules {c : Cx} {h h₀ : Heap} {m : Str → Option Value} {x dx R : Addr} {es : List DictEntry} {n : Nat} {p' pos : Pos} {P : Params} (hP : P = c.w.params) (F : Fr h₀ c.env.locals h m) (KI : Frag.In (clsK P) h₀)
    (hs : m "self" = some (.ref x)) (hx : h.get? x = some (instObj 78 dx)) (hdx : h.get? dx = some (dictOf es n)) (hes : getL "rules" es = some (some (.ref R)))
    (hk : c.env.scope.kind = .function := by rfl) (hl : c.env.kindOf "self" = some .local := by rfl)
    (he : eval (.Attribute (.Name "self" p') "rules" pos) c.env = (do
      let o ← eval (.Name "self" p') c.env
      standAt pos.atName
      let r ← holding [o] (getAttr o "rules" true)
      letTemporaryGo (.Name "self" p') o r
      pure r) := by with_unfolding_all rfl) : Ev c h (.Attribute (.Name "self" p') "rules" pos) (IsV (.ref R)) := by
  intro h₁ g₁ tk Q E hQ
  refine Attribute_Name_ (Ev.loc F.ns hs hk hl (by decide) h₁ g₁ tk _ _ fun v h₂ tk₂ g₂ e => ?_) he
  obtain rfl : v = .ref x := e
  have g := g₁.trans g₂
  exact get_own (s := c.st h₂ tk₂) (F.after g) KI ⟨g _ _ hx, rfl, rfl, g _ _ hdx⟩ (k_get P _) (k_hasDict P) (k_rules P) rfl hes rfl (hQ _ _ _ g₂ rfl)

theorem read_rules {c : Cx} {h h₀ : Heap} {mg mb : Str → Option Value} {f x dx R : Addr} {es : List DictEntry} {n : Nat} {text : Str} {tt : Tok} {lines : List Str} (P : Params) (hP : P = c.w.params)
    (hroom : c.A.depth < 700) (hh : c.A.handled = none) (RD : Rd h₀ mg mb) (hrr : ∃ f, mg "_read_rule" = some (.ref f) ∧ FnSt h₀ f "_read_rule" (atTop 3)) (hf : FnSt h f "PaiceHuskStemmer.read_rules" (atCls 4 1))
    (g0 : Grows h₀ h) (hs0 : h₀.objs.size ≤ h.objs.size) (KI : Frag.In (clsK P) h₀)
    (hx : h.get? x = some (instObj 78 dx)) (hdx : h.get? dx = some (dictOf es n)) (hes : getL "rules" es = some (some (.ref R))) (hRs : (R == sysModules) = false) (hdR : dx ≠ R) (hRn : h₀.get? R = none) (T0 : TabIn c.w h R [] fun _ => False)
    (hlines : Txt.split text "\n" = lines) (hparts : (Builtin.Str.partsBetween text (Builtin.Str.occurrences text "\n" 0 text.length (text.length + 1)) ("\n" : Str).length).length ≤ 1000) (htl : text.length ≤ 2 ^ 20) (hok : ∀ x ∈ lines, okLine x = true) (hnl : lines.length ≤ 900) :
    GoX c h (call (.ref f) [.ref x, .str text tt]) (fun v h₂ => v = .none ∧ Grows h₀ h₂ ∧ h₂.get? x = some (instObj 78 dx) ∧ h₂.get? dx = some (dictOf es n) ∧ TabIn c.w h₂ R (lines.foldl procLine []) fun _ => False) := by
  refine GoX.call fun tk R' hQ => call_fnX (binds := [("self", .ref x), ("ruletable", .str text tt)]) hf (RD.G.keeps g0).nolimit (by rw [rec_lim]; omega) (fun _ _ _ => by with_unfolding_all rfl) (locs rfl) (fun cd h₁ tk F => ?_) rfl rfl rfl (by decide) tk R' hQ
  have hroom' : (c.A.deeper (envOf "PaiceHuskStemmer.read_rules" (fnScope (atCls 4 1)) h.objs.size f cd)).depth < 800 := by rw [depth_deeper]; omega
  have hh' : (c.A.deeper (envOf "PaiceHuskStemmer.read_rules" (fnScope (atCls 4 1)) h.objs.size f cd)).handled = none := hh
  generalize hA : c.A.deeper _ = A'
  replace hroom' : A'.depth < 800 := hA ▸ hroom'
  replace hh' : A'.handled = none := hA ▸ hh'
  let c' : Cx := ⟨c.w, A', c.g, c.dr, c.os, envOf "PaiceHuskStemmer.read_rules" (fnScope (atCls 4 1)) h.objs.size f cd⟩
  have RF : ∀ {h' m}, Fr h₀ h.objs.size h' m → Rd h' mg mb := fun F => RD.keeps F.keep
  have F0 := fr_base F g0 hs0
  have RL : R ≠ h.objs.size := by
    obtain ⟨_, ⟨o, _, _, e, _⟩, _⟩ := T0
    exact Nat.ne_of_lt (Heap.lt_size e)
  have xL : x ≠ h.objs.size := Nat.ne_of_lt (Heap.lt_size hx)
  have dL : dx ≠ h.objs.size := Nat.ne_of_lt (Heap.lt_size hdx)
  have hx1 := F.keep _ _ hx
  have hdx1 := F.keep _ _ hdx
  have T1 := T0.grows F.keep
  refine ex_assign (c := c') F0 (ev_rules hP F0 KI rfl hx1 hdx1 hes) ?_
  rintro v h₂ h₃ tk₃ g₂ rfl sb F₃
  have hx3 := sb.extBut _ _ xL (g₂ _ _ hx1)
  have hdx3 := sb.extBut _ _ dL (g₂ _ _ hdx1)
  have T3 : TabIn c.w h₃ R [] fun _ => False := (T1.grows g₂).loc (F0.after g₂).ns sb.extBut RL
  refine ex_for (c := c') (P := fun v h' => ∃ D l, v = .ref D ∧ l.map (fun x : Str × Tok => x.1) = lines ∧ h'.IsList D (strValues l).toArray) F₃
    (Ev.meth (Ev.locS F₃.ns (upd_ne (by decide) rfl)) (up_s _) (fun ov h₁ g ⟨t, e⟩ pl tk Q E hQ => by subst e; exact GM.split hQ) (Evs.cons Ev.str Evs.nil (up_s _)) (fun ov vs h₁ g ⟨t, e⟩ ⟨v, r, e1, ⟨t2, e2⟩, e3⟩ tk Q E hQ => by
      subst e e1 e2 e3
      exact SCH.split1 (s := c'.st h₁ tk) (P := Grows h₁) (keptG h₁) (.refl _) (by decide +kernel) (fun D l h' k e g isl => hQ _ h' k g ⟨D, l, rfl, e.trans hlines, isl⟩) (by rw [sizeLine_eq]; omega) (by rw [sizeLine_eq]; exact Nat.le_trans hparts (by decide))))
    hh' ?_
  rintro v h₄ g₄ ⟨l, lst, rfl, hlst, isl⟩ F₄
  have hx4 := g₄ _ _ hx3
  have hdx4 := g₄ _ _ hdx3
  have T4 := T3.grows g₄
  have hlen : lst.length = lines.length := by rw [← hlst, List.length_map]
  have av0 : ∀ av, TabIn c.w h₄ R [] av := fun av => by
    obtain ⟨Lk, d, _, _⟩ := T4
    exact ⟨Lk, d, (fun p hp => nomatch hp), fun p hp => nomatch hp⟩
  refine ⟨l, _, fun i h' m' => m' "rules" = some (.ref R) ∧ h'.get? x = some (instObj 78 dx) ∧ h'.get? dx = some (dictOf es n) ∧ TabIn c.w h' R ((lines.take i).foldl procLine []) (fun a => a = l ∨ a = x ∨ a = dx ∨ (h₀.get? a).isSome = true) ∧
    ((lines.take i).foldl procLine []).length ≤ i ∧ sizeT ((lines.take i).foldl procLine []) ≤ i, rfl, isl, ?_, ?_, ?_, ?_⟩
  · exact fun h₅ g₅ => ⟨upd_eq, g₅ _ _ hx4, g₅ _ _ hdx4, (av0 _).grows g₅, Nat.le_refl _, Nat.le_refl _⟩
  · rintro i h₅ h₆ m₅ it ⟨i1, i2, i3, i4, i5, i6⟩ hit e F₅
    obtain ⟨oi, o1, _, o2⟩ := hit
    refine ⟨i1, e _ _ (fun z => ?_) i2, e _ _ (fun z => ?_) i3, i4.ext e (fun z => ?_) (fun o z xs k y => ?_), i5, i6⟩
    · rw [z, o1] at i2; cases i2; cases o2
    · rw [z, o1] at i3; cases i3; cases o2
    · obtain ⟨Lk, d, _⟩ := i4
      exact dictOf_ne d o1 (fun _ _ y => by rw [o2] at y; cases y) z
    · rw [o1] at z; cases z; rw [o2] at y; cases y
  · rintro i v h₅ m₅ tk₅ it hv F₅ ⟨i1, i2, i3, i4, i5, i6⟩ hl hit nit nl nil'
    have hi : i < lst.length := by
      have := (Array.getElem?_eq_some_iff.mp hv).1
      simpa [strValues] using this
    have hil : i < lines.length := by omega
    have hve : v = .str lines[i] (lst[i].2) := by
      have e1 : lines[i] = lst[i].1 := by simp only [← hlst, List.getElem_map]
      have : some v = some (Value.str lst[i].1 lst[i].2) := by
        rw [← hv]
        simp [strValues, List.getElem?_eq_getElem hi]
      rw [e1]; exact Option.some.inj this
    subst hve
    have hstep : (lines.take (i + 1)).foldl procLine [] = procLine ((lines.take i).foldl procLine []) lines[i] := by
      rw [List.take_succ_eq_append_getElem hil, List.foldl_append]; rfl
    have hokl := hok lines[i] (List.getElem_mem hil)
    dsimp only
    rw [hstep]
    generalize (lines.take i).foldl procLine [] = T at *
    generalize lines[i] = y at *
    obtain ⟨ok1, ok2⟩ := Bool.and_eq_true_iff.mp hokl
    have ok1 : y.length ≤ 200 := of_decide_eq_true ok1
    have hfx : ∀ p ∈ [(x, instObj 78 dx), (dx, dictOf es n)], p.1 ≠ h.objs.size := fun p hp => by
      rcases List.mem_cons.mp hp with rfl | hp
      · exact xL
      · obtain rfl : p = (dx, dictOf es n) := by simpa using hp
        exact dL
    have B5 : Bd c.w h₅ R T (fun a => a = l ∨ a = x ∨ a = dx ∨ (h₀.get? a).isSome = true) [(x, instObj 78 dx), (dx, dictOf es n)] it l (i + 1) (strValues lst).toArray := ⟨i4, fun p hp => by
      rcases List.mem_cons.mp hp with rfl | hp
      · exact i2
      · obtain rfl : p = (dx, dictOf es n) := by simpa using hp
        exact i3, hit, hl⟩
    have loc : ∀ {a b m' T'}, Bd c.w a R T' (fun a => a = l ∨ a = x ∨ a = dx ∨ (h₀.get? a).isSome = true) [(x, instObj 78 dx), (dx, dictOf es n)] it l (i + 1) (strValues lst).toArray → a.Ns h.objs.size m' → Heap.SameBut h.objs.size a b → Bd c.w b R T' (fun a => a = l ∨ a = x ∨ a = dx ∨ (h₀.get? a).isSome = true) [(x, instObj 78 dx), (dx, dictOf es n)] it l (i + 1) (strValues lst).toArray :=
      fun B n s => B.loc n s.extBut RL hfx nit nl
    have fin : ∀ {h₆ m₆ tk₆ T'}, Fr h₀ h.objs.size h₆ m₆ → m₆ "rules" = some (.ref R) → Bd c.w h₆ R T' (fun a => a = l ∨ a = x ∨ a = dx ∨ (h₀.get? a).isSome = true) [(x, instObj 78 dx), (dx, dictOf es n)] it l (i + 1) (strValues lst).toArray → T'.length ≤ i + 1 → sizeT T' ≤ i + 1 →
      ∃ h₃ m₃ tk₃, c'.st h₆ tk₆ = c'.st h₃ tk₃ ∧ Fr h₀ c'.env.locals h₃ m₃ ∧ (m₃ "rules" = some (.ref R) ∧ h₃.get? x = some (instObj 78 dx) ∧ h₃.get? dx = some (dictOf es n) ∧ TabIn c.w h₃ R T' (fun a => a = l ∨ a = x ∨ a = dx ∨ (h₀.get? a).isSome = true) ∧ T'.length ≤ i + 1 ∧ sizeT T' ≤ i + 1) ∧
        h₃.IsListIter it l (i + 1) ∧ h₃.IsList l (strValues lst).toArray :=
      fun F m B a b => ⟨_, _, _, rfl, F, ⟨m, B.fx _ (.head _), B.fx _ (.tail _ (.head _)), B.tab, a, b⟩, B.it, B.ls⟩
    refine as_name (c := c') F₅ (fun h₆ tk₆ s₆ F₆ => ?_)
    have B6 := loc B5 F₅.ns s₆
    -- line = line.strip()
    refine ex_assign (c := c') F₆ (Ev.strip (Ev.locS F₆.ns upd_eq) (by omega)) ?_
    rintro v h₇ h₈ tk₈ g₇ ⟨ts, rfl⟩ s₈ F₈
    have B8 := loc (B6.grows g₇) (F₆.after g₇).ns s₈
    have r8 : upd (upd m₅ "line" (.str y (lst[i].2))) "line" (.str (Txt.strip y) ts) "rules" = some (.ref R) := upd_ne (by decide) (upd_ne (by decide) i1)
    have sl : (Txt.strip y).length ≤ y.length := len_strip y
    -- if not line: continue
    refine ex_if (c := c') (Ts.not (Ts.str (by omega) (Ev.locS F₈.ns upd_eq))) ?_
    intro h₉ tk₉ g₉
    have F₉ := F₈.after g₉
    have B9 := B8.grows g₉
    unfold procLine
    by_cases hz : (Txt.strip y).length = 0
    · rw [if_pos hz]
      have : (!((((Txt.strip y).length : Nat) : Int) != 0)) = true := by rw [hz]; rfl
      rw [this, if_pos rfl]
      exact ex_continue (c := c') (fin F₉ r8 B9 (by omega) (by omega))
    have hzb : (!((((Txt.strip y).length : Nat) : Int) != 0)) = false := by
      rw [Bool.not_eq_false', bne_iff_ne]; omega
    rw [if_neg hz, hzb, if_neg Bool.false_ne_true]
    refine ex_nil (c := c') ?_
    rw [decide_eq_false hz, Bool.false_or] at ok2
    cases hu : readRule (Txt.strip y) with
    | none => rw [hu] at ok2; cases ok2
    | some u =>
      rw [hu] at ok2
      obtain ⟨ok2, ok3⟩ := Bool.and_eq_true_iff.mp ok2
      have hue : 1 ≤ u.e.length := of_decide_eq_true ok2
      have hue2 : u.e.length ≤ 200 := of_decide_eq_true ok3
      generalize Txt.strip y = z at *
      -- match = _read_rule(line)
      refine ex_assign (c := c') F₉ (ev_read_rule (c := c') (RF F₉) (by obtain ⟨f, a, b⟩ := hrr; exact ⟨f, a, FnAt.keeps b F₉.keep⟩) hroom' (Ev.locS F₉.ns upd_eq) (by omega) hu) ?_
      rintro v h₁₀ h₁₁ tk₁₁ g₁₀ ⟨at_, vs, rfl, hat, t1, t2, t3, rfl⟩ s₁₁ F₁₁
      have natL : at_ ≠ h.objs.size := ns_ne (F₉.after g₁₀).ns hat fun _ _ q => by cases q
      have B11 := loc (B9.grows g₁₀) (F₉.after g₁₀).ns s₁₁
      have hat11 := s₁₁.extBut _ _ natL hat
      have r11 := upd_ne (u := Value.ref at_) (x := "match") (y := "rules") (by decide) r8
      -- if match:
      refine ex_if (c := c') (b := true) ((Ts.tup (Ev.and_ (Ev.loc F₁₁.ns upd_eq) fun h' g => g _ _ hat11) (by show 5 ≤ 2 ^ 20; decide)).of rfl) ?_
      intro h₁₂ tk₁₂ g₁₂
      rw [if_pos rfl]
      have F₁₂ := F₁₁.after g₁₂
      have B12 := B11.grows g₁₂
      refine ex_five (c := c') F₁₂ (Ev.loc F₁₂.ns upd_eq) (g₁₂ _ _ hat11) hh' ?_
      intro h₁₃ h₁₄ tk₁₄ g₁₃ s₁₄ F₁₄
      have B14 := loc (B12.grows g₁₃) (F₁₂.after g₁₃).ns s₁₄
      have r14 := upd_ne (u := Value.bool u.g) (x := "cont") (y := "rules") (by decide) (upd_ne (u := Value.str u.a t3) (x := "append") (by decide) (upd_ne (u := Value.int u.n t2) (x := "num") (by decide) (upd_ne (u := Value.bool u.i) (x := "intact") (by decide) (upd_ne (u := Value.str u.e t1) (x := "ending") (by decide) r11))))
      -- ending = ending[::-1]
      refine ex_assign (c := c') (P := IsS (rev u.e)) F₁₄ (Ev.rev (Ev.locS F₁₄.ns (upd_ne (by decide) (upd_ne (by decide) (upd_ne (by decide) (upd_ne (by decide) upd_eq))))) (Ev.neg Ev.int) (by omega)) ?_
      rintro v h₁₅ h₁₆ tk₁₆ g₁₅ ⟨te, rfl⟩ s₁₆ F₁₆
      have B16 := loc (B14.grows g₁₅) (F₁₄.after g₁₅).ns s₁₆
      have r16 := upd_ne (u := Value.str (rev u.e) te) (x := "ending") (y := "rules") (by decide) r14
      -- lastchar = ending[-1]
      refine ex_assign (c := c') (P := IsS (Txt.item (rev u.e) (-1))) F₁₆ (Ev.item (Ev.locS F₁₆.ns upd_eq) (Ev.neg Ev.int) (by rw [rev_len]; omega) (by rw [rev_len]; omega) (by rw [rev_len]; omega)) ?_
      rintro v h₁₇ h₁₈ tk₁₈ g₁₇ ⟨tl, rfl⟩ s₁₈ F₁₈
      have B18 := loc (B16.grows g₁₇) (F₁₆.after g₁₇).ns s₁₈
      have r18 := upd_ne (u := Value.str (Txt.item (rev u.e) (-1)) tl) (x := "lastchar") (y := "rules") (by decide) r16
      obtain ⟨m18, G18, q18, n1, n2, n3, n4, n5, n6⟩ : ∃ m18, Fr h₀ h.objs.size h₁₈ m18 ∧ m18 "rules" = some (.ref R) ∧ m18 "lastchar" = some (.str (Txt.item (rev u.e) (-1)) tl) ∧ m18 "ending" = some (.str (rev u.e) te) ∧ m18 "intact" = some (.bool u.i) ∧ m18 "num" = some (.int u.n t2) ∧ m18 "append" = some (.str u.a t3) ∧ m18 "cont" = some (.bool u.g) :=
        ⟨_, F₁₈, r18, upd_eq, upd_ne (by decide) upd_eq, upd_ne (by decide) (upd_ne (by decide) (upd_ne (by decide) (upd_ne (by decide) (upd_ne (by decide) upd_eq)))), upd_ne (by decide) (upd_ne (by decide) (upd_ne (by decide) (upd_ne (by decide) upd_eq))),
          upd_ne (by decide) (upd_ne (by decide) (upd_ne (by decide) upd_eq)), upd_ne (by decide) (upd_ne (by decide) upd_eq)⟩
      unfold addRule
      dsimp only
      generalize hk0 : Txt.item (rev u.e) (-1) = k0 at *
      obtain ⟨kvs, dd, dl, dk, _⟩ := B18.tab.dict
      have addl : (if hasKey T k0 = true then T else T ++ [(k0, [])]).length ≤ T.length + 1 := by
        split
        · omega
        · rw [List.length_append]; exact Nat.le_refl _
      have adds : sizeT (if hasKey T k0 = true then T else T ++ [(k0, [])]) = sizeT T := by
        split
        · rfl
        · simp [sizeT]
      -- if lastchar not in rules:
      refine ex_if (c := c') (b := !hasKey T k0) ((Ts.cmp (Ev.locS G18.ns n1) (Ev.and_ (Ev.loc G18.ns q18) fun h' g => dd.keep g) (up_s _) (cmp_notin (c := c') hRs)).of (by rw [dk])) ?_
      intro h₁₉ tk₁₉ g₁₉
      have F₁₉ := G18.after g₁₉
      have B19 := B18.grows g₁₉
      refine wpAny_mono (Q := fun f s' => f = .next ∧ ∃ h' tk', s' = c'.st h' tk' ∧ Fr h₀ h.objs.size h' m18 ∧
        Bd c.w h' R (if hasKey T k0 = true then T else T ++ [(k0, [])]) (fun a => a = l ∨ a = x ∨ a = dx ∨ (h₀.get? a).isSome = true) [(x, instObj 78 dx), (dx, dictOf es n)] it l (i + 1) (strValues lst).toArray) (E := fun _ _ => False) ?_ ?_ (fun _ _ z => z.elim)
      · cases hkT : hasKey T k0 with
        | true =>
          exact ex_nil (c := c') ⟨rfl, h₁₉, tk₁₉, rfl, F₁₉, B19⟩
        | false =>
          obtain ⟨kvs9, dd9, dl9, dk9, dn9⟩ := B19.tab.dict
          refine ex_setitem (c := c') Ev.newList0 (fun v h h' g ⟨a, e1, ⟨n, e2⟩, e3⟩ => ⟨a, e1, ⟨n, g _ _ e2⟩, e3⟩) (Ev.loc F₁₉.ns q18) (Ev.locS F₁₉.ns n1) dd9 (by omega) ?_
          rintro v h₂₀ h₂₁ tk₂₁ g₂₀ ⟨a, rfl, apl, an⟩ dset s₂₁
          have fxR : ∀ p ∈ [(x, instObj 78 dx), (dx, dictOf es n)], p.1 ≠ R := fun p hp => by
            rcases List.mem_cons.mp hp with rfl | hp
            · obtain ⟨Lk, d, _⟩ := B19.tab
              exact Ne.symm (dictOf_ne d (B19.fx _ (.head _)) fun _ _ q => by cases q)
            · obtain rfl : p = (dx, dictOf es n) := by simpa using hp
              exact hdR
          have tnew := dn9 k0 a h₂₀ h₂₁ hkT g₂₀ an apl (fun b hb => by
            rcases hb with rfl | rfl | rfl | hb
            · obtain ⟨o, e, _⟩ := B19.ls; rw [e]; rfl
            · rw [B19.fx _ (.head _)]; rfl
            · rw [B19.fx _ (.tail _ (.head _))]; rfl
            · obtain ⟨o, e⟩ := Option.isSome_iff_exists.mp hb
              rw [F₁₉.keep _ _ e]; rfl) dset s₂₁
          refine ex_nil (c := c') ⟨rfl, h₂₁, tk₂₁, rfl, ?_, (B19.grows g₂₀).of_tab (L := R) tnew s₂₁.extBut fxR (B19.grows g₂₀).it_ne (B19.grows g₂₀).l_ne⟩
          have F₂₀ := F₁₉.after g₂₀
          exact ⟨F₂₀.ns.sameBut s₂₁ (Ne.symm RL), fun b o e => s₂₁.extBut _ _ (fun q => by rw [q, hRn] at e; cases e) (F₂₀.keep b o e), F₂₀.above⟩
      rintro f' s' ⟨rfl, h₂₂, tk₂₂, rfl, F₂₂, B22⟩
      dsimp only
      have hkT : hasKey (if hasKey T k0 = true then T else T ++ [(k0, [])]) k0 = true := by
        cases hq : hasKey T k0 with
        | true => rw [if_pos rfl]; exact hq
        | false => rw [if_neg Bool.false_ne_true]; unfold hasKey; rw [List.any_append]; simp
      generalize (if hasKey T k0 = true then T else T ++ [(k0, [])]) = T' at *
      obtain ⟨l2, its, kvs2, nav, d2, v2, pl2, sz2, put⟩ := B22.tab.at hkT
      -- rules[lastchar].append((ending, intact, num, append, cont))
      refine ex_append (c := c') (Ev.dictAt (c := c') (Ev.loc F₂₂.ns q18) (Ev.locS F₂₂.ns n1) d2 v2) pl2 (Ev.tuple (Evs.cons (Ev.locS F₂₂.ns n2) (Evs.cons (Ev.loc F₂₂.ns n3) (Evs.cons (Ev.locI F₂₂.ns n4) (Evs.cons (Ev.locS F₂₂.ns n5) (Evs.cons (Ev.loc F₂₂.ns n6) Evs.nil (up_v _)) (up_s _)) (up_i _)) (up_v _)) (up_s _)) ?_ ?_) ?_ ?_
      · rintro vs h' ⟨v1, r1, rfl, _, v2, r2, rfl, _, v3, r3, rfl, _, v4, r4, rfl, _, v5, r5, rfl, _, rfl⟩
        show 5 ≤ 2 ^ 24
        decide
      · exact fun _ _ _ _ p => p
      · have sz3 : its.size ≤ sizeT T' := sz2
        omega
      rintro v h₂₃ h₂₄ tk₂₄ g₂₃ ⟨at2, vs, rfl, ha2, v1, q1, rfl, ⟨s1, rfl⟩, w2, q2, rfl, rfl, v3, q3, rfl, ⟨s3, rfl⟩, v4, q4, rfl, ⟨s4, rfl⟩, v5, q5, rfl, rfl, rfl⟩ pl3 s₂₄
      have tput := put { u with e := rev u.e } (.ref at2) h₂₃ h₂₄ g₂₃ ⟨at2, _, rfl, ha2, s1, s3, s4, rfl⟩ pl3 s₂₄
      obtain ⟨n2, pl2⟩ := pl2
      have l2L : l2 ≠ h.objs.size := ns_ne F₂₂.ns pl2 fun _ _ q => by cases q
      have B24 := (B22.grows g₂₃).of_tab (L := l2) tput s₂₄.extBut (fun p hp => by
          rcases List.mem_cons.mp hp with rfl | hp
          · exact fun q => nav (.inr (.inl q.symm))
          · obtain rfl : p = (dx, dictOf es n) := by simpa using hp
            exact fun q => nav (.inr (.inr (.inl q.symm)))) (fun q => by
          obtain ⟨o, e, _, d⟩ := B22.it
          rw [q, pl2] at e
          cases e
          cases d) (fun q => nav (.inl q.symm))
      have F₂₃ := F₂₂.after g₂₃
      have F₂₄ := fr_other F₂₃ s₂₄ l2L fun o e => nav (.inr (.inr (.inr (by rw [e]; rfl))))
      have ps := put_size T' k0 { u with e := rev u.e } B22.tab.nodup
      refine ex_nil (c := c') (ex_nil (c := c') (fin F₂₄ q18 B24 (by rw [put_len]; omega) (by omega)))
  · rintro h₅ m₅ tk₅ F₅ ⟨i1, i2, i3, i4, i5, i6⟩
    rw [show (strValues lst).toArray.size = lines.length by simp [strValues, hlen], List.take_length] at i4
    refine ex_nil (c := c') ⟨h₅, tk₅, rfl, rfl, F₅.keep, i2, i3, ?_⟩
    obtain ⟨Lk, d, f, inj⟩ := i4
    exact ⟨Lk, d, fun p hp => ⟨id, (f p hp).2⟩, inj⟩
end Mine
end

section
open PySem PySem.W PyProof.Rows PySem.Calls
set_option maxRecDepth 100000
set_option maxHeartbeats 4000000
set_option linter.unusedVariables false
namespace Mine
/-- a stemmer at x, its table T -/
def StemAt (w : World) (h : Heap) (x dx R : Addr) (T : Table) : Prop := ∃ es n, h.get? x = some (instObj 78 dx) ∧ h.get? dx = some (dictOf es n) ∧ getL "rules" es = some (some (.ref R)) ∧
  getL "stem" es = some none ∧ getL "strip_prefix" es = some none ∧ getL "first_vowel" es = some none ∧ TabIn w h R T fun _ => False
theorem StemAt.grows {w : World} {h h' : Heap} {x dx R : Addr} {T : Table} (s : StemAt w h x dx R T) (g : Grows h h') : StemAt w h' x dx R T := by
  obtain ⟨es, n, h1, h2, h3, h4, h5, h6, t⟩ := s
  exact ⟨es, n, g _ _ h1, g _ _ h2, h3, h4, h5, h6, t.grows g⟩

theorem Ev.run {c : Cx} {h : Heap} {e : Expr} {P : Value → Heap → Prop} {tk : Nat} {Q : Value → Shared → Prop} {E : Value → Shared → Prop} (x : Ev c h e P) (k : ∀ v h₂ tk', Grows h h₂ → P v h₂ → Q v (c.st h₂ tk')) :
    wpAny c.M c.A (eval e c.env) Q E (c.st h tk) := x h (.refl _) tk Q E k
theorem callWith_inst {c : Cx} {h : Heap} {f x : Addr} {o : Obj} {fd : FuncData} {e : Expr} {rest : List Expr} {pos : Pos} {tk : Nat} {Pa : List Value → Heap → Prop} {Q : Value → Shared → Prop} {E : Value → Shared → Prop} (hd : o.data = .func fd)
    (ha : Evs c h pos (e :: rest) Pa) (hs : starEach (e :: rest) c.env = (false, eval e c.env) :: starEach rest c.env)
    (k : ∀ vs h₂ tk₂, Grows h h₂ → Pa vs h₂ → h₂.get? f = some o ∧ wpAny c.M c.A (call (.ref f) (.ref x :: vs)) Q E (c.st h₂ tk₂)) :
    wpAny c.M c.A (callWith pos (.ref f) [.ref x] (backTo pos (starEach (e :: rest) c.env)) []) Q E (c.st h tk) := by
  have ha' := ha h (.refl _) tk
  rw [hs] at ha' ⊢
  exact callWith_function (o := o) (fd := fd) (evalArgs_plain (ha' _ _ fun vs h₂ tk₂ g p => let ⟨a, b⟩ := k vs h₂ tk₂ g p; ⟨⟨a, hd⟩, b⟩))
theorem make_stemmer {c : Cx} {h : Heap} {mg mb : Str → Option Value} {text : Str} {tt : Tok} {lines : List Str} (P : Params) (hP : P = c.w.params)
    (hroom : c.A.depth < 600) (hh : c.A.handled = none) (RD : Rd h mg mb) (hrr : ∃ f, mg "_read_rule" = some (.ref f) ∧ FnSt h f "_read_rule" (atTop 3)) (hf49 : FnSt h 49 "PaiceHuskStemmer.__init__" (atCls 4 0)) (hf56 : FnSt h 56 "PaiceHuskStemmer.read_rules" (atCls 4 1))
    (KI : Frag.In (clsK P) h) (hs : sysModules < h.objs.size)
    (hlines : Txt.split text "\n" = lines) (hparts : (Builtin.Str.partsBetween text (Builtin.Str.occurrences text "\n" 0 text.length (text.length + 1)) ("\n" : Str).length).length ≤ 1000) (htl : text.length ≤ 2 ^ 20) (hok : ∀ x ∈ lines, okLine x = true) (hnl : lines.length ≤ 900) :
    Go c h (call (.ref 78) [.str text tt]) (fun v h₂ => ∃ x dx R, v = .ref x ∧ h.get? x = none ∧ h.get? dx = none ∧ h.get? R = none ∧ StemAt c.w h₂ x dx R (lines.foldl procLine [])) := by
  intro tk Q E hQ
  refine wpAny_call ?_
  refine make_core (g := c.g) (d := c.dr) (t := tk) (os := c.os) (h := h) (makes_of KI (k_makes P)) (looks_findIn KI (k_init P)) (fun self => bind_fn KI self (k_fn49 P)) (.inl rfl) ?_
  let A1 : Around := c.A.under (Code.builtin "type.__call__" { pos := [Value.ref 78, .str text tt] })
  have hd1 : A1.depth = c.A.depth + 1 := depth_under_make ..
  have hh1 : A1.handled = none := hh
  let hp : Heap := (h.push emptyDict).push (instObj 78 h.objs.size)
  have gp : Grows h hp := (Grows.push h _).trans (Grows.push _ _)
  have spz : hp.objs.size = h.objs.size + 2 := by show ((h.objs.push _).push _).size = _; simp
  have xin : hp.get? (h.objs.size + 1) = some (instObj 78 h.objs.size) := by
    have := Heap.get?_push_size (h.push emptyDict) (o := instObj 78 h.objs.size) rfl
    rwa [show (h.push emptyDict).objs.size = h.objs.size + 1 by show (h.objs.push _).size = _; simp] at this
  have din : hp.get? h.objs.size = some emptyDict := Heap.get?_push_of_some _ (Heap.get?_push_size h rfl)
  have noN : ∀ a, h.objs.size ≤ a → h.get? a = none := fun a ha => by
    cases e : h.get? a with
    | none => rfl
    | some o => exact absurd (Heap.lt_size e) (Nat.not_lt.mpr ha)
  let c1 : Cx := ⟨c.w, A1, c.g, c.dr, c.os, c.env⟩
  refine call_fnX (c := c1) (h := hp) (f := 49) (binds := [("self", .ref (h.objs.size + 1)), ("ruletable", .str text tt)]) (P := fun v h₂ => v = .none ∧ Grows h h₂ ∧ ∃ R, h.get? R = none ∧ StemAt c.w h₂ (h.objs.size + 1) h.objs.size R (lines.foldl procLine []))
    (FnAt.keeps hf49 gp) (RD.G.keeps gp).nolimit (by rw [rec_lim]; show A1.depth < _; omega) (fun _ _ _ => by with_unfolding_all rfl) (locs rfl) (fun cd h₁ tk₁ F => ?_) rfl rfl rfl (by decide) tk _ ?_
  rotate_left
  · rintro v h₂ tk' ⟨rfl, g, R, r, s⟩
    exact ⟨rfl, hQ _ _ _ g ⟨_, _, R, rfl, noN _ (by omega), noN _ (Nat.le_refl _), r, s⟩⟩
  have F0 := fr_base F gp (by omega)
  rw [spz] at F F0 ⊢
  have hroom' : (c1.A.deeper (envOf "PaiceHuskStemmer.__init__" (fnScope (atCls 4 0)) (h.objs.size + 2) 49 cd)).depth < 700 := by rw [depth_deeper]; show A1.depth + 1 < _; omega
  have hh' : (c1.A.deeper (envOf "PaiceHuskStemmer.__init__" (fnScope (atCls 4 0)) (h.objs.size + 2) 49 cd)).handled = none := hh1
  generalize hA : c1.A.deeper _ = A'
  replace hroom' : A'.depth < 700 := hA ▸ hroom'
  replace hh' : A'.handled = none := hA ▸ hh'
  let c' : Cx := ⟨c.w, A', c.g, c.dr, c.os, envOf "PaiceHuskStemmer.__init__" (fnScope (atCls 4 0)) (h.objs.size + 2) 49 cd⟩
  have N0 : News h (h.objs.size + 2) h₁ [(h.objs.size, emptyDict), (h.objs.size + 1, instObj 78 h.objs.size)] := by
    intro p hp
    rcases List.mem_cons.mp hp with rfl | hp
    · exact ⟨F.keep _ _ din, by show h.objs.size ≠ _; omega, noN _ (Nat.le_refl _)⟩
    · obtain rfl : p = (h.objs.size + 1, instObj 78 h.objs.size) := by simpa using hp
      exact ⟨F.keep _ _ xin, by show h.objs.size + 1 ≠ _; omega, noN _ (by show _ ≤ h.objs.size + 1; omega)⟩
  refine wpAny_execs_cons (plainObj_wpAny_Assign_Attribute (Dict_empty_made2 (s := c'.st h₁ tk₁) F0 N0 hs fun h₂ o F₂ N₂ hRs hdo _ _ _ hRd => ?_))
  refine Ev.run (c := c') (h := h₂) (P := IsV (.ref (h.objs.size + 1))) (Ev.loc F₂.ns rfl) fun v h₃ tk₃ g₃ e => ?_
  obtain rfl : v = .ref (h.objs.size + 1) := e
  have F₃ := F₂.after g₃
  have N₃ : News h (h.objs.size + 2) h₃ [(h.objs.size, dictOf [] 0), (h.objs.size + 1, instObj 78 h.objs.size), (h₁.objs.size, o)] := by
    intro p hp
    have : p ∈ (h₁.objs.size, o) :: [(h.objs.size, emptyDict), (h.objs.size + 1, instObj 78 h.objs.size)] := by
      simp only [List.mem_cons, List.not_mem_nil, or_false] at hp ⊢
      rcases hp with rfl | rfl | rfl
      · exact .inr (.inl rfl)
      · exact .inr (.inr rfl)
      · exact .inl rfl
    obtain ⟨a, b, d⟩ := N₂ p this
    exact ⟨g₃ _ _ a, b, d⟩
  refine set_dict (s := c'.st h₃ tk₃) (K := clsK P) F₃ KI N₃ (ox := instObj 78 h.objs.size) (dx := h.objs.size) (es := []) (n := 0) ⟨(N₃ _ (.tail _ (.head _))).1, rfl, rfl, (N₃ _ (.head _)).1⟩ rfl (k_setattr P) (k_over P) (k_taker P) (k_hasDict P) rfl rfl
    (Upd.head fun p hp => ?_) (Nat.le_of_ble_eq_true rfl) fun h₄ F₄ N₄ => ?_
  · simp only [List.mem_cons, List.not_mem_nil, or_false] at hp
    rcases hp with rfl | rfl
    · show h.objs.size + 1 ≠ _; omega
    · have := hRd _ (.head _)
      exact fun q => this q.symm
  have hx4 := (N₄ _ (.tail _ (.head _))).1
  have hd4 := (N₄ _ (.head _)).1
  obtain ⟨hR4, RL, hRn⟩ := N₄ _ (.tail _ (.tail _ (.head _)))
  dsimp only at hx4 hd4 hR4 RL hRn
  have hdR : h.objs.size ≠ h₁.objs.size := hRd _ (.head _)
  refine wpAny_execs_cons (wpAny_Expr (MethodCall_ (Ev.run (c := c') (h := h₄) (P := IsV (.ref (h.objs.size + 1))) (Ev.loc F₄.ns rfl) fun v h₅ tk₅ g₅ e => ?_)))
  obtain rfl : v = .ref (h.objs.size + 1) := e
  have F₅ := F₄.after g₅
  refine method_inst (s := c'.st h₅ tk₅) F₅ KI ⟨g₅ _ _ hx4, rfl, rfl, g₅ _ _ hd4⟩ (k_get P _) (k_m56 P) (k_f56 P) rfl ?_
  obtain ⟨o56, pm, cd', doc, ho56, hd56, hcd⟩ := hf56
  refine callWith_inst (c := c') (o := o56) hd56 (Evs.cons (c := c') (Ev.loc F₅.ns rfl) Evs.nil (up_v _)) rfl (fun vs h₆ tk₆ g₆ pv => ?_)
  obtain ⟨v, r, e1, e2, e3⟩ := pv
  obtain rfl : v = .str text tt := e2
  subst e1 e3
  have F₆ := F₅.after g₆
  have g46 := g₅.trans g₆
  refine ⟨F₆.keep _ _ ho56, ?_⟩
  refine read_rules (c := c') (R := h₁.objs.size) P hP hroom' hh' RD hrr (FnAt.keeps ⟨o56, pm, cd', doc, ho56, hd56, hcd⟩ F₆.keep) F₆.keep ?_ KI (g46 _ _ hx4) (g46 _ _ hd4) rfl hRs hdR hRn ⟨fun _ => 0, ?_, ⟨fun p hp => absurd hp List.not_mem_nil, fun p hp => absurd hp List.not_mem_nil⟩⟩ hlines hparts htl hok hnl tk₆ _ _ fun v h₇ tk₇ ⟨ev, g₇, hx7, hd7, T7⟩ => ?_
  · exact Nat.le_trans (Nat.le_succ _) (Nat.le_of_lt (Heap.lt_size (g46 _ _ hx4)))
  · obtain ⟨es, ep, q1, q2, q3, q4, q5⟩ := hdo
    exact ⟨o, es, ep, g46 _ _ hR4, q1, q2, q3, q4, q5⟩
  subst ev
  exact wpAny_execs_nil ⟨h₇, tk₇, rfl, rfl, g₇, h₁.objs.size, hRn, _, _, hx7, hd7, rfl, rfl, rfl, rfl, T7⟩
end Mine
end

section
open PySem PySem.W PyProof.Rows PySem.Calls
set_option maxRecDepth 100000
set_option maxHeartbeats 4000000
set_option linter.unusedVariables false
namespace Mine
section
variable {tb : String → Option Builtin} {p : Program} {w : World} {n₀ : Nat} {ann : Option Value}
theorem topGo_add : ∀ {n m : Nat} {s s' s'' : Shared} {t t' t'' : Thread}, topGo tb p w n₀ ann n s t = some (s', t') → topGo tb p w n₀ ann m s' t' = some (s'', t'') → topGo tb p w n₀ ann (n + m) s t = some (s'', t'')
  | 0, m, s, s', s'', t, t', t'', h, k => by
    obtain ⟨rfl, rfl⟩ : s = s' ∧ t = t' := by simpa [topGo] using h
    rw [Nat.zero_add]; exact k
  | n + 1, m, s, s', s'', t, t', t'', h, k => by
    rw [show n + 1 + m = n + m + 1 by omega]
    unfold topGo at h ⊢
    cases ht : through t with
    | true => rw [ht] at h; cases h
    | false =>
      rw [ht] at h
      cases hk : stepOk n₀ ann t with
      | false => rw [hk] at h; cases h
      | true =>
        rw [hk] at h
        cases hs : step (denote tb) p w s t with
        | halt o s₂ => rw [hs] at h; cases h
        | go s₂ t₂ => rw [hs] at h; exact topGo_add h k
/-- a piece of the top, run on to what stands behind it -/
theorem seg_go_on {α : Type} {B : List Frame} {K' : α → Sem Fin} {H' : Value → Sem Fin} {gd : Bool → Bool} {lv : List Value → List Value} {res : α → Flow} (hB : splitAtGen B = none) :
    ∀ (n : Nat) (s : Shared) (t t' : Thread) (f : Flow) (s' : Shared) (c' : Code) (p' : Pos), Rel2 (fun a => .pure (.done (res a))) K' deadEnd H' gd lv B t t' →
    segRun tb p w n₀ ann B.length n s t = some (f, s', c', p') → ∃ a m, res a = f ∧ topGo tb p w n₀ ann m s t' = some (s', ⟨K' a, c', p', B⟩)
  | 0, _, _, _, _, _, _, _, _, h => by simp [segRun] at h
  | n + 1, s, ⟨cur, code, pos, st⟩, ⟨cur', code', pos', st'⟩, f, s', c', p', R, h => by
    obtain ⟨e1, e2, R⟩ := R
    dsimp only at e1 e2 R
    subst e1 e2
    unfold segRun at h
    cases he : endAt B.length ⟨cur, code, pos, st⟩ with
    | some g =>
      rw [he] at h
      obtain ⟨rfl, rfl, rfl, rfl⟩ : g = f ∧ s = s' ∧ code = c' ∧ pos = p' := by simpa using h
      rcases R with ⟨rfl, rfl, x, rfl, rfl⟩ | ⟨rfl, F⟩
      · cases x with
        | pure a =>
          simp only [endAt, Sem.wrap, beq_self_eq_true, Option.some.injEq] at he
          exact ⟨a, 0, he, rfl⟩
        | _ => simp [endAt, Sem.wrap] at he
      · have : ((st.length == B.length) = false) := beq_eq_false_iff_ne.mpr (Nat.ne_of_gt F.longer.1)
        simp only [endAt, this] at he
        cases he
    | none =>
      rw [he] at h
      cases hk : stepOk n₀ ann ⟨cur, code, pos, st⟩ with
      | false => rw [hk] at h; cases h
      | true =>
        rw [hk] at h
        cases hs : step (denote tb) p w s ⟨cur, code, pos, st⟩ with
        | halt o s₂ => rw [hs] at h; cases h
        | go s₂ t₂ =>
          rw [hs] at h
          obtain ⟨k1, k2, t₂', k3, R'⟩ : stepOk n₀ ann ⟨cur', code, pos, st'⟩ = true ∧ through ⟨cur', code, pos, st'⟩ = false ∧ ∃ t₂', step (denote tb) p w s ⟨cur', code, pos, st'⟩ = .go s₂ t₂' ∧ Rel2 (fun a => .pure (.done (res a))) K' deadEnd H' gd lv B t₂ t₂' := by
            rcases R with ⟨rfl, rfl, x, rfl, rfl⟩ | ⟨rfl, F⟩
            · have hp : ∀ a, x ≠ .pure a := by
                rintro a rfl
                simp [endAt, Sem.wrap] at he
              have hr : ∀ e, x ≠ .raise e := by
                rintro e rfl
                obtain ⟨heap, gens, drawn, toks, os⟩ := s
                simp only [Sem.wrap, step] at hs
                cases hs
              obtain ⟨k1, k2⟩ := okOuter (K' := K') (H' := H') hp hr hk
              exact ⟨k1, k2, step_outer hB hp hs⟩
            · obtain ⟨k1, k2⟩ := okInner hB F hk
              exact ⟨k1, k2, step_inner hB F hs⟩
          obtain ⟨a, m, ha, hN⟩ := seg_go_on hB n s₂ t₂ t₂' f s' c' p' R' h
          refine ⟨a, m + 1, ha, ?_⟩
          unfold topGo
          rw [k2, k1, k3]
          exact hN
theorem go_app {env : Env} {q : Pos} {n : Nat} {s s' : Shared} {l rest : List Stmt} {c : Code} {pos p' : Pos} {c' : Code} (h : segRun tb p w n₀ ann 1 n s (piecesOf l env c pos [topFrame q]) = some (.next, s', c', p')) :
    ∃ m, topGo tb p w n₀ ann m s (restOf (l ++ rest) env c pos [topFrame q]) = some (s', restOf rest env c' p' [topFrame q]) := by
  obtain ⟨a, m, ha, hN⟩ := seg_go_on (res := id) (K' := fun f => match f with | .next => (execs rest env).wrap doneF (leaveH env) id id | f => doneF f) (H' := leaveH env) (B := [topFrame q]) rfl n s (piecesOf l env c pos [topFrame q])
    ⟨(execs l env).wrap (fun f => match f with | .next => (execs rest env).wrap doneF (leaveH env) id id | f => doneF f) (leaveH env) id id, c, pos, [topFrame q]⟩ _ _ _ _ ⟨rfl, rfl, .inl ⟨rfl, rfl, _, rfl, rfl⟩⟩ h
  obtain rfl : a = .next := ha
  refine ⟨m, ?_⟩
  unfold restOf
  rw [execs_app_wrap]
  exact hN
theorem go_block {env : Env} {q : Pos} {n : Nat} {s s' : Shared} {b : List Stmt} {c : Code} {pos p' : Pos} {c' : Code} (h : segRun tb p w n₀ ann 1 n s (blockOf b env c pos [topFrame q]) = some (.next, s', c', p')) :
    ∃ m, topGo tb p w n₀ ann m s ⟨denote tb (.body b env), c, pos, [topFrame q]⟩ = some (s', restOf b env c' p' [topFrame q]) := by
  obtain ⟨a, m, ha, hN⟩ := seg_go_on (res := fun _ : Unit => Flow.next) (K' := fun _ => (execs b env).wrap doneF (leaveH env) id id) (H' := Sem.raise) (B := [topFrame q]) rfl n s (blockOf b env c pos [topFrame q])
    ⟨(blockStart b env).wrap (fun _ => (execs b env).wrap doneF (leaveH env) id id) .raise id id, c, pos, [topFrame q]⟩ _ _ _ _ ⟨rfl, rfl, .inl ⟨rfl, rfl, _, rfl, rfl⟩⟩ h
  rw [body_wrap]
  exact ⟨m, hN⟩
end
theorem schedN_add {den : Code → Sem Fin} {p : Program} {w : World} : ∀ {n m : Nat} {x y z}, schedN den p w n x = .running y → schedN den p w m y = z → schedN den p w (n + m) x = z
  | 0, m, x, y, z, h, k => by
    simp only [schedN] at h
    cases h
    rw [Nat.zero_add]; exact k
  | n + 1, m, x, y, z, h, k => by
    rw [show n + 1 + m = n + m + 1 by omega]
    simp only [schedN] at h ⊢
    cases hs : sstep den p w x with
    | go x' => rw [hs] at h; exact schedN_add h k
    | halt o s => rw [hs] at h; cases h
theorem topGo_spec {p : Program} {w : World} {n₀ : Nat} {ann : Option Value} : ∀ (n : Nat) (s : Shared) (t : Thread) (s₁ : Shared) (t₁ : Thread), s.asleep → topGo table p w n₀ ann n s t = some (s₁, t₁) →
    schedN (denote table) p w n (.single s t) = .running (.single s₁ t₁) ∧ s₁.heap.life = s.heap.life ∧ s₁.os = s.os ∧
    ∀ b o, b < n₀ → b ≠ mainNs → b ≠ cStatics → ann ≠ some (.ref b) → s.heap.get? b = some o → s₁.heap.get? b = some o
  | 0, s, t, s₁, t₁, _, h => by
    obtain ⟨rfl, rfl⟩ : s = s₁ ∧ t = t₁ := by simpa [topGo] using h
    exact ⟨rfl, rfl, rfl, fun _ _ _ _ _ _ e => e⟩
  | n + 1, s, t, s₁, t₁, hr, h => by
    unfold topGo at h
    cases ht : through t with
    | true => rw [ht] at h; cases h
    | false =>
      rw [ht] at h
      cases hk : stepOk n₀ ann t with
      | false => rw [hk] at h; cases h
      | true =>
        rw [hk] at h
        cases hs : step (denote table) p w s t with
        | halt o s' => rw [hs] at h; cases h
        | go s' t' =>
          rw [hs] at h
          have hk0 := hk
          obtain ⟨hc, hk⟩ := Bool.and_eq_true_iff.mp hk
          have hl := step_life (denote table) p w s s' t t' hs
          obtain ⟨hm, l, os, fr⟩ := topGo_spec n s' t' s₁ t₁ (Shared.asleep_of_life hl hr) h
          have e : sstep (denote table) p w (.single s t) = .go (.single s' t') := by
            rcases sstep_single (denote table) p w s t hc hr with e | e
            · rw [e, hs]; rfl
            · rw [hs] at e; cases e
          refine ⟨by simp only [schedN, e]; exact hm, l.trans hl, os.trans (step_os_same hs (by revert hk; cases t.cur <;> simp)), fun b o h1 h2 h3 h4 h5 => fr b o h1 h2 h3 h4 ?_⟩
          rw [step_heap (denote table) p w s s' t t' hs]
          revert hk
          cases t.cur <;> intro hk <;> try exact h5
          case update a _ f _ =>
            have : b ≠ a := by
              rintro rfl
              simp only [Bool.or_eq_true, Nat.ble_eq, beq_iff_eq] at hk
              rcases hk with ((q | q) | q) | q
              · exact absurd h1 (Nat.not_lt.mpr q)
              · exact h2 q
              · exact h3 q
              · exact h4 q
            exact (Heap.get?_update_ne _ _ _ _ this).trans h5
          case alloc x _ => exact Heap.get?_push_of_some x h5
end Mine
end

section
open PySem PySem.W PyProof.Rows PySem.Calls
set_option maxRecDepth 100000
set_option maxHeartbeats 4000000
set_option linter.unusedVariables false
namespace Mine
/-- the room the top has -/
def AM : Around := { depth := 310, units := 100 }
theorem AM_in (q : Pos) : ((Ctx.of cdM [topFrame q]).over []).In AM := by
  refine ⟨rfl, ?_, (fun l h => by cases h), (fun g h => by cases h), ?_⟩
  · exact Nat.le_of_ble_eq_true (by kernel_rfl)
  · exact Nat.le_of_ble_eq_true (by kernel_rfl)
theorem run_through {den : Code → Sem Fin} {p : Program} {w : World} : ∀ {n : Nat} {s s' : Shared} {t : Thread} {f : Flow}, runN den p w n s t = .halted (.done f) s' → ∃ m t₁, runN den p w m s t = .running s' t₁ ∧ through t₁ = true
  | 0, s, s', t, f, h => by cases h
  | n + 1, s, s', t, f, h => by
    simp only [runN] at h
    cases hs : step den p w s t with
    | go s₂ t₂ =>
      rw [hs] at h
      obtain ⟨m, t₁, h1, h2⟩ := run_through h
      exact ⟨m + 1, t₁, by simp only [runN, hs]; exact h1, h2⟩
    | halt o s₂ =>
      rw [hs] at h
      injection h with h1 h2
      subst h1 h2
      obtain rfl := step_halt_same den p w s s₂ t _ hs
      refine ⟨0, t, rfl, ?_⟩
      obtain ⟨heap, gens, drawn, toks, os⟩ := s₂
      obtain ⟨cur, code, pos, stack⟩ := t
      cases cur <;> simp only [step, finish] at hs <;> (repeat' split at hs) <;> simp_all [through]
theorem tail_run {w : World} {s : Shared} {l : List Stmt} {env : Env} {q pos : Pos} {Φ : Shared → Prop} (hz : s.asleep)
    (hw : wpAny (model pw w) AM (execs l env) (fun f s' => f = .next ∧ Φ s') (fun _ _ => False) s) (hg : ∀ s', Φ s' → s'.gens = #[]) :
    ∃ n s₁ t, schedN (denote table) pw w n (.single s (restOf l env cdM pos [topFrame q])) = .running (.single s₁ t) ∧ through t = true ∧ s₁.heap.life = s.heap.life ∧ Φ s₁ := by
  obtain ⟨e, s', hr, he, hΦ⟩ := runs_wrap_of_wp (M := model pw w) (Γ := Ctx.of cdM [topFrame q]) (fs := []) (Φ := fun e s' => e = .ret (.ok .next) ∧ Φ s') doneF (leaveH env) id id (execs l env) (hw _ pos (AM_in q))
    (fun a p' s' ⟨e, h⟩ => by subst e; exact ⟨_, _, .done, rfl, h⟩) (fun x p' s' h => h.elim)
  subst he
  obtain ⟨n, t', c', p', pre', hn, hx1, hx2⟩ := (runs_reach hr [topFrame q] (Ctx.fits_of _ _)).runN
  subst hx1 hx2
  replace hn : (model pw w).runN n s ⟨(execs l env).wrap doneF (leaveH env) id id, cdM, pos, [topFrame q]⟩ = .running s' ⟨leafOf (.ok .next), c', p', [topFrame q]⟩ := hn
  have h1 : (model pw w).runN (n + 1) s ⟨(execs l env).wrap doneF (leaveH env) id id, cdM, pos, [topFrame q]⟩ = .running s' ⟨leafOf (.ok (.ret .none)), .builtin "claim.caller" {}, q, []⟩ := by
    rw [runN_snoc (th' := ⟨leafOf (.ok .next), c', p', [topFrame q]⟩) hn, step_leaf_ret]
    rfl
  have h2 : (model pw w).runN (n + 2) s ⟨(execs l env).wrap doneF (leaveH env) id id, cdM, pos, [topFrame q]⟩ = .halted (.done (.ret .none)) s' := by
    rw [runN_snoc h1, step_leaf_nil]
    unfold finish
    rw [hg _ hΦ, show leftWithCleanup #[] = false from by decide +kernel]
    rfl
  obtain ⟨s'', hrn, hf, hc⟩ := runNI_real (denote table) pw w h2 rfl
  obtain rfl := Shared.eq_of_forget_eq hf (hg _ hΦ)
  have hne : ∀ k s₂, runN (denote table) pw w k s ⟨(execs l env).wrap doneF (leaveH env) id id, cdM, pos, [topFrame q]⟩ ≠ .halted (.unsupported "lifetime:generator-with-cleanup-left-suspended") s₂ := by
    intro k s₂ hk
    have a := runN_mono (denote table) pw w (n + 2) k s _ _ s'' hrn
    have b := runN_mono (denote table) pw w k (n + 2) s _ _ s₂ hk
    rw [Nat.add_comm, b] at a
    injection a with a1 _
    cases a1
  obtain ⟨m, t₁, hm, ht⟩ := run_through hrn
  refine ⟨m, s'', t₁, ?_, ht, runN_life (denote table) pw w hrn, hΦ⟩
  rw [show restOf l env cdM pos [topFrame q] = ⟨(execs l env).wrap doneF (leaveH env) id id, cdM, pos, [topFrame q]⟩ from rfl, schedN_eq_runN (denote table) pw w s _ hz ⟨hc, hne⟩ m, hm]
  rfl
end Mine
end

section
open PySem PySem.W PyProof.Rows PySem.Calls PySem.StrLaws PySem.Builtin PySem.Builtin.Str
set_option maxRecDepth 100000
set_option maxHeartbeats 4000000
set_option linter.unusedVariables false
namespace Mine
def posOf (c : Nat) : List Nat → Nat → List Nat
  | [], _ => []
  | d :: l, i => if d = c then i :: posOf c l (i + 1) else posOf c l (i + 1)
def splitC (c : Nat) : List Nat → List Nat → List (List Nat)
  | [], cur => [cur]
  | d :: l, cur => match Nat.beq d c with
    | true => cur :: splitC c l []
    | false => splitC c l (cur ++ [d])
theorem subAt_one (x : Str) (c i : Nat) (hi : i < x.cps.toList.length) : subAt x ⟨#[c]⟩ i = decide (x.cps.toList[i] = c) := by
  rw [subAt_eq]
  show ((x.cps.toList.drop i).take 1 == [c]) = _
  rw [List.drop_eq_getElem_cons hi]
  simp only [List.take_succ_cons, List.take_zero]
  generalize x.cps.toList[i] = z
  by_cases h : z = c
  · subst h; simp
  · simp only [h, decide_false]
    exact beq_eq_false_iff_ne.mpr fun e => h (List.cons.inj e).1
theorem occ_pos (x : Str) (c : Nat) : ∀ (n k : Nat) (st : Array Nat × Nat), n + k = x.length + 1 → st.1.size ≤ k → st.2 ≤ k →
    (forIn (List.range' k n) st (occBody x ⟨#[c]⟩ x.length (x.length + 1))).run.fst.toList = st.1.toList ++ posOf c (x.cps.toList.drop k) k
  | 0, k, st, h, h1, h2 => by
    rw [List.drop_eq_nil_of_le (by simp only [Array.length_toList]; show x.length ≤ k; omega)]
    show st.1.toList = _ ++ []
    rw [List.append_nil]
  | n + 1, k, st, h, h1, h2 => by
    rw [List.range'_succ, List.forIn_cons]
    by_cases hk : k < x.cps.toList.length
    · have hk' : k < x.length := hk
      have ha := subAt_one x c k hk
      rw [List.drop_eq_getElem_cons hk, posOf]
      generalize x.cps.toList[k] = z at ha ⊢
      by_cases hc : z = c
      · have e : occBody x ⟨#[c]⟩ x.length (x.length + 1) k st = pure (ForInStep.yield (st.1.push k, k + 1)) := by
          unfold occBody
          exact if_pos ⟨⟨⟨by omega, h2⟩, by show k + 1 ≤ _; omega⟩, by rw [ha]; exact decide_eq_true hc⟩
        rw [e, if_pos hc]
        have := occ_pos x c n (k + 1) (st.1.push k, k + 1) (by omega) (by simp; omega) (Nat.le_refl _)
        refine Eq.trans this ?_
        simp
      · have e : occBody x ⟨#[c]⟩ x.length (x.length + 1) k st = pure (ForInStep.yield st) := by
          unfold occBody
          exact if_neg fun z => by rw [ha] at z; exact hc (of_decide_eq_true z.2)
        rw [e, if_neg hc]
        exact occ_pos x c n (k + 1) st (by omega) (by omega) (by omega)
    · have hk' : ¬ k < x.length := hk
      have e : occBody x ⟨#[c]⟩ x.length (x.length + 1) k st = pure (ForInStep.yield st) := by
        unfold occBody
        exact if_neg fun z => by have := z.1.2; change k + 1 ≤ x.length at this; omega
      rw [e]
      refine Eq.trans (occ_pos x c n (k + 1) st (by omega) (by omega) (by omega)) ?_
      rw [List.drop_eq_nil_of_le (show x.cps.toList.length ≤ k + 1 by omega), List.drop_eq_nil_of_le (show x.cps.toList.length ≤ k by omega)]
      rfl
theorem occ_one (x : Str) (c : Nat) : occurrences x ⟨#[c]⟩ 0 x.length (x.length + 1) = posOf c x.cps.toList 0 := by
  rw [occ_eq]
  have := occ_pos x c (x.length + 1) 0 (#[], 0) rfl (Nat.le_refl _) (Nat.le_refl _)
  simpa using this
abbrev toS (l : List Nat) : Str := ⟨l.toArray⟩
theorem sub_str (x : Str) (a k : Nat) : strSub x a k = toS ((x.cps.toList.drop a).take (k - a)) := by
  apply Str.ext'
  apply Array.toList_inj.mp
  rw [strSub_toList]
theorem parts_pos (x : Str) (c : Nat) : ∀ (n k a : Nat), n + k = x.length → a ≤ k → partsFrom x 1 a (posOf c (x.cps.toList.drop k) k) = (splitC c (x.cps.toList.drop k) ((x.cps.toList.drop a).take (k - a))).map toS
  | 0, k, a, h, ha => by
    have hk : x.cps.toList.length = k := by simp [Str.length] at h ⊢; omega
    rw [List.drop_eq_nil_of_le (by omega)]
    simp only [posOf, splitC, partsFrom, List.map_cons, List.map_nil]
    rw [sub_str, show x.length = k by omega]
  | n + 1, k, a, h, ha => by
    have hk : k < x.cps.toList.length := by simp [Str.length] at h ⊢; omega
    rw [List.drop_eq_getElem_cons hk, posOf, splitC]
    by_cases hc : x.cps.toList[k] = c
    · rw [if_pos hc, show Nat.beq x.cps.toList[k] c = true from by rw [Nat.beq_eq]; exact hc]
      have := parts_pos x c n (k + 1) (k + 1) (by omega) (Nat.le_refl _)
      simp only [partsFrom, List.map_cons]
      rw [this, Nat.sub_self, List.take_zero, sub_str]
    · rw [if_neg hc, show Nat.beq x.cps.toList[k] c = false from by rw [Bool.eq_false_iff]; exact fun z => hc (Nat.eq_of_beq_eq_true z)]
      have := parts_pos x c n (k + 1) a (by omega) (by omega)
      rw [this]
      dsimp only
      congr 2
      rw [show k + 1 - a = (k - a) + 1 by omega, List.take_add_one]
      congr 1
      rw [List.getElem?_drop, show a + (k - a) = k by omega, List.getElem?_eq_getElem hk]
      rfl
theorem split_one (x : Str) (c : Nat) (hc : c < 256) (hx : x.length ≠ 0) : Txt.split x ⟨#[c]⟩ = (splitC c x.cps.toList []).map toS := by
  have hp := parts_pos x c x.length 0 0 rfl (Nat.le_refl _)
  simp only [List.drop_zero, Nat.sub_self, List.take_zero] at hp
  unfold Txt.split
  rw [occ_one]
  have h1 : (decide (x.length < (⟨#[c]⟩ : Str).length) || decide (Builtin.Str.strKind x < Builtin.Str.strKind ⟨#[c]⟩)) = false := by
    have k1 : Builtin.Str.strKind ⟨#[c]⟩ = 1 := by simp [Builtin.Str.strKind, hc]
    have k2 : 1 ≤ Builtin.Str.strKind x := by 
      unfold Builtin.Str.strKind
      split
      · omega
      · split <;> omega
    simp only [Bool.or_eq_false_iff, decide_eq_false_iff_not]
    exact ⟨by show ¬ x.length < 1; omega, by omega⟩
  rw [if_neg (by rw [h1]; exact Bool.false_ne_true)]
  have hq : partsBetween x (posOf c x.cps.toList 0) 1 = (splitC c x.cps.toList []).map toS := by rw [partsBetween_eq, hp]
  split
  · rename_i he
    rw [List.isEmpty_iff.mp he] at hq
    rw [← hq, partsBetween_eq]
    show [x] = [strSub x 0 x.length]
    rw [sub_str]
    congr 1
    apply Str.ext'
    apply Array.toList_inj.mp
    show _ = ((x.cps.toList.drop 0).take (x.length - 0))
    rw [List.drop_zero, Nat.sub_zero, List.take_of_length_le (by simp [Str.length])]
  · exact hq
theorem parts_one (x : Str) (c : Nat) : (partsBetween x (occurrences x ⟨#[c]⟩ 0 x.length (x.length + 1)) 1).length = (splitC c x.cps.toList []).length := by
  have hp := parts_pos x c x.length 0 0 rfl (Nat.le_refl _)
  simp only [List.drop_zero, Nat.sub_self, List.take_zero] at hp
  rw [occ_one, partsBetween_eq, hp, List.length_map]
def lenL {α : Type} : List α → Nat → Nat
  | [], n => n
  | _ :: l, n => lenL l (n+1)
theorem lenL_eq {α : Type} : ∀ (l : List α) (n : Nat), lenL l n = l.length + n
  | [], n => by simp [lenL]
  | _ :: l, n => by rw [lenL, lenL_eq l, List.length_cons]; omega
theorem by_list {l : List Char} {t : Str} {Φ : Str → Prop} (e : t = Str.ofString (String.ofList l)) (h : Φ ⟨(l.map Char.toNat).toArray⟩) : Φ t := by
  rw [e, Str.ofString_eq_toList, String.toList_ofList]; exact h
end Mine
end

section
open PySem PySem.W PyProof.Rows PySem.Calls
set_option maxRecDepth 100000
set_option maxHeartbeats 4000000
set_option linter.unusedVariables false
namespace Mine
theorem c_isNs (P : Params) : (hC P).isNs mainGlobals = true := by kernel_rfl
theorem c_isNsB (P : Params) : (hC P).isNs builtinsNs = true := by kernel_rfl
theorem c_isNsS (P : Params) : (hC P).isNs cStatics = true := by kernel_rfl
theorem c_blt (P : Params) : (hC P).bltView = bltViewBooted := by kernel_rfl
noncomputable def mgC (P : Params) : Str → Option Value := (hC P).nsMap mainGlobals
noncomputable def mbC (P : Params) : Str → Option Value := (hC P).nsMap builtinsNs
theorem c_noLimit (P : Params) : (hC P).NoLimit := ⟨_, .of_isNs (c_isNsS P), by kernel_rfl⟩
theorem glC (P : Params) : Gl (hC P) (mgC P) (mbC P) := ⟨.of_isNs (c_isNs P), .of_isNs (c_isNsB P), c_noLimit P, fun x hx => Heap.of_bltView (c_isNsB P) (c_blt P) x hx⟩
theorem g_len (P : Params) : mgC P "len" = none := by kernel_rfl
theorem g_int (P : Params) : mgC P "int" = none := by kernel_rfl
theorem g_min (P : Params) : mgC P "min" = none := by kernel_rfl
theorem g_wr (P : Params) : mgC P "_word_run" = some (.ref 21) := by kernel_rfl
theorem g_fig (P : Params) : mgC P "_is_figure" = some (.ref 28) := by kernel_rfl
theorem g_rr (P : Params) : mgC P "_read_rule" = some (.ref 35) := by kernel_rfl
theorem g_cls (P : Params) : mgC P "PaiceHuskStemmer" = some (.ref 78) := by kernel_rfl
theorem g_text (P : Params) : mgC P "defaultrules" = some (.str theText 298) := by kernel_rfl

/-- a function of the text, its code's place told -/
def FnK (h : Heap) (f c : Addr) (name qual : Str) (params : Arguments) (body : List Stmt) (scope : Scope) : Prop :=
  ∃ o pm doc, h.get? f = some o ∧ o.data = .func (fdOf name qual params body scope pm (.ref c) doc) ∧ h.CodeRec (.ref c) qual
abbrev FnKS (h : Heap) (f c : Addr) (qual : Str) (st : Stmt) : Prop := match st with
  | .FunctionDef n a b _ _ _ s _ _ _ => FnK h f c n qual a b s
  | _ => False
theorem FnK.at {h : Heap} {f c : Addr} {name qual : Str} {params : Arguments} {body : List Stmt} {scope : Scope} (x : FnK h f c name qual params body scope) : FnAt h f name qual params body scope :=
  let ⟨o, pm, doc, a, b, d⟩ := x; ⟨o, pm, .ref c, doc, a, b, d⟩
/-- every object but the two that the top writes on stands -/
def Keep2 (h h' : Heap) : Prop := ∀ b o, b ≠ 12 → b ≠ 3 → h.get? b = some o → h'.get? b = some o
theorem Keep2.trans {a b c : Heap} (x : Keep2 a b) (y : Keep2 b c) : Keep2 a c := fun i o n m e => y i o n m (x i o n m e)
theorem Keep2.refl (a : Heap) : Keep2 a a := fun _ _ _ _ e => e
theorem Grows.keep2 {a b : Heap} (x : Grows a b) : Keep2 a b := fun i o _ _ e => x i o e
theorem FnK.keep2 {h h' : Heap} {f c : Addr} {name qual : Str} {params : Arguments} {body : List Stmt} {scope : Scope} (x : FnK h f c name qual params body scope) (k : Keep2 h h') (f1 : f ≠ 12) (f2 : f ≠ 3) (c1 : c ≠ 12) (c2 : c ≠ 3) :
    FnK h' f c name qual params body scope :=
  let ⟨o, pm, doc, a, b, d⟩ := x; ⟨o, pm, doc, k _ _ f1 f2 a, b, d.at fun o e => k _ _ c1 c2 e⟩
theorem f_wr (P : Params) : FnKS (hC P) 21 20 "_word_run" (atTop 1) := ⟨_, _, _, hC_21 P, rfl, _, _, _, _, rfl, hC_20 P, rfl, rfl⟩
theorem f_fig (P : Params) : FnKS (hC P) 28 27 "_is_figure" (atTop 2) := ⟨_, _, _, hC_28 P, rfl, _, _, _, _, rfl, hC_27 P, rfl, rfl⟩
theorem f_rr (P : Params) : FnKS (hC P) 35 34 "_read_rule" (atTop 3) := ⟨_, _, _, hC_35 P, rfl, _, _, _, _, rfl, hC_34 P, rfl, rfl⟩
theorem f_49 (P : Params) : FnKS (hC P) 49 48 "PaiceHuskStemmer.__init__" (atCls 4 0) := ⟨_, _, _, hC_49 P, rfl, _, _, _, _, rfl, hC_48 P, rfl, rfl⟩
theorem f_56 (P : Params) : FnKS (hC P) 56 55 "PaiceHuskStemmer.read_rules" (atCls 4 1) := ⟨_, _, _, hC_56 P, rfl, _, _, _, _, rfl, hC_55 P, rfl, rfl⟩
theorem f_61 (P : Params) : FnKS (hC P) 61 60 "PaiceHuskStemmer.first_vowel" (atCls 4 2) := ⟨_, _, _, hC_61 P, rfl, _, _, _, _, rfl, hC_60 P, rfl, rfl⟩
theorem f_68 (P : Params) : FnKS (hC P) 68 67 "PaiceHuskStemmer.strip_prefix" (atCls 4 3) := ⟨_, _, _, hC_68 P, rfl, _, _, _, _, rfl, hC_67 P, rfl, rfl⟩
theorem f_75 (P : Params) : FnKS (hC P) 75 74 "PaiceHuskStemmer.stem" (atCls 4 4) := ⟨_, _, _, hC_75 P, rfl, _, _, _, _, rfl, hC_74 P, rfl, rfl⟩
theorem rd_C (P : Params) : Rd (hC P) (mgC P) (mbC P) := ⟨glC P, g_len P, g_int P, ⟨_, g_wr P, (f_wr P).at⟩, ⟨_, g_fig P, (f_fig P).at⟩⟩
abbrev psC : Array Value := #[.int 2 0, .int 0 0, .ref 20, .int 9 0, .int 0 0, .ref 27, .int 11 0, .int 0 0, .ref 34, .int 28 0, .int 0 0, .ref 41]
theorem main_C (P : Params) : (hC P).Main (mgC P) 13 12 psC :=
  ⟨.of_isNs (c_isNs P), ⟨_, _, _, _, _, _, _, _, _, _, hC_13 P, rfl, rfl, rfl, rfl, rfl, rfl, hC_12 P, rfl, by simp [TriplesOk], by decide⟩, by decide, ⟨4, _, by kernel_rfl, by decide, by decide, by decide, hC_4 P, rfl, rfl, rfl⟩⟩


/-- the law's rows -/
def sOf : Expr → Str
  | .Constant (.str x) _ _ => x
  | _ => ""
def bOf : Expr → Bool
  | .Constant (.bool b) _ _ => b
  | _ => false
def iOf : Expr → Int
  | .Constant (.int i) _ _ => i
  | _ => 0
def ruleOf : Expr → Rule
  | .Tuple [a, b, c, d, e] _ _ => ⟨sOf a, bOf b, iOf c, sOf d, bOf e⟩
  | _ => ⟨"", false, 0, "", false⟩
def rowsOf : List Stmt → List Expr
  | [.Return (some (.List l _)) _] => l
  | _ => []
def lawRules : List Rule := (rowsOf (fnBody (atTop 11))).map ruleOf
def eqS (x y : Str) : Bool := x.cps.toList == y.cps.toList
def eqR (u v : Rule) : Bool := eqS u.e v.e && u.i == v.i && u.n == v.n && eqS u.a v.a && u.g == v.g
def eqRs : List Rule → List Rule → Bool
  | [], [] => true
  | a :: l, b :: m => eqR a b && eqRs l m
  | _, _ => false
def lastOf (u : Rule) : Str := Txt.item u.e (-1)
/-- the table is the law's rows, told apart by the last letter -/
def tabOk (T : Table) (R : List Rule) : Bool := T.all (fun p => eqRs p.2 (R.filter fun u => eqS (lastOf u) p.1)) && R.all fun u => T.any fun p => eqS (lastOf u) p.1
/-- the rule that a line bears, its ending turned about -/
def getRule (x : Str) : Option Rule := if (Txt.strip x).length = 0 then none else readRule (Txt.strip x)
def flipR (u : Rule) : Rule := { u with e := rev u.e }
def TextOk (t : Str) : Prop := (Nat.ble (lenL t.cps.toList 0) 100000 && Nat.blt 0 (lenL t.cps.toList 0) && Nat.ble (lenL (splitC 10 t.cps.toList []) 0) 900 && ((splitC 10 t.cps.toList []).map toS).all okLine && eqRs ((((splitC 10 t.cps.toList []).map toS).filterMap getRule).map flipR) lawRules) = true
theorem text_ok : TextOk theText := by
  refine by_list (Φ := TextOk) (l := ?_) ?_ ?_
  rotate_left
  · exact rfl
  · unfold TextOk; kernel_rfl
end Mine
end

section
open PySem PySem.W PyProof.Rows PySem.Calls PySem.Builtin.Str
set_option maxRecDepth 100000
set_option maxHeartbeats 4000000
set_option linter.unusedVariables false
namespace Mine
theorem nl_one : ("\n" : Str) = ⟨#[10]⟩ := by decide +kernel
theorem eqS_eq {x y : Str} (h : eqS x y = true) : x = y := by
  have : x.cps.toList = y.cps.toList := eq_of_beq h
  exact Str.ext' (Array.toList_inj.mp this)
theorem eqS_refl (x : Str) : eqS x x = true := beq_self_eq_true _
theorem eqR_eq {u v : Rule} (h : eqR u v = true) : u = v := by
  unfold eqR at h
  simp only [Bool.and_eq_true, beq_iff_eq] at h
  obtain ⟨⟨⟨⟨a, b⟩, c⟩, d⟩, e⟩ := h
  cases u; cases v
  simp only [Rule.mk.injEq]
  exact ⟨eqS_eq a, b, c, eqS_eq d, e⟩
theorem eqRs_eq : ∀ {l m : List Rule}, eqRs l m = true → l = m
  | [], [], _ => rfl
  | a :: l, b :: m, h => by
    rw [eqRs, Bool.and_eq_true] at h
    rw [eqR_eq h.1, eqRs_eq h.2]
  | [], _ :: _, h => by cases h
  | _ :: _, [], h => by cases h
theorem eqRs_refl : ∀ l : List Rule, eqRs l l = true
  | [] => rfl
  | a :: l => by
    rw [eqRs, eqRs_refl l, Bool.and_true]
    unfold eqR
    rw [eqS_refl, eqS_refl, beq_self_eq_true, beq_self_eq_true, beq_self_eq_true]; rfl
/-- a rule put behind those of its last letter -/
def addTo (T : Table) (u : Rule) : Table := putRule (if hasKey T (lastOf u) then T else T ++ [(lastOf u, [])]) (lastOf u) u
theorem proc_fold : ∀ (ls : List Str) (T : Table), ls.foldl procLine T = ((ls.filterMap getRule).map flipR).foldl addTo T
  | [], T => rfl
  | x :: ls, T => by
    rw [List.foldl_cons, proc_fold ls]
    unfold procLine
    by_cases h : (Txt.strip x).length = 0
    · have e : getRule x = none := by unfold getRule; rw [if_pos h]
      rw [if_pos h, List.filterMap_cons, e]
    · rw [if_neg h]
      cases hr : readRule (Txt.strip x) with
      | none =>
        have e : getRule x = none := by unfold getRule; rw [if_neg h, hr]
        rw [List.filterMap_cons, e]
      | some u =>
        have e : getRule x = some u := by unfold getRule; rw [if_neg h, hr]
        rw [List.filterMap_cons, e]
        rfl
/-- the table bears the rules, told apart by their last letters -/
def Sorted (T : Table) (R : List Rule) : Prop := (∀ p ∈ T, p.2 = R.filter fun u => eqS (lastOf u) p.1) ∧ ∀ u ∈ R, ∃ p ∈ T, lastOf u = p.1
theorem sorted_add {T : Table} {R : List Rule} (h : Sorted T R) (u : Rule) : Sorted (addTo T u) (R ++ [u]) := by
  have hT1 : Sorted (if hasKey T (lastOf u) then T else T ++ [(lastOf u, [])]) R ∧ ∃ p ∈ (if hasKey T (lastOf u) then T else T ++ [(lastOf u, [])]), lastOf u = p.1 := by
    cases hk : hasKey T (lastOf u) with
    | true =>
      rw [if_pos rfl]
      obtain ⟨p, hp, e⟩ := List.any_eq_true.mp hk
      exact ⟨h, p, hp, (of_decide_eq_true e).symm⟩
    | false =>
      rw [if_neg Bool.false_ne_true]
      refine ⟨⟨fun p hp => ?_, fun v hv => ?_⟩, (lastOf u, []), List.mem_append_right _ (List.mem_singleton.mpr rfl), rfl⟩
      · rcases List.mem_append.mp hp with hp | hp
        · exact h.1 p hp
        · obtain rfl := List.mem_singleton.mp hp
          symm
          rw [List.filter_eq_nil_iff]
          intro v hv e
          obtain ⟨p, hp, e2⟩ := h.2 v hv
          have : hasKey T (lastOf u) = true := List.any_eq_true.mpr ⟨p, hp, decide_eq_true (by rw [← e2]; exact eqS_eq e)⟩
          rw [hk] at this; cases this
      · obtain ⟨p, hp, e⟩ := h.2 v hv
        exact ⟨p, List.mem_append_left _ hp, e⟩
  unfold addTo
  generalize (if hasKey T (lastOf u) then T else T ++ [(lastOf u, [])]) = T1 at hT1
  obtain ⟨⟨h1, h2⟩, q, hq, hqk⟩ := hT1
  have up : ∀ p ∈ T1, ∃ p' ∈ putRule T1 (lastOf u) u, p'.1 = p.1 := fun p hp => by
    refine ⟨_, List.mem_map.mpr ⟨p, hp, rfl⟩, ?_⟩
    split <;> rfl
  refine ⟨fun p hp => ?_, fun v hv => ?_⟩
  · obtain ⟨p0, hp0, rfl⟩ := List.mem_map.mp hp
    rw [List.filter_append]
    by_cases hk : p0.1 = lastOf u
    · rw [if_pos hk]
      dsimp only
      rw [h1 p0 hp0, List.filter_cons, hk, eqS_refl, if_pos rfl, List.filter_nil]
    · rw [if_neg hk, h1 p0 hp0, List.filter_cons, if_neg (fun e => hk (eqS_eq e).symm), List.filter_nil, List.append_nil]
  · rcases List.mem_append.mp hv with hv | hv
    · obtain ⟨p, hp, e⟩ := h2 v hv
      obtain ⟨p', hp', e'⟩ := up p hp
      exact ⟨p', hp', e.trans e'.symm⟩
    · obtain rfl := List.mem_singleton.mp hv
      obtain ⟨p', hp', e'⟩ := up q hq
      exact ⟨p', hp', hqk.trans e'.symm⟩
theorem sorted_fold : ∀ (R R0 : List Rule) (T : Table), Sorted T R0 → Sorted (R.foldl addTo T) (R0 ++ R)
  | [], R0, T, h => by rw [List.append_nil]; exact h
  | u :: R, R0, T, h => by
    rw [List.foldl_cons, show R0 ++ u :: R = (R0 ++ [u]) ++ R by rw [List.append_assoc]; rfl]
    exact sorted_fold R _ _ (sorted_add h u)
theorem sorted_ok {T : Table} {R : List Rule} (h : Sorted T R) : tabOk T R = true := by
  unfold tabOk
  rw [Bool.and_eq_true]
  refine ⟨List.all_eq_true.mpr fun p hp => ?_, List.all_eq_true.mpr fun u hu => ?_⟩
  · rw [h.1 p hp]; exact eqRs_refl _
  · obtain ⟨p, hp, e⟩ := h.2 u hu
    exact List.any_eq_true.mpr ⟨p, hp, by rw [e]; exact eqS_refl _⟩
theorem text_gen (R : List Rule) (t : Str) (h : (Nat.ble (lenL t.cps.toList 0) 100000 && Nat.blt 0 (lenL t.cps.toList 0) && Nat.ble (lenL (splitC 10 t.cps.toList []) 0) 900 && ((splitC 10 t.cps.toList []).map toS).all okLine && eqRs ((((splitC 10 t.cps.toList []).map toS).filterMap getRule).map flipR) R) = true) :
    t.length ≤ 2 ^ 20 ∧ (Builtin.Str.partsBetween t (Builtin.Str.occurrences t "\n" 0 t.length (t.length + 1)) ("\n" : Str).length).length ≤ 1000 ∧ (Txt.split t "\n").length ≤ 900 ∧
    (∀ x ∈ Txt.split t "\n", okLine x = true) ∧ tabOk ((Txt.split t "\n").foldl procLine []) R = true := by
  simp only [Bool.and_eq_true, lenL_eq, Nat.add_zero] at h
  obtain ⟨⟨⟨⟨h1, h2⟩, h3⟩, h4⟩, h5⟩ := h
  have l0 : t.length = t.cps.toList.length := rfl
  have h2 : 0 < t.cps.toList.length := Nat.le_of_ble_eq_true h2
  have h3 := Nat.le_of_ble_eq_true h3
  have h1 := Nat.le_of_ble_eq_true h1
  have h5 := eqRs_eq h5
  rw [nl_one]
  rw [split_one t 10 (by decide) (by omega)]
  refine ⟨by omega, ?_, by rw [List.length_map]; exact h3, fun x hx => List.all_eq_true.mp h4 x hx, ?_⟩
  · show (partsBetween t (occurrences t ⟨#[10]⟩ 0 t.length (t.length + 1)) 1).length ≤ 1000
    rw [parts_one]; omega
  · rw [proc_fold, h5]
    exact sorted_ok (sorted_fold R [] [] ⟨fun p hp => absurd hp List.not_mem_nil, fun u hu => absurd hu List.not_mem_nil⟩)
theorem text_facts : theText.length ≤ 2 ^ 20 ∧ (Builtin.Str.partsBetween theText (Builtin.Str.occurrences theText "\n" 0 theText.length (theText.length + 1)) ("\n" : Str).length).length ≤ 1000 ∧ (Txt.split theText "\n").length ≤ 900 ∧
    (∀ x ∈ Txt.split theText "\n", okLine x = true) ∧ tabOk ((Txt.split theText "\n").foldl procLine []) lawRules = true := text_gen lawRules theText text_ok
theorem Ev.mod {c : Cx} {h : Heap} {mg : Str → Option Value} {x : Str} {v : Value} {pos : Pos} (he : c.env = envM) (hg : h.Ns mainGlobals mg) (hv : mg x = some v) (hd : (x == ("__debug__" : Str)) = false := by decide) : Ev c h (.Name x pos) (IsV v) :=
  fun h₁ g₁ tk Q E hQ => by
    rw [he]
    exact Name_module rfl rfl (loadGlobal_global (hg.keeps g₁) hv (hQ v h₁ tk (.refl _) rfl)) hd
theorem Main.grows {h h' : Heap} {mg : Str → Option Value} {c Pl : Addr} {ps : Array Value} (x : h.Main mg c Pl ps) (g : Grows h h') : h'.Main mg c Pl ps := by
  obtain ⟨a, b, l, ⟨bm, o, h1, h2, h3, h4, h5, h6⟩⟩ := x
  exact ⟨a.keeps g, b.keeps g, l, bm, o, h1, h2, h3, h4, g _ _ h5, h6⟩
section
variable {c : Cx} {h : Heap} {mg : Str → Option Value} {ps : Array Value} {rest : List Stmt} {Q : Flow → Shared → Prop} {E : Value → Shared → Prop} {tk : Nat}
theorem top_assign {x : Str} {value : Expr} {p' pos : Pos} {P : Value → Heap → Prop} (he : c.env = envM) (hm : h.Main mg 13 12 ps) (hv : Ev c h value P)
    (k : ∀ v h₂ h₃ tk', Grows h h₂ → P v h₂ → Heap.SameBut mainGlobals h₂ h₃ → h₃.Main (upd mg x v) 13 12 ps → Keep2 h h₃ → wpAny c.M c.A (execs rest c.env) Q E (c.st h₃ tk'))
    (hl : envM.kindOf x = some .local := by rfl) (hx : x ≠ "__builtins__" := by decide) (hs : swapsWith value (some (.Name x p')) pos.line c.env = pure false := by rfl) :
    wpAny c.M c.A (execs (.Assign [.Name x p'] value pos :: rest) c.env) Q E (c.st h tk) := by
  refine wpAny_execs_cons (wpAny_Assign_Name (hv h (.refl _) tk _ _ fun v h₂ tk₂ g₂ pv => ?_) hs)
  have hm₂ := Main.grows hm g₂
  refine wpAny_storeName_local (m := mg) (by rw [he]; exact hl) (by rw [he]; exact hm₂.g) (fun h₃ hn sb => ?_) (by rw [he]; rfl)
  rw [he] at hn sb
  obtain ⟨a, b, l, ⟨bm, o, h1, h2, h3, h4, h5, h6⟩⟩ := hm₂
  refine k v h₂ h₃ _ g₂ pv sb ⟨hn, b.sameBut sb (Nat.ne_of_gt l.1) (Nat.ne_of_gt l.2), l, bm, o, ?_, h2, h3, h4, (sb.2 _ h3).trans h5, h6⟩ fun b' o' n m e => (sb.2 _ m).trans (g₂ _ _ e)
  show (if _ = x then _ else _) = _
  rw [if_neg (Ne.symm hx)]
  exact h1
theorem top_def {name : Str} {params : Arguments} {body : List Stmt} {scope : Scope} {pos : Pos} (he : c.env = envM) (hm : h.Main mg 13 12 ps)
    (hexec : PlainDefTree name params body scope pos) (hfree : ∀ x ∈ scope.names, x.2 ≠ .free) (hdoc : docOf body = none) (hloc : pw.main.scope.names.lookup name = some .local)
    (hq : qualnameIn { scope := pw.main.scope, locals := mainGlobals, globals := mainGlobals, cells := [] } name name = name) (hnf : codeAmong pos ps.toList = none)
    (k : ∀ a c' h' tk', h.objs.size ≤ a → h.objs.size ≤ c' → h'.Main (upd mg name (.ref a)) 13 12 (ps ++ #[rawInt pos.line, rawInt pos.col, .ref c']) → FnK h' a c' name name params body scope → Keep2 h h' → wpAny c.M c.A (execs rest c.env) Q E (c.st h' tk'))
    (hnb : name ≠ "__builtins__" := by decide) :
    wpAny c.M c.A (execs (.FunctionDef name params body [] none [] scope none name pos :: rest) c.env) Q E (c.st h tk) := by
  refine wpAny_execs_cons ?_
  have e : c.env = mainEnv pw 13 14 := he
  rw [e]
  refine wpAny_plainDefN (s := c.st h tk) (prog := pw) hexec hfree hdoc hloc hq hm (fun a c' h' tk' ha hm' hf ⟨hc', hr⟩ _ hk => ?_) hnb rfl hnf
  rw [← e]
  exact k a c' h' tk' ha hc' hm' ⟨_, _, _, hf, rfl, hr⟩ fun b o n m e => hk b o n m e
end

def isStrC : Expr → Bool
  | .Constant (.str _) _ _ => true
  | _ => false
def AllS : List Value → List Str → Prop
  | [], [] => True
  | v :: vs, x :: xs => (∃ t, v = .str x t) ∧ AllS vs xs
  | _, _ => False
theorem AllS.len : ∀ {vs : List Value} {xs : List Str}, AllS vs xs → vs.length = xs.length
  | [], [], _ => rfl
  | _ :: _, _ :: _, h => congrArg (· + 1) (AllS.len h.2)
abbrev StrsOf (xs : List Str) : List Value → Heap → Prop := fun vs _ => AllS vs xs
theorem evs_strs {c : Cx} {h : Heap} {pos : Pos} : ∀ es : List Expr, es.all isStrC = true → Evs c h pos es (StrsOf (es.map sOf))
  | [], _ => fun h₁ g₁ tk Q E hQ => args_nil (hQ _ h₁ _ (.refl _) trivial)
  | e :: es, hall => by
    rw [List.all_cons, Bool.and_eq_true] at hall
    obtain ⟨x, k, p, rfl⟩ : ∃ x k p, e = .Constant (.str x) k p := by
      revert hall
      cases e with
      | Constant a k p => cases a with
        | str x => exact fun _ => ⟨x, k, p, rfl⟩
        | _ => exact fun z => by cases z.1
      | _ => exact fun z => by cases z.1
    intro h₁ g₁ tk Q E hQ
    refine Evs.cons (Ev.str (x := x)) (evs_strs es hall.2) (up_s _) rfl h₁ g₁ tk Q E fun vs h₂ tk' g ⟨v, r, e, p, q⟩ => hQ vs h₂ tk' g ?_
    subst e
    exact ⟨p, q⟩
theorem Ev.listC {c : Cx} {h : Heap} {pos : Pos} {es : List Expr} (hall : es.all isStrC = true) (hn : es.length ≤ 2 ^ 20) : Ev c h (.List es pos) (fun v h' => ∃ a items, v = .ref a ∧ h'.PlainList a items ∧ StrsOf (es.map sOf) items.toList h' ∧ h.get? a = none) :=
  fun h₁ g₁ tk Q E hQ => List_ (evs_strs es hall h₁ g₁ tk _ _ fun vs h₂ tk₂ g₂ p => by
    have hl : vs.length ≤ 2 ^ 20 := by rw [AllS.len p, List.length_map]; exact hn
    refine wpAny_newList (s := c.st h₂ tk₂) (hQ _ _ _ (g₂.trans (Grows.push _ _)) ⟨_, vs.toArray, rfl, ⟨0, Heap.get?_push_size _ rfl⟩, by simpa using p, ?_⟩) (by show vs.toArray.size ≤ sizeLine; rw [List.size_toArray, sizeLine_eq]; omega)
    cases z : h.get? h₂.objs.size with
    | none => rfl
    | some o => exact absurd (Heap.lt_size (g₂ _ _ (g₁ _ _ z))) (Nat.lt_irrefl _))

theorem TabIn.by {w : World} {h h' : Heap} {R : Addr} {T : Table} {av : Addr → Prop} (x : TabIn w h R T av) (hR : ∀ o, h.get? R = some o → h'.get? R = some o)
    (hs : ∀ b o, (∃ xs n, o.data = .seq xs n) → h.get? b = some o → h'.get? b = some o) : TabIn w h' R T av := by
  obtain ⟨Lk, ⟨o, es, ep, e1, e2⟩, f, inj⟩ := x
  refine ⟨Lk, ⟨o, es, ep, hR _ e1, e2⟩, fun p hp => ?_, inj⟩
  obtain ⟨a, items, ⟨n, pl⟩, ra⟩ := f p hp
  exact ⟨a, items, ⟨n, hs _ _ ⟨_, _, rfl⟩ pl⟩, ra.1, fun i v u h1 h2 => let ⟨a, vs, e1, e2, e3⟩ := ra.2 i v u h1 h2; ⟨a, vs, e1, hs _ _ ⟨_, _, rfl⟩ e2, e3⟩⟩
/-- what the top writes on: a table of names and a row of fields -/
structure Two (h : Heap) : Prop where
  n : ∃ o es ep, h.get? 3 = some o ∧ o.data = .dict es ep
  f : ∃ o vs, h.get? 12 = some o ∧ o.data = .fields vs
theorem Two.of {h : Heap} {mg : Str → Option Value} {ps : Array Value} (m : h.Main mg 13 12 ps) : Two h := by
  obtain ⟨⟨o, es, ep, e, d, _⟩, ⟨_, _, _, _, _, _, _, _, _, op, _, _, _, _, _, _, _, e', d', _⟩, _, _⟩ := m
  exact ⟨⟨o, es, ep, e, d⟩, ⟨op, ps, e', d'⟩⟩
theorem Two.seq {h h' : Heap} (t : Two h) (k : Keep2 h h') (b : Addr) (o : Obj) (hd : ∃ xs n, o.data = .seq xs n) (e : h.get? b = some o) : h'.get? b = some o := by
  obtain ⟨xs, n, hd⟩ := hd
  refine k b o ?_ ?_ e
  · rintro rfl
    obtain ⟨o', vs, e', d'⟩ := t.f
    rw [e] at e'; cases e'; rw [hd] at d'; cases d'
  · rintro rfl
    obtain ⟨o', es, ep, e', d'⟩ := t.n
    rw [e] at e'; cases e'; rw [hd] at d'; cases d'
theorem StemAt.keep2 {w : World} {h h' : Heap} {x dx R : Addr} {T : Table} (s : StemAt w h x dx R T) (t : Two h) (k : Keep2 h h') (h1 : 83 ≤ x) (h2 : 83 ≤ dx) (h3 : 83 ≤ R) : StemAt w h' x dx R T := by
  obtain ⟨es, n, e1, e2, e3, e4, e5, e6, e7⟩ := s
  have ne : ∀ a : Nat, 83 ≤ a → a ≠ 12 ∧ a ≠ 3 := fun a h => ⟨by omega, by omega⟩
  exact ⟨es, n, k _ _ (ne _ h1).1 (ne _ h1).2 e1, k _ _ (ne _ h2).1 (ne _ h2).2 e2, e3, e4, e5, e6, e7.by (fun o e => k _ _ (ne _ h3).1 (ne _ h3).2 e) (t.seq k)⟩
end Mine
end

section
open PySem PySem.W PyProof.Rows PySem.Calls
set_option maxRecDepth 100000
set_option maxHeartbeats 4000000
set_option linter.unusedVariables false
namespace Mine
def theTable : Table := (Txt.split theText "\n").foldl procLine []
theorem rest_is : (behindTheImports pw).drop 6 = [atTop 6, atTop 7, atTop 8, atTop 9, atTop 10, atTop 11, atTop 12, atTop 13, atTop 14, atTop 15, atTop 16] := by kernel_rfl
abbrev FnX (h : Heap) (mg : Str → Option Value) (name : Str) (st : Stmt) : Prop := ∃ f, mg name = some (.ref f) ∧ FnSt h f name st
def startsL : List Str := match atTop 10 with | .Assign _ (.List es _) _ => es.map sOf | _ => []
def lettersL : Str := match atTop 9 with | .Assign _ (.Constant (.str x) _ _) _ => x | _ => ""
structure Left (w : World) (h : Heap) (mg : Str → Option Value) : Prop where
  g : h.Ns mainGlobals mg
  keep : Keep2 (hC w.params) h
  std : ∃ x dx R, 83 ≤ R ∧ mg "_standard" = some (.ref x) ∧ StemAt w h x dx R theTable
  letters : ∃ t, mg "_law_letters" = some (.str lettersL t)
  starts : ∃ l items, mg "_law_starts" = some (.ref l) ∧ h.PlainList l items ∧ AllS items.toList startsL
  f7 : FnX h mg "stem" (atTop 7)
  f11 : FnX h mg "_law_rules" (atTop 11)
  f12 : FnX h mg "_law_voiced" (atTop 12)
  f13 : FnX h mg "_law_bare" (atTop 13)
  f14 : FnX h mg "_law_first" (atTop 14)
  f15 : FnX h mg "_law_stemmed" (atTop 15)
  f16 : ∃ f c, mg "law" = some (.ref f) ∧ FnKS h f c "law" (atTop 16)
  other : ∀ k : Str, k ∉ (["_standard", "stem", "__name__", "_law_letters", "_law_starts", "_law_rules", "_law_voiced", "_law_bare", "_law_first", "_law_stemmed", "law"] : List Str) → mg k = mgC w.params k
theorem c_alive (P : Params) : ((List.range 83).all fun a => ((hC P).get? a).isSome) = true := by kernel_rfl
theorem big {P : Params} (a : Nat) (e : (hC P).get? a = none) : 83 ≤ a := by
  rcases Nat.lt_or_ge a 83 with q | q
  · have := List.all_eq_true.mp (c_alive P) a (List.mem_range.mpr q)
    rw [e] at this; cases this
  · exact q
theorem k_keep (P : Params) : keepIn (clsK P) (.ref 78) = true := by kernel_rfl
theorem FnKS.keep2 {h h' : Heap} {f c : Addr} {q : Str} {st : Stmt} (x : FnKS h f c q st) (k : Keep2 h h') (f1 : 83 ≤ f) (c1 : 83 ≤ c) : FnKS h' f c q st := by
  cases st <;> first | exact x.elim | exact FnK.keep2 x k (fun q => by rw [q] at f1; exact absurd f1 (by decide)) (fun q => by rw [q] at f1; exact absurd f1 (by decide)) (fun q => by rw [q] at c1; exact absurd c1 (by decide)) (fun q => by rw [q] at c1; exact absurd c1 (by decide))
/-- what the top has made so far -/
structure Bun (w : World) (h : Heap) (mg : Str → Option Value) (ps : Array Value) (x dx R : Addr) (L : List (Addr × Addr × Nat × Str)) : Prop where
  m : h.Main mg 13 12 ps
  k : Keep2 (hC w.params) h
  st : StemAt w h x dx R theTable
  fs : ∀ p ∈ L, 83 ≤ p.1 ∧ 83 ≤ p.2.1 ∧ FnKS h p.1 p.2.1 p.2.2.2 (atTop p.2.2.1)
theorem Bun.sz {w : World} {h : Heap} {mg : Str → Option Value} {ps : Array Value} {x dx R : Addr} {L : List (Addr × Addr × Nat × Str)} (B : Bun w h mg ps x dx R L) : 83 ≤ h.objs.size :=
  Heap.lt_size (B.k 82 _ (by decide) (by decide) (hC_82 w.params))
theorem Bun.on {w : World} {h h' : Heap} {mg mg' : Str → Option Value} {ps ps' : Array Value} {x dx R : Addr} {L : List (Addr × Addr × Nat × Str)} (B : Bun w h mg ps x dx R L) (k : Keep2 h h') (m : h'.Main mg' 13 12 ps') (h1 : 83 ≤ x) (h2 : 83 ≤ dx) (h3 : 83 ≤ R) : Bun w h' mg' ps' x dx R L :=
  ⟨m, B.k.trans k, B.st.keep2 (Two.of B.m) k h1 h2 h3, fun p hp => let ⟨a, b, d⟩ := B.fs p hp; ⟨a, b, d.keep2 k a b⟩⟩
theorem Bun.add {w : World} {h : Heap} {mg : Str → Option Value} {ps : Array Value} {x dx R : Addr} {L : List (Addr × Addr × Nat × Str)} (B : Bun w h mg ps x dx R L) {f c : Addr} {i : Nat} {q : Str} (a : 83 ≤ f) (b : 83 ≤ c) (d : FnKS h f c q (atTop i)) : Bun w h mg ps x dx R ((f, c, i, q) :: L) :=
  ⟨B.m, B.k, B.st, fun p hp => by
    rcases List.mem_cons.mp hp with rfl | hp
    · exact ⟨a, b, d⟩
    · exact B.fs p hp⟩
def fnPos : Stmt → Pos
  | .FunctionDef _ _ _ _ _ _ _ _ _ p => p
  | _ => ⟨0, 0, 0, 0⟩
theorem top_defS {c : Cx} {h : Heap} {mg : Str → Option Value} {ps : Array Value} {rest : List Stmt} {Q : Flow → Shared → Prop} {E : Value → Shared → Prop} {tk : Nat} {st : Stmt} {name : Str} {params : Arguments} {body : List Stmt} {scope : Scope} {pos : Pos}
    (hst : st = .FunctionDef name params body [] none [] scope none name pos) (he : c.env = envM) (hm : h.Main mg 13 12 ps)
    (hexec : PlainDefTree name params body scope pos) (hfree : ∀ x ∈ scope.names, x.2 ≠ .free) (hdoc : docOf body = none) (hloc : pw.main.scope.names.lookup name = some .local)
    (hq : qualnameIn { scope := pw.main.scope, locals := mainGlobals, globals := mainGlobals, cells := [] } name name = name) (hnf : codeAmong pos ps.toList = none) (hnb : name ≠ "__builtins__")
    (k : ∀ a c' h' tk', h.objs.size ≤ a → h.objs.size ≤ c' → h'.Main (upd mg name (.ref a)) 13 12 (ps ++ #[rawInt pos.line, rawInt pos.col, .ref c']) → FnKS h' a c' name st → Keep2 h h' → wpAny c.M c.A (execs rest c.env) Q E (c.st h' tk')) :
    wpAny c.M c.A (execs (st :: rest) c.env) Q E (c.st h tk) := by
  subst hst
  exact top_def he hm hexec hfree hdoc hloc hq hnf k hnb
/-- the law's own functions -/
theorem tail_c (w : World) (os : OsState) {h : Heap} {mg : Str → Option Value} {ps : Array Value} {x dx R l a7 c7 : Addr} {items : Array Value} (hps : ∃ c', ps = psC ++ #[rawInt (fnPos (atTop 7)).line, rawInt (fnPos (atTop 7)).col, .ref c']) (B : Bun w h mg ps x dx R [(a7, c7, 7, "stem")]) (h1 : 83 ≤ x) (h2 : 83 ≤ dx) (h3 : 83 ≤ R) (pl : h.PlainList l items) (tk : Nat) :
    wpAny (model pw w) AM (execs [atTop 11, atTop 12, atTop 13, atTop 14, atTop 15, atTop 16] envM) (fun f s' => f = .next ∧ ∃ h tk mg' ps' a11 c11 a12 c12 a13 c13 a14 c14 a15 c15 a16 c16, s' = ⟨h, #[], boot_drawn, tk, os⟩ ∧ h.PlainList l items ∧
      Bun w h mg' ps' x dx R [(a16, c16, 16, "law"), (a15, c15, 15, "_law_stemmed"), (a14, c14, 14, "_law_first"), (a13, c13, 13, "_law_bare"), (a12, c12, 12, "_law_voiced"), (a11, c11, 11, "_law_rules"), (a7, c7, 7, "stem")] ∧
      mg' = upd (upd (upd (upd (upd (upd mg "_law_rules" (.ref a11)) "_law_voiced" (.ref a12)) "_law_bare" (.ref a13)) "_law_first" (.ref a14)) "_law_stemmed" (.ref a15)) "law" (.ref a16)) (fun _ _ => False) ⟨h, #[], boot_drawn, tk, os⟩ := by
  obtain ⟨c', rfl⟩ := hps
  let c : Cx := ⟨w, AM, #[], boot_drawn, os, envM⟩
  refine top_defS (c := c) (st := atTop 11) (name := "_law_rules") (params := fnParams (atTop 11)) (body := fnBody (atTop 11)) (scope := fnScope (atTop 11)) (pos := fnPos (atTop 11)) (by kernel_rfl) rfl B.m (fun _ => by kernel_rfl) (by decide +kernel) (by kernel_rfl) (by kernel_rfl) (by kernel_rfl) (by kernel_rfl) (by decide) ?_
  intro a11 c11 h11 tk11 ha hc hm f k
  replace pl : h11.PlainList l items := let ⟨n, e⟩ := pl; ⟨n, (Two.of B.m).seq k _ _ ⟨_, _, rfl⟩ e⟩
  replace B := (B.on k hm h1 h2 h3).add (i := 11) (Nat.le_trans B.sz ha) (Nat.le_trans B.sz hc) f
  refine top_defS (c := c) (st := atTop 12) (name := "_law_voiced") (params := fnParams (atTop 12)) (body := fnBody (atTop 12)) (scope := fnScope (atTop 12)) (pos := fnPos (atTop 12)) (by kernel_rfl) rfl B.m (fun _ => by kernel_rfl) (by decide +kernel) (by kernel_rfl) (by kernel_rfl) (by kernel_rfl) (by kernel_rfl) (by decide) ?_
  intro a12 c12 h12 tk12 ha hc hm f k
  replace pl : h12.PlainList l items := let ⟨n, e⟩ := pl; ⟨n, (Two.of B.m).seq k _ _ ⟨_, _, rfl⟩ e⟩
  replace B := (B.on k hm h1 h2 h3).add (i := 12) (Nat.le_trans B.sz ha) (Nat.le_trans B.sz hc) f
  refine top_defS (c := c) (st := atTop 13) (name := "_law_bare") (params := fnParams (atTop 13)) (body := fnBody (atTop 13)) (scope := fnScope (atTop 13)) (pos := fnPos (atTop 13)) (by kernel_rfl) rfl B.m (fun _ => by kernel_rfl) (by decide +kernel) (by kernel_rfl) (by kernel_rfl) (by kernel_rfl) (by kernel_rfl) (by decide) ?_
  intro a13 c13 h13 tk13 ha hc hm f k
  replace pl : h13.PlainList l items := let ⟨n, e⟩ := pl; ⟨n, (Two.of B.m).seq k _ _ ⟨_, _, rfl⟩ e⟩
  replace B := (B.on k hm h1 h2 h3).add (i := 13) (Nat.le_trans B.sz ha) (Nat.le_trans B.sz hc) f
  refine top_defS (c := c) (st := atTop 14) (name := "_law_first") (params := fnParams (atTop 14)) (body := fnBody (atTop 14)) (scope := fnScope (atTop 14)) (pos := fnPos (atTop 14)) (by kernel_rfl) rfl B.m (fun _ => by kernel_rfl) (by decide +kernel) (by kernel_rfl) (by kernel_rfl) (by kernel_rfl) (by kernel_rfl) (by decide) ?_
  intro a14 c14 h14 tk14 ha hc hm f k
  replace pl : h14.PlainList l items := let ⟨n, e⟩ := pl; ⟨n, (Two.of B.m).seq k _ _ ⟨_, _, rfl⟩ e⟩
  replace B := (B.on k hm h1 h2 h3).add (i := 14) (Nat.le_trans B.sz ha) (Nat.le_trans B.sz hc) f
  refine top_defS (c := c) (st := atTop 15) (name := "_law_stemmed") (params := fnParams (atTop 15)) (body := fnBody (atTop 15)) (scope := fnScope (atTop 15)) (pos := fnPos (atTop 15)) (by kernel_rfl) rfl B.m (fun _ => by kernel_rfl) (by decide +kernel) (by kernel_rfl) (by kernel_rfl) (by kernel_rfl) (by kernel_rfl) (by decide) ?_
  intro a15 c15 h15 tk15 ha hc hm f k
  replace pl : h15.PlainList l items := let ⟨n, e⟩ := pl; ⟨n, (Two.of B.m).seq k _ _ ⟨_, _, rfl⟩ e⟩
  replace B := (B.on k hm h1 h2 h3).add (i := 15) (Nat.le_trans B.sz ha) (Nat.le_trans B.sz hc) f
  refine top_defS (c := c) (st := atTop 16) (name := "law") (params := fnParams (atTop 16)) (body := fnBody (atTop 16)) (scope := fnScope (atTop 16)) (pos := fnPos (atTop 16)) (by kernel_rfl) rfl B.m (fun _ => by kernel_rfl) (by decide +kernel) (by kernel_rfl) (by kernel_rfl) (by kernel_rfl) (by kernel_rfl) (by decide) ?_
  intro a16 c16 h16 tk16 ha hc hm f k
  replace pl : h16.PlainList l items := let ⟨n, e⟩ := pl; ⟨n, (Two.of B.m).seq k _ _ ⟨_, _, rfl⟩ e⟩
  replace B := (B.on k hm h1 h2 h3).add (i := 16) (Nat.le_trans B.sz ha) (Nat.le_trans B.sz hc) f
  exact wpAny_execs_nil ⟨rfl, _, _, _, _, _, _, _, _, _, _, _, _, _, _, _, _, rfl, pl, B, rfl⟩
def startsE : List Expr := match atTop 10 with | .Assign _ (.List es _) _ => es | _ => []
def startsP : Pos × Pos × Pos := match atTop 10 with | .Assign [.Name _ p] (.List _ q) r => (p, q, r) | _ => (⟨0, 0, 0, 0⟩, ⟨0, 0, 0, 0⟩, ⟨0, 0, 0, 0⟩)
theorem is10 : atTop 10 = .Assign [.Name "_law_starts" startsP.1] (.List startsE startsP.2.1) startsP.2.2 := by kernel_rfl
theorem startsE_ok : startsE.all isStrC = true := by kernel_rfl
theorem startsE_len : startsE.length ≤ 2 ^ 20 := Nat.le_of_ble_eq_true (by kernel_rfl)
theorem startsE_map : startsE.map sOf = startsL := by kernel_rfl
theorem kind10 : envM.kindOf "_law_starts" = some .local := by kernel_rfl
theorem top_starts {c : Cx} {h : Heap} {mg : Str → Option Value} {ps : Array Value} {rest : List Stmt} {Q : Flow → Shared → Prop} {E : Value → Shared → Prop} {tk : Nat} (he : c.env = envM) (hm : h.Main mg 13 12 ps)
    (k : ∀ l items h₂ h₃ tk', Grows h h₂ → h₂.PlainList l items → StrsOf startsL items.toList h₂ → Heap.SameBut mainGlobals h₂ h₃ → h₃.Main (upd mg "_law_starts" (.ref l)) 13 12 ps → Keep2 h h₃ → wpAny c.M c.A (execs rest c.env) Q E (c.st h₃ tk')) :
    wpAny c.M c.A (execs (atTop 10 :: rest) c.env) Q E (c.st h tk) := by
  have e1 := startsE_ok
  have e2 := startsE_len
  have e3 := startsE_map
  rw [is10]
  generalize startsE = es at *
  generalize startsP = pp at *
  refine top_assign he hm (Ev.listC e1 e2) ?_ kind10 (by decide) rfl
  rintro v h₂ h₃ tk' g ⟨l, items, rfl, pl, hal, _⟩ sb hm' kp
  exact k l items h₂ h₃ tk' g pl (by rw [← e3]; exact hal) sb hm' kp
/-- the top behind its table of rules -/
theorem tail_b (w : World) (os : OsState) {h : Heap} {mg : Str → Option Value} {x dx R : Addr} (B : Bun w h mg psC x dx R []) (h1 : 83 ≤ x) (h2 : 83 ≤ dx) (h3 : 83 ≤ R) (hmg : mg = upd (mgC w.params) "_standard" (.ref x)) (tk : Nat) :
    wpAny (model pw w) AM (execs [atTop 7, atTop 8, atTop 9, atTop 10, atTop 11, atTop 12, atTop 13, atTop 14, atTop 15, atTop 16] envM) (fun f s' => f = .next ∧ ∃ h tk mg, s' = ⟨h, #[], boot_drawn, tk, os⟩ ∧ Left w h mg) (fun _ _ => False) ⟨h, #[], boot_drawn, tk, os⟩ := by
  let c : Cx := ⟨w, AM, #[], boot_drawn, os, envM⟩
  -- def stem
  refine top_defS (c := c) (st := atTop 7) (name := "stem") (params := fnParams (atTop 7)) (body := fnBody (atTop 7)) (scope := fnScope (atTop 7)) (pos := fnPos (atTop 7)) (by kernel_rfl) rfl B.m (fun _ => by kernel_rfl) (by decide +kernel) (by kernel_rfl) (by kernel_rfl) (by kernel_rfl) (by kernel_rfl) (by decide) ?_
  intro a7 c7 h₃ tk₃ ha7 hc7 hm f7 k
  replace B := (B.on k hm h1 h2 h3).add (i := 7) (Nat.le_trans B.sz ha7) (Nat.le_trans B.sz hc7) f7
  -- __name__
  refine top_assign (c := c) rfl B.m Ev.str ?_
  rintro v h₄ h₅ tk₅ g₅ ⟨t8, rfl⟩ - hm k
  replace B := B.on k hm h1 h2 h3
  -- _law_letters
  refine top_assign (c := c) rfl B.m Ev.str ?_
  rintro v h₆ h₇ tk₇ g₇ ⟨t9, rfl⟩ - hm k
  replace B := B.on k hm h1 h2 h3
  -- _law_starts
  have he : c.env = envM := rfl
  refine @top_starts c h₇ _ _ [atTop 11, atTop 12, atTop 13, atTop 14, atTop 15, atTop 16] _ _ tk₇ he B.m ?_
  intro l items h₈ h₉ tk₉ g₉ pl hal sb₉ hm k
  have pl : h₉.PlainList l items := let ⟨n, e⟩ := pl; ⟨n, (Two.of (Main.grows B.m g₉)).seq (fun b o _ n e => (sb₉.2 _ n).trans e) _ _ ⟨_, _, rfl⟩ e⟩
  replace B := B.on k hm h1 h2 h3
  subst hmg
  refine wpAny_mono (tail_c w os ⟨_, rfl⟩ B h1 h2 h3 pl tk₉) ?_ (fun _ _ z => z.elim)
  rintro f s' ⟨rfl, h', tk', mg', ps', a11, c11, a12, c12, a13, c13, a14, c14, a15, c15, a16, c16, rfl, pl', B', rfl⟩
  refine ⟨rfl, h', tk', _, rfl, ⟨B'.m.g, B'.k, ⟨x, dx, R, h3, ?_, B'.st⟩, ⟨t9, ?_⟩, ⟨l, items, ?_, pl', hal⟩, ⟨a7, ?_, ((B'.fs (a7, c7, 7, "stem") (by simp)).2.2).at⟩, ⟨a11, ?_, ((B'.fs (a11, c11, 11, "_law_rules") (by simp)).2.2).at⟩, ⟨a12, ?_, ((B'.fs (a12, c12, 12, "_law_voiced") (by simp)).2.2).at⟩,
    ⟨a13, ?_, ((B'.fs (a13, c13, 13, "_law_bare") (by simp)).2.2).at⟩, ⟨a14, ?_, ((B'.fs (a14, c14, 14, "_law_first") (by simp)).2.2).at⟩, ⟨a15, ?_, ((B'.fs (a15, c15, 15, "_law_stemmed") (by simp)).2.2).at⟩, ⟨a16, c16, ?_, (B'.fs (a16, c16, 16, "law") (by simp)).2.2⟩, ?_⟩⟩
  rotate_right
  · intro k hk
    simp only [List.mem_cons, List.not_mem_nil, or_false, not_or] at hk
    obtain ⟨n1, n2, n3, n4, n5, n6, n7, n8, n9, n10, n11⟩ := hk
    exact upd_ne n11 (upd_ne n10 (upd_ne n9 (upd_ne n8 (upd_ne n7 (upd_ne n6 (upd_ne n5 (upd_ne n4 (upd_ne n3 (upd_ne n2 (upd_ne n1 rfl))))))))))
  all_goals (repeat first | exact upd_eq | refine upd_ne (by decide) ?_)
theorem tail (w : World) (os : OsState) : wpAny (model pw w) AM (execs ((behindTheImports pw).drop 6) envM) (fun f s' => f = .next ∧ ∃ h tk mg, s' = ⟨h, #[], boot_drawn, tk, os⟩ ∧ Left w h mg) (fun _ _ => False) ⟨hC w.params, #[], boot_drawn, 300, os⟩ := by
  rw [rest_is]
  let c : Cx := ⟨w, AM, #[], boot_drawn, os, envM⟩
  have hm := main_C w.params
  obtain ⟨t1, t2, t3, t4, t5⟩ := text_facts
  -- _standard = PaiceHuskStemmer(defaultrules)
  refine top_assign (c := c) rfl hm (P := fun v h₂ => ∃ x dx R, v = .ref x ∧ (hC w.params).get? x = none ∧ (hC w.params).get? dx = none ∧ (hC w.params).get? R = none ∧ StemAt w h₂ x dx R theTable) ?_ ?_
  · intro h₁ g₁ tk Q E hQ
    refine Call_ ((show Ev c (hC w.params) _ _ from Ev.mod (c := c) rfl hm.g (g_cls _)) h₁ g₁ tk _ _ fun v h₂ tk₂ g₂ e => ?_) rfl
    obtain rfl : v = .ref 78 := e
    refine callWith_K (clsK_in w.params) (k_keep _) (Evs.cons (c := c) (Ev.mod (c := c) rfl hm.g (g_text _)) Evs.nil (up_v _) rfl h₂ (g₁.trans g₂) tk₂ _ _ fun vs h₃ tk₃ g₃ ⟨v, r, e1, e2, e3⟩ => ?_)
    obtain rfl : v = .str theText 298 := e2
    subst e1 e3
    have g := (g₁.trans g₂).trans g₃
    have hsz : sysModules < h₃.objs.size := Heap.lt_size (g _ _ (hC_1 w.params))
    have no : ∀ a, h₃.get? a = none → (hC w.params).get? a = none := fun a e => by
      cases q : (hC w.params).get? a with
      | none => rfl
      | some o => rw [g _ _ q] at e; cases e
    refine ⟨(clsK_in w.params).keeps g, make_stemmer (c := c) w.params rfl (by show 310 < 600; decide) rfl ((rd_C w.params).keeps g) ⟨_, g_rr _, (f_rr w.params).at.keeps g⟩ ((f_49 w.params).at.keeps g) ((f_56 w.params).at.keeps g) ((clsK_in w.params).keeps g) hsz rfl t2 t1 t4 t3 tk₃ Q E ?_⟩
    rintro v h₄ tk₄ g₄ ⟨x, dx, R, rfl, q1, q2, q3, q4⟩
    exact hQ _ h₄ tk₄ ((g₂.trans g₃).trans g₄) ⟨x, dx, R, rfl, no _ q1, no _ q2, no _ q3, q4⟩
  rintro v h₁ h₂ tk₂ g₁ ⟨x, dx, R, rfl, nx, ndx, nR, st⟩ sb hm₂ k₂
  have st : StemAt w h₂ x dx R theTable := st.keep2 (Two.of (Main.grows hm g₁)) (fun b o _ n e => (sb.2 _ n).trans e) (big _ nx) (big _ ndx) (big _ nR)
  exact tail_b w os ⟨hm₂, k₂, st, fun p hp => nomatch hp⟩ (big _ nx) (big _ ndx) (big _ nR) rfl tk₂
end Mine
end

section
open PySem PySem.W PyProof.Rows PySem.Calls
set_option maxRecDepth 100000
set_option maxHeartbeats 4000000
set_option linter.unusedVariables false
namespace Mine
theorem opening_is : opening pw = plainProg pw.main.scope.names := by kernel_rfl
theorem stmts_split : behindTheImports pw = (behindTheImports pw).take 4 ++ (((behindTheImports pw).drop 4).take 2 ++ (behindTheImports pw).drop 6) := by kernel_rfl
theorem start_run (w : World) (os : OsState) : ∃ m, topGo treeTable pw w 11 (some (.ref 6)) m ⟨boot_heap w.params, #[], boot_drawn, boot_toks, os⟩ (topStub pw) = some (⟨hC w.params, #[], boot_drawn, 300, os⟩, restOf ((behindTheImports pw).drop 6) envM cdM ⟨90, 0, 90, 12⟩ [topFrame p0]) := by
  obtain ⟨m1, h1⟩ := go_block (segRun_of (blk_run w os))
  obtain ⟨m2, h2⟩ := go_app (rest := ((behindTheImports pw).drop 4).take 2 ++ (behindTheImports pw).drop 6) (segRun_of (sts_B w os))
  obtain ⟨m3, h3⟩ := go_app (rest := (behindTheImports pw).drop 6) (segRun_of (sts_C w os))
  rw [← stmts_split] at h2
  exact ⟨_, topGo_add (pre_run w os) (topGo_add h1 (topGo_add h2 h3))⟩
theorem mbg (P : Params) : (boot_heap P).isNs mainGlobals = true := by kernel_rfl
theorem stat_ok (P : Params) : staticsOk [] (boot_heap P) (hC P) = true := by kernel_rfl
theorem acc_ok (P : Params) : (hC P).accountedOkI [] = true := by kernel_rfl
theorem bound_ok (P : Params) : namesBound pw (hC P) = true := by kernel_rfl
theorem laid_ok (P : Params) : laidKept (boot_heap P) (hC P) = true := by kernel_rfl
theorem ann_is (P : Params) : (boot_heap P).nsMap mainGlobals "__annotations__" = some (.ref 6) := by kernel_rfl
theorem boot_size (P : Params) : (boot_heap P).objs.size = 11 := by kernel_rfl
theorem mods_nil : importedModules pw.main.body = [] := by kernel_rfl

theorem static_same {h h' : Heap} (e : h'.get? cStatics = h.get? cStatics) (k : Str) : staticOf h' k = staticOf h k := by unfold staticOf; rw [e]
theorem builtin_same {h h' : Heap} (e : h'.get? builtinsNs = h.get? builtinsNs) (k : Str) : builtinOf h' k = builtinOf h k := by unfold builtinOf; rw [e]
def topNames : List Str := ["_standard", "stem", "__name__", "_law_letters", "_law_starts", "_law_rules", "_law_voiced", "_law_bare", "_law_first", "_law_stemmed", "law"]
theorem names_in : (topNames.all fun k => startupNames.contains k || pw.boundNames.contains k) = true := by kernel_rfl
theorem names_out : (laidNames.all fun k => !topNames.contains k) = true := by kernel_rfl
theorem mg_global {h : Heap} {mg : Str → Option Value} (g : h.Ns mainGlobals mg) (k : Str) : globalOf h k = mg k := PySem.Claim2Try.globalOf_of_ns g k
theorem g_blts (P : Params) : mgC P "__builtins__" = some (.ref 4) := by kernel_rfl
theorem head (w : World) : (∃ s, AfterRun (opening pw) w s) ∧ ∀ s, AfterRun (opening pw) w s → ∃ s₀, fenceModules? pw s = some s₀ ∧ s₀.gens = #[] ∧ ∃ s₁, TopRan pw w s₀ s₁ ∧ s₁.asleep ∧ s₁.gens = #[] ∧ ∃ mg, Left w s₁.heap mg := by
  have h1 := boot_open (p := pw) (N := 600) opening_is rfl (fun s => rfl) w
  obtain ⟨⟨hh, gs, dr, tk, os⟩, h2, h3⟩ := Option.map_eq_some_iff.mp h1
  obtain ⟨rfl, rfl, rfl, rfl⟩ : hh = boot_heap w.params ∧ gs = #[] ∧ dr = boot_drawn ∧ tk = boot_toks := by simpa using h3
  unfold fencedOpening at h2
  obtain ⟨s, h4, h5⟩ := Option.bind_eq_some_iff.mp h2
  rw [← table_eq_tree] at h4
  have A := AfterImport.of_importEnds h4
  refine ⟨⟨s, A⟩, fun s' hs' => ?_⟩
  obtain rfl : s' = s := AfterImport.unique hs' A
  have z : (⟨boot_heap w.params, #[], boot_drawn, boot_toks, os⟩ : Shared).asleep := Shared.asleep_of_life (fence_lifeW h5) A.life
  refine ⟨_, h5, rfl, ?_⟩
  obtain ⟨m, hm⟩ := start_run w os
  rw [← table_eq_tree] at hm
  obtain ⟨r1, l1, -, fr⟩ := topGo_spec m _ _ _ _ z hm
  have z1 : (⟨hC w.params, #[], boot_drawn, 300, os⟩ : Shared).asleep := Shared.asleep_of_life l1 z
  obtain ⟨n, s₁, t, r2, th, l2, h, tk, mg, rfl, L⟩ := tail_run (q := p0) (pos := ⟨90, 0, 90, 12⟩) z1 (tail w os) (fun s' ⟨h, tk, mg, e, _⟩ => by rw [e])
  have kS : h.get? cStatics = (hC w.params).get? cStatics := (L.keep _ _ (by decide) (by decide) (hC_2 w.params)).trans (hC_2 w.params).symm
  have kB : h.get? builtinsNs = (hC w.params).get? builtinsNs := (L.keep _ _ (by decide) (by decide) (hC_0 w.params)).trans (hC_0 w.params).symm
  have gl : ∀ k, globalOf h k = mg k := mg_global L.g
  have glC : ∀ k, globalOf (hC w.params) k = mgC w.params k := fun k => Pin.globalOf_eq (c_isNs _) k
  have out : ∀ k : Str, k ∉ topNames → globalOf h k = globalOf (hC w.params) k := fun k hk => by rw [gl, glC]; exact L.other k hk
  refine ⟨_, ⟨⟨m + n, t, schedN_add r1 r2, th⟩, l2.trans l1, Shared.rest_eq rfl, ?_, ?_, ?_, Pin.keysAreStrs_of_ns L.g, ?_, ?_, ?_, ?_, ?_⟩, Shared.asleep_of_life l2 z1, rfl, mg, L⟩
  · intro b o hb hn
    have lt : b < 11 := (boot_size w.params) ▸ Heap.lt_size hb
    have n3 : b ≠ mainNs := fun q => hn (.inl q)
    have n2 : b ≠ cStatics := fun q => hn (.inr (.inl q))
    have n6 : (some (.ref 6) : Option Value) ≠ some (.ref b) := fun q => hn (.inr (.inr ((Pin.globalOf_eq (mbg w.params) _).trans ((ann_is w.params).trans q))))
    exact L.keep b o (fun q => by rw [q] at lt; exact absurd lt (by decide)) n3 (fr b o lt n3 n2 n6 hb)
  · rw [mods_nil]
    intro k v e
    rw [static_same kS] at e
    have := Heap.accountedI_of_ok (acc_ok w.params) k v e
    simpa using this
  · rw [mods_nil]
    intro k
    have := statics_of_ok (stat_ok w.params) k
    rw [static_same kS]
    exact this
  · intro x hx
    rw [builtin_same kB, Pin.builtinOf_eq (c_isNsB _)]
    exact Heap.of_bltView (c_isNsB _) (c_blt _) x hx
  · exact ⟨4, _, (out _ (by decide)).trans ((glC _).trans (g_blts w.params)), L.keep _ _ (by decide) (by decide) (hC_4 w.params), rfl, rfl⟩
  · intro g hg
    simp at hg
  · intro k v e
    by_cases hk : k ∈ topNames
    · have := List.all_eq_true.mp names_in k hk
      simpa only [Bool.or_eq_true, List.contains_iff_mem] using this
    · rw [out k hk] at e
      exact names_of_bound (bound_ok w.params) k v e
  · intro k hk
    have nk : k ∉ topNames := fun q => by
      have := List.all_eq_true.mp names_out k hk
      rw [List.contains_iff_mem.mpr q] at this; cases this
    rw [out k nk]
    exact laid_of_kept (laid_ok w.params) k hk
end Mine
end

section
open PySem PySem.W PyProof.Rows PySem.Calls
set_option maxRecDepth 100000
set_option maxHeartbeats 4000000
set_option linter.unusedVariables false
namespace Mine
abbrev RW := PySem.Challenge.rw_iv0076_01
abbrev RR := RW.row.toRowW
def CallOk : Prop := ∀ (w : World) (s₀ s₁ : Shared) (mg : Str → Option Value), Left w s₀.heap mg → ∀ (args : List WData) (vs : List Value) (as : List Addr),
  RR.claim.pre args = true → WData.layableAll args = true → Laid RR.records w s₀ s₁ args vs as → ∃ f, mg "law" = some f ∧
    wpAny (model pw w) callerA (PySem.call f vs) (fun v s' => GoodWG RR.claim (classAt s₀.heap) (ExcName.means s₀.heap) args s₁ (.ok (.ret v)) s')
      (fun e s' => GoodWG RR.claim (classAt s₀.heap) (ExcName.means s₀.heap) args s₁ (.error e) s') s₁
theorem bare : pw.bare := ⟨rfl, rfl, rfl, rfl, rfl, by kernel_rfl⟩
theorem opens : opensWell pw = true := by kernel_rfl
theorem law_is : atTop 16 = .FunctionDef "law" (fnParams (atTop 16)) (fnBody (atTop 16)) [] none [] (fnScope (atTop 16)) none "law" (fnPos (atTop 16)) := by kernel_rfl
theorem law_def : pw.theDef "law" = some (fnParams (atTop 16), fnBody (atTop 16), fnScope (atTop 16)) := by kernel_rfl
theorem dflt_law (h : Heap) (pm cd doc : Value) : defaultsAsWrittenW h (fnParams (atTop 16)) (fdOf "law" "law" (fnParams (atTop 16)) (fnBody (atTop 16)) (fnScope (atTop 16)) pm cd doc) := by
  refine ⟨.inl ⟨by kernel_rfl, rfl⟩, [], by kernel_rfl, .inl ⟨rfl, rfl⟩⟩
theorem the_def {w : World} {h : Heap} {mg : Str → Option Value} (L : Left w h mg) : isTheDefsW pw h "law" := by
  obtain ⟨f, c, h1, x⟩ := L.f16
  rw [law_is] at x
  obtain ⟨o, pm, doc, h2, h3, h4⟩ := x
  exact ⟨f, o, _, fnParams (atTop 16), fnBody (atTop 16), fnScope (atTop 16), (mg_global L.g _).trans h1, h2, h3, law_def, rfl, rfl, rfl, rfl, rfl, rfl, rfl, rfl, dflt_law _ _ _ _⟩
theorem promised : RW.row.toRowW.promised := by w_witness2
theorem holds_of (H : CallOk) : RW.Holds := by
  o_law
  rename_i said
  refine ⟨said, promised, ⟨bare, opens, rfl⟩, promised.witness, fun w => ⟨(head w).1, fun s' hs' => ?_⟩⟩
  obtain ⟨s₀, hf, hg0, s, hT, hz, hgens, mg, L⟩ := (head w).2 s' hs'
  refine ⟨s₀, hf, hg0, s, hT, ?_, (fun x hx => nomatch hx), (fun x hx => nomatch hx), ?_⟩
  · intro n hn
    have e : n = RW.row.name := List.mem_singleton.mp hn
    rw [e]
    exact the_def L
  refine ClaimW.callFrom_of_specG (c := RR.claim) hz hgens fun args hpre hlay ord hord => ?_
  obtain ⟨⟨vs, s₁⟩, hlaid⟩ := Option.isSome_iff_exists.mp (layAllW_isSome (R := RR.records) (cl := classAt s.heap) (P := w.params) (ord := ord) (fun c hc => nomatch hc) args RR.args s (pre_splitW hpre).1)
  have keeps := layAllW_keeps _ _ _ hlaid
  have hal := layAllW_rest _ _ _ hlaid
  obtain ⟨as, hrd, hin, hold⟩ := reads_layAllW hord _ _ _ hlaid hlay s₁.heap (fun _ _ e => e)
  have LL : Laid RR.records w s s₁ args vs as := ⟨⟨ord, hord, hlaid⟩, hrd, hin, hold, keeps, hal.1.trans hgens, hal.2.2.1⟩
  obtain ⟨f, hf, h⟩ := H w s s₁ mg L args vs as hpre hlay LL
  have hi : ∀ a b, RR.claim.ident a b = true := ident_freeW rfl rfl rfl
  refine ⟨vs, s₁, hlaid, wpAny_bind (wpAny_nsGet (L.g.keeps keeps) ?_)⟩
  rw [show mg RW.row.name = some f from hf]
  refine wpAny_bind (wpAny_mono h (fun v s' g => wpAny_pure ?_) fun e s' g => ?_)
  · have z := g.laid (c := RR.claim) rfl rfl hi LL
    exact ⟨_, rfl, z.1, z.2.1, z.2.2, fun q => by cases q⟩
  · have z := g.laid (c := RR.claim) rfl rfl hi LL
    exact ⟨z.1, z.2.1, z.2.2, fun q => by cases q⟩
end Mine
end

section
open PySem PySem.W PyProof.Rows PySem.Calls
set_option maxRecDepth 100000
set_option maxHeartbeats 4000000
set_option linter.unusedVariables false
namespace Mine
section
variable {c : Cx} {h : Heap} {m : Str → Option Value} {pos : Pos} {e : Expr} {P : Value → Heap → Prop} {rest : List Stmt} {Q : Flow → Shared → Prop} {E : Value → Shared → Prop} {tk : Nat} {h₀ : Heap}
/-- a for over a tuple, by an invariant over the place -/
theorem ex_forT {target iter : Expr} {body : List Stmt} (F : Fr h₀ c.env.locals h m)
    (hi : Ev c h iter P) (hh : c.A.handled = none)
    (k : ∀ v h₂, Grows h h₂ → P v h₂ → Fr h₀ c.env.locals h₂ m → ∃ (l : Addr) (items : Array Value) (I : Nat → Heap → (Str → Option Value) → Prop), v = .ref l ∧ h₂.IsTuple l items ∧
      (∀ h₃, Grows h₂ h₃ → I 0 h₃ m) ∧
      (∀ i h h' m it, I i h m → h.IsTupleIter it l i → Heap.ExtBut it h h' → Fr h₀ c.env.locals h m → I i h' m) ∧
      (∀ i v h₁ m₁ tk it, items[i]? = some v → Fr h₀ c.env.locals h₁ m₁ → I i h₁ m₁ → h₁.IsTuple l items → h₁.IsTupleIter it l (i + 1) → it ≠ c.env.locals → l ≠ c.env.locals → it ≠ l →
        wpAny c.M c.A (assign target c.env v) (fun _ s₂ => wpAny c.M c.A (execs body c.env) (fun f s₃ => match f with
          | .next | .cont => ∃ h₃ m₃ tk₃, s₃ = c.st h₃ tk₃ ∧ Fr h₀ c.env.locals h₃ m₃ ∧ I (i + 1) h₃ m₃ ∧ h₃.IsTupleIter it l (i + 1) ∧ h₃.IsTuple l items
          | .brk => wpAny c.M c.A (execs rest c.env) Q E s₃
          | .ret v => Q (.ret v) s₃) (fun _ _ => False) s₂) (fun _ _ => False) (c.st h₁ tk)) ∧
      (∀ h₂ m₂ tk, Fr h₀ c.env.locals h₂ m₂ → I items.size h₂ m₂ → wpAny c.M c.A (execs rest c.env) Q E (c.st h₂ tk)))
    (hs : ∀ x, foldedSetIterable iter c.env x = pure x := by intro _; rfl) (ht : ∀ it v, letOwnedTupleGo target it v = pure () := by intro _ _; rfl) :
    wpAny c.M c.A (execs (.For target iter body [] pos :: rest) c.env) Q E (c.st h tk) := by
  refine wpAny_execs_cons (wpAny_For (hi h (.refl _) tk _ _ fun v h₂ tk₂ g₂ pv => ?_) hs)
  obtain ⟨l, items, I, rfl, hl, h0, st, turn, fin⟩ := k v h₂ g₂ pv (F.after g₂)
  refine wpAny_pyIter_tuple (s := c.st h₂ tk₂) hl ?_
  have F₂ := F.after g₂
  have F₃ : Fr h₀ c.env.locals (h₂.push { cls := .type "tuple_iterator", data := .fields #[.ref l, .int 0 0] }) m := F₂.after (Grows.push _ _)
  have hit : Heap.IsTupleIter (h₂.push { cls := .type "tuple_iterator", data := .fields #[.ref l, .int 0 0] }) h₂.objs.size l 0 := ⟨_, Heap.get?_push_size _ rfl, rfl, rfl⟩
  have nit : h₂.objs.size ≠ c.env.locals := by
    obtain ⟨oit, e1, _, e2⟩ := hit
    exact ns_ne F₃.ns e1 fun es ep x => by rw [e2] at x; cases x
  have nl : l ≠ c.env.locals := by
    obtain ⟨ol, e1, _, nn, e2⟩ := hl
    exact ns_ne F₂.ns e1 fun es ep x => by rw [e2] at x; cases x
  have nil' : h₂.objs.size ≠ l := by
    obtain ⟨ol, e1, _⟩ := hl
    exact Nat.ne_of_gt (Heap.lt_size e1)
  have nh : ∀ b o, h₀.get? b = some o → b ≠ h₂.objs.size := fun b o e => Nat.ne_of_lt (Heap.lt_size (F₂.keep b o e))
  generalize h₂.objs.size = it at *
  refine codeAny_forLoop (fun n s => ∃ h' m' tk' i, s = c.st h' tk' ∧ Fr h₀ c.env.locals h' m' ∧ I i h' m' ∧ h'.IsTupleIter it l i ∧ h'.IsTuple l items ∧ i ≤ items.size ∧ n = items.size + 1 - i)
    ?_ (items.size + 1) ⟨_, m, tk₂, 0, rfl, F₃, h0 _ (Grows.push _ _), hit, hl.push _, Nat.zero_le _, rfl⟩ (ht (.ref it))
  rintro n s ⟨h', m', tk', i, rfl, F', hI, hit', hl', hle, rfl⟩
  cases hv : items[i]? with
  | none =>
    have hsz : i = items.size := Nat.le_antisymm hle (by simpa using hv)
    subst hsz
    refine wpAny_pyNext_tuple_end (s := c.st h' tk') hh hit' hl' hv fun h₁ he₁ => wpAny_execs_nil ?_
    exact fin h₁ m' tk' ⟨F'.ns.extBut he₁ (Ne.symm nit), fun b o e => he₁ b o (nh b o e) (F'.keep b o e), F'.above⟩ (st _ _ _ _ _ hI hit' he₁ F')
  | some v =>
    have hlt : i < items.size := (Array.getElem?_eq_some_iff.mp hv).1
    refine wpAny_pyNext_tuple_item (s := c.st h' tk') hit' hl' hv fun h₁ hit₁ hs₁ => ?_
    have F₁ : Fr h₀ c.env.locals h₁ m' := ⟨F'.ns.sameBut hs₁ (Ne.symm nit), fun b o e => hs₁.extBut b o (nh b o e) (F'.keep b o e), F'.above⟩
    refine wpAny_mono (turn i v h₁ m' tk' it hv F₁ (st _ _ _ _ _ hI hit' hs₁.extBut F') (hl'.extBut hs₁.extBut (Ne.symm nil')) hit₁ nit nl nil') (fun _ s₂ h₂ => wpAny_mono h₂ (fun f s₃ q => ?_) fun _ _ x => x.elim) fun _ _ x => x.elim
    cases f with
    | next => obtain ⟨h₃, m₃, tk₃, q1, q2, q3, q4, q5⟩ := q; exact ⟨items.size + 1 - (i + 1), by omega, h₃, m₃, tk₃, i + 1, q1, q2, q3, q4, q5, hlt, rfl⟩
    | cont => obtain ⟨h₃, m₃, tk₃, q1, q2, q3, q4, q5⟩ := q; exact ⟨items.size + 1 - (i + 1), by omega, h₃, m₃, tk₃, i + 1, q1, q2, q3, q4, q5, hlt, rfl⟩
    | brk => exact q
    | ret v => exact q

end
end Mine
end

section
open PySem PySem.W PyProof.Rows PySem.Calls
set_option maxRecDepth 100000
set_option maxHeartbeats 4000000
set_option linter.unusedVariables false
namespace Mine
section
variable {c : Cx} {h : Heap} {pos apos : Pos} {o e : Expr} {x y : Str} {pl : Sem Bool}
theorem Ev.startswith (ho : Ev c h o (IsS x)) (he : Ev c h e (IsS y))
    (h1 : eval (.Call (.Attribute o "startswith" apos) [e] [] pos) c.env = (do
      let ov ← eval o c.env
      standAt apos.atName
      let (f, first) ← holding [ov] (getMethod ov "startswith" pl)
      callWith pos f first (backTo pos (starEach [e] c.env)) []) := by rfl)
    (hs : starEach [e] c.env = (false, eval e c.env) :: starEach [] c.env := by rfl) :
    Ev c h (.Call (.Attribute o "startswith" apos) [e] [] pos) (IsV (.bool (Txt.startswith x y))) :=
  Ev.meth ho (up_s _) (fun ov h₁ g ⟨t, e⟩ pl tk Q E hQ => by subst e; exact GM.startswith hQ) (Evs.cons he Evs.nil (up_s _) hs) (fun ov vs h₁ g ⟨t, e⟩ ⟨v, r, e1, ⟨t2, e2⟩, e3⟩ tk Q E hQ => by
    subst e e1 e2 e3
    exact SC.startswith (s := c.st h₁ tk) (hQ _ _ _ (.refl _) rfl)) h1 hs
theorem Ev.endswith (ho : Ev c h o (IsS x)) (he : Ev c h e (IsS y))
    (h1 : eval (.Call (.Attribute o "endswith" apos) [e] [] pos) c.env = (do
      let ov ← eval o c.env
      standAt apos.atName
      let (f, first) ← holding [ov] (getMethod ov "endswith" pl)
      callWith pos f first (backTo pos (starEach [e] c.env)) []) := by rfl)
    (hs : starEach [e] c.env = (false, eval e c.env) :: starEach [] c.env := by rfl) :
    Ev c h (.Call (.Attribute o "endswith" apos) [e] [] pos) (IsV (.bool (Txt.endswith x y))) :=
  Ev.meth ho (up_s _) (fun ov h₁ g ⟨t, e⟩ pl tk Q E hQ => by subst e; exact GM.endswith hQ) (Evs.cons he Evs.nil (up_s _) hs) (fun ov vs h₁ g ⟨t, e⟩ ⟨v, r, e1, ⟨t2, e2⟩, e3⟩ tk Q E hQ => by
    subst e e1 e2 e3
    exact SC.endswith (s := c.st h₁ tk) (hQ _ _ _ (.refl _) rfl)) h1 hs
theorem Ev.find (ho : Ev c h o (IsS x)) (he : Ev c h e (IsS y))
    (h1 : eval (.Call (.Attribute o "find" apos) [e] [] pos) c.env = (do
      let ov ← eval o c.env
      standAt apos.atName
      let (f, first) ← holding [ov] (getMethod ov "find" pl)
      callWith pos f first (backTo pos (starEach [e] c.env)) []) := by rfl)
    (hs : starEach [e] c.env = (false, eval e c.env) :: starEach [] c.env := by rfl) :
    Ev c h (.Call (.Attribute o "find" apos) [e] [] pos) (IsI (Txt.find x y)) :=
  Ev.meth ho (up_s _) (fun ov h₁ g ⟨t, e⟩ pl tk Q E hQ => by subst e; exact GM.find hQ) (Evs.cons he Evs.nil (up_s _) hs) (fun ov vs h₁ g ⟨t, e⟩ ⟨v, r, e1, ⟨t2, e2⟩, e3⟩ tk Q E hQ => by
    subst e e1 e2 e3
    exact SC.find (s := c.st h₁ tk) (hQ _ _ _ (.refl _) ⟨_, rfl⟩)) h1 hs
end
def prefL : List Str := match fnBody (atCls 4 3) with
  | .For _ (.Tuple es _ _) _ _ _ :: _ => es.map sOf
  | _ => []
def stripP : List Str → Str → Str
  | [], w => w
  | p :: ps, w => if Txt.startswith w p = true then Txt.slice w (some (p.length : Int)) none else stripP ps w
theorem AllS.get : ∀ {vs : List Value} {xs : List Str} {i : Nat} {v : Value}, AllS vs xs → vs[i]? = some v → ∃ x t, xs[i]? = some x ∧ v = .str x t
  | v :: vs, x :: xs, 0, u, h, e => by
    obtain ⟨⟨t, rfl⟩, _⟩ := h
    exact ⟨x, t, rfl, by simpa using e.symm⟩
  | v :: vs, x :: xs, i + 1, u, h, e => AllS.get (i := i) h.2 (by simpa using e)
theorem drop_of_get {α : Type} {xs : List α} {i : Nat} {x : α} (e : xs[i]? = some x) : xs.drop i = x :: xs.drop (i + 1) := by
  obtain ⟨h, rfl⟩ := List.getElem?_eq_some_iff.mp e
  exact List.drop_eq_getElem_cons h

theorem pref_ok : (prefL.all fun p => Nat.ble p.length 20) = true := by decide +kernel
theorem pref_len (p : Str) (h : p ∈ prefL) : p.length ≤ 2 ^ 20 := Nat.le_trans (Nat.le_of_ble_eq_true (List.all_eq_true.mp pref_ok p h)) (by decide)
theorem Heap.IsTuple.mono {h h' : Heap} {a : Addr} {items : Array Value} (x : h.IsTuple a items) (g : Grows h h') : h'.IsTuple a items := let ⟨o, e, r⟩ := x; ⟨o, g _ _ e, r⟩
theorem Heap.IsTupleIter.mono {h h' : Heap} {a t : Addr} {i : Nat} (x : h.IsTupleIter a t i) (g : Grows h h') : h'.IsTupleIter a t i := let ⟨o, e, r⟩ := x; ⟨o, g _ _ e, r⟩
theorem strip_prefix {c : Cx} {h : Heap} {mg mb : Str → Option Value} {f x : Addr} {word : Str} {tt : Tok} (RD : Rd h mg mb) (hroom : c.A.depth < 900) (hh : c.A.handled = none) (hf : FnSt h f "PaiceHuskStemmer.strip_prefix" (atCls 4 3)) (hw : word.length ≤ 2 ^ 20) :
    Go c h (call (.ref f) [.ref x, .str word tt]) (IsS (stripP prefL word)) := by
  refine call_fn (binds := [("self", .ref x), ("word", .str word tt)]) hf RD.G.nolimit (by rw [rec_lim]; omega) (fun _ _ _ => by with_unfolding_all rfl) (locs rfl) (fun cd h₁ tk F => ?_) rfl rfl rfl (by decide)
  have hh' : (c.A.deeper (envOf "PaiceHuskStemmer.strip_prefix" (fnScope (atCls 4 3)) h.objs.size f cd)).handled = none := hh
  generalize hA : c.A.deeper _ = A'
  replace hh' : A'.handled = none := hA ▸ hh'
  let c' : Cx := ⟨c.w, A', c.g, c.dr, c.os, envOf "PaiceHuskStemmer.strip_prefix" (fnScope (atCls 4 3)) h.objs.size f cd⟩
  refine ex_forT (c := c') (P := IsTupOf (StrsOf prefL)) F (Ev.tuple (evs_strs _ (by decide +kernel)) (fun vs h p => by rw [AllS.len p]; decide +kernel) (fun _ _ _ _ p => p)) hh' ?_
  rintro v h₂ g₂ ⟨a, vs, rfl, hav, hall⟩ F₂
  refine ⟨a, vs.toArray, fun i h m => m "word" = some (.str word tt) ∧ stripP (prefL.drop i) word = stripP prefL word, rfl, ⟨_, hav, rfl, 0, rfl⟩, fun _ _ => ⟨rfl, rfl⟩, fun _ _ _ _ _ p _ _ _ => p, ?_, ?_⟩
  · rintro i v h₃ m₃ tk₃ it hv F₃ ⟨i1, i2⟩ isl islt nit nl nil'
    obtain ⟨p, t, hp, rfl⟩ := AllS.get hall (by simpa using hv)
    rw [drop_of_get hp, stripP] at i2
    refine as_name (c := c') F₃ fun h₄ tk₄ sb F₄ => ?_
    have w4 : (upd m₃ "prefix" (.str p t)) "word" = some (.str word tt) := upd_ne (by decide) i1
    refine ex_if (c := c') (b := Txt.startswith word p) (Ts.bool (Ev.startswith (Ev.locS F₄.ns w4) (Ev.locS F₄.ns upd_eq))) ?_
    intro h₅ tk₅ g₅
    have F₅ := F₄.after g₅
    have isl5 := Heap.IsTuple.mono (isl.extBut sb.extBut nl) g₅
    have it5 := Heap.IsTupleIter.mono (islt.extBut sb.extBut nit) g₅
    have bp : p.length ≤ 2 ^ 20 := pref_len p (List.mem_of_getElem? hp)
    cases hq : Txt.startswith word p with
    | true =>
      rw [if_pos hq] at i2
      refine ex_return (c := c') (Ev.slice_sn (Ev.locS F₅.ns w4) (Ev.len (Ev.blt (RD.G.keeps F₅.keep) RD.len rfl) (Ev.locS F₅.ns upd_eq) (by omega)) (by omega)) ?_
      rintro v h₆ tk₆ g₆ ⟨t6, rfl⟩
      refine ⟨h₆, tk₆, rfl, (F₅.after g₆).keep, t6, ?_⟩
      rw [← i2]
    | false =>
      rw [if_neg (by rw [hq]; exact Bool.false_ne_true)] at i2
      refine ex_nil (c := c') (ex_nil (c := c') ⟨h₅, _, tk₅, rfl, F₅, ⟨w4, i2⟩, it5, isl5⟩)
  · rintro h₃ m₃ tk₃ F₃ ⟨i1, i2⟩
    rw [show vs.toArray.size = prefL.length by rw [List.size_toArray]; exact hall.len, List.drop_length] at i2
    refine ex_return (c := c') (Ev.locS F₃.ns i1) ?_
    rintro v h₄ tk₄ g₄ ⟨t4, rfl⟩
    refine ⟨h₄, tk₄, rfl, (F₃.after g₄).keep, t4, ?_⟩
    rw [← i2]; rfl
end Mine
end

section
open PySem PySem.W PyProof.Rows PySem.Calls PySem.Builtin.Str PySem.StrLaws
set_option maxRecDepth 100000
set_option maxHeartbeats 4000000
set_option linter.unusedVariables false
namespace Mine
def isVow (n : Nat) : Bool := n == 97 || n == 101 || n == 105 || n == 111 || n == 117
def voiced (w : Str) : Bool := w.cps.toList.any isVow
def least (w : Str) : Int := if isVow (w.cps.getD 0 0) then 2 else 3
def fits (w : Str) (i : Bool) (u : Rule) : Bool := Txt.endswith w u.e && (i || !u.i) && decide (least w ≤ (w.length : Int) - u.n + u.a.length)
def firstRule (w : Str) (i : Bool) : Option Rule := lawRules.find? (fits w i)
def nextWord (w : Str) (u : Rule) : Str := Txt.slice w none (some ((w.length : Int) - u.n)) ++ u.a
/-- what the law looks for: some word, or none at all -/
def due : Nat → Str → Bool → Option Str
  | 0, _, _ => none
  | n + 1, w, i => if voiced w = false then none else match firstRule w i with
    | none => some w
    | some u => if u.n = 0 then none else
      if u.g = true then due n (nextWord w u) false
      else if voiced (nextWord w u) then some (nextWord w u) else none

theorem item_last (x : Str) (hx : 0 < x.length) : Txt.item x (-1) = ⟨#[x.cps.getD (x.length - 1) 0]⟩ := by
  have e : seqIndex? (-1) x.length = some (x.length - 1) := by
    unfold seqIndex?
    simp only [show ((-1 : Int) < 0) = True from eq_true (by decide), if_true]
    rw [if_pos (by simp only [Bool.and_eq_true, decide_eq_true_eq]; omega)]
    congr 1
    omega
  unfold Txt.item Txt.charAt
  rw [e]
  simp [Array.getD_eq_getD_getElem?]
/-- a word that ends as a rule asks bears the rule's last letter -/
theorem ends_last {w e : Str} (he : 0 < e.length) (h : Txt.endswith w e = true) : 0 < w.length ∧ Txt.item e (-1) = Txt.item w (-1) := by
  unfold Txt.endswith at h
  rw [Bool.and_eq_true] at h
  obtain ⟨h1, h2⟩ := h
  have h1 : 0 + e.length ≤ w.length := of_decide_eq_true h1
  have hw : 0 < w.length := by omega
  refine ⟨hw, ?_⟩
  rw [item_last e he, item_last w hw]
  have h2 : w.cps.extract (w.length - e.length) (w.length - e.length + e.length) = e.cps := eq_of_beq h2
  have hg : e.cps.getD (e.length - 1) 0 = w.cps.getD (w.length - 1) 0 := by
    have h3 : w.cps.extract (w.length - e.length) w.length = e.cps := by rw [← h2]; congr 1; omega
    rw [← h3, Array.getD_eq_getD_getElem?, Array.getD_eq_getD_getElem?, Array.getElem?_extract]
    have q1 : e.length - 1 < min w.length w.cps.size - (w.length - e.length) := by
      have : w.cps.size = w.length := rfl
      omega
    rw [if_pos q1]
    congr 2
    omega
  rw [hg]
def rulesOk (R : List Rule) : Bool := R.all fun u => Nat.blt 0 u.e.length
theorem law_rules_ok : rulesOk lawRules = true := by kernel_rfl
theorem find_filter {α : Type} (p q : α → Bool) : ∀ l : List α, (∀ x ∈ l, p x = true → q x = true) → (l.filter q).find? p = l.find? p
  | [], _ => rfl
  | a :: l, h => by
    have ih := find_filter p q l fun x hx => h x (List.mem_cons_of_mem _ hx)
    rw [List.filter_cons]
    cases hq : q a with
    | true =>
      rw [if_pos rfl, List.find?_cons, List.find?_cons, ih]
    | false =>
      have hp : p a = false := by
        cases hp : p a with
        | false => rfl
        | true => rw [h a (List.mem_cons_self ..) hp] at hq; cases hq
      rw [if_neg Bool.false_ne_true, List.find?_cons, hp, ih]
/-- a key's rules are the law's rules for words that end in the key -/
theorem table_rules {T : Table} {R : List Rule} (hT : tabOk T R = true) (hR : rulesOk R = true) (w : Str) (i : Bool) :
    (∀ p ∈ T, p.1 = Txt.item w (-1) → p.2.find? (fits w i) = R.find? (fits w i)) ∧ (hasKey T (Txt.item w (-1)) = false → R.find? (fits w i) = none) := by
  unfold tabOk at hT
  rw [Bool.and_eq_true] at hT
  obtain ⟨h1, h2⟩ := hT
  have key : ∀ u ∈ R, fits w i u = true → lastOf u = Txt.item w (-1) := fun u hu hf => by
    unfold fits at hf
    simp only [Bool.and_eq_true] at hf
    exact (ends_last (Nat.le_of_ble_eq_true (List.all_eq_true.mp hR u hu)) hf.1.1).2
  refine ⟨fun p hp hk => ?_, fun hk => ?_⟩
  · have e := eqRs_eq (List.all_eq_true.mp h1 p hp)
    rw [e]
    exact find_filter _ _ _ fun u hu hf => by rw [key u hu hf, ← hk]; exact eqS_refl _
  · rw [List.find?_eq_none]
    intro u hu hf
    obtain ⟨p, hp, e⟩ := List.any_eq_true.mp (List.all_eq_true.mp h2 u hu)
    have : hasKey T (Txt.item w (-1)) = true := List.any_eq_true.mpr ⟨p, hp, by rw [← key u hu hf, eqS_eq e]; simp⟩
    rw [hk] at this; cases this
end Mine
end

section
open PySem PySem.W PyProof.Rows PySem.Calls
set_option maxRecDepth 100000
set_option maxHeartbeats 4000000
set_option linter.unusedVariables false
namespace Mine
/-- the place inside a comprehension -/
abbrev inComp (c : Cx) (scope : Scope) (cl : List (Str × Addr)) (C : Addr) (s : Shared) : Cx := ⟨c.w, c.A, s.gens, s.drawn, s.os, compEnvC scope cl C c.env⟩
/-- a comprehension's tests -/
def CTest (c : Cx) (h : Heap) (ifs : List Expr) (b : Bool) : Prop := ∀ (tk : Nat) (E : Value → Shared → Prop),
  wpAny c.M c.A (forIn ifs true fun e r => if r = true then do let ok ← isTrue e c.env (eval e c.env); pure (ForInStep.yield ok) else pure (ForInStep.yield r)) (fun ok s' => ok = b ∧ Keeps (c.st h tk) s') E (c.st h tk)
theorem CTest.nil {c : Cx} {h : Heap} : CTest c h [] true := fun tk E => wpAny_tests_nil ⟨rfl, h, tk, rfl, fun _ _ e => e⟩
theorem CTest.one {c : Cx} {h : Heap} {e : Expr} {b : Bool} (x : Ts c h e b) : CTest c h [e] b := fun tk E => wpAny_tests_one (x h (.refl _) tk _ _ fun h₂ tk' g => ⟨rfl, h₂, tk', rfl, g⟩)
section
variable {c : Cx} {h : Heap} {elt iter : Expr} {ifs : List Expr} {scope : Scope} {cl : List (Str × Addr)} {pos px : Pos} {x : Str}
theorem Ev.compStr {s : Str} (p : Value → Bool) (F : Value → Value → Prop) (hh : c.A.handled = none) (hclos : closureFor scope c.env = pure cl) (hcell : ∀ y ∈ scope.names, y.2 ≠ .cell) (hkind : scope.kind = .function)
    (hnames : ∀ y ∈ scope.names, y.2 = .local → scope.names.lookup y.1 = some .local) (hx : scope.names.lookup x = some .local) (hi : Ev c h iter (IsS s)) (hsz : s.length ≤ 2 ^ 20)
    (ht : ∀ C s₃ m₃ v i, Grows h s₃.heap → SignAt s i v → s₃.heap.Ns C m₃ → m₃ x = some v → CTest (inComp c scope cl C s₃) s₃.heap ifs (p v))
    (he : ∀ C s₃ m₃ v i, Grows h s₃.heap → SignAt s i v → p v = true → s₃.heap.Ns C m₃ → m₃ x = some v → Ev (inComp c scope cl C s₃) s₃.heap elt (fun y _ => F v y))
    (hs : ∀ x, foldedSetIterable iter c.env x = pure x := by intro _; rfl) :
    Ev c h (.ListComp elt [⟨.Name x px, iter, ifs, 0⟩] scope pos) (fun v h' => ∃ (D : Addr) (ys : Array Value) (vs : List Value), v = .ref D ∧ h'.PlainList D ys ∧ vs.length = s.length ∧ (∀ j v, vs[j]? = some v → SignAt s j v) ∧ Paired F (vs.filter p) ys.toList ∧ h.get? D = none) := by
  intro h₁ g₁ tk Q E hQ
  refine wpAny_ListComp_free p F hclos hcell hkind hnames hx (hi h₁ g₁ tk _ _ fun v h₂ tk₂ g₂ ⟨t, e⟩ => ?_) hs
  subst e
  refine wpAny_pyIter_str fun o St W st0 => ?_
  have g : Grows h h₂ := g₁.trans g₂
  have up : ∀ {h₃ : Heap}, (∀ b o', b ∉ [h₂.objs.size] → (h₂.push o).get? b = some o' → h₃.get? b = some o') → Grows h h₃ := fun k b o' e =>
    k b o' (fun q => by rw [List.mem_singleton] at q; exact absurd (Heap.lt_size (g _ _ e)) (by rw [q]; exact Nat.lt_irrefl _)) (Heap.get?_push_of_some _ (g _ _ e))
  refine ⟨_, _, _, _, _, St, rfl, W c.A hh, ?_, st0, ?_, ⟨?_, ?_⟩, ?_⟩
  · show s.length ≤ sizeLine
    rw [sizeLine_eq]; omega
  · intro b hb
    rw [List.mem_singleton.mp hb]
    show h₂.objs.size < (h₂.push o).objs.size
    rw [Heap.size_push]; exact Nat.lt_succ_self _
  · intro C i v s₃ m₃ E' hC hP hn hm hk _
    exact ht C s₃ m₃ v i (up hk) hP hn hm s₃.toks E'
  · intro C i v s₃ m₃ E' hC hP hp hn hm hk _
    exact he C s₃ m₃ v i (up hk) hP hp hn hm s₃.heap (.refl _) s₃.toks _ _ fun y h₄ tk₄ g₄ f => ⟨f, h₄, tk₄, rfl, g₄⟩
  · intro D h' tk' ys vs hD hl hpl hlen hP hF hk
    refine hQ _ h' tk' (fun b o' e => hk b o' (fun q => by rw [List.mem_singleton] at q; exact absurd (Heap.lt_size (g₂ _ _ e)) (by rw [q]; exact Nat.lt_irrefl _)) (Heap.get?_push_of_some _ (g₂ _ _ e))) ⟨D, ys, vs, rfl, hpl, hlen, hP, hF, ?_⟩
    cases z : h.get? D with
    | none => rfl
    | some o' =>
      have : (h₂.push o).get? D = some o' := Heap.get?_push_of_some _ (g _ _ z)
      have hD : (h₂.push o).get? D = none := hD
      rw [hD] at this; cases this
theorem Ev.compList (p : Value → Bool) (F : Value → Value → Prop) (hh : c.A.handled = none) (hclos : closureFor scope c.env = pure cl) (hcell : ∀ y ∈ scope.names, y.2 ≠ .cell) (hkind : scope.kind = .function)
    (hnames : ∀ y ∈ scope.names, y.2 = .local → scope.names.lookup y.1 = some .local) (hx : scope.names.lookup x = some .local) {P : Value → Heap → Prop} (hi : Ev c h iter P)
    {G : Array Value → Heap → Prop} (hP : ∀ v h', P v h' → ∃ (ax : Addr) (items : Array Value), v = .ref ax ∧ h'.PlainList ax items ∧ items.size ≤ 2 ^ 20 ∧ G items h')
    (ht : ∀ (items : Array Value) C s₃ m₃ v (i : Nat) h₀, Grows h h₀ → G items h₀ → Grows h₀ s₃.heap → items[i]? = some v → s₃.heap.Ns C m₃ → m₃ x = some v → CTest (inComp c scope cl C s₃) s₃.heap ifs (p v))
    (he : ∀ (items : Array Value) C s₃ m₃ v (i : Nat) h₀, Grows h h₀ → G items h₀ → Grows h₀ s₃.heap → items[i]? = some v → p v = true → s₃.heap.Ns C m₃ → m₃ x = some v → Ev (inComp c scope cl C s₃) s₃.heap elt (fun y _ => F v y))
    (hs : ∀ x, foldedSetIterable iter c.env x = pure x := by intro _; rfl) :
    Ev c h (.ListComp elt [⟨.Name x px, iter, ifs, 0⟩] scope pos) (fun v h' => ∃ (D : Addr) (ys : Array Value) (items : Array Value) (h₀ : Heap), v = .ref D ∧ h'.PlainList D ys ∧ Grows h h₀ ∧ G items h₀ ∧ Grows h₀ h' ∧ Paired F (items.toList.filter p) ys.toList ∧ h.get? D = none) := by
  intro h₁ g₁ tk Q E hQ
  refine wpAny_ListComp_free p F hclos hcell hkind hnames hx (hi h₁ g₁ tk _ _ fun v h₂ tk₂ g₂ pv => ?_) hs
  obtain ⟨ax, items, rfl, pl, hsz, hG⟩ := hP v h₂ pv
  have g : Grows h h₂ := g₁.trans g₂
  have isl : h₂.IsList ax items := let ⟨n, e⟩ := pl; ⟨_, e, rfl, n, rfl⟩
  have nax : ax ≠ h₂.objs.size := let ⟨n, e⟩ := pl; Nat.ne_of_lt (Heap.lt_size e)
  refine wpAny_pyIter_list (s := c.st h₂ tk₂) isl ?_
  have up : ∀ {h₃ : Heap}, (∀ b o', b ∉ [h₂.objs.size] → (h₂.push { cls := .type "list_iterator", data := .fields #[.ref ax, .int 0 0] }).get? b = some o' → h₃.get? b = some o') → Grows h₂ h₃ := fun k b o' e =>
    k b o' (fun q => by rw [List.mem_singleton] at q; exact absurd (Heap.lt_size e) (by rw [q]; exact Nat.lt_irrefl _)) (Heap.get?_push_of_some _ e)
  refine ⟨_, _, _, _, _, _, rfl, Walks.list hh h₂.objs.size ax nax items, ?_, ⟨⟨_, Heap.get?_push_size _ rfl, rfl, rfl⟩, isl.push _⟩, ?_, ⟨?_, ?_⟩, ?_⟩
  · rw [sizeLine_eq]; omega
  · intro b hb
    simp only [List.mem_cons, List.not_mem_nil, or_false] at hb
    show b < (h₂.push _).objs.size
    rw [Heap.size_push]
    rcases hb with rfl | rfl
    · exact Nat.lt_succ_self _
    · obtain ⟨n, e⟩ := pl
      exact Nat.lt_succ_of_lt (Heap.lt_size e)
  · intro C i v s₃ m₃ E' hC hP hn hm hk _
    exact ht items C s₃ m₃ v i h₂ g hG (up hk) hP hn hm s₃.toks E'
  · intro C i v s₃ m₃ E' hC hP hp hn hm hk _
    exact he items C s₃ m₃ v i h₂ g hG (up hk) hP hp hn hm s₃.heap (.refl _) s₃.toks _ _ fun y h₄ tk₄ g₄ f => ⟨f, h₄, tk₄, rfl, g₄⟩
  · intro D h' tk' ys vs hD hl hpl hlen hP hF hk
    have ev : vs = items.toList := List.ext_getElem? fun j => by
      cases z : vs[j]? with
      | some v => rw [Array.getElem?_toList]; exact (hP j v z).symm
      | none =>
        rw [List.getElem?_eq_none_iff] at z
        rw [List.getElem?_eq_none_iff.mpr (by simp; omega)]
    rw [ev] at hF
    refine hQ _ h' tk' (g₂.trans (up hk)) ⟨D, ys, items, h₂, rfl, hpl, g, hG, up hk, hF, ?_⟩
    cases z : h.get? D with
    | none => rfl
    | some o' =>
      have : (h₂.push { cls := .type "list_iterator", data := .fields #[.ref ax, .int 0 0] }).get? D = some o' := Heap.get?_push_of_some _ (g _ _ z)
      have hD : (h₂.push { cls := .type "list_iterator", data := .fields #[.ref ax, .int 0 0] }).get? D = none := hD
      rw [hD] at this; cases this
end
end Mine
end

section
open PySem PySem.W PyProof.Rows PySem.Calls
set_option maxRecDepth 100000
set_option maxHeartbeats 4000000
set_option linter.unusedVariables false
namespace Mine
/-- a call of a def of the text that keeps a name in a cell -/
theorem call_fnC {c : Cx} {h : Heap} {f : Addr} {name qual : Str} {params : Arguments} {body : List Stmt} {scope : Scope} {vs : List Value} {binds : List (Str × Value)} {P : Value → Heap → Prop}
    (hf : FnAt h f name qual params body scope) (hlim : h.NoLimit) (hroom : c.A.depth < recursionLimit)
    (hbind : ∀ pm cd doc, bindArgs (fdOf name qual params body scope pm cd doc) ⟨vs, []⟩ = pure binds)
    (hkind : ∀ x ∈ binds, scope.names.lookup x.1 = some .local ∨ (scope.names.lookup x.1 = some .cell ∧ ((cellsFrom (h.objs.size + 1) scope.names []).lookup x.1).isSome = true))
    (k : ∀ (env : Env) h₁ tk, (∃ pm cd doc, env = callEnvC (fdOf name qual params body scope pm cd doc) h.objs.size f) → InCallC (c.st h 0) env.locals (bindL env.kindOf binds fun _ => none) env.cells (bindC env.kindOf binds fun _ => none) (c.st h₁ tk) →
      wpAny c.M (c.A.deeper env) (execs body env) (fun fl s' => ∃ h₂ tk', s' = c.st h₂ tk' ∧ Grows h h₂ ∧ P (match fl with | .ret v => v | _ => .none) h₂) (fun _ _ => False) (c.st h₁ tk))
    (hco : scope.isCoroutine = false := by rfl) (hgen : scope.isGenerator = false := by rfl) (hk : scope.kind = .function := by rfl) :
    Go c h (call (.ref f) vs) P := by
  intro tk Q E hQ
  obtain ⟨o, pm, cd, doc, ho, hd, hcd⟩ := hf
  refine wpAny_call (codeAny_call_cells (s := c.st h tk) hroom ho hd hlim hcd rfl (hbind pm cd doc) rfl hkind (fun s₁ x => ?_) hco hgen hk)
  obtain ⟨h₁, tk₁, rfl, _⟩ := x.done
  refine wpAny_mono (k _ h₁ tk₁ ⟨pm, cd, doc, rfl⟩ ⟨⟨⟨h₁, tk₁, rfl⟩, x.toInCall.ns, x.toInCall.keep, x.toInCall.fresh⟩, x.cell, x.apart, x.above⟩) (fun fl s' ⟨h₂, tk', e, g, p⟩ => ?_) fun _ _ z => z.elim
  subst e
  exact hQ _ h₂ tk' g p
theorem Ev.cell {c : Cx} {h : Heap} {x : Str} {v : Value} {a : Addr} {pos : Pos} (hv : h.IsCell a (some v)) (hc : c.env.cells.lookup x = some a) (hk : c.env.scope.kind = .function := by rfl) (hl : c.env.kindOf x = some .cell := by rfl)
    (hd : (x == ("__debug__" : Str)) = false := by decide) : Ev c h (.Name x pos) (IsV v) :=
  fun h₁ g₁ tk Q E hQ => wpAny_Name (wpAny_loadName_cell hk hl hc (hv.keeps g₁) (hQ v h₁ tk (.refl _) rfl)) hd
theorem Ev.cellS {c : Cx} {h : Heap} {x y : Str} {t : Tok} {a : Addr} {pos : Pos} (hv : h.IsCell a (some (.str y t))) (hc : c.env.cells.lookup x = some a) (hk : c.env.scope.kind = .function := by rfl) (hl : c.env.kindOf x = some .cell := by rfl)
    (hd : (x == ("__debug__" : Str)) = false := by decide) : Ev c h (.Name x pos) (IsS y) := (Ev.cell hv hc hk hl hd).mono fun _ _ e => ⟨t, e⟩
def vowsL : Str := "aeiou"
def posL (w : Str) : List Int := (vowsL.cps.toList.map fun n => Txt.find w ⟨#[n]⟩).filter fun p => decide (p > -1)
/-- what the search for the first vowel answers -/
def IsFV (w : Str) (v : Value) : Prop := ∃ M t, M ∈ posL w ∧ (∀ a ∈ posL w, M ≤ a) ∧ v = .int (if 0 < Txt.find w "y" ∧ Txt.find w "y" < M then Txt.find w "y" else M) t
abbrev fvEnv (pm cd doc : Value) (L f : Addr) : Env := callEnvC (fdOf "first_vowel" "PaiceHuskStemmer.first_vowel" (fnParams (atCls 4 2)) (fnBody (atCls 4 2)) (fnScope (atCls 4 2)) pm cd doc) L f
def valOf1 : List Stmt → Expr
  | .Assign _ e _ :: _ => e
  | _ => default
def isPos : Value → Bool
  | .int i _ => decide (i > -1)
  | _ => false
def FindF (word : Str) (v y : Value) : Prop := ∃ n u t, v = .str ⟨#[n]⟩ u ∧ y = .int (Txt.find word ⟨#[n]⟩) t
def FindsOf (word : Str) (items : Array Value) : Prop := IntsAre items.toList (vowsL.cps.toList.map fun n => Txt.find word ⟨#[n]⟩)
theorem finds_of {word : Str} : ∀ (l : List Nat) (vs ys : List Value), vs.length = l.length → (∀ (j : Nat) v, vs[j]? = some v → ∃ n u, l[j]? = some n ∧ v = .str ⟨#[n]⟩ u) → Paired (FindF word) vs ys → IntsAre ys (l.map fun n => Txt.find word ⟨#[n]⟩)
  | [], [], _, _, _, .nil => .nil
  | a :: l, v :: vs, _, hl, h, .cons (b := y) hf p => by
    obtain ⟨n, u, e1, e2⟩ := h 0 v rfl
    obtain rfl : a = n := by simpa using e1
    obtain ⟨n', u', t, e3, rfl⟩ := hf
    rw [e2] at e3
    obtain ⟨rfl, -⟩ : a = n' ∧ u = u' := by simpa using e3
    exact .cons _ t (finds_of l vs _ (by simpa using hl) (fun j v e => h (j + 1) v (by simpa using e)) p)
theorem ints_get : ∀ {vs : List Value} {ns : List Int} {i : Nat} {v : Value}, IntsAre vs ns → vs[i]? = some v → ∃ k t, v = .int k t
  | _, _, 0, _, .cons n t _, e => ⟨n, t, by simpa using e.symm⟩
  | _, _, i + 1, _, .cons n t h, e => ints_get (i := i) h (by simpa using e)
theorem ints_filter : ∀ {vs ys : List Value} {ns : List Int}, IntsAre vs ns → Paired (fun v y => y = v) (vs.filter isPos) ys → IntsAre ys (ns.filter fun p => decide (p > -1))
  | _, _, _, .nil, .nil => .nil
  | _, _, _, .cons n t h, p => by
    rw [List.filter_cons] at p ⊢
    rw [show isPos (.int n t) = decide (n > -1) from rfl] at p
    split at p
    · rename_i hb
      rw [if_pos hb]
      cases p with
      | cons e p => subst e; exact .cons n t (ints_filter h p)
    · rename_i hb
      rw [if_neg hb]
      exact ints_filter h p
theorem min_go {c : Cx} {h : Heap} {l : Addr} {ys : Array Value} {ns : List Int} (hh : c.A.handled = none) (hl : h.IsList l ys) (hi : IntsAre ys.toList ns) (hne : 0 < ns.length) :
    Go c h (call (.builtin "min") [.ref l]) (fun v _ => ∃ M t, M ∈ ns ∧ (∀ a ∈ ns, M ≤ a) ∧ v = .int M t) := by
  intro tk Q E hQ
  obtain ⟨xs, e⟩ := hi.allInts.items
  have hns : ns = xs.toList.map (·.1) := by rw [← hi.numsOf, ← nums_intItems, ← e]
  have hsz : 0 < xs.size := by
    have h3 := hne; rw [hns, List.length_map, Array.length_toList] at h3; exact h3
  have e' : ys = intItems xs := by rw [← e]
  rw [e'] at hl
  refine min_intList (s := c.st h tk) hh hl hsz fun v h' tk' hv hk => ?_
  obtain ⟨t, rfl⟩ := intItems_at hv
  obtain ⟨h1, h2⟩ := argBest_lt (numAt xs) (xs.size - 1)
  refine hQ _ h' tk' hk ⟨_, t, ?_, fun a ha => ?_, rfl⟩
  · rw [hns, numAt_eq]; exact getD_mem (by rw [List.length_map, Array.length_toList]; omega)
  · rw [hns] at ha
    obtain ⟨j, hj, rfl⟩ := mem_getD ha
    rw [List.length_map, Array.length_toList] at hj
    rw [← numAt_eq]; exact h2 j (by omega)
theorem vp_ev {c' : Cx} {h h₁ : Heap} {mg mb m : Str → Option Value} {pm cd doc : Value} {L f : Addr} {word : Str} {tt : Tok} (hh : c'.A.handled = none) (G : Gl h₁ mg mb) (hmin : mg "min" = none) (F₁ : Fr h L h₁ m) (W₁ : h₁.IsCell (L + 1) (some (.str word tt))) (hw : word.length ≤ 2 ^ 20) (hp : 0 < (posL word).length) (he : c'.env = fvEnv pm cd doc L f) :
    Ev c' h₁ (valOf1 (fnBody (atCls 4 2))) (fun v _ => ∃ M t, M ∈ posL word ∧ (∀ a ∈ posL word, M ≤ a) ∧ v = .int M t) := by
  obtain ⟨w, A, g, dr, os, env⟩ := c'
  obtain rfl : env = fvEnv pm cd doc L f := he
  let c' : Cx := ⟨w, A, g, dr, os, fvEnv pm cd doc L f⟩
  refine Ev.callB (c := c') (Ev.blt G hmin rfl) (Evs.cons (Ev.compList (c := c') (cl := []) isPos (fun v y => y = v) (P := fun v h' => ∃ (D : Addr) (ys : Array Value) (vs : List Value), v = .ref D ∧ h'.PlainList D ys ∧ vs.length = vowsL.length ∧ (∀ j v, vs[j]? = some v → SignAt vowsL j v) ∧ Paired (FindF word) (vs.filter fun _ => true) ys.toList ∧ h₁.get? D = none)
    (G := fun items _ => FindsOf word items) hh rfl ?_ rfl ?_ rfl (Ev.compStr (c := c') (cl := [("word", L + 1)]) (fun _ => true) (FindF word) hh rfl ?_ rfl ?_ rfl Ev.str ?_ ?_ ?_) ?_ ?_ ?_) Evs.nil ?_) ?_
  · decide
  · decide
  · decide
  · decide
  · decide +kernel
  · exact fun C s₃ m₃ v i g₃ sg hn hm => CTest.nil
  · rintro C s₃ m₃ v i g₃ ⟨n, u, sg, rfl⟩ _ hn hm
    exact (Ev.find (Ev.cellS (W₁.keeps g₃) rfl) (Ev.locS hn hm)).mono fun y h ⟨t, e⟩ => ⟨n, u, t, rfl, e⟩
  · rintro v h' ⟨D, ys, vs, rfl, pl, hlen, hsg, hpr, _⟩
    have hf : FindsOf word ys := finds_of vowsL.cps.toList vs ys.toList hlen (fun j v e => by
      obtain ⟨n, u, e1, e2⟩ := hsg j v e
      exact ⟨n, u, by rw [Array.getElem?_toList]; exact e1, e2⟩) (by rw [List.filter_eq_self.mpr (fun _ _ => rfl)] at hpr; exact hpr)
    refine ⟨D, ys, rfl, pl, ?_, hf⟩
    have := hpr.length
    rw [List.filter_eq_self.mpr (fun _ _ => rfl), hlen, Array.length_toList] at this
    rw [← this]; decide +kernel
  · rintro items C s₃ m₃ v i h₀ g0 hG g1 hv hn hm
    obtain ⟨k, t, rfl⟩ := ints_get hG (by rw [Array.getElem?_toList]; exact hv)
    exact CTest.one (Ts.cmp (Ev.locI hn hm) (Ev.neg Ev.int) (up_i _) cmp_gt)
  · exact fun items C s₃ m₃ v i h₀ g0 hG g1 hv hp hn hm => Ev.loc hn hm
  · rintro v h h' g ⟨D, ys, items, h₀, e, pl, r⟩
    exact ⟨D, ys, items, h₀, e, let ⟨n, q⟩ := pl; ⟨n, g _ _ q⟩, r.1, r.2.1, r.2.2.1.trans g, r.2.2.2⟩
  · rintro vs h' g ⟨v, r, rfl, ⟨D, ys, items, h₀, rfl, ⟨n, pl⟩, g0, hG, g1, pr, hn⟩, rfl⟩
    refine min_go (c := c') hh ⟨_, pl, rfl, n, rfl⟩ ?_ hp
    exact ints_filter hG pr
theorem first_vowel {c : Cx} {h : Heap} {mg mb : Str → Option Value} {f x : Addr} {word : Str} {tt : Tok} (G : Gl h mg mb) (hmin : mg "min" = none) (hroom : c.A.depth < 900) (hh : c.A.handled = none) (hf : FnSt h f "PaiceHuskStemmer.first_vowel" (atCls 4 2)) (hw : word.length ≤ 2 ^ 20) (hp : 0 < (posL word).length) :
    Go c h (call (.ref f) [.ref x, .str word tt]) (fun v _ => IsFV word v) := by
  refine call_fnC (binds := [("self", .ref x), ("word", .str word tt)]) hf G.nolimit (by rw [rec_lim]; omega) (fun _ _ _ => by with_unfolding_all rfl) ?_ ?_
  · intro y hy
    simp only [List.mem_cons, List.not_mem_nil, or_false] at hy
    rcases hy with rfl | rfl
    · exact .inl rfl
    · exact .inr ⟨rfl, rfl⟩
  rintro env h₁ tk ⟨pm, cd, doc, rfl⟩ x₁
  generalize hA : c.A.deeper _ = A'
  have hh' : A'.handled = none := by rw [← hA]; exact hh
  let c' : Cx := ⟨c.w, A', c.g, c.dr, c.os, callEnvC (fdOf "first_vowel" "PaiceHuskStemmer.first_vowel" (fnParams (atCls 4 2)) (fnBody (atCls 4 2)) (fnScope (atCls 4 2)) pm cd doc) h.objs.size f⟩
  have F₁ : Fr h h.objs.size h₁ _ := ⟨x₁.toInCall.ns, x₁.toInCall.keep, x₁.toInCall.fresh⟩
  have W₁ : h₁.IsCell (h.objs.size + 1) (some (.str word tt)) := x₁.cell "word" _ rfl
  have nL : h.objs.size + 1 ≠ h.objs.size := Nat.succ_ne_self _
  -- vp
  refine ex_assign (c := c') (P := fun v _ => ∃ M t, M ∈ posL word ∧ (∀ a ∈ posL word, M ≤ a) ∧ v = .int M t) F₁ ?_ ?_
  · exact vp_ev hh' (G.keeps F₁.keep) hmin F₁ W₁ hw hp rfl
  rintro v h₂ h₃ tk₃ g₂ ⟨M, t, hM, hmn, rfl⟩ sb F₃
  have W₃ : h₃.IsCell (h.objs.size + 1) (some (.str word tt)) := (W₁.keeps g₂).sameBut sb nL
  -- yp
  refine ex_assign (c := c') (P := IsI (Txt.find word "y")) F₃ (Ev.find (Ev.cellS W₃ rfl) Ev.str) ?_
  rintro v h₄ h₅ tk₅ g₄ ⟨t2, rfl⟩ sb₅ F₅
  obtain ⟨m5, F₅, n1, n2⟩ : ∃ m5, Fr h h.objs.size h₅ m5 ∧ m5 "yp" = some (.int (Txt.find word "y") t2) ∧ m5 "vp" = some (.int M t) := ⟨_, F₅, upd_eq, upd_ne (by decide) upd_eq⟩
  refine ex_if (c := c') (b := decide (0 < Txt.find word "y") && (decide (Txt.find word "y" < M) && true)) (Ts.and (Ts.cmp (Ev.locI F₅.ns n1) Ev.int (up_i _) cmp_gt) (fun _ => Ts.and (Ts.cmp (Ev.locI F₅.ns n1) (Ev.locI F₅.ns n2) (up_i _) cmp_lt) fun _ => Ts.andNil)) ?_
  intro h₆ tk₆ g₆
  have F₆ := F₅.after g₆
  rw [Bool.and_true]
  cases hb : (decide (0 < Txt.find word "y") && decide (Txt.find word "y" < M)) with
  | true =>
    refine ex_return (c := c') (Ev.locI F₆.ns n1) ?_
    rintro v h₇ tk₇ g₇ ⟨t7, rfl⟩
    simp only [Bool.and_eq_true, decide_eq_true_eq] at hb
    exact ⟨h₇, tk₇, rfl, (F₆.after g₇).keep, M, t7, hM, hmn, by rw [if_pos hb]⟩
  | false =>
    refine ex_nil (c := c') (ex_return (c := c') (Ev.locI F₆.ns n2) ?_)
    rintro v h₇ tk₇ g₇ ⟨t7, rfl⟩
    refine ⟨h₇, tk₇, rfl, (F₆.after g₇).keep, M, t7, hM, hmn, ?_⟩
    rw [if_neg]
    intro z
    rw [decide_eq_true z.1, decide_eq_true z.2] at hb
    cases hb
end Mine
end

section
open PySem PySem.W PyProof.Rows PySem.Calls PySem.StrLaws PySem.Builtin PySem.Builtin.Str
set_option maxRecDepth 100000
set_option maxHeartbeats 4000000
set_option linter.unusedVariables false
namespace Mine
theorem occ_full (x : Str) (c : Nat) (a : Nat) : ∀ (n k : Nat) (st : Array Nat × Nat), st.1 = #[a] → (forIn (List.range' k n) st (occBody x ⟨#[c]⟩ x.length 1)).run.fst = #[a]
  | 0, k, st, h => h
  | n + 1, k, st, h => by
    rw [List.range'_succ, List.forIn_cons]
    have e : occBody x ⟨#[c]⟩ x.length 1 k st = pure (ForInStep.yield st) := by
      unfold occBody
      exact if_neg fun z => by have := z.1.1.1; rw [h] at this; simp at this
    rw [e]
    exact occ_full x c a n (k + 1) st h
theorem occ_pos1 (x : Str) (c : Nat) : ∀ (n k : Nat) (f : Nat), n + k = x.length + 1 → f ≤ k →
    (forIn (List.range' k n) ((#[], f) : Array Nat × Nat) (occBody x ⟨#[c]⟩ x.length 1)).run.fst.toList = (posOf c (x.cps.toList.drop k) k).take 1
  | 0, k, f, h, h2 => by
    rw [List.drop_eq_nil_of_le (by simp only [Array.length_toList]; show x.length ≤ k; omega)]
    rfl
  | n + 1, k, f, h, h2 => by
    rw [List.range'_succ, List.forIn_cons]
    by_cases hk : k < x.cps.toList.length
    · have hk' : k < x.length := hk
      have ha := subAt_one x c k hk
      rw [List.drop_eq_getElem_cons hk, posOf]
      generalize x.cps.toList[k] = z at ha ⊢
      by_cases hc : z = c
      · have e : occBody x ⟨#[c]⟩ x.length 1 k (#[], f) = pure (ForInStep.yield (#[k], k + 1)) := by
          unfold occBody
          exact if_pos ⟨⟨⟨Nat.zero_lt_one, h2⟩, by show k + 1 ≤ _; omega⟩, by rw [ha]; exact decide_eq_true hc⟩
        rw [e, if_pos hc]
        have := occ_full x c k n (k + 1) (#[k], k + 1) rfl
        refine Eq.trans (congrArg Array.toList this) ?_
        simp
      · have e : occBody x ⟨#[c]⟩ x.length 1 k (#[], f) = pure (ForInStep.yield (#[], f)) := by
          unfold occBody
          exact if_neg fun z => by rw [ha] at z; exact hc (of_decide_eq_true z.2)
        rw [e, if_neg hc]
        exact occ_pos1 x c n (k + 1) f (by omega) (by omega)
    · have hk' : ¬ k < x.length := hk
      have e : occBody x ⟨#[c]⟩ x.length 1 k (#[], f) = pure (ForInStep.yield (#[], f)) := by
        unfold occBody
        exact if_neg fun z => by have := z.1.2; change k + 1 ≤ x.length at this; omega
      rw [e]
      refine Eq.trans (occ_pos1 x c n (k + 1) f (by omega) (by omega)) ?_
      rw [List.drop_eq_nil_of_le (show x.cps.toList.length ≤ k + 1 by omega), List.drop_eq_nil_of_le (show x.cps.toList.length ≤ k by omega)]
      rfl
theorem posOf_facts (c : Nat) : ∀ (l : List Nat) (k : Nat), match posOf c l k with
    | [] => c ∉ l
    | i :: _ => k ≤ i ∧ c ∈ l ∧ (i = k ↔ l.head? = some c)
  | [], k => by simp [posOf]
  | d :: l, k => by
    rw [posOf]
    by_cases hd : d = c
    · rw [if_pos hd]; subst hd; simp
    · rw [if_neg hd]
      have ih := posOf_facts c l (k + 1)
      cases hp : posOf c l (k + 1) with
      | nil => rw [hp] at ih; dsimp only at ih ⊢; simp only [List.mem_cons, not_or]; exact ⟨fun e => hd e.symm, ih⟩
      | cons i r =>
        rw [hp] at ih
        dsimp only at ih ⊢
        refine ⟨by omega, List.mem_cons_of_mem _ ih.2.1, ?_⟩
        constructor
        · intro e; omega
        · intro e
          rw [List.head?_cons] at e
          exact absurd (Option.some.inj e) hd
theorem find_facts (w : Str) (c : Nat) : (c ∉ w.cps.toList ∧ Txt.find w ⟨#[c]⟩ = -1) ∨ (c ∈ w.cps.toList ∧ 0 ≤ Txt.find w ⟨#[c]⟩ ∧ (Txt.find w ⟨#[c]⟩ = 0 ↔ w.cps.toList.head? = some c)) := by
  have h : occurrences w ⟨#[c]⟩ 0 w.length 1 = (posOf c w.cps.toList 0).take 1 := by
    rw [occ_eq]
    have := occ_pos1 w c (w.length + 1) 0 0 rfl (Nat.le_refl _)
    simpa using this
  have f := posOf_facts c w.cps.toList 0
  unfold Txt.find
  rw [h]
  cases hp : posOf c w.cps.toList 0 with
  | nil => rw [hp] at f; exact .inl ⟨f, rfl⟩
  | cons i r =>
    rw [hp] at f
    dsimp only at f
    refine .inr ⟨f.2.1, by simp, ?_⟩
    show ((i : Nat) : Int) = 0 ↔ _
    rw [← f.2.2]
    omega
theorem isVow_mem (n : Nat) : isVow n = true ↔ n ∈ vowsL.cps.toList := by
  have e : vowsL.cps.toList = [97, 101, 105, 111, 117] := by decide +kernel
  rw [e]
  simp only [isVow, Bool.or_eq_true, beq_iff_eq, List.mem_cons, List.not_mem_nil, or_false]
  omega
theorem posL_voiced {w : Str} (h : voiced w = true) : 0 < (posL w).length := by
  obtain ⟨n, hn, hv⟩ := List.any_eq_true.mp h
  apply List.length_pos_of_mem (a := Txt.find w ⟨#[n]⟩)
  unfold posL
  rw [List.mem_filter]
  refine ⟨List.mem_map.mpr ⟨n, (isVow_mem n).mp hv, rfl⟩, decide_eq_true ?_⟩
  rcases find_facts w n with ⟨q, _⟩ | ⟨_, q, _⟩
  · exact absurd hn q
  · omega
/-- the place of the first vowel is the front when the front is a vowel -/
theorem fv_facts {w : Str} {v : Value} (hw : voiced w = true) (h : IsFV w v) : ∃ k t, v = .int k t ∧ 0 ≤ k ∧ (k = 0 ↔ isVow (w.cps.getD 0 0) = true) := by
  obtain ⟨M, t, hM, hmin, rfl⟩ := h
  have hpos : ∀ a ∈ posL w, 0 ≤ a := fun a ha => by
    have := (List.mem_filter.mp ha).2
    have := of_decide_eq_true this
    omega
  have hd : w.cps.toList.head? = w.cps[0]? := by rw [List.head?_eq_getElem?, Array.getElem?_toList]
  have h0 : M = 0 ↔ isVow (w.cps.getD 0 0) = true := by
    constructor
    · intro e
      obtain ⟨hm, _⟩ := List.mem_filter.mp hM
      obtain ⟨n, hn, e2⟩ := List.mem_map.mp hm
      rcases find_facts w n with ⟨_, q⟩ | ⟨_, _, q⟩
      · omega
      · have := q.mp (by omega)
        rw [hd] at this
        rw [Array.getD_eq_getD_getElem?, this]
        exact (isVow_mem n).mpr hn
    · intro hv
      have hne : 0 < w.cps.size := by
        rcases Nat.eq_zero_or_pos w.cps.size with q | q
        · exfalso
          rw [voiced, Array.toList_eq_nil_iff.mpr (Array.eq_empty_of_size_eq_zero q)] at hw
          cases hw
        · exact q
      have e0 : w.cps[0]? = some (w.cps.getD 0 0) := by rw [Array.getD_eq_getD_getElem?, Array.getElem?_eq_getElem hne]; rfl
      generalize w.cps.getD 0 0 = n at hv e0
      have hn := (isVow_mem n).mp hv
      have hmem : n ∈ w.cps.toList := by
        rw [← hd] at e0
        exact List.mem_of_mem_head? e0
      rcases find_facts w n with ⟨q, _⟩ | ⟨_, q0, q⟩
      · exact absurd hmem q
      · have z : Txt.find w ⟨#[n]⟩ = 0 := q.mpr (hd.trans e0)
        have := hmin _ (List.mem_filter.mpr ⟨List.mem_map.mpr ⟨n, hn, rfl⟩, decide_eq_true (by omega)⟩)
        have := hpos M hM
        omega
  refine ⟨_, t, rfl, ?_, ?_⟩
  · split
    · rename_i z; exact Int.le_of_lt z.1
    · exact hpos M hM
  · split
    · rename_i z
      constructor
      · intro e; omega
      · intro e; have := h0.mpr e; omega
    · exact h0
end Mine
end

section
open PySem PySem.W PyProof.Rows PySem.Calls PySem.StrLaws
set_option maxRecDepth 100000
set_option maxHeartbeats 4000000
set_option linter.unusedVariables false
namespace Mine
theorem slice_eq (x : Str) (l u : Option Int) : Txt.slice x l u = sliceText x l u := rfl
theorem len_list (x : Str) : x.cps.toList.length = x.length := rfl
theorem cut_neg (x : Str) (n : Int) (h1 : 1 ≤ n) (h2 : n ≤ x.length) : Txt.slice x none (some (0 - n)) = Txt.slice x none (some ((x.length : Int) - n)) := by
  rw [slice_eq, slice_eq, sliceText_neg_hi x none (by omega) (by omega)]
  congr 2
  omega
theorem slice_to {x : Str} {j : Int} (h1 : 0 ≤ j) (h2 : j ≤ x.length) : Txt.slice x none (some j) = toS (x.cps.toList.take j.toNat) := by
  rw [slice_eq, sliceText_to ⟨h1, by rw [len_list]; exact h2⟩]
  show toS _ = toS _
  congr 1
  rw [List.drop_zero]
  congr 1
  omega
theorem slice_from {x : Str} {i : Int} (h1 : 0 ≤ i) (h2 : i ≤ x.length) : (Txt.slice x (some i) none).cps.toList = x.cps.toList.drop i.toNat := by
  rw [slice_eq, sliceText_from ⟨h1, by rw [len_list]; exact h2⟩]
  show (x.cps.toList.drop i.toNat).take _ = _
  rw [List.take_of_length_le]
  rw [List.length_drop, len_list]
  first | omega | (simp only [len_list]; omega)
theorem toS_self (x : Str) : toS x.cps.toList = x := by
  apply Str.ext'
  apply Array.toList_inj.mp
  rfl
theorem slice_whole (x : Str) : Txt.slice x none (some (x.length : Int)) = x := by
  rw [slice_to (Int.natCast_nonneg _) (Int.le_refl _), Int.toNat_natCast, ← len_list, List.take_length, toS_self]
/-- what each row of the law keeps to -/
def rowOk (u : Rule) : Bool := Nat.blt 0 u.e.length && decide (0 ≤ u.n) && decide (u.n ≤ u.e.length) && (decide (u.a.length ≤ u.n)) && Nat.ble u.e.length 20
theorem rows_ok : (lawRules.all rowOk) = true := by kernel_rfl
theorem row_ok {u : Rule} (h : u ∈ lawRules) : 0 < u.e.length ∧ 0 ≤ u.n ∧ u.n ≤ u.e.length ∧ (u.a.length : Int) ≤ u.n ∧ u.e.length ≤ 20 := by
  have := List.all_eq_true.mp rows_ok u h
  simp only [rowOk, Bool.and_eq_true, decide_eq_true_eq] at this
  exact ⟨Nat.le_of_ble_eq_true this.1.1.1.1, this.1.1.1.2, this.1.1.2, this.1.2, Nat.le_of_ble_eq_true this.2⟩
theorem ends_len {w e : Str} (h : Txt.endswith w e = true) : e.length ≤ w.length := by
  unfold Txt.endswith at h
  rw [Bool.and_eq_true] at h
  have := of_decide_eq_true h.1
  omega
theorem append_len (x y : Str) : (x ++ y).length = x.length + y.length := by
  show (x ++ y).cps.size = _
  rw [Str.cps_append, Array.size_append]; rfl
/-- a rule never makes a word longer -/
theorem next_len {w : Str} {u : Rule} (hu : u ∈ lawRules) (he : Txt.endswith w u.e = true) : (nextWord w u).length ≤ w.length := by
  obtain ⟨h1, h2, h3, h4, h5⟩ := row_ok hu
  have hl := ends_len he
  unfold nextWord
  rw [append_len, slice_to (by omega) (by omega)]
  show (w.cps.toList.take _).length + _ ≤ _
  rw [List.length_take, len_list]
  omega
end Mine
end

section
open PySem PySem.W PyProof.Rows PySem.Calls
set_option maxRecDepth 100000
set_option maxHeartbeats 4000000
set_option linter.unusedVariables false
namespace Mine
theorem Ev.dictGet {c : Cx} {h : Heap} {o i : Expr} {apos pos : Pos} {d : Addr} {kvs : List (Str × Value)} {x : Str} {pl : Sem Bool} (ho : Ev c h o (IsV (.ref d))) (hi : Ev c h i (IsS x)) (hd : h.DictOf (strKind pw c.w) d kvs) (hds : (d == sysModules) = false)
    (h1 : eval (.Call (.Attribute o "get" apos) [i] [] pos) c.env = (do
      let ov ← eval o c.env
      standAt apos.atName
      let (f, first) ← holding [ov] (getMethod ov "get" pl)
      callWith pos f first (backTo pos (starEach [i] c.env)) []) := by rfl)
    (hs : starEach [i] c.env = (false, eval i c.env) :: starEach [] c.env := by rfl) :
    Ev c h (.Call (.Attribute o "get" apos) [i] [] pos) (IsV ((valueAt kvs x).getD .none)) :=
  Ev.meth ho (up_v _) (fun ov h₁ g e pl tk Q E hQ => by
    obtain rfl : ov = .ref d := e
    have hd := hd.keep g
    exact getMethod_builtin (s := c.st h₁ tk) hd.typeIs PySem.F.plainAttrs_dict PySem.F.slot_dict_get PySem.F.type_dict_get hd.mapOf.noDict hQ) (Evs.cons hi Evs.nil (up_s _) hs) (fun ov vs h₁ g e ⟨v, r, e1, ⟨t2, e2⟩, e3⟩ tk Q E hQ => by
    obtain rfl : ov = .ref d := e
    subst e1 e2 e3
    have hd := hd.keep g
    exact call_meetsIn (s := c.st h₁ tk) PySem.F.slot_dict_get hd.typeIs PySem.F.entry_dict_get (PySem.F.args_dict_get_2 _ _) (meets_dict_get (strKind pw c.w) d (strKind_is pw c.w x t2) hds) ⟨_, hd.mapOf, hQ _ _ _ (.refl _) rfl⟩) h1 hs
end Mine
end

section
open PySem PySem.W PyProof.Rows PySem.Calls
set_option maxRecDepth 100000
set_option maxHeartbeats 4000000
set_option linter.unusedVariables false
namespace Mine
/-- a method of the stemmer called through its object -/
theorem Ev.inst {c : Cx} {h h₀ : Heap} {P : Params} {m : Str → Option Value} {o e : Expr} {name : Str} {apos pos : Pos} {f x dx : Addr} {es : List DictEntry} {n : Nat} {pl : Sem Bool} {Pa R : Value → Heap → Prop} (F : Fr h₀ c.env.locals h m) (KI : Frag.In (clsK P) h₀)
    (ho : Ev c h o (IsV (.ref x))) (hx : h.get? x = some (instObj 78 dx)) (hdx : h.get? dx = some (dictOf es n)) (hes : getL name es = some none) (hm : findIn (clsK P) (.ref 78) name = some (some (.ref f))) (hfn : isFn (clsK P) (.ref f) = true)
    (ha : Ev c h e Pa) (up : Up Pa) (hobj : ∃ o fd, h₀.get? f = some o ∧ o.data = .func fd) (hb : ∀ v h₁, Grows h h₁ → Pa v h₁ → Go c h₁ (call (.ref f) [.ref x, v]) R)
    (h1 : eval (.Call (.Attribute o name apos) [e] [] pos) c.env = (do
      let ov ← eval o c.env
      standAt apos.atName
      let (f, first) ← holding [ov] (getMethod ov name pl)
      callWith pos f first (backTo pos (starEach [e] c.env)) []) := by rfl)
    (hs : starEach [e] c.env = (false, eval e c.env) :: starEach [] c.env := by rfl) :
    Ev c h (.Call (.Attribute o name apos) [e] [] pos) R := by
  intro h₁ g₁ tk Q E hQ
  obtain ⟨ob, fd, ho0, hd0⟩ := hobj
  refine MethodCall_ (ho h₁ g₁ tk _ _ fun ov h₂ tk₂ g₂ e => ?_) h1
  obtain rfl : ov = .ref x := e
  have g := g₁.trans g₂
  have F₂ := F.after g
  refine method_inst (s := c.st h₂ tk₂) F₂ KI ⟨g _ _ hx, rfl, rfl, g _ _ hdx⟩ (k_get P _) hm hfn hes ?_
  refine callWith_inst (c := c) (o := ob) hd0 (Evs.cons (ha.up g) Evs.nil up hs) hs fun vs h₃ tk₃ g₃ pv => ?_
  obtain ⟨v, r, rfl, pv, rfl⟩ := pv
  refine ⟨(F₂.after g₃).keep _ _ ho0, ?_⟩
  exact hb v h₃ (g.trans g₃) pv tk₃ Q E fun v' h₄ tk₄ g₄ p => hQ v' h₄ tk₄ ((g₂.trans g₃).trans g₄) p
end Mine
end

section
open PySem PySem.W PyProof.Rows PySem.Calls
set_option maxRecDepth 100000
set_option maxHeartbeats 4000000
set_option linter.unusedVariables false
namespace Mine
/-- what the stemmer's methods lean on -/
structure Sd (w : World) (h : Heap) (mg mb : Str → Option Value) (x dx R : Addr) : Prop where
  rd : Rd h mg mb
  min : mg "min" = none
  K : Frag.In (clsK w.params) h
  f61 : FnSt h 61 "PaiceHuskStemmer.first_vowel" (atCls 4 2)
  f68 : FnSt h 68 "PaiceHuskStemmer.strip_prefix" (atCls 4 3)
  st : StemAt w h x dx R theTable
  Rs : (R == sysModules) = false
theorem obj_of {h : Heap} {f : Addr} {name qual : Str} {params : Arguments} {body : List Stmt} {scope : Scope} (x : FnAt h f name qual params body scope) : ∃ o fd, h.get? f = some o ∧ o.data = .func fd := let ⟨o, _, _, _, a, b, _⟩ := x; ⟨o, _, a, b⟩
theorem due_voiced {n : Nat} {w d : Str} {i : Bool} (h : due n w i = some d) : voiced w = true := by
  cases n with
  | zero => cases h
  | succ n =>
    unfold due at h
    cases hv : voiced w with
    | true => rfl
    | false => rw [hv, if_pos rfl] at h; cases h
theorem Ts.list {c : Cx} {h : Heap} {e : Expr} {l : Addr} {items : Array Value} (hv : Ev c h e (IsV (.ref l))) (hl : h.PlainList l items) (hn : items.size ≤ 2 ^ 20)
    (he : isTrue e c.env (eval e c.env) = (do let v ← eval e c.env; standAt e.pos; holding [v] (truthy v)) := by rfl) : Ts c h e (!items.isEmpty) :=
  fun h₁ g₁ tk Q E hQ => isTrue_plain (hv h₁ g₁ tk _ _ fun v h₂ tk₂ g₂ e1 => by
    obtain rfl : v = .ref l := e1
    obtain ⟨n, q⟩ := hl
    exact wpAny_truthy_list (s := c.st h₂ tk₂) ⟨_, (g₁.trans g₂) _ _ q, rfl, n, rfl⟩ (by omega) (hQ h₂ _ g₂)) he
theorem Ts.none {c : Cx} {h : Heap} {e : Expr} (hv : Ev c h e (IsV .none))
    (he : isTrue e c.env (eval e c.env) = (do let v ← eval e c.env; standAt e.pos; holding [v] (truthy v)) := by rfl) : Ts c h e false :=
  fun h₁ g₁ tk Q E hQ => isTrue_plain (hv h₁ g₁ tk _ _ fun v h₂ tk₂ g₂ e1 => by
    obtain rfl : v = .none := e1
    exact wpAny_pure (hQ h₂ _ g₂)) he
section
variable {c : Cx} {h : Heap} {m : Str → Option Value} {pos : Pos} {e : Expr} {P : Value → Heap → Prop} {rest : List Stmt} {Q : Flow → Shared → Prop} {E : Value → Shared → Prop} {tk : Nat} {h₀ : Heap}
/-- a for over a list of tuples, each taken apart -/
theorem ex_forP {elts : List Expr} {x1 : Nat} {tp : Pos} {iter : Expr} {body : List Stmt} (F : Fr h₀ c.env.locals h m)
    (hi : Ev c h iter P) (hh : c.A.handled = none)
    (k : ∀ v h₂, Grows h h₂ → P v h₂ → Fr h₀ c.env.locals h₂ m → ∃ (l : Addr) (items : Array Value) (I : Nat → Heap → (Str → Option Value) → Prop), v = .ref l ∧ h₂.IsList l items ∧ (∀ (i : Nat) (v : Value), items[i]? = some v → ∃ T : Addr, v = .ref T) ∧
      (∀ h₃, Grows h₂ h₃ → I 0 h₃ m) ∧
      (∀ i h h' m it, I i h m → h.IsListIter it l i → Heap.ExtBut it h h' → Fr h₀ c.env.locals h m → I i h' m) ∧
      (∀ i v h₁ m₁ tk it, items[i]? = some v → Fr h₀ c.env.locals h₁ m₁ → I i h₁ m₁ → h₁.IsList l items → h₁.IsListIter it l (i + 1) → it ≠ c.env.locals → l ≠ c.env.locals → it ≠ l →
        wpAny c.M c.A (assign (.Tuple elts x1 tp) c.env v) (fun _ s₂ => wpAny c.M c.A (execs body c.env) (fun f s₃ => match f with
          | .next | .cont => ∃ h₃ m₃ tk₃, s₃ = c.st h₃ tk₃ ∧ Fr h₀ c.env.locals h₃ m₃ ∧ I (i + 1) h₃ m₃ ∧ h₃.IsListIter it l (i + 1) ∧ h₃.IsList l items
          | .brk => wpAny c.M c.A (execs rest c.env) Q E s₃
          | .ret v => Q (.ret v) s₃) (fun _ _ => False) s₂) (fun _ _ => False) (c.st h₁ tk)) ∧
      (∀ h₂ m₂ tk, Fr h₀ c.env.locals h₂ m₂ → I items.size h₂ m₂ → wpAny c.M c.A (execs rest c.env) Q E (c.st h₂ tk)))
    (hs : ∀ x, foldedSetIterable iter c.env x = pure x := by intro _; rfl) :
    wpAny c.M c.A (execs (.For (.Tuple elts x1 tp) iter body [] pos :: rest) c.env) Q E (c.st h tk) := by
  refine wpAny_execs_cons (wpAny_For (hi h (.refl _) tk _ _ fun v h₂ tk₂ g₂ pv => ?_) hs)
  obtain ⟨l, items, I, rfl, hl, hrefs, h0, st, turn, fin⟩ := k v h₂ g₂ pv (F.after g₂)
  refine wpAny_pyIter_list (s := c.st h₂ tk₂) hl ?_
  have F₂ := F.after g₂
  have F₃ : Fr h₀ c.env.locals (h₂.push { cls := .type "list_iterator", data := .fields #[.ref l, .int 0 0] }) m := F₂.after (Grows.push _ _)
  have hit : Heap.IsListIter (h₂.push { cls := .type "list_iterator", data := .fields #[.ref l, .int 0 0] }) h₂.objs.size l 0 := ⟨_, Heap.get?_push_size _ rfl, rfl, rfl⟩
  have nit : h₂.objs.size ≠ c.env.locals := by
    obtain ⟨oit, e1, _, e2⟩ := hit
    exact ns_ne F₃.ns e1 fun es ep x => by rw [e2] at x; cases x
  have nl : l ≠ c.env.locals := by
    obtain ⟨ol, e1, _, nn, e2⟩ := hl
    exact ns_ne F₂.ns e1 fun es ep x => by rw [e2] at x; cases x
  have nil' : h₂.objs.size ≠ l := by
    obtain ⟨ol, e1, _⟩ := hl
    exact Nat.ne_of_gt (Heap.lt_size e1)
  have nh : ∀ b o, h₀.get? b = some o → b ≠ h₂.objs.size := fun b o e => Nat.ne_of_lt (Heap.lt_size (F₂.keep b o e))
  generalize h₂.objs.size = it at *
  refine codeAny_forLoop_any (fun n s => ∃ h' m' tk' i, s = c.st h' tk' ∧ Fr h₀ c.env.locals h' m' ∧ I i h' m' ∧ h'.IsListIter it l i ∧ h'.IsList l items ∧ i ≤ items.size ∧ n = items.size + 1 - i)
    ?_ (items.size + 1) ⟨_, m, tk₂, 0, rfl, F₃, h0 _ (Grows.push _ _), hit, hl.push _, Nat.zero_le _, rfl⟩
  rintro n s ⟨h', m', tk', i, rfl, F', hI, hit', hl', hle, rfl⟩
  cases hv : items[i]? with
  | none =>
    have hsz : i = items.size := Nat.le_antisymm hle (by simpa using hv)
    subst hsz
    refine wpAny_pyNext_list_end (s := c.st h' tk') hh hit' hl' hv fun h₁ he₁ => wpAny_execs_nil ?_
    exact fin h₁ m' tk' ⟨F'.ns.extBut he₁ (Ne.symm nit), fun b o e => he₁ b o (nh b o e) (F'.keep b o e), F'.above⟩ (st _ _ _ _ _ hI hit' he₁ F')
  | some v =>
    have hlt : i < items.size := (Array.getElem?_eq_some_iff.mp hv).1
    refine wpAny_pyNext_list_item (s := c.st h' tk') hit' hl' hv fun h₁ hit₁ hs₁ => ?_
    have F₁ : Fr h₀ c.env.locals h₁ m' := ⟨F'.ns.sameBut hs₁ (Ne.symm nit), fun b o e => hs₁.extBut b o (nh b o e) (F'.keep b o e), F'.above⟩
    obtain ⟨T, rfl⟩ := hrefs i v hv
    refine wpAny_letOwnedTupleGo_listiter (s := c.st h₁ tk') hit₁ ?_
    refine wpAny_mono (turn i (.ref T) h₁ m' tk' it hv F₁ (st _ _ _ _ _ hI hit' hs₁.extBut F') (hl'.extBut hs₁.extBut (Ne.symm nil')) hit₁ nit nl nil') (fun _ s₂ h₂ => wpAny_mono h₂ (fun f s₃ q => ?_) fun _ _ x => x.elim) fun _ _ x => x.elim
    cases f with
    | next => obtain ⟨h₃, m₃, tk₃, q1, q2, q3, q4, q5⟩ := q; exact ⟨items.size + 1 - (i + 1), by omega, h₃, m₃, tk₃, i + 1, q1, q2, q3, q4, q5, hlt, rfl⟩
    | cont => obtain ⟨h₃, m₃, tk₃, q1, q2, q3, q4, q5⟩ := q; exact ⟨items.size + 1 - (i + 1), by omega, h₃, m₃, tk₃, i + 1, q1, q2, q3, q4, q5, hlt, rfl⟩
    | brk => exact q
    | ret v => exact q
end
theorem due_step {k : Nat} {s d : Str} {i : Bool} (h : due k s i = some d) : ∃ k', k = k' + 1 ∧ (firstRule s i = none → s = d) ∧
    ∀ u, firstRule s i = some u → u ∈ lawRules ∧ u.n ≠ 0 ∧ fits s i u = true ∧ (if u.g = true then due k' (nextWord s u) false = some d else nextWord s u = d) := by
  have hv := due_voiced h
  cases k with
  | zero => cases h
  | succ k =>
    rw [due, if_neg (by rw [hv]; exact Bool.noConfusion)] at h
    refine ⟨k, rfl, fun e => ?_, fun u e => ?_⟩
    · rw [e] at h; exact Option.some.inj h
    · rw [e] at h
      dsimp only at h
      refine ⟨List.mem_of_find?_eq_some e, fun z => ?_, List.find?_some e, ?_⟩
      · rw [if_pos z] at h; cases h
      · by_cases z : u.n = 0
        · rw [if_pos z] at h; cases h
        rw [if_neg z] at h
        by_cases g : u.g = true
        · rw [if_pos g] at h ⊢; exact h
        · rw [if_neg g] at h ⊢
          split at h
          · exact Option.some.inj h
          · cases h
theorem law_len : lawRules.length ≤ 2 ^ 20 := Nat.le_of_ble_eq_true (by kernel_rfl)
/-- what the table bears for a word's last letter -/
theorem look_up {w : World} {h : Heap} {R : Addr} (T : TabIn w h R theTable fun _ => False) (s : Str) (i : Bool) : ∃ kvs, h.DictOf (strKind pw w) R kvs ∧
    ((valueAt kvs (Txt.item s (-1)) = none ∧ firstRule s i = none) ∨
      ∃ l items rs, valueAt kvs (Txt.item s (-1)) = some (.ref l) ∧ h.PlainList l items ∧ RulesAt h items rs ∧ rs.find? (fits s i) = firstRule s i ∧ rs.length ≤ 2 ^ 20 ∧ ∀ u ∈ rs, u ∈ lawRules) := by
  obtain ⟨Lk, dd, ff, inj⟩ := T
  obtain ⟨tr1, tr2⟩ := table_rules text_facts.2.2.2.2 law_rules_ok s i
  refine ⟨_, dd, ?_⟩
  rw [valueAt_map]
  cases hk : hasKey theTable (Txt.item s (-1)) with
  | false => exact .inl ⟨by rw [if_neg Bool.false_ne_true], tr2 hk⟩
  | true =>
    rw [if_pos rfl]
    obtain ⟨p, hp, e⟩ := List.any_eq_true.mp hk
    have e := of_decide_eq_true e
    obtain ⟨-, items, pl, ra⟩ := ff p hp
    have tk := text_facts.2.2.2.2
    unfold tabOk at tk
    rw [Bool.and_eq_true] at tk
    have e2 := eqRs_eq (List.all_eq_true.mp tk.1 p hp)
    refine .inr ⟨Lk p.1, items, p.2, by rw [e], pl, ra, tr1 p hp e, ?_⟩
    rw [e2]
    exact ⟨Nat.le_trans (List.length_filter_le _ _) law_len, fun u hu => (List.mem_filter.mp hu).1⟩
theorem pair_step {h h₂ h₃ : Heap} {it l L : Addr} {j : Nat} {items : Array Value} (x : h.IsListIter it l j ∧ h.IsList l items) (g : Grows h h₂) (s : Heap.SameBut L h₂ h₃) (nit : it ≠ L) (nl : l ≠ L) : h₃.IsListIter it l j ∧ h₃.IsList l items :=
  ⟨(x.1.at fun o e => g _ _ e).extBut s.extBut nit, (x.2.at fun o e => g _ _ e).extBut s.extBut nl⟩
theorem pair_grows {h h₂ : Heap} {it l : Addr} {j : Nat} {items : Array Value} (x : h.IsListIter it l j ∧ h.IsList l items) (g : Grows h h₂) : h₂.IsListIter it l j ∧ h₂.IsList l items :=
  ⟨x.1.at fun o e => g _ _ e, x.2.at fun o e => g _ _ e⟩
/-- the method stem answers what the law looks for -/
theorem stem_method {c : Cx} {h : Heap} {mg mb : Str → Option Value} {f x dx R : Addr} {word d : Str} {tt : Tok} {n : Nat} (S : Sd c.w h mg mb x dx R) (hroom : c.A.depth < 800) (hh : c.A.handled = none) (hf : FnSt h f "PaiceHuskStemmer.stem" (atCls 4 4))
    (hw : word.length ≤ 1000) (h0 : 0 < word.length) (hrun : wordRun word 0 = word.length) (hs : (stripP prefL word).length ≤ 1000) (hd : due n (stripP prefL word) true = some d) :
    Go c h (call (.ref f) [.ref x, .str word tt]) (IsS d) := by
  refine call_fn (binds := [("self", .ref x), ("word", .str word tt)]) hf S.rd.G.nolimit (by rw [rec_lim]; omega) (fun _ _ _ => by with_unfolding_all rfl) (locs rfl) (fun cd h₁ tk F => ?_) rfl rfl rfl (by decide)
  have hh' : (c.A.deeper (envOf "PaiceHuskStemmer.stem" (fnScope (atCls 4 4)) h.objs.size f cd)).handled = none := hh
  have hroom' : (c.A.deeper (envOf "PaiceHuskStemmer.stem" (fnScope (atCls 4 4)) h.objs.size f cd)).depth < 850 := by rw [depth_deeper]; omega
  generalize hA : c.A.deeper _ = A'
  replace hh' : A'.handled = none := hA ▸ hh'
  replace hroom' : A'.depth < 850 := hA ▸ hroom'
  let c' : Cx := ⟨c.w, A', c.g, c.dr, c.os, envOf "PaiceHuskStemmer.stem" (fnScope (atCls 4 4)) h.objs.size f cd⟩
  have hr9 : c'.A.depth < 900 := Nat.lt_of_lt_of_le hroom' (by decide)
  obtain ⟨es, en, hx, hdx, hes, e1, e2, e3, T⟩ := S.st
  -- rules = self.rules
  refine ex_assign (c := c') F (ev_rules rfl F S.K rfl (F.keep _ _ hx) (F.keep _ _ hdx) hes) ?_
  rintro v h₂ h₃ tk₃ g₂ rfl sb₃ F₃
  -- k = _word_run(word, 0)
  refine ex_assign (c := c') F₃ (ev_word_run (x := word) (p := 0) (S.rd.keeps F₃.keep) hr9 (Ev.locS F₃.ns (upd_ne (by decide) rfl)) Ev.int (by omega) (Nat.zero_le _)) ?_
  rintro v h₄ h₅ tk₅ g₄ ⟨t5, rfl⟩ sb₅ F₅
  rw [hrun] at F₅
  obtain ⟨m5, F₅, a1, a2, a3, a4⟩ : ∃ m5, Fr h h.objs.size h₅ m5 ∧ m5 "k" = some (.int (word.length : Int) t5) ∧ m5 "rules" = some (.ref R) ∧ m5 "self" = some (.ref x) ∧ m5 "word" = some (.str word tt) := ⟨_, F₅, upd_eq, upd_ne (by decide) upd_eq, upd_ne (by decide) (upd_ne (by decide) rfl), upd_ne (by decide) (upd_ne (by decide) rfl)⟩
  -- if not k: return word
  refine ex_if (c := c') (b := false) ((Ts.not (Ts.int (Ev.locI F₅.ns a1))).of (by
    have : ((word.length : Int) != 0) = true := by rw [bne_iff_ne]; omega
    rw [this]; rfl)) ?_
  intro h₆ tk₆ g₆
  have F₆ := F₅.after g₆
  refine ex_nil (c := c') ?_
  -- stem = self.strip_prefix(word[:k])
  refine ex_assign (c := c') (P := IsS (stripP prefL word)) F₆ (Ev.inst (c := c') (P := c.w.params) F₆ S.K (Ev.loc F₆.ns a3) (F₆.keep _ _ hx) (F₆.keep _ _ hdx) e2 (k_m68 _) (k_f68 _) (Ev.slice_ns (Ev.locS F₆.ns a4) (Ev.locI F₆.ns a1) (by omega)) (up_s _) (obj_of S.f68) ?_) ?_
  · rintro v h₇ g₇ ⟨t, rfl⟩
    rw [slice_whole]
    exact strip_prefix (c := c') (S.rd.keeps fun b o e => g₇ _ _ (F₆.keep b o e)) hr9 hh' (FnAt.keeps S.f68 fun b o e => g₇ _ _ (F₆.keep b o e)) (by omega)
  rintro v h₇ h₈ tk₈ g₇ ⟨t8, rfl⟩ sb₈ F₈
  -- is_intact = True; continuing = True
  refine ex_assign (c := c') (P := IsV (.bool true)) F₈ Ev.bool ?_
  rintro v h₉ h₁₀ tk₁₀ g₉ rfl sb₁₀ F₁₀
  refine ex_assign (c := c') (P := IsV (.bool true)) F₁₀ Ev.bool ?_
  rintro v h₁₁ h₁₂ tk₁₂ g₁₁ rfl sb₁₂ F₁₂
  obtain ⟨m12, F₁₂, b1, b2, b3, b4, b5⟩ : ∃ m12, Fr h h.objs.size h₁₂ m12 ∧ m12 "continuing" = some (.bool true) ∧ m12 "is_intact" = some (.bool true) ∧ m12 "stem" = some (.str (stripP prefL word) t8) ∧ m12 "rules" = some (.ref R) ∧ m12 "self" = some (.ref x) :=
    ⟨_, F₁₂, upd_eq, upd_ne (by decide) upd_eq, upd_ne (by decide) (upd_ne (by decide) upd_eq), upd_ne (by decide) (upd_ne (by decide) (upd_ne (by decide) a2)), upd_ne (by decide) (upd_ne (by decide) (upd_ne (by decide) a3))⟩
  refine ex_while (c := c') (fun k _ m => ∃ s i g t, m "continuing" = some (.bool g) ∧ m "is_intact" = some (.bool i) ∧ m "stem" = some (.str s t) ∧ m "rules" = some (.ref R) ∧ m "self" = some (.ref x) ∧ s.length ≤ 1000 ∧ (if g = true then due k s i = some d else s = d))
    ⟨n, _, true, true, t8, b1, b2, b3, b4, b5, hs, by rw [if_pos rfl]; exact hd⟩ F₁₂ ?_
  rintro k h₁₃ m₁₃ F₁₃ ⟨s, i, g, t, i1, i2, i3, i4, i5, i6, i7⟩
  refine ⟨g, Ts.bool (Ev.loc F₁₃.ns i1), fun h₁₄ tk₁₄ g₁₄ F₁₄ => ?_⟩
  cases g with
  | false =>
    rw [if_neg Bool.false_ne_true] at i7 ⊢
    refine ex_return (c := c') (Ev.locS F₁₄.ns i3) ?_
    rintro v h₁₅ tk₁₅ g₁₅ ⟨t15, rfl⟩
    exact ⟨h₁₅, tk₁₅, rfl, (F₁₄.after g₁₅).keep, t15, by rw [i7]⟩
  | true =>
    rw [if_pos rfl] at i7 ⊢
    have hv := due_voiced i7
    have hsl : 0 < s.length := by
      rcases Nat.eq_zero_or_pos s.length with q | q
      · exfalso
        rw [voiced, Array.toList_eq_nil_iff.mpr (Array.eq_empty_of_size_eq_zero q)] at hv
        cases hv
      · exact q
    -- pfv = self.first_vowel(stem)
    refine ex_assign (c := c') (P := fun v _ => IsFV s v) F₁₄ (Ev.inst (c := c') (P := c.w.params) F₁₄ S.K (Ev.loc F₁₄.ns i5) (F₁₄.keep _ _ hx) (F₁₄.keep _ _ hdx) e3 (k_m61 _) (k_f61 _) (Ev.locS F₁₄.ns i3) (up_s _) (obj_of S.f61) ?_) ?_
    · rintro v h₁₅ g₁₅ ⟨t, rfl⟩
      exact first_vowel (c := c') (S.rd.G.keeps fun b o e => g₁₅ _ _ (F₁₄.keep b o e)) S.min hr9 hh' (FnAt.keeps S.f61 fun b o e => g₁₅ _ _ (F₁₄.keep b o e)) (by omega) (posL_voiced hv)
    rintro v h₁₅ h₁₆ tk₁₆ g₁₅ hfv sb₁₆ F₁₆
    obtain ⟨pf, tp, rfl, pf0, pfz⟩ := fv_facts hv hfv
    obtain ⟨kvs, dd, look⟩ := look_up T s i
    obtain ⟨k', rfl, dn, ds⟩ := due_step i7
    -- rulelist = rules.get(stem[-1])
    refine ex_assign (c := c') F₁₆ (Ev.dictGet (c := c') (Ev.loc F₁₆.ns (upd_ne (by decide) i4)) (Ev.item (Ev.locS F₁₆.ns (upd_ne (by decide) i3)) (Ev.neg Ev.int) (by omega) (by omega) (by omega)) (dd.keep F₁₆.keep) S.Rs) ?_
    rintro v h₁₇ h₁₈ tk₁₈ g₁₇ ev sb₁₈ F₁₈
    obtain ⟨m18, G₁₈, j0, j1, j2, j3, j4, j5⟩ : ∃ m18, Fr h h.objs.size h₁₈ m18 ∧ m18 "rulelist" = some v ∧ m18 "pfv" = some (.int pf tp) ∧ m18 "is_intact" = some (.bool i) ∧ m18 "stem" = some (.str s t) ∧ m18 "rules" = some (.ref R) ∧ m18 "self" = some (.ref x) :=
      ⟨_, F₁₈, upd_eq, upd_ne (by decide) upd_eq, upd_ne (by decide) (upd_ne (by decide) i2), upd_ne (by decide) (upd_ne (by decide) i3), upd_ne (by decide) (upd_ne (by decide) i4), upd_ne (by decide) (upd_ne (by decide) i5)⟩
    rcases look with ⟨lk, fr⟩ | ⟨l, items, rs, lk, pl, ra, fr, rl, rsub⟩
    · rw [lk] at ev
      obtain rfl : v = .none := ev
      refine ex_if (c := c') (b := true) ((Ts.not (Ts.none (Ev.loc G₁₈.ns j0))).of rfl) ?_
      intro h₁₉ tk₁₉ g₁₉
      rw [if_pos rfl]
      refine ex_break (c := c') ?_
      refine ex_return (c := c') (Ev.locS (G₁₈.after g₁₉).ns j3) ?_
      rintro v h₂₀ tk₂₀ g₂₀ ⟨t20, rfl⟩
      exact ⟨h₂₀, tk₂₀, rfl, ((G₁₈.after g₁₉).after g₂₀).keep, t20, by rw [dn fr]⟩
    · rw [lk] at ev
      obtain rfl : v = .ref l := ev
      have pl18 : h₁₈.PlainList l items := let ⟨n, e⟩ := pl; ⟨n, G₁₈.keep _ _ e⟩
      refine ex_if (c := c') (b := !(!items.isEmpty)) (Ts.not (Ts.list (Ev.loc G₁₈.ns j0) pl18 (by rw [ra.1]; exact rl))) ?_
      intro h₁₉ tk₁₉ g₁₉
      have F₁₉ := G₁₈.after g₁₉
      cases hem : items.isEmpty with
      | true =>
        have : firstRule s i = none := by
          have e0 : rs.length = 0 := by rw [← ra.1]; exact Array.isEmpty_iff_size_eq_zero.mp hem
          rw [← fr, List.eq_nil_of_length_eq_zero e0]; rfl
        refine ex_break (c := c') ?_
        refine ex_return (c := c') (Ev.locS F₁₉.ns j3) ?_
        rintro v h₂₀ tk₂₀ g₂₀ ⟨t20, rfl⟩
        exact ⟨h₂₀, tk₂₀, rfl, (F₁₉.after g₂₀).keep, t20, by rw [dn this]⟩
      | false =>
        refine ex_nil (c := c') ?_
        -- continuing = False
        refine ex_assign (c := c') (P := IsV (.bool false)) F₁₉ Ev.bool ?_
        rintro v h₂₀ h₂₁ tk₂₁ g₂₀ rfl sb₂₁ F₂₁
        -- for ending, intact, num, append, cont in rulelist:
        refine ex_forP (c := c') F₂₁ (Ev.loc F₂₁.ns (upd_ne (by decide) j0)) hh' ?_
        rintro v h₂₂ g₂₂ rfl F₂₂
        refine ⟨l, items, fun j _ m => m "continuing" = some (.bool false) ∧ m "pfv" = some (.int pf tp) ∧ m "is_intact" = some (.bool i) ∧ m "stem" = some (.str s t) ∧ m "rules" = some (.ref R) ∧ m "self" = some (.ref x) ∧ (rs.drop j).find? (fits s i) = firstRule s i, rfl,
          let ⟨n, e⟩ := pl; ⟨_, F₂₂.keep _ _ e, rfl, n, rfl⟩, ?_, fun _ _ => ⟨upd_eq, upd_ne (by decide) j1, upd_ne (by decide) j2, upd_ne (by decide) j3, upd_ne (by decide) j4, upd_ne (by decide) j5, fr⟩, fun _ _ _ _ _ p _ _ _ => p, ?_, ?_⟩
        · intro j v hv
          have hj : j < rs.length := by rw [← ra.1]; exact (Array.getElem?_eq_some_iff.mp hv).1
          obtain ⟨T, vs, e, _⟩ := ra.2 j v _ hv (List.getElem?_eq_getElem hj)
          exact ⟨T, e⟩
        · rintro j v h₂₃ m₂₃ tk₂₃ it hv₂₃ F₂₃ ⟨l1, l2, l3, l4, l5, l6, l7⟩ isl islt nit nl nil'
          have hj : j < rs.length := by rw [← ra.1]; exact (Array.getElem?_eq_some_iff.mp hv₂₃).1
          have hu : rs[j]? = some rs[j] := List.getElem?_eq_getElem hj
          obtain ⟨u, hu⟩ : ∃ u, rs[j]? = some u := ⟨_, hu⟩
          obtain ⟨at_, vs, rfl, hat, t1, t2, t3, rfl⟩ := ra.2 j v u hv₂₃ hu
          rw [drop_of_get hu, List.find?_cons] at l7
          refine as_five (c := c') F₂₃ (F₂₃.keep _ _ hat) hh' ?_
          intro h₂₄ h₂₅ tk₂₅ g₂₄ sb₂₅ F₂₅
          have B25 := pair_step ⟨islt, isl⟩ g₂₄ sb₂₅ nit nl
          obtain ⟨m25, F₂₅, n1, n2, n3, n4, n5, l1, l2, l3, l4, l5, l6⟩ : ∃ m25, Fr h h.objs.size h₂₅ m25 ∧ m25 "ending" = some (.str u.e t1) ∧ m25 "intact" = some (.bool u.i) ∧ m25 "num" = some (.int u.n t2) ∧ m25 "append" = some (.str u.a t3) ∧ m25 "cont" = some (.bool u.g) ∧
              m25 "continuing" = some (.bool false) ∧ m25 "pfv" = some (.int pf tp) ∧ m25 "is_intact" = some (.bool i) ∧ m25 "stem" = some (.str s t) ∧ m25 "rules" = some (.ref R) ∧ m25 "self" = some (.ref x) :=
            ⟨_, F₂₅, upd_ne (by decide) (upd_ne (by decide) (upd_ne (by decide) (upd_ne (by decide) upd_eq))), upd_ne (by decide) (upd_ne (by decide) (upd_ne (by decide) upd_eq)), upd_ne (by decide) (upd_ne (by decide) upd_eq), upd_ne (by decide) upd_eq, upd_eq,
              upd_ne (by decide) (upd_ne (by decide) (upd_ne (by decide) (upd_ne (by decide) (upd_ne (by decide) l1)))), upd_ne (by decide) (upd_ne (by decide) (upd_ne (by decide) (upd_ne (by decide) (upd_ne (by decide) l2)))),
              upd_ne (by decide) (upd_ne (by decide) (upd_ne (by decide) (upd_ne (by decide) (upd_ne (by decide) l3)))), upd_ne (by decide) (upd_ne (by decide) (upd_ne (by decide) (upd_ne (by decide) (upd_ne (by decide) l4)))),
              upd_ne (by decide) (upd_ne (by decide) (upd_ne (by decide) (upd_ne (by decide) (upd_ne (by decide) l5)))), upd_ne (by decide) (upd_ne (by decide) (upd_ne (by decide) (upd_ne (by decide) (upd_ne (by decide) l6))))⟩
          -- if stem.endswith(ending):
          refine ex_if (c := c') (b := Txt.endswith s u.e) (Ts.bool (Ev.endswith (Ev.locS F₂₅.ns l4) (Ev.locS F₂₅.ns n1))) ?_
          intro h₂₆ tk₂₆ g₂₆
          have F₂₆ := F₂₅.after g₂₆
          have B26 := pair_grows B25 g₂₆
          cases hends : Txt.endswith s u.e with
          | false =>
            have nf : fits s i u = false := by unfold fits; rw [hends]; rfl
            rw [nf] at l7
            exact ex_nil (c := c') (ex_nil (c := c') ⟨h₂₆, _, tk₂₆, rfl, F₂₆, ⟨l1, l2, l3, l4, l5, l6, l7⟩, B26.1, B26.2⟩)
          | true =>
            rw [if_pos rfl]
            -- if intact and (not is_intact): continue
            refine ex_if (c := c') (b := u.i && (!i && true)) (Ts.and (Ts.bool (Ev.loc F₂₆.ns n2)) fun _ => Ts.and (Ts.not (Ts.bool (Ev.loc F₂₆.ns l3))) fun _ => Ts.andNil) ?_
            intro h₂₇ tk₂₇ g₂₇
            have F₂₇ := F₂₆.after g₂₇
            have B27 := pair_grows B26 g₂₇
            cases hint : (u.i && (!i && true)) with
            | true =>
              have nf : fits s i u = false := by
                unfold fits
                revert hint
                cases u.i <;> cases i <;> simp
              rw [nf] at l7
              exact ex_continue (c := c') ⟨h₂₇, _, tk₂₇, rfl, F₂₇, ⟨l1, l2, l3, l4, l5, l6, l7⟩, B27.1, B27.2⟩
            | false =>
              refine ex_nil (c := c') ?_
              have hii : (i || !u.i) = true := by
                revert hint
                cases u.i <;> cases i <;> simp
              obtain ⟨k1, k2, k3, k4, k5⟩ : 0 < u.e.length ∧ 0 ≤ u.n ∧ u.n ≤ u.e.length ∧ (u.a.length : Int) ≤ u.n ∧ u.e.length ≤ 20 := row_ok (rsub u (List.mem_of_getElem? hu))
              have hel := ends_len hends
              -- newlen = len(stem) - num + len(append)
              refine ex_assign (c := c') (P := IsI ((s.length : Int) - u.n + u.a.length)) F₂₇ (Ev.add (Ev.sub (Ev.len (Ev.blt (S.rd.G.keeps F₂₇.keep) S.rd.len rfl) (Ev.locS F₂₇.ns l4) (by omega)) (Ev.locI F₂₇.ns n3)) (Ev.len (Ev.blt (S.rd.G.keeps F₂₇.keep) S.rd.len rfl) (Ev.locS F₂₇.ns n4) (by omega))) ?_
              rintro v h₂₈ h₂₉ tk₂₉ g₂₈ ⟨t29, rfl⟩ sb₂₉ F₂₉
              have B29 := pair_step B27 g₂₈ sb₂₉ nit nl
              obtain ⟨m29, F₂₉, nn, n1, n2, n3, n4, n5, l1, l2, l3, l4, l5, l6⟩ : ∃ m29, Fr h h.objs.size h₂₉ m29 ∧ m29 "newlen" = some (.int ((s.length : Int) - u.n + u.a.length) t29) ∧ m29 "ending" = some (.str u.e t1) ∧ m29 "intact" = some (.bool u.i) ∧ m29 "num" = some (.int u.n t2) ∧ m29 "append" = some (.str u.a t3) ∧ m29 "cont" = some (.bool u.g) ∧
                  m29 "continuing" = some (.bool false) ∧ m29 "pfv" = some (.int pf tp) ∧ m29 "is_intact" = some (.bool i) ∧ m29 "stem" = some (.str s t) ∧ m29 "rules" = some (.ref R) ∧ m29 "self" = some (.ref x) :=
                ⟨_, F₂₉, upd_eq, upd_ne (by decide) n1, upd_ne (by decide) n2, upd_ne (by decide) n3, upd_ne (by decide) n4, upd_ne (by decide) n5, upd_ne (by decide) l1, upd_ne (by decide) l2, upd_ne (by decide) l3, upd_ne (by decide) l4, upd_ne (by decide) l5, upd_ne (by decide) l6⟩
              generalize hnl : (s.length : Int) - u.n + u.a.length = N at F₂₉ nn
              -- if pfv == 0 and newlen < 2 or (pfv > 0 and newlen < 3): continue
              refine ex_if (c := c') (b := ((pf == 0) && (decide (N < 2) && true)) || ((decide (0 < pf) && (decide (N < 3) && true)) || false))
                (Ts.or (Ts.and (Ts.cmp (Ev.locI F₂₉.ns l2) Ev.int (up_i _) cmp_eqi) fun _ => Ts.and (Ts.cmp (Ev.locI F₂₉.ns nn) Ev.int (up_i _) cmp_lt) fun _ => Ts.andNil) fun _ =>
                  Ts.or (Ts.and (Ts.cmp (Ev.locI F₂₉.ns l2) Ev.int (up_i _) cmp_gt) fun _ => Ts.and (Ts.cmp (Ev.locI F₂₉.ns nn) Ev.int (up_i _) cmp_lt) fun _ => Ts.andNil) fun _ => Ts.orNil) ?_
              intro h₃₀ tk₃₀ g₃₀
              have F₃₀ := F₂₉.after g₃₀
              have B30 := pair_grows B29 g₃₀
              have hfit : fits s i u = !(((pf == 0) && (decide (N < 2) && true)) || ((decide (0 < pf) && (decide (N < 3) && true)) || false)) := by
                unfold fits least
                rw [hends, hii, hnl, Bool.true_and, Bool.true_and]
                simp only [Bool.and_true, Bool.or_false]
                by_cases hp0 : pf = 0
                · rw [if_pos (pfz.mp hp0), hp0]
                  by_cases hN : N < 2
                  · rw [decide_eq_true hN, decide_eq_false (by omega)]; rfl
                  · rw [decide_eq_false hN, decide_eq_true (by omega)]; rfl
                · rw [if_neg (fun z => hp0 (pfz.mpr z)), beq_eq_false_iff_ne.mpr hp0, decide_eq_true (show 0 < pf by omega)]
                  by_cases hN : N < 3
                  · rw [decide_eq_true hN, decide_eq_false (by omega)]; rfl
                  · rw [decide_eq_false hN, decide_eq_true (by omega)]; rfl
              cases hshort : (((pf == 0) && (decide (N < 2) && true)) || ((decide (0 < pf) && (decide (N < 3) && true)) || false)) with
              | true =>
                rw [hfit, hshort] at l7
                exact ex_continue (c := c') ⟨h₃₀, _, tk₃₀, rfl, F₃₀, ⟨l1, l2, l3, l4, l5, l6, l7⟩, B30.1, B30.2⟩
              | false =>
                refine ex_nil (c := c') ?_
                rw [hfit, hshort] at l7
                obtain ⟨umem, un0, -, ug⟩ := ds u l7.symm
                have nlen := next_len umem hends
                have cut : Txt.slice s none (some (0 - u.n)) ++ u.a = nextWord s u := by
                  unfold nextWord
                  rw [cut_neg s u.n (by omega) (by omega)]
                have cutl : (Txt.slice s none (some (0 - u.n))).length + u.a.length ≤ 2 ^ 24 := by
                  rw [← append_len, cut]; omega
                -- is_intact = False
                refine ex_assign (c := c') (P := IsV (.bool false)) F₃₀ Ev.bool ?_
                rintro v h₃₁ h₃₂ tk₃₂ g₃₁ rfl sb₃₂ F₃₂
                -- stem = stem[:0 - num] + append
                refine ex_assign (c := c') (P := IsS (Txt.slice s none (some (0 - u.n)) ++ u.a)) F₃₂ (Ev.cat (Ev.slice_ns (Ev.locS F₃₂.ns (upd_ne (by decide) l4)) (Ev.sub Ev.int (Ev.locI F₃₂.ns (upd_ne (by decide) n3))) (by omega)) (Ev.locS F₃₂.ns (upd_ne (by decide) n4)) cutl) ?_
                rintro v h₃₃ h₃₄ tk₃₄ g₃₃ ⟨t34, rfl⟩ sb₃₄ F₃₄
                rw [cut] at F₃₄
                -- continuing = cont
                refine ex_assign (c := c') (P := IsV (.bool u.g)) F₃₄ (Ev.loc F₃₄.ns (upd_ne (by decide) (upd_ne (by decide) n5))) ?_
                rintro v h₃₅ h₃₆ tk₃₆ g₃₅ rfl sb₃₆ F₃₆
                refine ex_break (c := c') (ex_nil (c := c') ⟨k', h₃₆, _, tk₃₆, Nat.lt_succ_self _, rfl, F₃₆, nextWord s u, false, u.g, t34, upd_eq, upd_ne (by decide) (upd_ne (by decide) upd_eq), upd_ne (by decide) upd_eq,
                  upd_ne (by decide) (upd_ne (by decide) (upd_ne (by decide) l5)), upd_ne (by decide) (upd_ne (by decide) (upd_ne (by decide) l6)), by omega, ug⟩)
        · rintro h₂₃ m₂₃ tk₂₃ F₂₃ ⟨l1, l2, l3, l4, l5, l6, l7⟩
          rw [ra.1, List.drop_length] at l7
          refine ex_nil (c := c') ⟨k', h₂₃, _, tk₂₃, Nat.lt_succ_self _, rfl, F₂₃, s, i, false, t, l1, l3, l4, l5, l6, i6, ?_⟩
          rw [if_neg Bool.false_ne_true]
          exact dn l7.symm
end Mine
end

section
open PySem PySem.W PyProof.Rows PySem.Calls
set_option maxRecDepth 100000
set_option maxHeartbeats 4000000
set_option linter.unusedVariables false
namespace Mine
theorem RuleAt.grows {h h' : Heap} {v : Value} {u : Rule} (x : RuleAt h v u) (g : Grows h h') : RuleAt h' v u := let ⟨a, vs, e, z, r⟩ := x; ⟨a, vs, e, g _ _ z, r⟩
theorem RulesAt.grows {h h' : Heap} {items : Array Value} {rs : List Rule} (x : RulesAt h items rs) (g : Grows h h') : RulesAt h' items rs := ⟨x.1, fun i v u e1 e2 => (x.2 i v u e1 e2).grows g⟩
theorem plain_grows {h h' : Heap} {a : Addr} {items : Array Value} (x : h.PlainList a items) (g : Grows h h') : h'.PlainList a items := let ⟨n, e⟩ := x; ⟨n, g _ _ e⟩
theorem plain_isList {h : Heap} {a : Addr} {items : Array Value} (x : h.PlainList a items) : h.IsList a items := let ⟨n, e⟩ := x; ⟨_, e, rfl, n, rfl⟩
/-- the law's rows, made anew by each call -/
def isRow : Expr → Bool
  | .Tuple [.Constant (.str _) _ _, .Constant (.bool _) _ _, .Constant (.int _) _ _, .Constant (.str _) _ _, .Constant (.bool _) _ _] _ _ => true
  | _ => false
def RowsAt : List Value → List Rule → Heap → Prop
  | [], [], _ => True
  | v :: vs, u :: us, h => RuleAt h v u ∧ RowsAt vs us h
  | _, _, _ => False
theorem rows_at : ∀ {vs : List Value} {us : List Rule} {h : Heap}, RowsAt vs us h → vs.length = us.length ∧ ∀ (i : Nat) v u, vs[i]? = some v → us[i]? = some u → RuleAt h v u
  | [], [], _, _ => ⟨rfl, fun i v u e => by cases e⟩
  | v :: vs, u :: us, h, x => by
    obtain ⟨a, b⟩ := rows_at x.2
    refine ⟨congrArg (· + 1) a, fun i v' u' e1 e2 => ?_⟩
    cases i with
    | zero =>
      obtain rfl : v = v' := by simpa using e1
      obtain rfl : u = u' := by simpa using e2
      exact x.1
    | succ i => exact b i v' u' (by simpa using e1) (by simpa using e2)
theorem isRow_inv {e : Expr} (h : isRow e = true) : ∃ a ka pa b kb pb i ki pi d kd pd g kg pg k p, e = .Tuple [.Constant (.str a) ka pa, .Constant (.bool b) kb pb, .Constant (.int i) ki pi, .Constant (.str d) kd pd, .Constant (.bool g) kg pg] k p := by
  unfold isRow at h
  split at h
  · exact ⟨_, _, _, _, _, _, _, _, _, _, _, _, _, _, _, _, _, rfl⟩
  · cases h
theorem ev_row {c : Cx} {h : Heap} {e : Expr} (he : isRow e = true) : Ev c h e (fun v h' => RuleAt h' v (ruleOf e)) := by
  obtain ⟨a, ka, pa, b, kb, pb, i, ki, pi, d, kd, pd, g, kg, pg, k, p, rfl⟩ := isRow_inv he
  refine (Ev.tuple (Evs.cons Ev.str (Evs.cons Ev.bool (Evs.cons Ev.int (Evs.cons Ev.str (Evs.cons Ev.bool Evs.nil (up_v _)) (up_s _)) (up_i _)) (up_v _)) (up_s _)) ?_ ?_).mono ?_
  · rintro vs h' ⟨v1, r1, rfl, _, v2, r2, rfl, _, v3, r3, rfl, _, v4, r4, rfl, _, v5, r5, rfl, _, rfl⟩
    show 5 ≤ 2 ^ 24
    decide
  · exact fun _ _ _ _ p => p
  · rintro v h' ⟨a', vs, rfl, ha, v1, r1, rfl, ⟨t1, rfl⟩, v2, r2, rfl, rfl, v3, r3, rfl, ⟨t3, rfl⟩, v4, r4, rfl, ⟨t4, rfl⟩, v5, r5, rfl, rfl, rfl⟩
    exact ⟨a', _, rfl, ha, t1, t3, t4, rfl⟩
theorem evs_rows {c : Cx} {h : Heap} {pos : Pos} : ∀ es : List Expr, es.all isRow = true → Evs c h pos es (fun vs h' => RowsAt vs (es.map ruleOf) h')
  | [], _ => fun h₁ g₁ tk Q E hQ => args_nil (hQ _ h₁ _ (.refl _) trivial)
  | e :: es, hall => by
    rw [List.all_cons, Bool.and_eq_true] at hall
    intro h₁ g₁ tk Q E hQ
    have hs : starEach (e :: es) c.env = (false, eval e c.env) :: starEach es c.env := by
      obtain ⟨a, ka, pa, b, kb, pb, i, ki, pi, d, kd, pd, g, kg, pg, k, p, rfl⟩ := isRow_inv hall.1
      rfl
    refine Evs.cons (ev_row hall.1) (evs_rows es hall.2) (fun v h h' g p => p.grows g) hs h₁ g₁ tk Q E fun vs h₂ tk' g ⟨v, r, e, p, q⟩ => hQ vs h₂ tk' g ?_
    subst e
    exact ⟨p, q⟩
def valPos : List Stmt → Pos × Pos
  | [.Return (some (.List _ p)) q] => (p, q)
  | _ => (⟨0, 0, 0, 0⟩, ⟨0, 0, 0, 0⟩)
theorem body11 : fnBody (atTop 11) = [.Return (some (.List (rowsOf (fnBody (atTop 11))) (valPos (fnBody (atTop 11))).1)) (valPos (fnBody (atTop 11))).2] := by kernel_rfl
theorem is11 : atTop 11 = .FunctionDef "_law_rules" (fnParams (atTop 11)) (fnBody (atTop 11)) [] none [] (fnScope (atTop 11)) none "_law_rules" (fnPos (atTop 11)) := by kernel_rfl
theorem rows11 : (rowsOf (fnBody (atTop 11))).all isRow = true := by kernel_rfl
theorem rows11_len : (rowsOf (fnBody (atTop 11))).length ≤ 2 ^ 20 := Nat.le_of_ble_eq_true (by kernel_rfl)
theorem par11 : fnParams (atTop 11) = { posonlyargs := [], args := [], vararg := none, kwonlyargs := [], kw_defaults := [], kwarg := none, defaults := [] } := by kernel_rfl
theorem sc11 : (fnScope (atTop 11)).isCoroutine = false ∧ (fnScope (atTop 11)).isGenerator = false ∧ (fnScope (atTop 11)).kind = .function ∧ (fnScope (atTop 11)).names = [] := by
  refine ⟨?_, ?_, ?_, ?_⟩ <;> kernel_rfl
theorem law_rules {c : Cx} {h : Heap} {mg mb : Str → Option Value} {f : Addr} (G : Gl h mg mb) (hroom : c.A.depth < 900) (hf : FnSt h f "_law_rules" (atTop 11)) :
    Go c h (call (.ref f) []) (fun v h' => ∃ a items, v = .ref a ∧ h'.PlainList a items ∧ RulesAt h' items lawRules) := by
  rw [is11, body11] at hf
  replace hf : FnAt h f "_law_rules" "_law_rules" (fnParams (atTop 11)) [.Return (some (.List (rowsOf (fnBody (atTop 11))) (valPos (fnBody (atTop 11))).1)) (valPos (fnBody (atTop 11))).2] (fnScope (atTop 11)) := hf
  have er : lawRules = (rowsOf (fnBody (atTop 11))).map ruleOf := rfl
  have ha := rows11
  have hn := rows11_len
  obtain ⟨s1, s2, s3, s4⟩ := sc11
  rw [par11] at hf
  rw [er]
  generalize rowsOf (fnBody (atTop 11)) = es at *
  generalize valPos (fnBody (atTop 11)) = pp at *
  generalize fnScope (atTop 11) = sc at *
  refine call_fn (binds := []) hf G.nolimit (by rw [rec_lim]; omega) (fun _ _ _ => by with_unfolding_all rfl) (fun x hx => nomatch hx) (fun cd h₁ tk F => ?_) s1 s2 s3 (by rw [s4]; exact fun x hx => nomatch hx)
  generalize hA : c.A.deeper _ = A'
  let c' : Cx := ⟨c.w, A', c.g, c.dr, c.os, envOf "_law_rules" sc h.objs.size f cd⟩
  refine ex_return (c := c') (P := fun v h' => ∃ a items, v = .ref a ∧ h'.PlainList a items ∧ RulesAt h' items (es.map ruleOf)) ?_ ?_
  · intro h₁ g₁ tk Q E hQ
    refine List_ (evs_rows es ha h₁ g₁ tk _ _ fun vs h₂ tk₂ g₂ p => ?_)
    obtain ⟨e1, e2⟩ := rows_at p
    have hl : vs.length ≤ 2 ^ 20 := by rw [e1, List.length_map]; exact hn
    refine wpAny_newList (s := c'.st h₂ tk₂) (hQ _ _ _ (g₂.trans (Grows.push _ _)) ⟨_, vs.toArray, rfl, ⟨0, Heap.get?_push_size _ rfl⟩, ?_, ?_⟩) (by show vs.toArray.size ≤ sizeLine; rw [List.size_toArray, sizeLine_eq]; omega)
    · rw [List.size_toArray]; exact e1
    · exact fun i v u q1 q2 => (e2 i v u (by simpa using q1) q2).grows (Grows.push _ _)
  · rintro v h₂ tk₂ g₂ p
    exact ⟨h₂, tk₂, rfl, (F.after g₂).keep, p⟩

/-- an item of a row -/
theorem Ev.tupItem {c : Cx} {h : Heap} {pos : Pos} {value slice : Expr} {t : Addr} {l : List Value} {k : Int} {j : Nat} {x : Value} (hv : Ev c h value (IsV (.ref t))) (hi : Ev c h slice (IsI k)) (ht : h.get? t = some (tupObj l))
    (hlo : -(2 ^ 63) ≤ k) (hhi : k < 2 ^ 63) (hj : seqIndex? k l.length = some j) (hx : l[j]? = some x)
    (hs : ∀ u, subscripted slice false (.ref t) (.int k u) = operate [.ref t, .int k u] (getItem (.ref t) (.int k u)) := by intro _; with_unfolding_all rfl)
    (hg : ∀ r, letTemporaryGo value (.ref t) r = pure () := by intro _; with_unfolding_all rfl) : Ev c h (.Subscript value slice pos) (IsV x) := by
  intro h₁ g₁ tk Q E hQ
  refine Subscript_ (hv h₁ g₁ tk _ _ fun ov h₂ tk₂ g₂ e => hi h₂ (g₁.trans g₂) tk₂ _ _ fun iv h₃ tk₃ g₃ e' => ?_)
  obtain rfl : ov = .ref t := e
  obtain ⟨u, rfl⟩ := e'
  have g := (g₁.trans g₂).trans g₃
  exact item_tupleL (s := c.st h₃ tk₃) ⟨_, g _ _ ht, rfl, _, rfl⟩ hlo hhi hj hx (hQ _ h₃ _ (g₂.trans g₃) rfl) (hs u) hg

/-- the law's vowels -/
def vowE : List Expr := match fnBody (atTop 12) with
  | .Return (some (.Compare (.ListComp _ [⟨_, _, [.Compare _ _ [.List es _] _], _⟩] _ _) _ _ _)) _ :: _ => es
  | _ => []
def vowS : List Str := vowE.map sOf
theorem vowE_ok : vowE.all isStrC = true := by kernel_rfl
theorem vowE_len : vowE.length ≤ 2 ^ 20 := Nat.le_of_ble_eq_true (by kernel_rfl)
theorem vowS_is : vowS = [⟨#[97]⟩, ⟨#[101]⟩, ⟨#[105]⟩, ⟨#[111]⟩, ⟨#[117]⟩] := by
  have h : vowS.map (fun x => x.cps.toList) = [[97], [101], [105], [111], [117]] := by decide +kernel
  have inj : ∀ {a b : List Str}, a.map (fun x => x.cps.toList) = b.map (fun x => x.cps.toList) → a = b := by
    intro a
    induction a with
    | nil => intro b e; cases b with
      | nil => rfl
      | cons _ _ => cases e
    | cons x a ih => intro b e; cases b with
      | nil => cases e
      | cons y b =>
        rw [List.map_cons, List.map_cons, List.cons.injEq] at e
        rw [ih e.2, Str.ext' (Array.toList_inj.mp e.1)]
  exact inj h
theorem vow_any (n : Nat) : vowS.any (· == (⟨#[n]⟩ : Str)) = isVow n := by
  rw [vowS_is]
  simp only [List.any_cons, List.any_nil, Bool.or_false]
  rw [eq1, eq1, eq1, eq1, eq1]
  unfold isVow
  simp only [Bool.or_assoc]
  have : ∀ a : Nat, (a == n) = (n == a) := fun a => Bool.eq_iff_iff.mpr ⟨fun q => by rw [beq_iff_eq] at q ⊢; exact q.symm, fun q => by rw [beq_iff_eq] at q ⊢; exact q.symm⟩
  rw [this, this, this, this, this]
def isVowV : Value → Bool
  | .str x _ => vowS.any (· == x)
  | _ => false
theorem strs_of_all : ∀ {vs : List Value} {xs : List Str}, AllS vs xs → StrsAre vs xs
  | [], [], _ => .nil
  | v :: vs, x :: xs, h => by
    obtain ⟨⟨t, rfl⟩, r⟩ := h
    exact .cons _ _ (strs_of_all r)
/-- the vowels that a comprehension picks -/
theorem picked : ∀ (l : List Nat) (vs ys : List Value), vs.length = l.length → (∀ (j : Nat) v, vs[j]? = some v → ∃ n u, l[j]? = some n ∧ v = .str ⟨#[n]⟩ u) → Paired (fun v y => y = v) (vs.filter isVowV) ys →
    StrsAre ys ((l.filter isVow).map fun n => ⟨#[n]⟩)
  | [], [], _, _, _, .nil => .nil
  | a :: l, v :: vs, ys, hl, h, p => by
    obtain ⟨n, u, e1, rfl⟩ := h 0 v rfl
    obtain rfl : a = n := by simpa using e1
    rw [List.filter_cons] at p ⊢
    rw [show isVowV (.str ⟨#[a]⟩ u) = isVow a from vow_any a] at p
    have go := fun ys => picked l vs ys (by simpa using hl) (fun j v e => h (j + 1) v (by simpa using e))
    split at p
    · rename_i hb
      rw [if_pos hb]
      cases p with
      | cons e p => subst e; exact .cons _ u (go _ p)
    · rename_i hb
      rw [if_neg hb]
      exact go _ p
theorem filter_voiced (w : Str) : decide (((w.cps.toList.filter isVow).map fun n => (⟨#[n]⟩ : Str)) = []) = !voiced w := by
  unfold voiced
  generalize w.cps.toList = l
  induction l with
  | nil => rfl
  | cons a l ih =>
    rw [List.filter_cons, List.any_cons]
    cases ha : isVow a with
    | true => rfl
    | false => rw [if_neg Bool.false_ne_true, ih, Bool.false_or]
theorem cmp_ne_nil {c : Cx} {xs : List Str} (hu : c.A.units < 9000) : Cmp c .NotEq (fun v h => ∃ D ys, v = .ref D ∧ h.PlainList D ys ∧ StrsAre ys.toList xs) (fun v h => ∃ a, v = .ref a ∧ h.PlainList a #[]) (!decide (xs = [])) := by
  rintro x y h ⟨D, ys, rfl, pl, hs⟩ ⟨a, rfl, pa⟩ tk Q E hQ
  have hu' : c.A.units < cLine := Nat.lt_trans hu (by decide)
  have hl : ys.size = xs.length := by rw [← Array.length_toList]; exact hs.length
  by_cases hx : xs = []
  · have hz : ys.size = 0 := by rw [hl, hx]; rfl
    have := SeqAt.RcNeAt.lists (A := c.A) (s := c.st h tk) (e := fun _ => true) (plain_isList pl) (plain_isList pa) hz hu' (fun j h1 h2 => absurd h2 (Nat.not_lt_zero _)) pw c.w E Q
    refine this ?_
    have q := hQ tk
    rw [decide_eq_true hx] at q
    rw [hz]
    exact q
  · have hz : (ys.size != (#[] : Array Value).size) = true := by
      rw [bne_iff_ne, hl]
      exact fun q => hx (List.eq_nil_of_length_eq_zero q)
    have := SeqAt.RcNeAt.lists_lengths (A := c.A) (s := c.st h tk) (plain_isList pl) (plain_isList pa) hz hu' pw c.w E Q
    refine this ?_
    have q := hQ tk
    rw [decide_eq_false hx] at q
    exact q
theorem law_voiced {c : Cx} {h : Heap} {mg mb : Str → Option Value} {f : Addr} {word : Str} {tt : Tok} (G : Gl h mg mb) (hroom : c.A.depth < 900) (hh : c.A.handled = none) (hu : c.A.units < 8900) (hf : FnSt h f "_law_voiced" (atTop 12)) (hw : word.length ≤ 2 ^ 20) :
    Go c h (call (.ref f) [.str word tt]) (IsV (.bool (voiced word))) := by
  refine call_fn (binds := [("word", .str word tt)]) hf G.nolimit (by rw [rec_lim]; omega) (fun _ _ _ => by with_unfolding_all rfl) (locs rfl) (fun cd h₁ tk F => ?_) rfl rfl rfl (by decide)
  have hh' : (c.A.deeper (envOf "_law_voiced" (fnScope (atTop 12)) h.objs.size f cd)).handled = none := hh
  have hu' : (c.A.deeper (envOf "_law_voiced" (fnScope (atTop 12)) h.objs.size f cd)).units < 9000 := by rw [Around.deeper_units]; omega
  generalize hA : c.A.deeper _ = A'
  replace hh' : A'.handled = none := hA ▸ hh'
  replace hu' : A'.units < 9000 := hA ▸ hu'
  let c' : Cx := ⟨c.w, A', c.g, c.dr, c.os, envOf "_law_voiced" (fnScope (atTop 12)) h.objs.size f cd⟩
  have ev : voiced word = !decide (((word.cps.toList.filter isVow).map fun n => (⟨#[n]⟩ : Str)) = []) := by rw [filter_voiced, Bool.not_not]
  refine ex_return (c := c') (P := IsV (.bool (voiced word))) ?_ ?_
  · rw [ev]
    refine Ev.cmp (c := c') (op := .NotEq) (Pl := fun v h => ∃ D ys, v = .ref D ∧ h.PlainList D ys ∧ StrsAre ys.toList ((word.cps.toList.filter isVow).map fun n => (⟨#[n]⟩ : Str))) (Pr := fun v h => ∃ a, v = .ref a ∧ h.PlainList a #[])
      ((Ev.compStr (c := c') (cl := []) isVowV (fun v y => y = v) hh' rfl (by decide) rfl (by decide) rfl (Ev.locS F.ns rfl) hw ?_ ?_).mono ?_) (Ev.newList0.mono fun v h ⟨a, e, p, _⟩ => ⟨a, e, p⟩) (fun v h h' g ⟨D, ys, e, p, s⟩ => ⟨D, ys, e, plain_grows p g, s⟩) (cmp_ne_nil (c := c') hu')
    · rintro C s₃ m₃ v i g₃ ⟨n, u, sg, rfl⟩ hn hm
      refine CTest.one (Ts.cmp (op := .In) (Pr := fun v h => ∃ a items, v = .ref a ∧ h.PlainList a items ∧ AllS items.toList vowS) (Ev.locS hn hm) ((Ev.listC vowE_ok vowE_len).mono fun v h ⟨a, items, e, p, s, _⟩ => ⟨a, items, e, p, s⟩) (up_s _) ?_)
      rintro x y h' ⟨t, rfl⟩ ⟨a, items, rfl, pl, al⟩ tk' Q E hQ
      exact in_list_strs (s := (inComp c' _ [] C s₃).st h' tk') (vs := items.toList) (by simpa using plain_isList pl) (strs_of_all al) (hQ tk')
    · exact fun C s₃ m₃ v i g₃ sg _ hn hm => Ev.loc hn hm
    · rintro v h' ⟨D, ys, vs, rfl, pl, hlen, hsg, hpr, _⟩
      exact ⟨D, ys, rfl, pl, picked word.cps.toList vs ys.toList hlen (fun j v e => by
        obtain ⟨n, u, e1, e2⟩ := hsg j v e
        exact ⟨n, u, by rw [Array.getElem?_toList]; exact e1, e2⟩) hpr⟩
  · rintro v h₂ tk₂ g₂ rfl
    exact ⟨h₂, tk₂, rfl, (F.after g₂).keep, rfl⟩
end Mine
end

section
open PySem PySem.W PyProof.Rows PySem.Calls PySem.StrLaws PySem.Builtin PySem.Builtin.Str
set_option maxRecDepth 100000
set_option maxHeartbeats 4000000
set_option linter.unusedVariables false
namespace Mine
theorem strs_inj {a : List Str} : ∀ {b : List Str}, a.map (fun x => x.cps.toList) = b.map (fun x => x.cps.toList) → a = b := by
  induction a with
  | nil => intro b e; cases b with
    | nil => rfl
    | cons _ _ => cases e
  | cons x a ih => intro b e; cases b with
    | nil => cases e
    | cons y b =>
      rw [List.map_cons, List.map_cons, List.cons.injEq] at e
      rw [ih e.2, Str.ext' (Array.toList_inj.mp e.1)]
theorem starts_pref : startsL = prefL := strs_inj (by decide +kernel)
theorem slice_over {x : Str} {j : Int} (h : (x.length : Int) ≤ j) : Txt.slice x none (some j) = x := by
  have e : strSliceIndices none (some j) 1 x.length = strSliceIndices none (some (x.length : Int)) 1 x.length := by
    have h0 : ¬ j < 0 := by omega
    have h1 : ¬ ((x.length : Int) < 0) := by omega
    have h2 : (1 : Int) > 0 := by decide
    simp only [strSliceIndices, h0, h1, h2, if_false, if_true, Int.min_eq_right h, Int.min_self]
  have e2 : Txt.slice x none (some j) = Txt.slice x none (some (x.length : Int)) := by
    unfold Txt.slice
    rw [e]
  rw [e2, slice_whole]
theorem starts_eq (w p : Str) : (Txt.slice w none (some (p.length : Int)) == p) = Txt.startswith w p := by
  rw [Bool.eq_iff_iff, beq_iff_eq]
  unfold Txt.startswith
  rw [Bool.and_eq_true, decide_eq_true_iff]
  by_cases hp : p.length ≤ w.length
  · rw [slice_to (by omega) (by omega), Int.toNat_natCast]
    unfold subAt
    rw [beq_iff_eq]
    constructor
    · intro e
      refine ⟨by omega, ?_⟩
      apply Array.toList_inj.mp
      rw [Array.toList_extract, ← congrArg (fun x : Str => x.cps.toList) e]
      show List.extract _ _ _ = w.cps.toList.take p.length
      simp [List.extract]
    · rintro ⟨-, e⟩
      apply Str.ext'
      apply Array.toList_inj.mp
      rw [← e, Array.toList_extract]
      show w.cps.toList.take p.length = List.extract _ _ _
      simp [List.extract]
  · rw [slice_over (by omega)]
    constructor
    · intro e; rw [e] at hp; exact absurd (Nat.le_refl _) hp
    · rintro ⟨e, -⟩; omega
def stripB : List Str → Str → Str
  | [], w => w
  | p :: ps, w => if (Txt.slice w none (some (p.length : Int)) == p) = true then Txt.slice w (some (p.length : Int)) none else stripB ps w
theorem strip_eq (w : Str) : ∀ ps, stripB ps w = stripP ps w
  | [] => rfl
  | p :: ps => by rw [stripB, stripP, starts_eq, strip_eq w ps]

theorem FnSt.keeps {h h' : Heap} {f : Addr} {q : Str} {st : Stmt} (x : FnSt h f q st) (g : Grows h h') : FnSt h' f q st := by
  cases st <;> first | exact x.elim | exact FnAt.keeps x g
theorem FnX.keeps {h h' : Heap} {mg : Str → Option Value} {q : Str} {st : Stmt} (x : FnX h mg q st) (g : Grows h h') : FnX h' mg q st := let ⟨f, a, b⟩ := x; ⟨f, a, b.keeps g⟩
theorem FnX.obj {h : Heap} {mg : Str → Option Value} {q : Str} {st : Stmt} (x : FnX h mg q st) : ∃ f o fd, mg q = some (.ref f) ∧ FnSt h f q st ∧ h.get? f = some o ∧ o.data = .func fd := by
  obtain ⟨f, a, b⟩ := x
  cases st <;> first | exact b.elim | (obtain ⟨o, pm, cd, doc, h1, h2, h3⟩ := id b; exact ⟨f, o, _, a, b, h1, h2⟩)
/-- what the law's functions lean on -/
structure Lw (h : Heap) (mg mb : Str → Option Value) : Prop where
  G : Gl h mg mb
  len : mg "len" = none
  starts : ∃ l items, mg "_law_starts" = some (.ref l) ∧ h.PlainList l items ∧ AllS items.toList startsL
  f11 : FnX h mg "_law_rules" (atTop 11)
  f12 : FnX h mg "_law_voiced" (atTop 12)
  f13 : FnX h mg "_law_bare" (atTop 13)
  f14 : FnX h mg "_law_first" (atTop 14)
  f15 : FnX h mg "_law_stemmed" (atTop 15)
theorem Lw.keeps {h h' : Heap} {mg mb : Str → Option Value} (x : Lw h mg mb) (g : Grows h h') : Lw h' mg mb :=
  ⟨x.G.keeps g, x.len, let ⟨l, items, a, b, d⟩ := x.starts; ⟨l, items, a, plain_grows b g, d⟩, x.f11.keeps g, x.f12.keeps g, x.f13.keeps g, x.f14.keeps g, x.f15.keeps g⟩

/-- a call of a function of the text by its name, one argument -/
theorem Ev.call1 {c : Cx} {h : Heap} {mg : Str → Option Value} {q : Str} {st : Stmt} {p' pos : Pos} {l : Expr} {Pa P : Value → Heap → Prop} (hg : h.Ns mainGlobals mg) (hf : FnX h mg q st) (hl : Ev c h l Pa) (up : Up Pa)
    (hb : ∀ f v h₁, Grows h h₁ → FnSt h₁ f q st → Pa v h₁ → Go c h₁ (call (.ref f) [v]) P)
    (he : c.env.globals = mainGlobals := by rfl) (hk : c.env.scope.kind = .function := by rfl) (hkl : c.env.kindOf q = some .globalImplicit := by rfl) (hd : (q == ("__debug__" : Str)) = false := by decide)
    (h1 : eval (.Call (.Name q p') [l] [] pos) c.env = (do callWith pos (← eval (.Name q p') c.env) [] (backTo pos (starEach [l] c.env)) (backToKw pos (keywordEach [] c.env))) := by rfl)
    (hs : starEach [l] c.env = [(false, eval l c.env)] := by rfl) : Ev c h (.Call (.Name q p') [l] [] pos) P := by
  obtain ⟨f, o, fd, hm, hf, ho, hdt⟩ := hf.obj
  refine Ev.callF (Ev.glob (mg := mg) (he ▸ hg) hm hk hkl hd) ho hdt (Evs.cons hl Evs.nil up hs) (fun vs h₁ g ⟨v, r, e1, p, e3⟩ => ?_) h1 hs
  subst e1 e3
  exact hb f v h₁ g (hf.keeps g) p
/-- a call of a function of the text by its name, two arguments -/
theorem Ev.call2 {c : Cx} {h : Heap} {mg : Str → Option Value} {q : Str} {st : Stmt} {p' pos : Pos} {l r : Expr} {Pa Pb P : Value → Heap → Prop} (hg : h.Ns mainGlobals mg) (hf : FnX h mg q st) (hl : Ev c h l Pa) (up : Up Pa) (hr : Ev c h r Pb) (up' : Up Pb)
    (hb : ∀ f v u h₁, Grows h h₁ → FnSt h₁ f q st → Pa v h₁ → Pb u h₁ → Go c h₁ (call (.ref f) [v, u]) P)
    (he : c.env.globals = mainGlobals := by rfl) (hk : c.env.scope.kind = .function := by rfl) (hkl : c.env.kindOf q = some .globalImplicit := by rfl) (hd : (q == ("__debug__" : Str)) = false := by decide)
    (h1 : eval (.Call (.Name q p') [l, r] [] pos) c.env = (do callWith pos (← eval (.Name q p') c.env) [] (backTo pos (starEach [l, r] c.env)) (backToKw pos (keywordEach [] c.env))) := by rfl)
    (hs : starEach [l, r] c.env = (false, eval l c.env) :: starEach [r] c.env := by rfl) (hs' : starEach [r] c.env = [(false, eval r c.env)] := by rfl) : Ev c h (.Call (.Name q p') [l, r] [] pos) P := by
  obtain ⟨f, o, fd, hm, hf, ho, hdt⟩ := hf.obj
  refine Ev.callF (Ev.glob (mg := mg) (he ▸ hg) hm hk hkl hd) ho hdt (Evs.cons hl (Evs.cons hr Evs.nil up' hs') up hs) (fun vs h₁ g ⟨v, rr, e1, p, u, r2, e2, p', e3⟩ => ?_) h1 hs
  subst e1 e2 e3
  exact hb f v u h₁ g (hf.keeps g) p p'
theorem law_bare {c : Cx} {h : Heap} {mg mb : Str → Option Value} {f : Addr} {word : Str} {tt : Tok} (L : Lw h mg mb) (hroom : c.A.depth < 900) (hh : c.A.handled = none) (hf : FnSt h f "_law_bare" (atTop 13)) (hw : word.length ≤ 2 ^ 20) :
    Go c h (call (.ref f) [.str word tt]) (IsS (stripP prefL word)) := by
  refine call_fn (binds := [("word", .str word tt)]) hf L.G.nolimit (by rw [rec_lim]; omega) (fun _ _ _ => by with_unfolding_all rfl) (locs rfl) (fun cd h₁ tk F => ?_) rfl rfl rfl (by decide)
  have hh' : (c.A.deeper (envOf "_law_bare" (fnScope (atTop 13)) h.objs.size f cd)).handled = none := hh
  generalize hA : c.A.deeper _ = A'
  replace hh' : A'.handled = none := hA ▸ hh'
  let c' : Cx := ⟨c.w, A', c.g, c.dr, c.os, envOf "_law_bare" (fnScope (atTop 13)) h.objs.size f cd⟩
  obtain ⟨l, items, sl, pl, al⟩ := L.starts
  refine ex_for (c := c') (P := IsV (.ref l)) F (Ev.glob (mg := mg) (L.G.g.keeps F.keep) sl) hh' ?_
  rintro v h₂ g₂ rfl F₂
  refine ⟨l, items, fun i h m => m "word" = some (.str word tt) ∧ stripB (startsL.drop i) word = stripP prefL word, rfl, plain_isList (plain_grows pl F₂.keep), fun _ _ => ⟨rfl, by rw [List.drop_zero, starts_pref]; exact strip_eq word prefL⟩, fun _ _ _ _ _ p _ _ _ => p, ?_, ?_⟩
  · rintro i v h₃ m₃ tk₃ it hv F₃ ⟨i1, i2⟩ isl islt nit nl nil'
    obtain ⟨p, t, hp, rfl⟩ := AllS.get al (by rw [Array.getElem?_toList]; exact hv)
    rw [drop_of_get hp, stripB] at i2
    have bp : p.length ≤ 2 ^ 20 := pref_len p (by rw [← starts_pref]; exact List.mem_of_getElem? hp)
    refine as_name (c := c') F₃ fun h₄ tk₄ sb F₄ => ?_
    have w4 : (upd m₃ "start" (.str p t)) "word" = some (.str word tt) := upd_ne (by decide) i1
    refine ex_if (c := c') (b := (Txt.slice word none (some (p.length : Int)) == p)) (Ts.cmp (Ev.slice_ns (Ev.locS F₄.ns w4) (Ev.len (Ev.blt (L.G.keeps F₄.keep) L.len rfl) (Ev.locS F₄.ns upd_eq) (by omega)) (by omega)) (Ev.locS F₄.ns upd_eq) (up_s _) cmp_eqs) ?_
    intro h₅ tk₅ g₅
    have F₅ := F₄.after g₅
    have isl5 : h₅.IsList l items := (isl.extBut sb.extBut nl).at fun o e => g₅ _ _ e
    have it5 : h₅.IsListIter it l (i + 1) := (islt.extBut sb.extBut nit).at fun o e => g₅ _ _ e
    cases hq : (Txt.slice word none (some (p.length : Int)) == p) with
    | true =>
      rw [if_pos hq] at i2
      refine ex_return (c := c') (Ev.slice_sn (Ev.locS F₅.ns w4) (Ev.len (Ev.blt (L.G.keeps F₅.keep) L.len rfl) (Ev.locS F₅.ns upd_eq) (by omega)) (by omega)) ?_
      rintro v h₆ tk₆ g₆ ⟨t6, rfl⟩
      exact ⟨h₆, tk₆, rfl, (F₅.after g₆).keep, t6, by rw [← i2]⟩
    | false =>
      rw [if_neg (by rw [hq]; exact Bool.false_ne_true)] at i2
      exact ex_nil (c := c') (ex_nil (c := c') ⟨h₅, _, tk₅, rfl, F₅, ⟨w4, i2⟩, it5, isl5⟩)
  · rintro h₃ m₃ tk₃ F₃ ⟨i1, i2⟩
    rw [show items.size = startsL.length by rw [← Array.length_toList]; exact al.len, List.drop_length] at i2
    refine ex_return (c := c') (Ev.locS F₃.ns i1) ?_
    rintro v h₄ tk₄ g₄ ⟨t4, rfl⟩
    exact ⟨h₄, tk₄, rfl, (F₃.after g₄).keep, t4, by rw [← i2]; rfl⟩
end Mine
end

section
open PySem PySem.W PyProof.Rows PySem.Calls PySem.StrLaws
set_option maxRecDepth 100000
set_option maxHeartbeats 4000000
set_option linter.unusedVariables false
namespace Mine
theorem RulesAt.extBut {h h' : Heap} {items : Array Value} {rs : List Rule} (x : RulesAt h items rs) {L : Addr} (g : Heap.ExtBut L h h') (ha : ∀ vs, h.get? L ≠ some (tupObj vs)) : RulesAt h' items rs :=
  ⟨x.1, fun i v u e1 e2 => (x.2 i v u e1 e2).ext g ha⟩
theorem it_not_tup {h : Heap} {it l : Addr} {i : Nat} (x : h.IsListIter it l i) (vs : List Value) : h.get? it ≠ some (tupObj vs) := fun e => by
  obtain ⟨o, e1, _, d⟩ := x
  rw [e] at e1; cases e1; cases d
theorem ns_not_tup {h : Heap} {L : Addr} {m : Str → Option Value} (x : h.Ns L m) (vs : List Value) : h.get? L ≠ some (tupObj vs) := fun e => by
  obtain ⟨o, es, ep, e1, d, _⟩ := x
  rw [e] at e1; cases e1; cases d
theorem Ev.ifExp {c : Cx} {h : Heap} {t b o : Expr} {pos : Pos} {v : Bool} {P : Value → Heap → Prop} (ht : Ts c h t v) (hb : v = true → Ev c h b P) (ho : v = false → Ev c h o P) : Ev c h (.IfExp t b o pos) P :=
  fun h₁ g₁ tk Q E hQ => IfExp_ (ht h₁ g₁ tk _ _ fun h₂ tk₂ g₂ => by
    cases v with
    | true => exact hb rfl h₂ (g₁.trans g₂) tk₂ _ _ fun v h₃ tk₃ g₃ p => hQ v h₃ tk₃ (g₂.trans g₃) p
    | false => exact ho rfl h₂ (g₁.trans g₂) tk₂ _ _ fun v h₃ tk₃ g₃ p => hQ v h₃ tk₃ (g₂.trans g₃) p)
theorem ev_voiced {c : Cx} {h : Heap} {mg mb : Str → Option Value} {x : Str} {p' pos : Pos} {l : Expr} (L : Lw h mg mb) (hroom : c.A.depth < 900) (hh : c.A.handled = none) (hu : c.A.units < 8900) (hl : Ev c h l (IsS x)) (hx : x.length ≤ 2 ^ 20)
    (he : c.env.globals = mainGlobals := by rfl) (hk : c.env.scope.kind = .function := by rfl) (hkl : c.env.kindOf "_law_voiced" = some .globalImplicit := by rfl)
    (h1 : eval (.Call (.Name "_law_voiced" p') [l] [] pos) c.env = (do callWith pos (← eval (.Name "_law_voiced" p') c.env) [] (backTo pos (starEach [l] c.env)) (backToKw pos (keywordEach [] c.env))) := by rfl)
    (hs : starEach [l] c.env = [(false, eval l c.env)] := by rfl) : Ev c h (.Call (.Name "_law_voiced" p') [l] [] pos) (IsV (.bool (voiced x))) :=
  Ev.call1 L.G.g L.f12 hl (up_s _) (fun f v h₁ g hf ⟨t, e⟩ => by subst e; exact law_voiced (L.G.keeps g) hroom hh hu hf hx) he hk hkl (by decide) h1 hs
theorem voiced_one (n : Nat) : voiced (one n) = isVow n := Bool.or_false _
/-- the law's first rule for a word -/
theorem law_first {c : Cx} {h : Heap} {mg mb : Str → Option Value} {f : Addr} {word : Str} {tt : Tok} {i : Bool} (L : Lw h mg mb) (hroom : c.A.depth < 890) (hh : c.A.handled = none) (hu : c.A.units < 8800) (hf : FnSt h f "_law_first" (atTop 14)) (hw : word.length ≤ 2 ^ 20) (h0 : 0 < word.length) :
    Go c h (call (.ref f) [.str word tt, .bool i]) (fun v h' => match firstRule word i with | none => v = .none | some u => RuleAt h' v u) := by
  refine call_fn (binds := [("word", .str word tt), ("untouched", .bool i)]) hf L.G.nolimit (by rw [rec_lim]; omega) (fun _ _ _ => by with_unfolding_all rfl) (locs rfl) (fun cd h₁ tk F => ?_) rfl rfl rfl (by decide)
  have hh' : (c.A.deeper (envOf "_law_first" (fnScope (atTop 14)) h.objs.size f cd)).handled = none := hh
  have hu' : (c.A.deeper (envOf "_law_first" (fnScope (atTop 14)) h.objs.size f cd)).units < 8900 := by rw [Around.deeper_units]; omega
  have hroom' : (c.A.deeper (envOf "_law_first" (fnScope (atTop 14)) h.objs.size f cd)).depth < 900 := by rw [depth_deeper]; omega
  generalize hA : c.A.deeper _ = A'
  replace hh' : A'.handled = none := hA ▸ hh'
  replace hu' : A'.units < 8900 := hA ▸ hu'
  replace hroom' : A'.depth < 900 := hA ▸ hroom'
  let c' : Cx := ⟨c.w, A', c.g, c.dr, c.os, envOf "_law_first" (fnScope (atTop 14)) h.objs.size f cd⟩
  have L1 := L.keeps F.keep
  -- least
  refine ex_assign (c := c') (P := IsI (least word)) F (Ev.ifExp (v := isVow (word.cps.getD 0 0)) ((Ts.bool (ev_voiced (c := c') L1 hroom' hh' hu' (Ev.item1 (Ev.locS F.ns rfl) Ev.int hw h0) (by show 1 ≤ 2 ^ 20; decide))).of (voiced_one _)) (fun e => ?_) (fun e => ?_)) ?_
  · have : least word = 2 := by unfold least; rw [if_pos e]
    rw [this]; exact Ev.int
  · have : least word = 3 := by unfold least; rw [if_neg (by rw [e]; exact Bool.false_ne_true)]
    rw [this]; exact Ev.int
  rintro v h₂ h₃ tk₃ g₂ ⟨tl, rfl⟩ sb₃ F₃
  obtain ⟨m3, G₃, a1, a2, a3⟩ : ∃ m3, Fr h h.objs.size h₃ m3 ∧ m3 "least" = some (.int (least word) tl) ∧ m3 "word" = some (.str word tt) ∧ m3 "untouched" = some (.bool i) := ⟨_, F₃, upd_eq, upd_ne (by decide) rfl, upd_ne (by decide) rfl⟩
  obtain ⟨f11, o11, fd11, q1, q2, q3, q4⟩ := (L.keeps G₃.keep).f11.obj
  -- for order in _law_rules():
  refine ex_for (c := c') (P := fun v h' => ∃ a items, v = .ref a ∧ h'.PlainList a items ∧ RulesAt h' items lawRules) G₃ (Ev.callF0 (Ev.glob (mg := mg) (L.keeps G₃.keep).G.g q1) q3 q4 fun h₁ g => law_rules ((L.keeps G₃.keep).G.keeps g) hroom' (q2.keeps g)) hh' ?_
  rintro v h₄ g₄ ⟨l, items, rfl, pl, ra⟩ F₄
  refine ⟨l, items, fun j h m => m "least" = some (.int (least word) tl) ∧ m "word" = some (.str word tt) ∧ m "untouched" = some (.bool i) ∧ RulesAt h items lawRules ∧ (lawRules.drop j).find? (fits word i) = firstRule word i, rfl, plain_isList pl,
    fun h₅ g₅ => ⟨a1, a2, a3, ra.grows g₅, rfl⟩, fun j h h' m it ⟨p1, p2, p3, p4, p5⟩ hit e _ => ⟨p1, p2, p3, p4.extBut e (it_not_tup hit), p5⟩, ?_, ?_⟩
  · rintro j v h₅ m₅ tk₅ it hv F₅ ⟨p1, p2, p3, p4, p5⟩ isl islt nit nl nil'
    have hj : j < lawRules.length := by rw [← p4.1]; exact (Array.getElem?_eq_some_iff.mp hv).1
    obtain ⟨u, hju⟩ : ∃ u, lawRules[j]? = some u := ⟨_, List.getElem?_eq_getElem hj⟩
    obtain ⟨at_, vs, rfl, hat, t1, t2, t3, rfl⟩ := p4.2 j v u hv hju
    rw [drop_of_get hju, List.find?_cons] at p5
    obtain ⟨k1, k2, k3, k4, k5⟩ := row_ok (List.mem_of_getElem? hju)
    refine as_name (c := c') F₅ fun h₆ tk₆ sb₆ F₆ => ?_
    have hat6 : h₆.get? at_ = some (tupObj [.str u.e t1, .bool u.i, .int u.n t2, .str u.a t3, .bool u.g]) := sb₆.extBut _ _ (fun q => ns_not_tup F₅.ns _ (q ▸ hat)) hat
    have p4 : RulesAt h₆ items lawRules := p4.extBut sb₆.extBut (ns_not_tup F₅.ns)
    have B6 : h₆.IsListIter it l (j + 1) ∧ h₆.IsList l items := ⟨islt.extBut sb₆.extBut nit, isl.extBut sb₆.extBut nl⟩
    obtain ⟨m6, G₆, a0, a1, a2, a3⟩ : ∃ m6, Fr h h.objs.size h₆ m6 ∧ m6 "order" = some (.ref at_) ∧ m6 "least" = some (.int (least word) tl) ∧ m6 "word" = some (.str word tt) ∧ m6 "untouched" = some (.bool i) := ⟨_, F₆, upd_eq, upd_ne (by decide) p1, upd_ne (by decide) p2, upd_ne (by decide) p3⟩
    have L6 := L.keeps G₆.keep
    have hfit : fits word i u = (Txt.endswith word u.e && ((i || (!u.i || false)) && (decide (least word ≤ (word.length : Int) - u.n + u.a.length) && true))) := by
      unfold fits
      rw [Bool.or_false, Bool.and_true, Bool.and_assoc]
    refine ex_if (c := c') (b := Txt.endswith word u.e && ((i || (!u.i || false)) && (decide (least word ≤ (word.length : Int) - u.n + u.a.length) && true)))
      (Ts.and (Ts.bool (Ev.endswith (Ev.locS G₆.ns a2) ((Ev.tupItem (Ev.loc G₆.ns a0) Ev.int hat6 (by decide) (by decide) (j := 0) rfl rfl).mono fun v h e => ⟨t1, e⟩))) fun _ =>
        Ts.and (Ts.or (Ts.bool (Ev.loc G₆.ns a3)) fun _ => Ts.or (Ts.not (Ts.bool (Ev.tupItem (Ev.loc G₆.ns a0) Ev.int hat6 (by decide) (by decide) (j := 1) rfl rfl))) fun _ => Ts.orNil) fun _ =>
        Ts.and (Ts.cmp (Ev.add (Ev.sub (Ev.len (Ev.blt L6.G L6.len rfl) (Ev.locS G₆.ns a2) (by omega)) ((Ev.tupItem (Ev.loc G₆.ns a0) Ev.int hat6 (by decide) (by decide) (j := 2) rfl rfl).mono fun v h e => ⟨t2, e⟩))
          (Ev.len (Ev.blt L6.G L6.len rfl) ((Ev.tupItem (Ev.loc G₆.ns a0) Ev.int hat6 (by decide) (by decide) (j := 3) rfl rfl).mono fun v h e => ⟨t3, e⟩) (by omega))) (Ev.locI G₆.ns a1) (up_i _) cmp_ge) fun _ => Ts.andNil) ?_
    intro h₇ tk₇ g₇
    have F₇ := G₆.after g₇
    have B7 := pair_grows B6 g₇
    rw [← hfit]
    cases hq : fits word i u with
    | true =>
      rw [hq] at p5
      refine ex_return (c := c') (Ev.loc F₇.ns a0) ?_
      rintro v h₈ tk₈ g₈ rfl
      refine ⟨h₈, tk₈, rfl, (F₇.after g₈).keep, ?_⟩
      rw [← p5]
      exact ⟨at_, _, rfl, g₈ _ _ (g₇ _ _ hat6), t1, t2, t3, rfl⟩
    | false =>
      rw [hq] at p5
      exact ex_nil (c := c') (ex_nil (c := c') ⟨h₇, _, tk₇, rfl, F₇, ⟨a1, a2, a3, p4.grows g₇, p5⟩, B7.1, B7.2⟩)
  · rintro h₅ m₅ tk₅ F₅ ⟨p1, p2, p3, p4, p5⟩
    rw [p4.1, List.drop_length] at p5
    refine ex_return (c := c') (P := IsV .none) Ev.nonec ?_
    rintro v h₆ tk₆ g₆ rfl
    refine ⟨h₆, tk₆, rfl, (F₅.after g₆).keep, ?_⟩
    rw [← p5]; rfl
end Mine
end

section
open PySem PySem.W PyProof.Rows PySem.Calls PySem.StrLaws
set_option maxRecDepth 100000
set_option maxHeartbeats 4000000
set_option linter.unusedVariables false
namespace Mine
def lastN (w : Str) : Nat := w.cps.getD (w.length - 1) 0
def slow (n : Nat) : Bool := n == 99 || n == 105
/-- what each step of the law makes less -/
def mu (w : Str) : Nat := 2 * w.length + if slow (lastN w) = true then 1 else 0
def goesDown (u : Rule) : Bool := !u.g || u.n == 0 || decide ((u.a.length : Int) < u.n) || (Nat.blt 0 u.a.length && slow (lastN u.e) && !slow (lastN u.a))
theorem rules_down : (lawRules.all goesDown) = true := by kernel_rfl
theorem ends_lastN {w e : Str} (he : 0 < e.length) (h : Txt.endswith w e = true) : lastN w = lastN e := by
  obtain ⟨h1, h2⟩ := ends_last he h
  rw [item_last e he, item_last w h1] at h2
  have h3 : (#[e.cps.getD (e.length - 1) 0] : Array Nat) = #[w.cps.getD (w.length - 1) 0] := congrArg Str.cps h2
  exact (List.singleton_inj.mp (congrArg Array.toList h3)).symm
theorem lastN_append {x y : Str} (h : 0 < y.length) : lastN (x ++ y) = lastN y := by
  have hy : 0 < y.cps.size := h
  unfold lastN
  rw [append_len, Str.cps_append, Array.getD_eq_getD_getElem?, Array.getD_eq_getD_getElem?, Array.getElem?_append_right (by show x.cps.size ≤ _; have : x.length = x.cps.size := rfl; omega)]
  congr 2
  have : x.length = x.cps.size := rfl
  omega
theorem next_mu {w : Str} {u : Rule} (hu : u ∈ lawRules) (he : Txt.endswith w u.e = true) (hg : u.g = true) (hn : u.n ≠ 0) : mu (nextWord w u) < mu w := by
  obtain ⟨h1, h2, h3, h4, h5⟩ := row_ok hu
  have hl := ends_len he
  have hlen : (nextWord w u).length = w.length - u.n.toNat + u.a.length := by
    unfold nextWord
    rw [append_len, slice_to (by omega) (by omega)]
    show (w.cps.toList.take _).length + _ = _
    rw [List.length_take, len_list]
    omega
  have d := List.all_eq_true.mp rules_down u hu
  unfold goesDown at d
  rw [hg, beq_eq_false_iff_ne.mpr hn] at d
  simp only [Bool.not_true, Bool.false_or, Bool.or_eq_true, decide_eq_true_eq, Bool.and_eq_true, Bool.not_eq_true'] at d
  unfold mu
  rw [hlen]
  rcases d with d | ⟨⟨d1, d2⟩, d3⟩
  · split <;> split <;> omega
  · have d1 : 0 < u.a.length := Nat.le_of_ble_eq_true d1
    have e1 : lastN (nextWord w u) = lastN u.a := lastN_append d1
    rw [e1, ends_lastN h1 he, d2, d3, if_pos rfl, if_neg Bool.false_ne_true]
    omega
theorem cmp_is_no {c : Cx} {v : Value} {b : Bool} (hb : (v == .none) = b) : Cmp c .Is (IsV v) (IsV .none) b := fun _ _ _ e1 e2 tk Q E hQ => by
  subst e1 e2
  exact is_none_gen (by rw [hb]; exact hQ tk)
/-- what a call of the law's search answers -/
def Due (d : Option Str) (v : Value) : Prop := match d with
  | none => v = .none
  | some d => ∃ t, v = .str d t
theorem voiced_pos {w : Str} (h : voiced w = true) : 0 < w.length := by
  rcases Nat.eq_zero_or_pos w.length with q | q
  · exfalso
    rw [voiced, Array.toList_eq_nil_iff.mpr (Array.eq_empty_of_size_eq_zero q)] at h
    cases h
  · exact q
theorem law_stemmed : ∀ (n : Nat) {c : Cx} {h : Heap} {mg mb : Str → Option Value} {f : Addr} {word : Str} {tt : Tok} {i : Bool} (L : Lw h mg mb) (hroom : c.A.depth + n < 880) (hh : c.A.handled = none) (hu : c.A.units + 3 * n < 8700) (hf : FnSt h f "_law_stemmed" (atTop 15)) (hw : word.length ≤ 1000) (hmu : mu word < n),
    Go c h (call (.ref f) [.str word tt, .bool i]) (fun v _ => Due (due n word i) v)
  | 0, _, _, _, _, _, _, _, _, _, _, _, _, _, _, hmu => absurd hmu (Nat.not_lt_zero _)
  | n + 1, c, h, mg, mb, f, word, tt, i, L, hroom, hh, hu, hf, hw, hmu => by
    refine call_fn (binds := [("word", .str word tt), ("untouched", .bool i)]) hf L.G.nolimit (by rw [rec_lim]; omega) (fun _ _ _ => by with_unfolding_all rfl) (locs rfl) (fun cd h₁ tk F => ?_) rfl rfl rfl (by decide)
    have hh' : (c.A.deeper (envOf "_law_stemmed" (fnScope (atTop 15)) h.objs.size f cd)).handled = none := hh
    have hu' : (c.A.deeper (envOf "_law_stemmed" (fnScope (atTop 15)) h.objs.size f cd)).units + 3 * n < 8700 := by rw [Around.deeper_units]; omega
    have hroom' : (c.A.deeper (envOf "_law_stemmed" (fnScope (atTop 15)) h.objs.size f cd)).depth + n < 880 := by rw [depth_deeper]; omega
    generalize hA : c.A.deeper _ = A'
    replace hh' : A'.handled = none := hA ▸ hh'
    replace hu' : A'.units + 3 * n < 8700 := hA ▸ hu'
    replace hroom' : A'.depth + n < 880 := hA ▸ hroom'
    have u8 : A'.units < 8800 := by omega
    have r8 : A'.depth < 890 := by omega
    let c' : Cx := ⟨c.w, A', c.g, c.dr, c.os, envOf "_law_stemmed" (fnScope (atTop 15)) h.objs.size f cd⟩
    rw [due]
    -- if not _law_voiced(word): return None
    refine ex_if (c := c') (b := !voiced word) (Ts.not (Ts.bool (ev_voiced (c := c') (L.keeps F.keep) (Nat.lt_trans r8 (by decide)) hh' (Nat.lt_trans u8 (by decide)) (Ev.locS F.ns rfl) (by omega)))) ?_
    intro h₂ tk₂ g₂
    have F₂ := F.after g₂
    cases hv : voiced word with
    | false =>
      rw [if_pos rfl]
      refine ex_return (c := c') (P := IsV .none) Ev.nonec ?_
      rintro v h₃ tk₃ g₃ rfl
      exact ⟨h₃, tk₃, rfl, (F₂.after g₃).keep, rfl⟩
    | true =>
      rw [if_neg Bool.noConfusion]
      refine ex_nil (c := c') ?_
      have hpos := voiced_pos hv
      -- order = _law_first(word, untouched)
      refine ex_assign (c := c') (P := fun v h' => match firstRule word i with | none => v = .none | some u => RuleAt h' v u) F₂
        (Ev.call2 (L.keeps F₂.keep).G.g (L.keeps F₂.keep).f14 (Ev.locS F₂.ns rfl) (up_s word) (Ev.loc F₂.ns rfl) (up_v (.bool i)) fun f' v u h' g hf' ⟨t, e1⟩ e2 => by
          obtain rfl : u = .bool i := e2
          subst e1
          exact law_first ((L.keeps F₂.keep).keeps g) r8 hh' u8 hf' (by omega) hpos) ?_
      rintro v h₃ h₄ tk₄ g₃ hr sb₄ F₄
      have hr4 : match firstRule word i with | none => v = .none | some u => RuleAt h₄ v u := by
        cases hfr : firstRule word i with
        | none => rw [hfr] at hr; exact hr
        | some u => rw [hfr] at hr; exact hr.ext sb₄.extBut (ns_not_tup (F₂.after g₃).ns)
      obtain ⟨m4, G₄, a1, a2, a3⟩ : ∃ m4, Fr h h.objs.size h₄ m4 ∧ m4 "order" = some v ∧ m4 "word" = some (.str word tt) ∧ m4 "untouched" = some (.bool i) := ⟨_, F₄, upd_eq, upd_ne (by decide) rfl, upd_ne (by decide) rfl⟩
      cases hfr : firstRule word i with
      | none =>
        rw [hfr] at hr4
        obtain rfl : v = .none := hr4
        -- if order is None: return word
        refine ex_if (c := c') (b := true) (Ts.cmp (Ev.loc G₄.ns a1) Ev.nonec (up_v _) (cmp_is_no rfl)) ?_
        intro h₅ tk₅ g₅
        rw [if_pos rfl]
        refine ex_return (c := c') (Ev.locS (G₄.after g₅).ns a2) ?_
        rintro v h₆ tk₆ g₆ ⟨t6, rfl⟩
        exact ⟨h₆, tk₆, rfl, ((G₄.after g₅).after g₆).keep, t6, rfl⟩
      | some u =>
        rw [hfr] at hr4
        obtain ⟨at_, vs, rfl, hat, t1, t2, t3, rfl⟩ := hr4
        have umem := List.mem_of_find?_eq_some hfr
        have ufit : fits word i u = true := List.find?_some hfr
        have uend : Txt.endswith word u.e = true := by
          unfold fits at ufit
          simp only [Bool.and_eq_true] at ufit
          exact ufit.1.1
        obtain ⟨k1, k2, k3, k4, k5⟩ := row_ok umem
        have nlen := next_len umem uend
        refine ex_if (c := c') (b := false) (Ts.cmp (Ev.loc G₄.ns a1) Ev.nonec (up_v _) (cmp_is_no (by rfl))) ?_
        intro h₅ tk₅ g₅
        rw [if_neg Bool.false_ne_true]
        have F₅ := G₄.after g₅
        have hat5 := g₅ _ _ hat
        refine ex_nil (c := c') ?_
        -- if order[2] == 0: return None
        refine ex_if (c := c') (b := u.n == 0) (Ts.cmp ((Ev.tupItem (Ev.loc F₅.ns a1) Ev.int hat5 (by decide) (by decide) (j := 2) rfl rfl).mono fun v h e => ⟨t2, e⟩) Ev.int (up_i _) cmp_eqi) ?_
        intro h₆ tk₆ g₆
        have F₆ := F₅.after g₆
        have hat6 := g₆ _ _ hat5
        by_cases hn : u.n = 0
        · rw [if_pos (beq_iff_eq.mpr hn)]
          refine ex_return (c := c') (P := IsV .none) Ev.nonec ?_
          rintro v h₇ tk₇ g₇ rfl
          refine ⟨h₇, tk₇, rfl, (F₆.after g₇).keep, ?_⟩
          dsimp only
          rw [if_pos hn]
          rfl
        rw [if_neg (by rw [beq_iff_eq]; exact hn)]
        refine ex_nil (c := c') ?_
        dsimp only
        rw [if_neg hn]
        have L6 := L.keeps F₆.keep
        -- word = word[:len(word) - order[2]] + order[3]
        refine ex_assign (c := c') (P := IsS (nextWord word u)) F₆ (Ev.cat (Ev.slice_ns (Ev.locS F₆.ns a2) (Ev.sub (Ev.len (Ev.blt L6.G L6.len rfl) (Ev.locS F₆.ns a2) (by omega)) ((Ev.tupItem (Ev.loc F₆.ns a1) Ev.int hat6 (by decide) (by decide) (j := 2) rfl rfl).mono fun v h e => ⟨t2, e⟩)) (by omega))
          ((Ev.tupItem (Ev.loc F₆.ns a1) Ev.int hat6 (by decide) (by decide) (j := 3) rfl rfl).mono fun v h e => ⟨t3, e⟩) (by
            have : (nextWord word u).length = _ := append_len _ _
            omega)) ?_
        rintro v h₇ h₈ tk₈ g₇ ⟨t8, rfl⟩ sb₈ F₈
        have hat8 : h₈.get? at_ = some (tupObj [.str u.e t1, .bool u.i, .int u.n t2, .str u.a t3, .bool u.g]) := sb₈.extBut _ _ (fun q => ns_not_tup (F₆.after g₇).ns _ (q ▸ g₇ _ _ hat6)) (g₇ _ _ hat6)
        obtain ⟨m8, G₈, b1, b2⟩ : ∃ m8, Fr h h.objs.size h₈ m8 ∧ m8 "word" = some (.str (nextWord word u) t8) ∧ m8 "order" = some (.ref at_) := ⟨_, F₈, upd_eq, upd_ne (by decide) a1⟩
        -- if order[4]: return _law_stemmed(word, False)
        refine ex_if (c := c') (b := u.g) (Ts.bool (Ev.tupItem (Ev.loc G₈.ns b2) Ev.int hat8 (by decide) (by decide) (j := 4) rfl rfl)) ?_
        intro h₉ tk₉ g₉
        have F₉ := G₈.after g₉
        have L9 := L.keeps F₉.keep
        cases hg : u.g with
        | true =>
          rw [if_pos rfl, if_pos rfl]
          have dn := next_mu umem uend hg hn
          refine ex_return (c := c') (P := fun v _ => Due (due n (nextWord word u) false) v) (Ev.call2 L9.G.g L9.f15 (Ev.locS F₉.ns b1) (up_s _) Ev.bool (up_v _) fun f' v u' h' g hf' ⟨t, e1⟩ e2 => by
            obtain rfl : u' = .bool false := e2
            subst e1
            exact law_stemmed n (c := c') (L9.keeps g) hroom' hh' hu' hf' (by omega) (by omega)) ?_
          rintro v h₁₀ tk₁₀ g₁₀ p
          exact ⟨h₁₀, tk₁₀, rfl, (F₉.after g₁₀).keep, p⟩
        | false =>
          rw [if_neg Bool.false_ne_true, if_neg Bool.false_ne_true]
          refine ex_nil (c := c') ?_
          refine ex_return (c := c') (P := fun v _ => Due (if voiced (nextWord word u) = true then some (nextWord word u) else none) v)
            (Ev.ifExp (v := voiced (nextWord word u)) (Ts.bool (ev_voiced (c := c') L9 (Nat.lt_trans r8 (by decide)) hh' (Nat.lt_trans u8 (by decide)) (Ev.locS F₉.ns b1) (by omega))) (fun e => ?_) (fun e => ?_)) ?_
          · rw [if_pos e]; exact Ev.locS F₉.ns b1
          · rw [if_neg (by rw [e]; exact Bool.false_ne_true)]; exact Ev.nonec
          rintro v h₁₀ tk₁₀ g₁₀ p
          exact ⟨h₁₀, tk₁₀, rfl, (F₉.after g₁₀).keep, p⟩
end Mine
end

section
open PySem PySem.W PyProof.Rows PySem.Calls PySem.StrLaws
set_option maxRecDepth 100000
set_option maxHeartbeats 4000000
set_option linter.unusedVariables false
namespace Mine
/-- the method stem gives the empty word back -/
theorem stem_empty {c : Cx} {h : Heap} {mg mb : Str → Option Value} {f x dx R : Addr} {word : Str} {tt : Tok} (S : Sd c.w h mg mb x dx R) (hroom : c.A.depth < 800) (hf : FnSt h f "PaiceHuskStemmer.stem" (atCls 4 4)) (h0 : word.length = 0) :
    Go c h (call (.ref f) [.ref x, .str word tt]) (IsS word) := by
  refine call_fn (binds := [("self", .ref x), ("word", .str word tt)]) hf S.rd.G.nolimit (by rw [rec_lim]; omega) (fun _ _ _ => by with_unfolding_all rfl) (locs rfl) (fun cd h₁ tk F => ?_) rfl rfl rfl (by decide)
  have hroom' : (c.A.deeper (envOf "PaiceHuskStemmer.stem" (fnScope (atCls 4 4)) h.objs.size f cd)).depth < 850 := by rw [depth_deeper]; omega
  generalize hA : c.A.deeper _ = A'
  replace hroom' : A'.depth < 850 := hA ▸ hroom'
  let c' : Cx := ⟨c.w, A', c.g, c.dr, c.os, envOf "PaiceHuskStemmer.stem" (fnScope (atCls 4 4)) h.objs.size f cd⟩
  have hr9 : c'.A.depth < 900 := Nat.lt_of_lt_of_le hroom' (by decide)
  obtain ⟨es, en, hx, hdx, hes, e1, e2, e3, T⟩ := S.st
  refine ex_assign (c := c') F (ev_rules rfl F S.K rfl (F.keep _ _ hx) (F.keep _ _ hdx) hes) ?_
  rintro v h₂ h₃ tk₃ g₂ rfl sb₃ F₃
  refine ex_assign (c := c') F₃ (ev_word_run (x := word) (p := 0) (S.rd.keeps F₃.keep) hr9 (Ev.locS F₃.ns (upd_ne (by decide) rfl)) Ev.int (by omega) (Nat.zero_le _)) ?_
  rintro v h₄ h₅ tk₅ g₄ ⟨t5, rfl⟩ sb₅ F₅
  have hrun : wordRun word 0 = 0 := wordRun_end h0.symm
  rw [hrun] at F₅
  refine ex_if (c := c') (b := true) ((Ts.not (Ts.int (Ev.locI F₅.ns upd_eq))).of rfl) ?_
  intro h₆ tk₆ g₆
  rw [if_pos rfl]
  refine ex_return (c := c') (Ev.locS (F₅.after g₆).ns (upd_ne (by decide) (upd_ne (by decide) rfl))) ?_
  rintro v h₇ tk₇ g₇ ⟨t7, rfl⟩
  exact ⟨h₇, tk₇, rfl, ((F₅.after g₆).after g₇).keep, t7, rfl⟩
theorem Sd.keeps {w : World} {h h' : Heap} {mg mb : Str → Option Value} {x dx R : Addr} (S : Sd w h mg mb x dx R) (g : Grows h h') : Sd w h' mg mb x dx R :=
  ⟨S.rd.keeps g, S.min, S.K.keeps g, FnSt.keeps S.f61 g, FnSt.keeps S.f68 g, S.st.grows g, S.Rs⟩
/-- the module's stem -/
theorem mod_stem {c : Cx} {h : Heap} {mg mb : Str → Option Value} {f x dx R : Addr} {word d : Str} {tt : Tok} (S : Sd c.w h mg mb x dx R) (hstd : mg "_standard" = some (.ref x)) (f75 : FnSt h 75 "PaiceHuskStemmer.stem" (atCls 4 4)) (hroom : c.A.depth < 700) (hh : c.A.handled = none) (hf : FnSt h f "stem" (atTop 7))
    (hgo : ∀ (c' : Cx) h₁ t, c'.w = c.w → c'.A.depth < 800 → c'.A.handled = none → Grows h h₁ → Go c' h₁ (call (.ref 75) [.ref x, .str word t]) (IsS d)) :
    Go c h (call (.ref f) [.str word tt]) (IsS d) := by
  refine call_fn (binds := [("word", .str word tt)]) hf S.rd.G.nolimit (by rw [rec_lim]; omega) (fun _ _ _ => by with_unfolding_all rfl) (locs rfl) (fun cd h₁ tk F => ?_) rfl rfl rfl (by decide)
  have hh' : (c.A.deeper (envOf "stem" (fnScope (atTop 7)) h.objs.size f cd)).handled = none := hh
  have hroom' : (c.A.deeper (envOf "stem" (fnScope (atTop 7)) h.objs.size f cd)).depth < 800 := by rw [depth_deeper]; omega
  generalize hA : c.A.deeper _ = A'
  replace hh' : A'.handled = none := hA ▸ hh'
  replace hroom' : A'.depth < 800 := hA ▸ hroom'
  let c' : Cx := ⟨c.w, A', c.g, c.dr, c.os, envOf "stem" (fnScope (atTop 7)) h.objs.size f cd⟩
  obtain ⟨es, en, hx, hdx, hes, e1, e2, e3, T⟩ := S.st
  refine ex_return (c := c') (P := IsS d) (Ev.inst (c := c') (P := c.w.params) F S.K (Ev.glob (mg := mg) (S.rd.G.g.keeps F.keep) hstd) (F.keep _ _ hx) (F.keep _ _ hdx) e1 (k_m75 _) (k_f75 _) (Ev.locS F.ns rfl) (up_s word) (obj_of f75) ?_) ?_
  · rintro v h₂ g₂ ⟨t, rfl⟩
    exact hgo c' h₂ t rfl hroom' hh' fun b o e => g₂ _ _ (F.keep b o e)
  · rintro v h₂ tk₂ g₂ ⟨t, rfl⟩
    exact ⟨h₂, tk₂, rfl, (F.after g₂).keep, t, rfl⟩
end Mine
end

section
open PySem PySem.W PyProof.Rows PySem.Calls PySem.StrLaws
set_option maxRecDepth 100000
set_option maxHeartbeats 4000000
set_option linter.unusedVariables false
namespace Mine
def isLow (n : Nat) : Bool := Nat.ble 97 n && Nat.ble n 122
def low (w : Str) : Bool := w.cps.toList.all isLow
/-- a piece: some small letters, ten at the most -/
def okPiece (x : Str) : Bool := Nat.ble x.length 10 && low x
def OkP (v : Value) : Prop := ∃ x t, v = .str x t ∧ okPiece x = true
/-- a list of pieces -/
def PL (lo hi : Nat) : Value → Heap → Prop := fun v h => ∃ a items, v = .ref a ∧ h.PlainList a items ∧ (∀ v ∈ items.toList, OkP v) ∧ lo ≤ items.size ∧ items.size ≤ hi
theorem PL.up {lo hi : Nat} : Up (PL lo hi) := fun v h h' g ⟨a, items, e, p, q⟩ => ⟨a, items, e, plain_grows p g, q⟩
theorem paired_all {α β : Type} {F : α → β → Prop} {P : β → Prop} (hF : ∀ a b, F a b → P b) : ∀ {xs : List α} {ys : List β}, Paired F xs ys → ∀ y ∈ ys, P y
  | _, _, .nil, _, h => absurd h List.not_mem_nil
  | _, _, .cons f r, y, h => by
    rcases List.mem_cons.mp h with rfl | h
    · exact hF _ _ f
    · exact paired_all hF r y h
theorem letters_low : (lettersL.cps.toList.all isLow && Nat.blt 0 lettersL.length && Nat.ble lettersL.length 1000) = true := by decide +kernel
theorem rules_low : (lawRules.all fun u => okPiece u.e) = true := by kernel_rfl
theorem rules_few : lawRules.length ≤ 1000 := Nat.le_of_ble_eq_true (by kernel_rfl)
theorem starts_low : (startsL.all okPiece && Nat.ble startsL.length 1000) = true := by decide +kernel
theorem ok_one {n : Nat} (h : isLow n = true) : okPiece ⟨#[n]⟩ = true := by
  unfold okPiece low
  rw [Bool.and_eq_true]
  exact ⟨rfl, by show (isLow n && true) = true; rw [h]; rfl⟩
theorem alls_ok : ∀ {vs : List Value} {xs : List Str}, AllS vs xs → xs.all okPiece = true → ∀ v ∈ vs, OkP v
  | [], [], _, _, _, h => absurd h List.not_mem_nil
  | v :: vs, x :: xs, a, b, u, h => by
    rw [List.all_cons, Bool.and_eq_true] at b
    obtain ⟨⟨t, rfl⟩, a⟩ := a
    rcases List.mem_cons.mp h with rfl | h
    · exact ⟨x, t, rfl, b.1⟩
    · exact alls_ok a b.2 u h
theorem low_append {x y : Str} (hx : low x = true) (hy : low y = true) : low (x ++ y) = true := by
  unfold low at *
  rw [Str.cps_append, Array.toList_append, List.all_append, hx, hy]; rfl
theorem low_take {x : Str} (hx : low x = true) (k : Nat) : low (toS (x.cps.toList.take k)) = true := by
  unfold low at *
  rw [List.all_eq_true] at *
  intro n hn
  exact hx n (List.mem_of_mem_take (by simpa using hn))
theorem low_word {n : Nat} (h : isLow n = true) : isWord n = true := by
  unfold isLow at h
  rw [Bool.and_eq_true] at h
  have h1 := Nat.le_of_ble_eq_true h.1
  have h2 := Nat.le_of_ble_eq_true h.2
  unfold isWord
  simp only [decide_eq_true h1, decide_eq_true h2, Bool.and_self, Bool.true_or]
theorem run_low {w : Str} (h : low w = true) : wordRun w 0 = w.length := by
  have : ∀ l : List Nat, l.all isLow = true → runOf l = l.length := by
    intro l
    induction l with
    | nil => exact fun _ => rfl
    | cons a l ih =>
      intro h
      rw [List.all_cons, Bool.and_eq_true] at h
      rw [runOf, if_pos (low_word h.1), ih h.2]; rfl
  unfold wordRun
  rw [List.drop_zero, this _ h, Nat.zero_add]; rfl
theorem strip_len : ∀ (ps : List Str) (w : Str), (stripP ps w).length ≤ w.length
  | [], w => Nat.le_refl _
  | p :: ps, w => by
    rw [stripP]
    split
    · exact Txt.slice_le _ _ _
    · exact strip_len ps w
/-- the word cut to its first sixteen letters -/
theorem cut16 {w : Str} (h : low w = true) : low (Txt.slice w none (some 16)) = true ∧ (Txt.slice w none (some 16)).length ≤ 16 := by
  by_cases hl : (w.length : Int) ≤ 16
  · rw [slice_over hl]; exact ⟨h, by omega⟩
  · rw [slice_to (by decide) (by omega)]
    refine ⟨low_take h _, ?_⟩
    show (w.cps.toList.take _).length ≤ 16
    rw [List.length_take]
    exact Nat.min_le_left _ _
section
variable {c : Cx} {h : Heap} {pos : Pos} {e l r : Expr}
theorem add_go {lo hi lo' hi' : Nat} (hz : hi + hi' ≤ 2 ^ 20) : ∀ a b h₁, PL lo hi a h₁ → PL lo' hi' b h₁ → Go c h₁ (binaryOp .Add a b) (PL (lo + lo') (hi + hi')) := by
  rintro a b h₁ ⟨a', is, rfl, ⟨n, pl⟩, ok, s1, s2⟩ ⟨b', js, rfl, ⟨n', pl'⟩, ok', s1', s2'⟩ tk Q E hQ
  refine P.add_list (s := c.st h₁ tk) pl pl' (hQ _ _ _ (Grows.push _ _) ⟨_, is ++ js, rfl, ⟨0, Heap.get?_push_size _ rfl⟩, fun v hv => ?_, ?_, ?_⟩) (by rw [sizeLine_eq]; omega)
  · rw [Array.toList_append, List.mem_append] at hv
    exact hv.elim (ok v) (ok' v)
  · rw [Array.size_append]; omega
  · rw [Array.size_append]; omega
theorem Ev.listTo {value b : Expr} {ps : Pos} {l : Addr} {items : Array Value} {j : Int} (hv : Ev c h value (IsV (.ref l))) (hb : Ev c h b (IsI j)) (hl : h.IsList l items) (hsz : items.size ≤ 2 ^ 20)
    (hs : ∀ k, subscripted (.Slice none (some b) none ps) false (.ref l) (.ref k) = operate [.ref k, .ref l] (getItem (.ref l) (.ref k)) := by intro _; with_unfolding_all rfl)
    (ht : ∀ r, letTemporaryGo value (.ref l) r = pure () := by intro _; with_unfolding_all rfl) :
    Ev c h (.Subscript value (.Slice none (some b) none ps) pos) (fun v h' => ∃ a, v = .ref a ∧ h'.IsList a (slicePick items none (some j) none)) := by
  intro h₁ g₁ tk Q E hQ
  refine Subscript_ (hv h₁ g₁ tk _ _ fun v h₂ tk₂ g₂ p => ?_)
  obtain rfl : v = .ref l := p
  refine wpAny_Slice (evalPart_none (evalPart_some (hb h₂ (g₁.trans g₂) tk₂ _ _ fun v h₄ tk₄ g₄ p => ?_)))
  obtain ⟨tj, rfl⟩ := p
  refine evalPart_none ?_
  have hl4 : h₄.IsList l items := hl.at fun o e => g₄ _ _ (g₂ _ _ (g₁ _ _ e))
  refine subscriptTail_ops (Heap.IsList.typeIs (s := { c.st h₄ tk₄ with heap := h₄.push { cls := .type "slice", data := .fields #[.none, .int j tj, .none] } }) (hl4.push _)) list_getitem_lookup
    (wpAny_getItem_list_slice (hl4.push _) (Heap.IsSliceOf.new ..) .none (.int j tj) .none (by simp) ?_ (by rw [sizeLine_eq]; omega)) (hs _) ht
  refine hQ _ _ _ ((g₂.trans g₄).trans ((Grows.push _ _).trans (Grows.push _ _))) ⟨_, rfl, ?_⟩
  exact ⟨_, Heap.get?_push_size _ rfl, rfl, _, rfl⟩
theorem Ev.lenL {fn : Expr} {l : Addr} {items : Array Value} (hf : Ev c h fn (IsV (.builtin "len"))) (he : Ev c h e (IsV (.ref l))) (hl : h.IsList l items) (hx : items.size ≤ 2 ^ 20)
    (h1 : eval (.Call fn [e] [] pos) c.env = (do callWith pos (← eval fn c.env) [] (backTo pos (starEach [e] c.env)) (backToKw pos (keywordEach [] c.env))) := by rfl)
    (hs : starEach [e] c.env = [(false, eval e c.env)] := by rfl) : Ev c h (.Call fn [e] [] pos) (IsI items.size) :=
  Ev.callB hf (Evs.cons he Evs.nil (up_v _) hs) (fun vs h₁ g ⟨v, r, e1, e2, e3⟩ tk Q E hQ => by
    obtain rfl : v = .ref l := e2
    subst e1 e3
    exact call_len_list (s := c.st h₁ tk) (hl.at fun o e => g _ _ e) (by omega) (hQ _ h₁ _ (.refl _) ⟨_, rfl⟩)) h1 hs
theorem Ev.mod' {i j : Int} (hl : Ev c h l (IsI i)) (hr : Ev c h r (IsI j)) (hj : j ≠ 0) : Ev c h (.BinOp l .Mod r pos) (IsI (i.fmod j)) :=
  Ev.bin hl hr (up_i i) fun a b h₁ ⟨t, e1⟩ ⟨u, e2⟩ tk Q E hQ => by subst e1 e2; exact mod_int' hj (hQ _ _ _ (.refl _) ⟨_, rfl⟩)
theorem Ev.listItem {value slice : Expr} {l : Addr} {items : Array Value} {k : Int} {x : Value} (hv : Ev c h value (IsV (.ref l))) (hi : Ev c h slice (IsI k)) (hl : h.IsList l items) (h0 : 0 ≤ k) (h1 : k < 2 ^ 63) (hx : items[k.toNat]? = some x)
    (hs : ∀ u, subscripted slice false (.ref l) (.int k u) = operate [.ref l, .int k u] (getItem (.ref l) (.int k u)) := by intro _; with_unfolding_all rfl)
    (hg : ∀ r, letTemporaryGo value (.ref l) r = pure () := by intro _; with_unfolding_all rfl) : Ev c h (.Subscript value slice pos) (IsV x) := by
  intro h₁ g₁ tk Q E hQ
  refine Subscript_ (hv h₁ g₁ tk _ _ fun ov h₂ tk₂ g₂ e => hi h₂ (g₁.trans g₂) tk₂ _ _ fun iv h₃ tk₃ g₃ e' => ?_)
  obtain rfl : ov = .ref l := e
  obtain ⟨u, rfl⟩ := e'
  have g := (g₁.trans g₂).trans g₃
  exact item_list (s := c.st h₃ tk₃) (hl.at fun o e => g _ _ e) h0 h1 hx (hQ _ h₃ _ (g₂.trans g₃) rfl) (hs u) hg
theorem Ev.or2 {e' : Expr} {b b' : Bool} (x : Ev c h e (IsV (.bool b))) (y : b = false → Ev c h e' (IsV (.bool b'))) : Ev c h (.BoolOp .Or [e, e'] pos) (IsV (.bool (b || b'))) :=
  fun h₁ g₁ tk Q E hQ => BoolOp_or (x h₁ g₁ tk _ _ fun v h₂ tk₂ g₂ p => by
    obtain rfl : v = .bool b := p
    refine wpAny_truthy_bool ?_
    cases b with
    | true => exact hQ _ h₂ tk₂ g₂ rfl
    | false => exact BoolOp_one (y rfl h₂ (g₁.trans g₂) tk₂ _ _ fun v h₃ tk₃ g₃ p => hQ v h₃ tk₃ (g₂.trans g₃) p))
end
/-- what law leans on -/
structure Lx (w : World) (h : Heap) (mg mb : Str → Option Value) (x dx R : Addr) : Prop where
  S : Sd w h mg mb x dx R
  L : Lw h mg mb
  f75 : FnSt h 75 "PaiceHuskStemmer.stem" (atCls 4 4)
  std : mg "_standard" = some (.ref x)
  f7 : FnX h mg "stem" (atTop 7)
  letters : ∃ t, mg "_law_letters" = some (.str lettersL t)
theorem Lx.keeps {w : World} {h h' : Heap} {mg mb : Str → Option Value} {x dx R : Addr} (X : Lx w h mg mb x dx R) (g : Grows h h') : Lx w h' mg mb x dx R :=
  ⟨X.S.keeps g, X.L.keeps g, FnSt.keeps X.f75 g, X.std, X.f7.keeps g, X.letters⟩
end Mine
end

section
open PySem PySem.W PyProof.Rows PySem.Calls PySem.StrLaws
set_option maxRecDepth 100000
set_option maxHeartbeats 4000000
set_option linter.unusedVariables false
namespace Mine
theorem filter_true {α : Type} (l : List α) : l.filter (fun _ => true) = l := List.filter_eq_self.mpr fun _ _ => rfl
theorem pieces_ev {c' : Cx} {h : Heap} {mg mb : Str → Option Value} {x dx R L f : Addr} {cd : Value} (X : Lx c'.w h mg mb x dx R) (hroom : c'.A.depth < 800) (hh : c'.A.handled = none) (he : c'.env = envOf "law" (fnScope (atTop 16)) L f cd) :
    Ev c' h (valOf1 (fnBody (atTop 16))) (PL 1 3000) := by
  obtain ⟨w, A, g, dr, os, env⟩ := c'
  obtain rfl : env = envOf "law" (fnScope (atTop 16)) L f cd := he
  let c' : Cx := ⟨w, A, g, dr, os, envOf "law" (fnScope (atTop 16)) L f cd⟩
  obtain ⟨tl, hl⟩ := X.letters
  obtain ⟨sl, sitems, hs, spl, sal⟩ := X.L.starts
  obtain ⟨f11, o11, fd11, q1, q2, q3, q4⟩ := X.L.f11.obj
  have st := starts_low
  rw [Bool.and_eq_true] at st
  have lt := letters_low
  rw [Bool.and_eq_true, Bool.and_eq_true] at lt
  obtain ⟨⟨lt1, lt2⟩, lt3⟩ := lt
  have lt2 := Nat.le_of_ble_eq_true lt2
  have lt3 := Nat.le_of_ble_eq_true lt3
  refine Ev.bin (c := c') (op := .Add) (Pl := PL 1 2000) (Pr := PL 0 1000) (Ev.bin (c := c') (op := .Add) (Pl := PL 1 1000) (Pr := PL 0 1000) ?_ ?_ PL.up (add_go (by decide))) ?_ PL.up (add_go (by decide))
  · refine (Ev.compStr (c := c') (cl := []) (s := lettersL) (fun _ => true) (fun v y => OkP y) hh rfl (by decide) rfl (by decide) rfl ((Ev.glob (mg := mg) X.L.G.g hl).mono fun v h e => ⟨tl, e⟩) (by omega) ?_ ?_).mono ?_
    · exact fun C s₃ m₃ v i g₃ sg hn hm => CTest.nil
    · rintro C s₃ m₃ v i g₃ ⟨n, u, sg, rfl⟩ _ hn hm
      refine (Ev.loc hn hm).mono fun y h e => ?_
      obtain rfl : y = .str ⟨#[n]⟩ u := e
      exact ⟨_, u, rfl, ok_one (List.all_eq_true.mp lt1 n (by rw [Array.mem_toList_iff]; exact Array.mem_of_getElem? sg))⟩
    · rintro v h' ⟨D, ys, vs, rfl, pl, hlen, hsg, hpr, _⟩
      rw [filter_true] at hpr
      have e := hpr.length
      rw [hlen, Array.length_toList] at e
      exact ⟨D, ys, rfl, pl, paired_all (F := fun (_ : Value) y => OkP y) (P := OkP) (fun _ _ h => h) hpr, by omega, by omega⟩
  · refine (Ev.compList (c := c') (cl := []) (fun _ => true) (fun v y => OkP y) hh rfl (by decide) rfl (by decide) rfl (P := fun v h' => ∃ a items, v = .ref a ∧ h'.PlainList a items ∧ RulesAt h' items lawRules) (G := fun items h => RulesAt h items lawRules)
      (Ev.callF0 (Ev.glob (mg := mg) X.L.G.g q1) q3 q4 fun h₁ g => law_rules (X.L.G.keeps g) (Nat.lt_trans hroom (by decide)) (q2.keeps g)) ?_ ?_ ?_).mono ?_
    · rintro v h' ⟨a, items, rfl, pl, ra⟩
      exact ⟨a, items, rfl, pl, by rw [ra.1]; exact Nat.le_trans rules_few (by decide), ra⟩
    · exact fun items C s₃ m₃ v i h₀ g0 hG g1 hv hn hm => CTest.nil
    · rintro items C s₃ m₃ v i h₀ g0 hG g1 hv _ hn hm
      have hj : i < lawRules.length := by rw [← hG.1]; exact (Array.getElem?_eq_some_iff.mp hv).1
      obtain ⟨u, hu⟩ : ∃ u, lawRules[i]? = some u := ⟨_, List.getElem?_eq_getElem hj⟩
      obtain ⟨at_, vs, rfl, hat, t1, t2, t3, rfl⟩ := hG.2 i v u hv hu
      refine (Ev.tupItem (Ev.loc hn hm) Ev.int (g1 _ _ hat) (by decide) (by decide) (j := 0) rfl rfl).mono fun y h e => ?_
      obtain rfl : y = .str u.e t1 := e
      exact ⟨_, t1, rfl, List.all_eq_true.mp rules_low u (List.mem_of_getElem? hu)⟩
    · rintro v h' ⟨D, ys, items, h₀, rfl, pl, g0, hG, g1, hpr, _⟩
      rw [filter_true] at hpr
      have e := hpr.length
      rw [Array.length_toList, Array.length_toList, hG.1] at e
      have := rules_few
      exact ⟨D, ys, rfl, pl, paired_all (F := fun (_ : Value) y => OkP y) (P := OkP) (fun _ _ h => h) hpr, Nat.zero_le _, by omega⟩
  · intro h₁ g₁ tk Q E hQ
    refine (Ev.glob (c := c') (mg := mg) X.L.G.g hs) h₁ g₁ tk Q E fun v h₂ tk' g e => hQ v h₂ tk' g ?_
    obtain rfl : v = .ref sl := e
    have : sitems.size = startsL.length := by rw [← Array.length_toList]; exact sal.len
    have := Nat.le_of_ble_eq_true st.2
    exact ⟨sl, sitems, rfl, plain_grows spl (g₁.trans g), alls_ok sal st.1, Nat.zero_le _, by omega⟩
theorem empty_len : (("" : Str)).length = 0 := by decide +kernel
theorem len_empty {w : Str} (h : w.length = 0) : w = ("" : Str) := by
  apply Str.ext'
  have e1 : w.cps = #[] := Array.eq_empty_of_size_eq_zero h
  have e2 : ("" : Str).cps = #[] := Array.eq_empty_of_size_eq_zero empty_len
  rw [e1, e2]
theorem law_call {c : Cx} {h : Heap} {mg mb : Str → Option Value} {f l x dx R : Addr} {items : Array Value} {ns : List Int} (X : Lx c.w h mg mb x dx R) (hroom : c.A.depth < 600) (hh : c.A.handled = none) (hu : c.A.units < 8000) (hf : FnSt h f "law" (atTop 16))
    (hl : h.IsList l items) (hi : IntsAre items.toList ns) (hn : ns.length ≤ 2 ^ 20) : Go c h (call (.ref f) [.ref l]) (IsV (.bool true)) := by
  refine call_fn (binds := [("script", .ref l)]) hf X.L.G.nolimit (by rw [rec_lim]; omega) (fun _ _ _ => by with_unfolding_all rfl) (locs rfl) (fun cd h₁ tk F => ?_) rfl rfl rfl (by decide)
  have hh' : (c.A.deeper (envOf "law" (fnScope (atTop 16)) h.objs.size f cd)).handled = none := hh
  have hu' : (c.A.deeper (envOf "law" (fnScope (atTop 16)) h.objs.size f cd)).units < 8100 := by rw [Around.deeper_units]; omega
  have hroom' : (c.A.deeper (envOf "law" (fnScope (atTop 16)) h.objs.size f cd)).depth < 650 := by rw [depth_deeper]; omega
  generalize hA : c.A.deeper _ = A'
  replace hh' : A'.handled = none := hA ▸ hh'
  replace hu' : A'.units < 8100 := hA ▸ hu'
  replace hroom' : A'.depth < 650 := hA ▸ hroom'
  let c' : Cx := ⟨c.w, A', c.g, c.dr, c.os, envOf "law" (fnScope (atTop 16)) h.objs.size f cd⟩
  have XF : ∀ {h' m}, Fr h h.objs.size h' m → Lx c'.w h' mg mb x dx R := fun F => X.keeps F.keep
  -- pieces
  refine ex_assign (c := c') (P := PL 1 3000) F (pieces_ev (c' := c') (XF F) (Nat.lt_trans hroom' (by decide)) hh' rfl) ?_
  rintro v h₂ h₃ tk₃ g₂ ⟨pa, pis, rfl, ⟨pn, ppl⟩, pok, ps1, ps2⟩ sb₃ F₃
  have pL : pa ≠ h.objs.size := ns_ne (F.after g₂).ns ppl fun _ _ q => by cases q
  have ppl3 : h₃.IsList pa pis := plain_isList ⟨pn, sb₃.extBut _ _ pL ppl⟩
  -- word = ''
  refine ex_assign (c := c') (P := IsS "") F₃ Ev.str ?_
  rintro v h₄ h₅ tk₅ g₄ ⟨t5, rfl⟩ sb₅ F₅
  have ppl5 : h₅.IsList pa pis := (ppl3.at fun o e => g₄ _ _ e).extBut sb₅.extBut pL
  have hl5 : h₅.IsList l items := hl.at fun o e => F₅.keep _ _ e
  have hsz : items.size ≤ 2 ^ 20 := by rw [← Array.length_toList, hi.length]; exact hn
  -- for number in script[:16]:
  refine ex_for (c := c') F₅ (Ev.listTo (c := c') (j := 16) (Ev.loc F₅.ns (upd_ne (by decide) (upd_ne (by decide) rfl))) Ev.int hl5 (by omega)) hh' ?_
  rintro v h₆ g₆ ⟨sa, rfl, sli⟩ F₆
  have sint : IntsAre (slicePick items none (some 16) none).toList (ns.take 16) := by
    have := slice_ints_uptoW (vs := items.toList) hi (y := 16) (by decide)
    simpa using this
  generalize slicePick items none (some 16) none = sis at sli sint
  have ssz : sis.size ≤ 16 := by
    rw [← Array.length_toList, sint.length, List.length_take]; exact Nat.min_le_left _ _
  refine ⟨sa, sis, fun j h' m => m "pieces" = some (.ref pa) ∧ h'.IsList pa pis ∧ ∃ w t, m "word" = some (.str w t) ∧ low w = true ∧ w.length ≤ 10 * j, rfl, sli,
    fun h₇ g₇ => ⟨upd_ne (by decide) upd_eq, ppl5.at fun o e => g₇ _ _ (g₆ _ _ e), "", t5, upd_eq, by decide +kernel, by rw [empty_len]; exact Nat.zero_le _⟩,
    fun j h' h'' m it ⟨i1, i2, i3⟩ hit e _ => ⟨i1, i2.extBut e (fun q => by
      obtain ⟨o, e1, _, d1⟩ := hit
      obtain ⟨o', e2, _, n2, d2⟩ := i2
      rw [q, e1] at e2; cases e2; rw [d1] at d2; cases d2), i3⟩, ?_, ?_⟩
  · rintro j v h₇ m₇ tk₇ it hv F₇ ⟨i1, i2, w, t, i3, i4, i5⟩ isl islt nit nl nil'
    have hj : j < 16 := Nat.lt_of_lt_of_le (Array.getElem?_eq_some_iff.mp hv).1 ssz
    obtain ⟨k, kt, rfl⟩ := ints_get sint (by rw [Array.getElem?_toList]; exact hv)
    refine as_name (c := c') F₇ fun h₈ tk₈ sb₈ F₈ => ?_
    have B8 : h₈.IsListIter it sa (j + 1) ∧ h₈.IsList sa sis := ⟨islt.extBut sb₈.extBut nit, isl.extBut sb₈.extBut nl⟩
    have p8 : h₈.IsList pa pis := i2.extBut sb₈.extBut pL
    obtain ⟨m8, G₈, a1, a2, a3⟩ : ∃ m8, Fr h h.objs.size h₈ m8 ∧ m8 "number" = some (.int k kt) ∧ m8 "pieces" = some (.ref pa) ∧ m8 "word" = some (.str w t) := ⟨_, F₈, upd_eq, upd_ne (by decide) i1, upd_ne (by decide) i3⟩
    have hpos : (0 : Int) < pis.size := by omega
    have k0 : 0 ≤ k.fmod pis.size := Int.fmod_nonneg_of_pos k hpos
    have k1 : k.fmod pis.size < pis.size := Int.fmod_lt_of_pos k hpos
    have kn : (k.fmod pis.size).toNat < pis.size := by omega
    obtain ⟨y, yt, hy, oky⟩ := pok pis[(k.fmod pis.size).toNat] (by rw [Array.mem_toList_iff]; exact Array.getElem_mem kn)
    have hy' : pis[(k.fmod pis.size).toNat]? = some (.str y yt) := by rw [Array.getElem?_eq_getElem kn, hy]
    unfold okPiece at oky
    rw [Bool.and_eq_true] at oky
    have yl := Nat.le_of_ble_eq_true oky.1
    -- word = word + pieces[number % len(pieces)]
    refine ex_assign (c := c') (P := IsS (w ++ y)) G₈ (Ev.cat (Ev.locS G₈.ns a3) ((Ev.listItem (Ev.loc G₈.ns a2) (Ev.mod' (Ev.locI G₈.ns a1) (Ev.lenL (Ev.blt (XF G₈).L.G (XF G₈).L.len rfl) (Ev.loc G₈.ns a2) p8 (by omega)) (by omega)) p8 k0 (by omega) hy').mono fun v h e => ⟨yt, e⟩) (by omega)) ?_
    rintro v h₉ h₁₀ tk₁₀ g₉ ⟨t10, rfl⟩ sb₁₀ F₁₀
    have B10 := pair_step B8 g₉ sb₁₀ nit nl
    refine ex_nil (c := c') ⟨h₁₀, _, tk₁₀, rfl, F₁₀, ⟨upd_ne (by decide) a2, (p8.at fun o e => g₉ _ _ e).extBut sb₁₀.extBut pL, w ++ y, t10, upd_eq, low_append i4 oky.2, ?_⟩, B10.1, B10.2⟩
    rw [append_len]; omega
  · rintro h₇ m₇ tk₇ F₇ ⟨i1, i2, w, t, i3, i4, i5⟩
    -- word = word[:16]
    refine ex_assign (c := c') (P := IsS (Txt.slice w none (some 16))) F₇ (Ev.slice_ns (Ev.locS F₇.ns i3) Ev.int (by omega)) ?_
    rintro v h₈ h₉ tk₉ g₈ ⟨t9, rfl⟩ sb₉ F₉
    obtain ⟨wl, ws⟩ := cut16 i4
    generalize Txt.slice w none (some 16) = u at *
    obtain ⟨m9, G₉, b1⟩ : ∃ m9, Fr h h.objs.size h₉ m9 ∧ m9 "word" = some (.str u t9) := ⟨_, F₉, upd_eq⟩
    have X9 := XF G₉
    have sl16 := strip_len prefL u
    -- due
    refine ex_assign (c := c') (P := fun v _ => (u.length = 0 → ∃ t, v = .str "" t) ∧ (u.length ≠ 0 → Due (due 40 (stripP prefL u) true) v)) G₉
      (Ev.ifExp (v := u == ("" : Str)) (Ts.cmp (Ev.locS G₉.ns b1) Ev.str (up_s _) cmp_eqs) (fun e => ?_) (fun e => ?_)) ?_
    · have e := beq_iff_eq.mp e
      refine Ev.str.mono fun v h ⟨t, e'⟩ => ⟨fun _ => ⟨t, e'⟩, fun q => absurd (by rw [e]; exact empty_len) q⟩
    · have e := beq_eq_false_iff_ne.mp e
      refine (Ev.call2 X9.L.G.g X9.L.f15 (Ev.call1 X9.L.G.g X9.L.f13 (Ev.locS G₉.ns b1) (up_s u) (P := IsS (stripP prefL u)) fun f' v h' g hf' ⟨t, e1⟩ => by
          subst e1
          exact law_bare (c := c') (X9.L.keeps g) (Nat.lt_trans hroom' (by decide)) hh' hf' (by omega)) (up_s _) Ev.bool (up_v (.bool true)) (P := fun v _ => Due (due 40 (stripP prefL u) true) v) fun f' v u' h' g hf' ⟨t, e1⟩ e2 => by
          obtain rfl : u' = .bool true := e2
          subst e1
          refine law_stemmed 40 (c := c') (X9.L.keeps g) (by show A'.depth + 40 < 880; omega) hh' (by show A'.units + 3 * 40 < 8700; omega) hf' (by omega) ?_
          unfold mu
          split <;> omega).mono fun v h p => ⟨fun q => absurd (len_empty q) e, fun _ => p⟩
    rintro v h₁₀ h₁₁ tk₁₁ g₁₀ ⟨d0, d1⟩ sb₁₁ F₁₁
    obtain ⟨m11, G₁₁, c1, c2⟩ : ∃ m11, Fr h h.objs.size h₁₁ m11 ∧ m11 "due" = some v ∧ m11 "word" = some (.str u t9) := ⟨_, F₁₁, upd_eq, upd_ne (by decide) b1⟩
    have X11 := XF G₁₁
    have fin : ∀ d t', v = .str d t' → (∀ (c'' : Cx) h₁ t, c''.w = c'.w → c''.A.depth < 800 → c''.A.handled = none → Grows h₁₁ h₁ → Go c'' h₁ (call (.ref 75) [.ref x, .str u t]) (IsS d)) →
        wpAny c'.M c'.A (execs (List.drop 5 (fnBody (atTop 16))) c'.env) (fun fl s' => ∃ h₂ tk', s' = c.st h₂ tk' ∧ Grows h h₂ ∧ IsV (.bool true) (match fl with | .ret v => v | _ => .none) h₂) (fun _ _ => False) (c'.st h₁₁ tk₁₁) := by
      rintro d t' rfl hgo
      refine ex_return (c := c') (P := IsV (.bool (false || (d == d)))) (Ev.or2 ((Ev.cmp (Ev.loc G₁₁.ns c1) Ev.nonec (up_v _) (cmp_is_no rfl))) fun _ => Ev.cmp (Ev.call1 X11.L.G.g X11.f7 (Ev.locS G₁₁.ns c2) (up_s u) (P := IsS d) fun f' v h' g hf' ⟨t, e1⟩ => by
          subst e1
          exact mod_stem (c := c') (X11.keeps g).S X.std (X11.keeps g).f75 (Nat.lt_trans hroom' (by decide)) hh' hf' fun c'' h₁ t e1 e2 e3 g' => hgo c'' h₁ t e1 e2 e3 (g.trans g')) (Ev.locS G₁₁.ns c1) (up_s _) cmp_eqs) ?_
      rintro v h₁₂ tk₁₂ g₁₂ rfl
      exact ⟨h₁₂, tk₁₂, rfl, (G₁₁.after g₁₂).keep, by rw [beq_self_eq_true]; rfl⟩
    by_cases hz : u.length = 0
    · obtain ⟨t', rfl⟩ := d0 hz
      refine fin "" t' rfl fun c'' h₁ t e1 e2 e3 g => ?_
      have e : u = "" := len_empty hz
      have S1 := (X11.keeps g).S
      rw [← e1] at S1
      have := stem_empty (c := c'') (word := u) (tt := t) S1 e2 (X11.keeps g).f75 hz
      rw [e] at this ⊢
      exact this
    · have dd := d1 hz
      cases hdue : due 40 (stripP prefL u) true with
      | none =>
        rw [hdue] at dd
        obtain rfl : v = .none := dd
        refine ex_return (c := c') (P := IsV (.bool (true || false))) (Ev.or2 (b' := false) (Ev.cmp (Ev.loc G₁₁.ns c1) Ev.nonec (up_v _) (cmp_is_no rfl)) fun q => by cases q) ?_
        rintro v h₁₂ tk₁₂ g₁₂ rfl
        exact ⟨h₁₂, tk₁₂, rfl, (G₁₁.after g₁₂).keep, rfl⟩
      | some d =>
        rw [hdue] at dd
        obtain ⟨t', rfl⟩ := dd
        refine fin d t' rfl fun c'' h₁ t e1 e2 e3 g => ?_
        have S1 := (X11.keeps g).S
        rw [← e1] at S1
        exact stem_method (c := c'') (n := 40) S1 e2 e3 (X11.keeps g).f75 (by omega) (by omega) (run_low wl) (by omega) hdue
end Mine
end

section
open PySem PySem.W PyProof.Rows PySem.Calls PySem.StrLaws
set_option maxRecDepth 100000
set_option maxHeartbeats 4000000
set_option linter.unusedVariables false
namespace Mine
theorem ns_at {h h' : Heap} {a : Addr} {m : Str → Option Value} (x : h.Ns a m) (k : ∀ o, h.get? a = some o → h'.get? a = some o) : h'.Ns a m :=
  let ⟨o, es, ep, e, r⟩ := x; ⟨o, es, ep, k _ e, r⟩
theorem gl_left {w : World} {h : Heap} {mg : Str → Option Value} (L : Left w h mg) : Gl h mg (mbC w.params) := by
  have G := glC w.params
  refine ⟨L.g, ns_at G.b fun o e => L.keep _ _ (by decide) (by decide) e, ?_, G.blt⟩
  obtain ⟨mc, a, b⟩ := G.nolimit
  exact ⟨mc, ns_at a fun o e => L.keep _ _ (by decide) (by decide) e, b⟩
theorem fn_left {w : World} {h : Heap} {mg : Str → Option Value} (L : Left w h mg) {f c : Addr} {q : Str} {st : Stmt} (x : FnKS (hC w.params) f c q st) (n : f ≠ 12 ∧ f ≠ 3 ∧ c ≠ 12 ∧ c ≠ 3) : FnSt h f q st := by
  cases st <;> first | exact x.elim | exact (FnK.keep2 x L.keep n.1 n.2.1 n.2.2.1 n.2.2.2).at
theorem lx_left {w : World} {h : Heap} {mg : Str → Option Value} (L : Left w h mg) : ∃ x dx R, Lx w h mg (mbC w.params) x dx R := by
  obtain ⟨x, dx, R, hR, hstd, hst⟩ := L.std
  have G := gl_left L
  have ot : ∀ k : Str, k ∉ topNames → mg k = mgC w.params k := L.other
  have len : mg "len" = none := (ot _ (by decide)).trans (g_len _)
  refine ⟨x, dx, R, ⟨⟨G, len, (ot _ (by decide)).trans (g_int _), ⟨21, (ot _ (by decide)).trans (g_wr _), fn_left L (f_wr _) (by decide)⟩, ⟨28, (ot _ (by decide)).trans (g_fig _), fn_left L (f_fig _) (by decide)⟩⟩, (ot _ (by decide)).trans (g_min _), ?_,
    fn_left L (f_61 _) (by decide), fn_left L (f_68 _) (by decide), hst, ?_⟩, ⟨G, len, L.starts, L.f11, L.f12, L.f13, L.f14, L.f15⟩, fn_left L (f_75 _) (by decide), hstd, L.f7, L.letters⟩
  · intro a o e
    have hc := clsK_in w.params a o e
    have : a ≠ 12 ∧ a ≠ 3 := by
      constructor <;> (rintro rfl; cases e)
    exact L.keep _ _ this.1 this.2 hc
  · have : R ≠ sysModules := fun q => by rw [q] at hR; exact absurd hR (by decide)
    exact beq_eq_false_iff_ne.mpr this
theorem ints_of {R : WRecords} {cl : Str → Option Addr} {h : Heap} : ∀ {xs : List WData} {vs : List Value} {as : List Addr}, WShape.hasItems R xs .int = true → ReadsAllW R cl h vs xs as → ∃ ns, IntsAre vs ns ∧ ns.length = xs.length
  | [], vs, as, _, r => by
    obtain ⟨rfl, -⟩ := readsAllW_nil_inv r
    exact ⟨[], .nil, rfl⟩
  | d :: ds, vs, as, hx, r => by
    obtain ⟨v, vs', as1, as2, rfl, -, r1, r2⟩ := readsAllW_cons_inv r
    have hx' : WShape.has R d .int = true ∧ WShape.hasItems R ds .int = true := by simpa [WShape.hasItems] using hx
    obtain ⟨i, rfl⟩ := hasW_int hx'.1
    obtain ⟨t, rfl, -⟩ := readsW_int_inv r1
    obtain ⟨ns, a, b⟩ := ints_of hx'.2 r2
    exact ⟨i :: ns, .cons i t a, congrArg (· + 1) b⟩
theorem call_ok : CallOk := by
  intro w s₀ s₁ mg L args vs as hpre hlay LL
  obtain ⟨x, dx, R, X0⟩ := lx_left L
  have X : Lx w s₁.heap mg (mbC w.params) x dx R := X0.keeps LL.keeps
  obtain ⟨f, cf, hf, hk⟩ := L.f16
  refine ⟨.ref f, hf, ?_⟩
  have hfs : FnSt s₁.heap f "law" (atTop 16) := FnSt.keeps (show FnSt s₀.heap f "law" (atTop 16) from FnK.at hk) LL.keeps
  have hsh := (pre_splitW hpre).1
  obtain ⟨d, r, rfl, h1, h2⟩ := hasAllW_cons hsh
  obtain rfl := hasAllW_nil h2
  obtain ⟨xs, rfl, hit⟩ := hasW_list h1
  obtain ⟨v, vs', as1, as2, rfl, -, r1, r2⟩ := readsAllW_cons_inv LL.reads
  obtain ⟨rfl, -⟩ := readsAllW_nil_inv r2
  obtain ⟨a, items, as', rfl, isl, ri, -⟩ := readsW_list_inv r1
  obtain ⟨ns, hns, hnl⟩ := ints_of hit ri
  have hlen : xs.length ≤ 1048576 := length_le_of_layableW (layableW_arg hlay _ (List.mem_singleton.mpr rfl))
  let c : Cx := ⟨w, callerA, s₁.gens, s₁.drawn, s₁.os, envM⟩
  refine law_call (c := c) (h := s₁.heap) X (by show 1 + claimMargin < 600; decide) rfl (by show 4 < 8000; decide) hfs isl hns (by rw [hnl]; exact hlen) s₁.toks _ _ fun v h₂ tk' g e => ?_
  obtain rfl : v = .bool true := e
  refine ⟨.inl ⟨.bool true, .bool true, [], rfl, fun _ => rfl, .bool true, ?_, fun _ => ⟨.nil, fun _ h => nomatch h⟩⟩, .of_keep g, rfl, .of_eq LL.gens⟩
  exact postW_of (r := RR) (by wrow_shape) (by wtm_val) (by w_fin)
theorem the_row_holds : RW.Holds := holds_of call_ok
end Mine
end

open PySem PySem.W PyProof.Rows
theorem PySem.Challenge.cw_iv0076_01_holds : PySem.Challenge.rw_iv0076_01.Holds := by
  exact Mine.the_row_holds
