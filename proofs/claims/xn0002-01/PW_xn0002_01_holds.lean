import PyProof.Rows.All
import Wide.All
import OpenK.AllK
import Wide.FinOn
import KE.KPairComp
import KE.KAnyBase
import KE.KSlice
import PySem.Challenge.RW_xn0002_01
open PySem PySem.W PySem.Calls PyProof.Rows
set_option Elab.async false

namespace Mine

abbrev Kp (h h' : Heap) : Prop := ∀ b o, h.get? b = some o → h'.get? b = some o
theorem Kp.refl (h : Heap) : Kp h h := fun _ _ e => e
theorem Kp.trans {h h' h'' : Heap} (a : Kp h h') (b : Kp h' h'') : Kp h h'' := fun c o e => b c o (a c o e)
theorem Kp.push (h : Heap) (o : Obj) : Kp h (h.push o) := fun _ _ e => Heap.get?_push_of_some _ e

/-- a tree that changes nothing that stood: it may make new things -/
def EvS {α : Type} (M : Model) (A : Around) (t : Sem α) (h : Heap) (post : α → Heap → Prop) : Prop :=
  ∀ (s : Shared) (Q : α → Shared → Prop) (E : Value → Shared → Prop), s.heap = h →
    (∀ v h' tk, Kp h h' → post v h' → Q v { s with heap := h', toks := tk }) → wpAny M A t Q E s

section
variable {α β : Type} {M : Model} {A : Around} {h : Heap} {env : Env}

theorem EvS.pure {a : α} {post : α → Heap → Prop} (p : post a h) : EvS M A (Pure.pure a) h post :=
  fun s Q E e k => by subst e; exact wpAny_pure (k a _ s.toks (Kp.refl _) p)

theorem EvS.bind {m : Sem α} {f : α → Sem β} {post : β → Heap → Prop} (p : EvS M A m h (fun a h' => EvS M A (f a) h' post)) : EvS M A (m >>= f) h post := by
  intro s Q E e k
  refine wpAny_bind (p s _ E e fun a h' tk k1 p1 => ?_)
  exact p1 { s with heap := h', toks := tk } Q E rfl fun v h'' tk' k2 p2 => k v h'' tk' (k1.trans k2) p2

theorem EvS.mono {m : Sem α} {post post' : α → Heap → Prop} (p : EvS M A m h post) (q : ∀ v h', Kp h h' → post v h' → post' v h') : EvS M A m h post' :=
  fun s Q E e k => p s Q E e fun v h' tk k1 p1 => k v h' tk k1 (q v h' k1 p1)

theorem EvS.of_eq {m m' : Sem α} {post : α → Heap → Prop} (e : m = m') (p : EvS M A m' h post) : EvS M A m h post := e ▸ p

theorem EvS.run {t : Sem α} {post : α → Heap → Prop} {s : Shared} {Q : α → Shared → Prop} {E : Value → Shared → Prop} (p : EvS M A t s.heap post)
    (k : ∀ v h' tk, Kp s.heap h' → post v h' → Q v { s with heap := h', toks := tk }) : wpAny M A t Q E s := p s Q E rfl k

theorem ev_binop {l r : Expr} {op : Operator} {pos : Pos} {post : Value → Heap → Prop}
    (p : EvS M A (eval l env) h fun a h1 => EvS M A (eval r env) h1 fun b h2 => EvS M A (binaryOp op a b) h2 post) : EvS M A (eval (.BinOp l op r pos) env) h post := by
  intro s Q E e k
  refine wpAny_BinOp (p s _ E e fun a h1 t1 k1 p1 => p1 { s with heap := h1, toks := t1 } _ E rfl fun b h2 t2 k2 p2 => p2 { s with heap := h2, toks := t2 } _ E rfl fun c h3 t3 k3 p3 => ?_)
  exact k c h3 t3 ((k1.trans k2).trans k3) p3
theorem ev_unop {x : Expr} {op : UnaryOp} {pos : Pos} {post : Value → Heap → Prop}
    (p : EvS M A (eval x env) h fun a h1 => EvS M A (unaryOp op a) h1 post) : EvS M A (eval (.UnaryOp op x pos) env) h post := by
  intro s Q E e k
  refine UnaryOp_ (p s _ E e fun a h1 t1 k1 p1 => p1 { s with heap := h1, toks := t1 } _ E rfl fun b h2 t2 k2 p2 => ?_)
  exact k b h2 t2 (k1.trans k2) p2
theorem ev_cmp {l r : Expr} {op : CmpOp} {pos : Pos} {post : Value → Heap → Prop}
    (p : EvS M A (eval l env) h fun a h1 => EvS M A (eval r env) h1 fun b h2 => EvS M A (compareOp op a b) h2 post) (hm : behindInMarks op r = false := by rfl) :
    EvS M A (eval (.Compare l [op] [r] pos) env) h post := by
  intro s Q E e k
  refine wpAny_Compare1 (p s _ E e fun a h1 t1 k1 p1 => p1 { s with heap := h1, toks := t1 } _ E rfl fun b h2 t2 k2 p2 => p2 { s with heap := h2, toks := t2 } _ E rfl fun c h3 t3 k3 p3 => ?_) hm
  exact k c h3 t3 ((k1.trans k2).trans k3) p3
/-- a test by one comparison that gives a bool -/
theorem ev_true_cmp {l r : Expr} {op : CmpOp} {pos : Pos} {whole : Sem Value} {post : Bool → Heap → Prop}
    (p : EvS M A (eval l env) h fun a h1 => EvS M A (eval r env) h1 fun b h2 => EvS M A (compareOp op a b) h2 fun c h3 => ∃ t, c = .bool t ∧ post t h3) (hm : behindInMarks op r = false := by rfl) :
    EvS M A (PySem.isTrue (.Compare l [op] [r] pos) env whole) h post := by
  intro s Q E e k
  refine wpAny_isTrue_Compare1 (p s _ E e fun a h1 t1 k1 p1 => p1 { s with heap := h1, toks := t1 } _ E rfl fun b h2 t2 k2 p2 => p2 { s with heap := h2, toks := t2 } _ E rfl fun c h3 t3 k3 p3 => ?_) hm
  obtain ⟨t, rfl, p4⟩ := p3
  exact wpAny_truthy_bool (k t h3 t3 ((k1.trans k2).trans k3) p4)

theorem ev_int {i : Int} {n : Nat} {pos : Pos} {post : Value → Heap → Prop} (p : ∀ t, post (.int i t) h) : EvS M A (eval (.Constant (.int i) n pos) env) h post := by
  intro s Q E e k
  subst e
  exact wpAny_Constant_int (k _ _ _ (Kp.refl _) (p _))

theorem ev_local {x : Str} {pos : Pos} {v : Value} {m : Str → Option Value} {post : Value → Heap → Prop} (hk : env.scope.kind = .function) (hl : env.kindOf x = some .local)
    (hn : h.Ns env.locals m) (hv : m x = some v) (p : post v h) (hd : (x == ("__debug__" : Str)) = false := by decide) : EvS M A (eval (.Name x pos) env) h post := by
  intro s Q E e k
  subst e
  exact wpAny_Name (wpAny_loadName_local hk hl hn hv (k _ _ s.toks (Kp.refl _) p)) hd
theorem ev_cell {x : Str} {pos : Pos} {v : Value} {c : Addr} {post : Value → Heap → Prop} (hk : env.scope.kind = .function) (hl : env.kindOf x = some .cell)
    (hc : env.cells.lookup x = some c) (hv : h.IsCell c (some v)) (p : post v h) (hd : (x == ("__debug__" : Str)) = false := by decide) : EvS M A (eval (.Name x pos) env) h post := by
  intro s Q E e k
  subst e
  exact wpAny_Name (wpAny_loadName_cell hk hl hc hv (k _ _ s.toks (Kp.refl _) p)) hd
theorem ev_free {x : Str} {pos : Pos} {v : Value} {c : Addr} {post : Value → Heap → Prop} (hk : env.scope.kind = .function) (hl : env.kindOf x = some .free)
    (hc : env.cells.lookup x = some c) (hv : h.IsCell c (some v)) (p : post v h) (hd : (x == ("__debug__" : Str)) = false := by decide) (hn : (x == ("__classdict__" : Str)) = false := by decide) :
    EvS M A (eval (.Name x pos) env) h post := by
  intro s Q E e k
  subst e
  exact wpAny_Name (wpAny_loadName_free hk hl hc hv (k _ _ s.toks (Kp.refl _) p) hn) hd

theorem ev_args_nil {pos : Pos} {post : List Value → Heap → Prop} (p : post [] h) : EvS M A (spliced (backTo pos (starEach [] env))) h post := by
  intro s Q E e k
  subst e
  exact args_nil (k _ _ s.toks (Kp.refl _) p)
theorem ev_args_cons {e : Expr} {rest : List Expr} {pos : Pos} {post : List Value → Heap → Prop}
    (p : EvS M A (eval e env) h fun v h1 => EvS M A (spliced (backTo pos (starEach rest env))) h1 fun vs h2 => post (v :: vs) h2)
    (he : starEach (e :: rest) env = (false, eval e env) :: starEach rest env := by rfl) : EvS M A (spliced (backTo pos (starEach (e :: rest) env))) h post := by
  intro s Q E e' k
  refine args_cons (p s _ E e' fun v h1 t1 k1 p1 => p1 { s with heap := h1, toks := t1 } _ E rfl fun vs h2 t2 k2 p2 => ?_) he
  exact k _ h2 t2 (k1.trans k2) p2

/-- a call of a def by name; the def's keeper is told by the written part -/
theorem ev_callK {K : Frag} {func e : Expr} {rest : List Expr} {pos : Pos} {post : Value → Heap → Prop} (hX : K.In h)
    (p : EvS M A (eval func env) h fun f h1 => keepIn K f = true ∧ EvS M A (spliced (backTo pos (starEach (e :: rest) env))) h1 fun vs h2 => EvS M A (call f vs) h2 post)
    (hc : eval (.Call func (e :: rest) [] pos) env = (do callWith pos (← eval func env) [] (backTo pos (starEach (e :: rest) env)) (backToKw pos (keywordEach [] env))) := by rfl)
    (he : starEach (e :: rest) env = (false, eval e env) :: starEach rest env := by rfl) (hplain : (backTo pos (starEach rest env)).any (·.1) = false := by rfl) :
    EvS M A (eval (.Call func (e :: rest) [] pos) env) h post := by
  intro s Q E e' k
  subst e'
  refine Call_ (p s _ E rfl fun f h1 t1 k1 p1 => ?_) hc
  obtain ⟨hk, p1⟩ := p1
  refine callWith_K (h₀ := s.heap) hX hk (p1 { s with heap := h1, toks := t1 } _ E rfl fun vs h2 t2 k2 p2 => ⟨?_, ?_⟩) he hplain
  · exact hX.keeps (k1.trans k2)
  · exact p2 { s with heap := h2, toks := t2 } _ E rfl fun v h3 t3 k3 p3 => k v h3 t3 ((k1.trans k2).trans k3) p3
theorem ev_callB {func e : Expr} {rest : List Expr} {pos : Pos} {post : Value → Heap → Prop}
    (p : EvS M A (eval func env) h fun f h1 => (∃ id, f = .builtin id) ∧ EvS M A (spliced (backTo pos (starEach (e :: rest) env))) h1 fun vs h2 => EvS M A (call f vs) h2 post)
    (hc : eval (.Call func (e :: rest) [] pos) env = (do callWith pos (← eval func env) [] (backTo pos (starEach (e :: rest) env)) (backToKw pos (keywordEach [] env))) := by rfl)
    (he : starEach (e :: rest) env = (false, eval e env) :: starEach rest env := by rfl) (hplain : (backTo pos (starEach rest env)).any (·.1) = false := by rfl) :
    EvS M A (eval (.Call func (e :: rest) [] pos) env) h post := by
  intro s Q E e' k
  refine Call_ (p s _ E e' fun f h1 t1 k1 p1 => ?_) hc
  obtain ⟨⟨id, rfl⟩, p1⟩ := p1
  refine PyProof.Rows.callWith_builtin1 (p1 { s with heap := h1, toks := t1 } _ E rfl fun vs h2 t2 k2 p2 => ?_) he hplain
  exact p2 { s with heap := h2, toks := t2 } _ E rfl fun v h3 t3 k3 p3 => k v h3 t3 ((k1.trans k2).trans k3) p3
theorem ev_callT {func e : Expr} {rest : List Expr} {pos : Pos} {post : Value → Heap → Prop}
    (p : EvS M A (eval func env) h fun f h1 => (∃ id, f = .type id) ∧ EvS M A (spliced (backTo pos (starEach (e :: rest) env))) h1 fun vs h2 => EvS M A (call f vs) h2 post)
    (hc : eval (.Call func (e :: rest) [] pos) env = (do callWith pos (← eval func env) [] (backTo pos (starEach (e :: rest) env)) (backToKw pos (keywordEach [] env))) := by rfl)
    (he : starEach (e :: rest) env = (false, eval e env) :: starEach rest env := by rfl) (hplain : (backTo pos (starEach rest env)).any (·.1) = false := by rfl) :
    EvS M A (eval (.Call func (e :: rest) [] pos) env) h post := by
  intro s Q E e' k
  refine Call_ (p s _ E e' fun f h1 t1 k1 p1 => ?_) hc
  obtain ⟨⟨id, rfl⟩, p1⟩ := p1
  refine PyProof.Rows.callWith_type1 (p1 { s with heap := h1, toks := t1 } _ E rfl fun vs h2 t2 k2 p2 => ?_) he hplain
  exact p2 { s with heap := h2, toks := t2 } _ E rfl fun v h3 t3 k3 p3 => k v h3 t3 ((k1.trans k2).trans k3) p3

theorem ev_list {elts : List Expr} {pos : Pos} {post : Value → Heap → Prop} (p : EvS M A (spliced (backTo pos (starEach elts env))) h fun vs h1 => EvS M A (newList vs) h1 post) :
    EvS M A (eval (.List elts pos) env) h post := by
  intro s Q E e k
  refine List_ (p s _ E e fun vs h1 t1 k1 p1 => p1 { s with heap := h1, toks := t1 } _ E rfl fun v h2 t2 k2 p2 => ?_)
  exact k v h2 t2 (k1.trans k2) p2
theorem ev_tuple {elts : List Expr} {n : Nat} {pos : Pos} {post : Value → Heap → Prop} (p : EvS M A (spliced (backTo pos (starEach elts env))) h fun vs h1 => EvS M A (newTuple vs) h1 post) :
    EvS M A (eval (.Tuple elts n pos) env) h post := by
  intro s Q E e k
  refine Tuple_ (p s _ E e fun vs h1 t1 k1 p1 => p1 { s with heap := h1, toks := t1 } _ E rfl fun v h2 t2 k2 p2 => ?_)
  exact k v h2 t2 (k1.trans k2) p2
theorem ev_sub {value slice : Expr} {pos : Pos} {post : Value → Heap → Prop}
    (p : EvS M A (eval value env) h fun o h1 => EvS M A (eval slice env) h1 fun i h2 => EvS M A (subscriptTail value slice o i) h2 post) : EvS M A (eval (.Subscript value slice pos) env) h post := by
  intro s Q E e k
  refine Subscript_ (p s _ E e fun a h1 t1 k1 p1 => p1 { s with heap := h1, toks := t1 } _ E rfl fun b h2 t2 k2 p2 => p2 { s with heap := h2, toks := t2 } _ E rfl fun c h3 t3 k3 p3 => ?_)
  exact k c h3 t3 ((k1.trans k2).trans k3) p3
end

/-- what a call of a def wants: the frames below, the top's facts, room -/
structure CC (K : Frag) (p : Program) (loose : List Str) (mean : ExcName → Option Value) (mg mb : Str → Option Value) (A : Around) (h : Heap) (n : Nat) : Prop where
  handled : A.handled = none
  depth : A.depth + n < recursionLimit
  units : A.units + 8 * n + 100 < cLine
  ex : ∃ env outer A₀ base h₀ L m, A.frames = some (env :: outer) ∧ env.frame = some L ∧ env.scope.kind = .function ∧ Below A₀ base outer h₀ ∧ Fr h₀ L h m ∧ K.In h₀ ∧ Top p loose mean mg mb h₀

section
variable {K : Frag} {p : Program} {loose : List Str} {mean : ExcName → Option Value} {mg mb : Str → Option Value} {A : Around} {h h' : Heap} {n : Nat}
theorem CC.keeps (c : CC K p loose mean mg mb A h n) (k : Kp h h') : CC K p loose mean mg mb A h' n :=
  ⟨c.handled, c.depth, c.units, by obtain ⟨env, outer, A₀, base, h₀, L, m, a1, a2, a3, a4, a5, a6, a7⟩ := c.ex; exact ⟨env, outer, A₀, base, h₀, L, m, a1, a2, a3, a4, a5.keeps k, a6, a7⟩⟩
theorem CC.less {n' : Nat} (c : CC K p loose mean mg mb A h n) (hn : n' ≤ n) : CC K p loose mean mg mb A h n' :=
  ⟨c.handled, Nat.lt_of_le_of_lt (Nat.add_le_add_left hn _) c.depth, by have := c.units; omega, c.ex⟩
theorem CC.inK (c : CC K p loose mean mg mb A h n) : K.In h := by
  obtain ⟨env, outer, A₀, base, h₀, L, m, a1, a2, a3, a4, a5, a6, a7⟩ := c.ex
  exact a6.keeps a5.keep
theorem CC.g (c : CC K p loose mean mg mb A h n) : h.Ns mainGlobals mg := by
  obtain ⟨env, outer, A₀, base, h₀, L, m, a1, a2, a3, a4, a5, a6, a7⟩ := c.ex
  exact (a7.keeps a5.keep).g
theorem CC.b (c : CC K p loose mean mg mb A h n) : h.Ns builtinsNs mb := by
  obtain ⟨env, outer, A₀, base, h₀, L, m, a1, a2, a3, a4, a5, a6, a7⟩ := c.ex
  exact (a7.keeps a5.keep).b
theorem CC.boot (c : CC K p loose mean mg mb A h n) {x : Str} (hx : x ≠ "__name__") : mb x = bootBuiltins x := by
  obtain ⟨env, outer, A₀, base, h₀, L, m, a1, a2, a3, a4, a5, a6, a7⟩ := c.ex
  exact a7.builtins x hx
theorem CC.lim (c : CC K p loose mean mg mb A h n) : h.NoLimit := by
  obtain ⟨env, outer, A₀, base, h₀, L, m, a1, a2, a3, a4, a5, a6, a7⟩ := c.ex
  exact a7.nolimit.keeps a5.keep

theorem ev_global {M : Model} {env : Env} {x : Str} {pos : Pos} {v : Value} {post : Value → Heap → Prop} (c : CC K p loose mean mg mb A h n) (e : nsIn K mainGlobals x = some (some v))
    (q : post v h) (hg : env.globals = mainGlobals := by rfl) (hk : env.scope.kind = .function := by rfl) (hx : env.kindOf x = some .globalImplicit := by rfl) (hd : (x == ("__debug__" : Str)) = false := by decide) :
    EvS M A (eval (.Name x pos) env) h post := by
  intro s Q E e' k
  subst e'
  exact Name_function_global hk hx (loadGlobal_global (show s.heap.Ns env.globals mg from hg ▸ c.g) (mg_of c.inK c.g e) (k _ _ s.toks (Kp.refl _) q)) hd
theorem ev_built {M : Model} {env : Env} {x : Str} {pos : Pos} {v : Value} {post : Value → Heap → Prop} (c : CC K p loose mean mg mb A h n) (e : nsIn K mainGlobals x = some none) (hv : bootBuiltins x = some v)
    (q : post v h) (hn : x ≠ "__name__" := by decide) (hg : env.globals = mainGlobals := by rfl) (hb : env.builtins = builtinsNs := by rfl) (hk : env.scope.kind = .function := by rfl) (hx : env.kindOf x = some .globalImplicit := by rfl) (hd : (x == ("__debug__" : Str)) = false := by decide) :
    EvS M A (eval (.Name x pos) env) h post := by
  intro s Q E e' k
  subst e'
  exact Name_function_global hk hx (loadGlobal_builtin (show s.heap.Ns env.globals mg from hg ▸ c.g) (mg_none_of c.inK c.g e) (show s.heap.Ns env.builtins mb from hb ▸ c.b) ((c.boot hn).trans hv) (k _ _ s.toks (Kp.refl _) q)) hd
end

section
variable {prog : Program} {w : World} {K : Frag} {p : Program} {loose : List Str} {mean : ExcName → Option Value} {mg mb : Str → Option Value} {A : Around} {h : Heap} {n : Nat}
  {name qual : Str} {params : Arguments} {body : List Stmt} {scope : Scope} {dV kV doc pm cdv ct oc : Value} {an od : Option Addr} {osl : Array (Option Value)} {f : Addr} {vs : List Value} {binds : List (Str × Value)}

/-- a call of a def without cells: its body is run over the whole heap of the call -/
theorem ev_def {post : Value → Heap → Prop} (c : CC K p loose mean mg mb A h (n + 1))
    (ho : K.lookup f = some ⟨oc, od, .func (fnOf name qual params body scope dV kV doc pm an cdv ct), osl⟩) (hcd : codeIn K cdv qual = true)
    (hbind : bindArgs (fnOf name qual params body scope dV kV doc pm an cdv ct) ⟨vs, []⟩ = pure binds) (hloc : ∀ y ∈ binds, scope.names.lookup y.1 = some .local)
    (hcell : ∀ x ∈ scope.names, x.2 ≠ .cell)
    (b : ∀ (h₁ : Heap) (s : Shared) (Q : Flow → Shared → Prop) (E : Value → Shared → Prop), s.heap = h₁ → Kp h h₁ → h₁.Ns h.objs.size (fun y => binds.reverse.lookup y) →
      CC K p loose mean mg mb (A.deeper (envOf qual scope h.objs.size f cdv)) h₁ n → (∀ h₂ m', Kp h h₂ → h₂.Ns h.objs.size m' → CC K p loose mean mg mb (A.deeper (envOf qual scope h.objs.size f cdv)) h₂ n) →
      (∀ v h' tk, Kp h h' → post v h' → Q (.ret v) { s with heap := h', toks := tk }) →
      wpAny (model prog w) (A.deeper (envOf qual scope h.objs.size f cdv)) (execs body (envOf qual scope h.objs.size f cdv)) Q E s)
    (hco : scope.isCoroutine = false := by rfl) (hgen : scope.isGenerator = false := by rfl) (hk : scope.kind = .function := by rfl) :
    EvS (model prog w) A (call (.ref f) vs) h post := by
  intro s Q E e k
  subst e
  obtain ⟨env, outer, A₀, base, h₀, L, m, a1, a2, a3, B, F, X, T⟩ := c.ex
  refine wpAny_call (codeAny_call_def (fd := fnOf name qual params body scope dV kV doc pm an cdv ct) (body := body) (binds := binds) (Nat.lt_of_le_of_lt (Nat.le_add_right _ _) c.depth) (c.inK _ _ ho) rfl c.lim (codeRec_of c.inK hcd) rfl
    (BindsTo.of_eq hbind) hcell hloc (fun h₁ hns hk₁ => ?_) hco hgen hk)
  have B₁ := pushX B F a2 a3
  have ccf : ∀ h₂ m', Kp s.heap h₂ → h₂.Ns s.heap.objs.size m' → CC K p loose mean mg mb (A.deeper (envOf qual scope s.heap.objs.size f cdv)) h₂ n := fun h₂ m' kk hn =>
    ⟨c.handled, by have := c.depth; show A.depth + 1 + n < recursionLimit; omega, by have := c.units; show A.units + 3 + 8 * n + 100 < cLine; omega,
      envOf qual scope s.heap.objs.size f cdv, env :: outer, _, base, s.heap, s.heap.objs.size, m', Around.frames_deeper a1, rfl, hk, ⟨a1, B₁.stays, B₁.frames⟩, ⟨hn, kk, Nat.le_refl _⟩, c.inK, T.keeps F.keep⟩
  exact b h₁ { s with heap := h₁, toks := s.toks + binds.length } _ _ rfl hk₁ hns (ccf h₁ _ hk₁ hns) ccf fun v h' tk k1 p1 => k v h' tk k1 p1

end
end Mine

namespace Mine

section
variable {prog : Program} {w : World} {K : Frag} {p : Program} {loose : List Str} {mean : ExcName → Option Value} {mg mb : Str → Option Value} {A : Around} {h : Heap} {n : Nat}
  {name qual : Str} {params : Arguments} {scope : Scope} {dV kV doc pm cdv ct oc : Value} {an od : Option Addr} {osl : Array (Option Value)} {f : Addr} {vs : List Value} {binds : List (Str × Value)}

theorem ev_def_ret {post : Value → Heap → Prop} {e : Expr} {rp : Pos} {rest : List Stmt} (c : CC K p loose mean mg mb A h (n + 1))
    (ho : K.lookup f = some ⟨oc, od, .func (fnOf name qual params (.Return (some e) rp :: rest) scope dV kV doc pm an cdv ct), osl⟩) (hcd : codeIn K cdv qual = true)
    (hbind : bindArgs (fnOf name qual params (.Return (some e) rp :: rest) scope dV kV doc pm an cdv ct) ⟨vs, []⟩ = pure binds) (hloc : ∀ y ∈ binds, scope.names.lookup y.1 = some .local)
    (hcell : ∀ x ∈ scope.names, x.2 ≠ .cell)
    (b : ∀ (h₁ : Heap), Kp h h₁ → h₁.Ns h.objs.size (fun y => binds.reverse.lookup y) → CC K p loose mean mg mb (A.deeper (envOf qual scope h.objs.size f cdv)) h₁ n →
      EvS (model prog w) (A.deeper (envOf qual scope h.objs.size f cdv)) (eval e (envOf qual scope h.objs.size f cdv)) h₁ post)
    (hco : scope.isCoroutine = false := by rfl) (hgen : scope.isGenerator = false := by rfl) (hk : scope.kind = .function := by rfl) :
    EvS (model prog w) A (call (.ref f) vs) h post := by
  refine ev_def c ho hcd hbind hloc hcell (fun h₁ s Q E e' k1 hns c' F₁ k => ?_) hco hgen hk
  subst e'
  exact wpAny_execs_cons (wpAny_Return_some ((b s.heap k1 hns c').run fun v h' tk k2 p2 => k v h' tk (k1.trans k2) p2))
end

section
variable {prog : Program} {w : World} {A : Around} {h : Heap} {a b : Int} {t u : Tok} {post : Value → Heap → Prop}
theorem op_and (q : ∀ t, post (.int (Builtin.bitAnd a b) t) h) : EvS (model prog w) A (binaryOp .BitAnd (.int a t) (.int b u)) h post := by
  intro s Q E e k; subst e; exact and_int (k _ _ _ (Kp.refl _) (q _))
theorem op_or (q : ∀ t, post (.int (Builtin.bitOr a b) t) h) : EvS (model prog w) A (binaryOp .BitOr (.int a t) (.int b u)) h post := by
  intro s Q E e k; subst e; exact or_int (k _ _ _ (Kp.refl _) (q _))
theorem op_xor (q : ∀ t, post (.int (Builtin.bitXor a b) t) h) : EvS (model prog w) A (binaryOp .BitXor (.int a t) (.int b u)) h post := by
  intro s Q E e k; subst e; exact xor_int (k _ _ _ (Kp.refl _) (q _))
theorem op_shr (h0 : 0 ≤ b) (q : ∀ t, post (.int (a.fdiv (2 ^ b.toNat)) t) h) : EvS (model prog w) A (binaryOp .RShift (.int a t) (.int b u)) h post := by
  intro s Q E e k; subst e; exact rshift_int h0 (k _ _ _ (Kp.refl _) (q _))
theorem op_inv (q : ∀ t, post (.int (Builtin.bitNot a) t) h) : EvS (model prog w) A (unaryOp .Invert (.int a t)) h post := by
  intro s Q E e k; subst e; exact invert_int (k _ _ _ (Kp.refl _) (q _))
end


abbrev strokeI (a b : Int) : Int := Builtin.bitAnd (Builtin.bitNot (Builtin.bitAnd a b)) 15

section
variable {prog p : Program} {loose : List Str} {w : World} {mean : ExcName → Option Value} {mg mb : Str → Option Value} {A : Around} {h : Heap} {n : Nat} {a b : Int} {t u : Tok} {post : Value → Heap → Prop}









end
end Mine

namespace Mine

theorem hid_of (h : Heap) (Mu : List Addr) : Kp (hideAll h Mu) h := fun _ _ e => of_hideAll _ e
theorem hid_off {h : Heap} {Mu : List Addr} {b : Addr} {o : Obj} (e : (hideAll h Mu).get? b = some o) : b ∉ Mu := fun m => by rw [hideAll_none _ m] at e; cases e
theorem hid_kp {h h' : Heap} {Mu Mu' : List Addr} (k : ∀ b o, b ∉ Mu → h.get? b = some o → b ∉ Mu' ∧ h'.get? b = some o) : Kp (hideAll h Mu) (hideAll h' Mu') := fun b o e =>
  let z := k b o (hid_off e) (of_hideAll _ e)
  hideAll_get _ z.2 z.1
theorem hid_up {h h' : Heap} {Mu : List Addr} (k : Kp h h') : Kp (hideAll h Mu) (hideAll h' Mu) := hid_kp fun b o m e => ⟨m, k b o e⟩
theorem hid_but {h h' : Heap} {Mu : List Addr} (k : ∀ b o, b ∉ Mu → h.get? b = some o → h'.get? b = some o) : Kp (hideAll h Mu) (hideAll h' Mu) := hid_kp fun b o m e => ⟨m, k b o m e⟩

abbrev lst (ys : List Value) : Obj := LCg.lst ys

/-- one turn of a clause -/
def turnOf (target iter : Expr) (ifs : List Expr) (it : Value) (env : Env) (emit : Sem Unit) (c : Code) : Sem Fin := do
  standAt iter.pos
  match ← pyNext it with
  | none => pure (.done .next)
  | some v =>
    letOwnedTupleGo target it v
    assign target env v
    let mut ok := true
    for c in ifs do
      if ok then ok ← isTrue c env (eval c env)
    if ok then emit
    again c

/-- one turn of a clause, what follows a passed test in one tree -/
def turnOfK (target iter : Expr) (ifs : List Expr) (it : Value) (env : Env) (emit : Sem Fin) (c : Code) : Sem Fin := do
  standAt iter.pos
  match ← pyNext it with
  | none => pure (.done .next)
  | some v =>
    letOwnedTupleGo target it v
    assign target env v
    let mut ok := true
    for c in ifs do
      if ok then ok ← isTrue c env (eval c env)
    if ok then emit else again c

abbrev testsOf (ifs : List Expr) (env : Env) : Sem Bool :=
  forIn ifs true fun c r => if r = true then do let ok ← isTrue c env (eval c env); pure (ForInStep.yield ok) else pure (ForInStep.yield r)

section
variable {prog : Program} {w : World} {A : Around} {R : Result → Shared → Prop} {s : Shared}

theorem comp_raw {elt target iter : Expr} {gens : List Comprehension} {scope : Scope} {pos : Pos} {d : Nat} {ifs : List Expr} {it acc : Value} {env : Env} {emit : Sem Unit}
    (hden : compTurn (.ListComp elt gens scope pos) d it acc env = turnOf target iter ifs it env emit (.compLoop (.ListComp elt gens scope pos) d it acc env))
    (I : Nat → Shared → Prop)
    (turn : ∀ n s, I n s → wpAny (model prog w) A (pyNext it) (fun r s₁ => match r with
      | none => R (.ok .next) s₁
      | some v => wpAny (model prog w) A (letOwnedTupleGo target it v) (fun _ s₁' => wpAny (model prog w) A (assign target env v) (fun _ s₂ =>
          wpAny (model prog w) A (testsOf ifs env) (fun ok s₃ =>
            if ok = true then wpAny (model prog w) A emit (fun _ s₅ => ∃ m, m < n ∧ I m s₅) (notedBy (model prog w) A env fun e s' => R (.error e) s') s₃
            else ∃ m, m < n ∧ I m s₃) (notedBy (model prog w) A env fun e s' => R (.error e) s') s₂) (notedBy (model prog w) A env fun e s' => R (.error e) s') s₁') (notedBy (model prog w) A env fun e s' => R (.error e) s') s₁) (notedBy (model prog w) A env fun e s' => R (.error e) s') s)
    (n : Nat) (h : I n s) : codeAny (model prog w) A (.compLoop (.ListComp elt gens scope pos) d it acc env) R s := by
  refine codeAny_loop rfl I (fun n s hI => ?_) n h
  show wpAny _ A ((compTurn (.ListComp elt gens scope pos) d it acc env).onRaise (fun x => do noteFrame x env; theTreesLotGoes x)) _ _ s
  refine wpAny_noted ?_
  rw [hden]
  unfold turnOf
  refine wpAny_bind (wpAny_standAt (wpAny_bind (wpAny_mono (turn n s hI) (fun r s₁ h₁ => ?_) fun _ _ h' => h')))
  cases r with
  | none => exact wpAny_pure h₁
  | some v =>
    refine wpAny_bind (wpAny_mono h₁ (fun _ s₁' h₁' => ?_) fun _ _ h' => h')
    refine wpAny_bind (wpAny_mono h₁' (fun _ s₂ h₂ => wpAny_bind (wpAny_mono h₂ (fun ok s₃ h₃ => ?_) fun _ _ h' => h')) fun _ _ h' => h')
    cases ok with
    | false => exact wpAny_pure ⟨rfl, h₃⟩
    | true => exact wpAny_bind (wpAny_mono h₃ (fun _ s₅ h₅ => wpAny_pure ⟨rfl, h₅⟩) fun _ _ h' => h')

theorem comp_rawK {elt target iter : Expr} {gens : List Comprehension} {scope : Scope} {pos : Pos} {d : Nat} {ifs : List Expr} {it acc : Value} {env : Env} {emit : Sem Fin}
    (hden : compTurn (.ListComp elt gens scope pos) d it acc env = turnOfK target iter ifs it env emit (.compLoop (.ListComp elt gens scope pos) d it acc env))
    (I : Nat → Shared → Prop)
    (turn : ∀ n s, I n s → wpAny (model prog w) A (pyNext it) (fun r s₁ => match r with
      | none => R (.ok .next) s₁
      | some v => wpAny (model prog w) A (letOwnedTupleGo target it v) (fun _ s₁' => wpAny (model prog w) A (assign target env v) (fun _ s₂ =>
          wpAny (model prog w) A (testsOf ifs env) (fun ok s₃ =>
            if ok = true then wpAny (model prog w) A emit (fun fin s₅ => fin = .again (.compLoop (.ListComp elt gens scope pos) d it acc env) ∧ ∃ m, m < n ∧ I m s₅) (notedBy (model prog w) A env fun e s' => R (.error e) s') s₃
            else ∃ m, m < n ∧ I m s₃) (notedBy (model prog w) A env fun e s' => R (.error e) s') s₂) (notedBy (model prog w) A env fun e s' => R (.error e) s') s₁') (notedBy (model prog w) A env fun e s' => R (.error e) s') s₁) (notedBy (model prog w) A env fun e s' => R (.error e) s') s)
    (n : Nat) (h : I n s) : codeAny (model prog w) A (.compLoop (.ListComp elt gens scope pos) d it acc env) R s := by
  refine codeAny_loop rfl I (fun n s hI => ?_) n h
  show wpAny _ A ((compTurn (.ListComp elt gens scope pos) d it acc env).onRaise (fun x => do noteFrame x env; theTreesLotGoes x)) _ _ s
  refine wpAny_noted ?_
  rw [hden]
  unfold turnOfK
  refine wpAny_bind (wpAny_standAt (wpAny_bind (wpAny_mono (turn n s hI) (fun r s₁ h₁ => ?_) fun _ _ h' => h')))
  cases r with
  | none => exact wpAny_pure h₁
  | some v =>
    refine wpAny_bind (wpAny_mono h₁ (fun _ s₁' h₁' => ?_) fun _ _ h' => h')
    refine wpAny_bind (wpAny_mono h₁' (fun _ s₂ h₂ => wpAny_bind (wpAny_mono h₂ (fun ok s₃ h₃ => ?_) fun _ _ h' => h')) fun _ _ h' => h')
    cases ok with
    | false => exact wpAny_pure ⟨rfl, h₃⟩
    | true => exact wpAny_mono h₃ (fun fin s₅ h₅ => by obtain ⟨rfl, h₅⟩ := h₅; exact ⟨rfl, h₅⟩) fun _ _ h' => h'

/-- the variables of a comprehension: where they lie, that they lie there, what they hold after an assignment -/
structure Vars (prog : Program) (w : World) (A : Around) (target : Expr) (env : Env) (VA : List Addr) (V : Heap → Prop) (Lc : Value → Heap → Prop) (Ok : Value → Heap → Prop) : Prop where
  ext : ∀ h h', (∀ b ∈ VA, ∀ o, h.get? b = some o → h'.get? b = some o) → V h → V h'
  up : ∀ v h h', Kp h h' → Lc v h → Lc v h'
  is : ∀ v h, Lc v h → V h
  there : ∀ h, V h → ∀ b ∈ VA, ∃ o, h.get? b = some o
  asg : ∀ v (s : Shared) (Q : Unit → Shared → Prop) (E : Value → Shared → Prop), V s.heap → Ok v s.heap → (∀ h' tk, Lc v h' → (∀ b o, b ∉ VA → s.heap.get? b = some o → h'.get? b = some o) → Q () { s with heap := h', toks := tk }) →
    wpAny (model prog w) A (assign target env v) Q E s

/-- the last clause: an element a turn -/
theorem comp_last {elt target iter : Expr} {gens : List Comprehension} {scope : Scope} {pos : Pos} {d : Nat} {ifs : List Expr} {env : Env} {I D : Addr} {fp : List Addr} {n : Nat} {P : Nat → Value → Prop} {St : Nat → Heap → Prop}
    (hden : compTurn (.ListComp elt gens scope pos) d (.ref I) (.ref D) env =
      turnOf target iter ifs (.ref I) env (do let _ ← call (.builtin "list.append") [.ref D, ← eval elt env]) (.compLoop (.ListComp elt gens scope pos) d (.ref I) (.ref D) env))
    (W : Walks prog w A I fp [I] n P St) (hSt : ∀ i h, St i h → ∃ o, h.get? I = some o)
    {VA XA : List Addr} {V : Heap → Prop} {Lc Ok : Value → Heap → Prop} {X : Heap → Prop} (vars : Vars prog w A target env VA V Lc Ok)
    (own : ∀ i v (s : Shared) (Q : Unit → Shared → Prop) (E : Value → Shared → Prop), St i s.heap → Ok v s.heap → Q () s → wpAny (model prog w) A (letOwnedTupleGo target (.ref I) v) Q E s)
    (hX : ∀ h h', (∀ b ∈ XA, ∀ o, h.get? b = some o → h'.get? b = some o) → X h → X h')
    (Mu : List Addr) (mD : D ∈ Mu) (mI : I ∈ Mu) (mV : ∀ b ∈ VA, b ∈ Mu) (hMu : ∀ h, X h → ∀ b ∈ Mu, b = D ∨ b = I ∨ b ∈ VA ∨ ∃ o, h.get? b = some o)
    (dDf : D ∉ fp) (dDV : D ∉ VA) (dDX : D ∉ XA) (dVf : ∀ b ∈ VA, b ∉ fp) (dVX : ∀ b ∈ VA, b ∉ XA) (dIX : I ∉ XA)
    (J : Nat → List Value → Heap → Prop) (Jm : ∀ i ys h h', Kp h h' → J i ys h → J i ys h') (Js : ∀ i ys h, J i ys h → ys.length ≤ sizeLine)
    (Jok : ∀ i v ys h, i < n → P i v → J i ys h → Ok v h) (Okm : ∀ v h h', Kp h h' → Ok v h → Ok v h')
    (turn : ∀ i v ys h, i < n → P i v → Lc v h → J i ys (hideAll h Mu) → (∀ b ∈ Mu, ∃ o, h.get? b = some o) →
      EvS (model prog w) A (testsOf ifs env) h fun ok h₃ =>
        if ok = true then EvS (model prog w) A (eval elt env) h₃ fun y h₄ => J (i + 1) (ys ++ [y]) (hideAll h₄ Mu) else J (i + 1) ys (hideAll h₃ Mu))
    {ys₀ : List Value} (st : St 0 s.heap) (hD : s.heap.get? D = some (lst ys₀)) (hV : V s.heap) (hXs : X s.heap) (hJ : J 0 ys₀ (hideAll s.heap Mu))
    (fin : ∀ h' tk ys, h'.get? D = some (lst ys) → V h' → X h' → J n ys (hideAll h' Mu) → R (.ok .next) { s with heap := h', toks := tk }) :
    codeAny (model prog w) A (.compLoop (.ListComp elt gens scope pos) d (.ref I) (.ref D) env) R s := by
  have hIf : I ∈ fp := W.sub I (List.mem_singleton.mpr rfl)
  have dDI : D ≠ I := fun e => dDf (e ▸ hIf)
  have dVI : ∀ b ∈ VA, b ≠ I := fun b hb e => dVf b hb (e ▸ hIf)
  have ne1 : ∀ {b : Addr}, b ≠ I → b ∉ [I] := fun h => by simpa using h
  refine comp_raw hden (fun k s' => ∃ h' tk i ys, s' = { s with heap := h', toks := tk } ∧ i ≤ n ∧ k = n + 1 - i ∧ St i h' ∧ h'.get? D = some (lst ys) ∧ V h' ∧ X h' ∧ J i ys (hideAll h' Mu)) ?_ (n + 1)
    ⟨s.heap, s.toks, 0, ys₀, rfl, Nat.zero_le _, rfl, st, hD, hV, hXs, hJ⟩
  rintro k s' ⟨h', tk, i, ys, rfl, hi, rfl, st', hD', hV', hX', hJ'⟩
  by_cases hlt : i < n
  · refine W.item i _ _ _ hlt st' fun v h₂ tk₂ hPv st₂ hk₂ => ?_
    dsimp only at hk₂ ⊢
    have V₂ : V h₂ := vars.ext _ _ (fun b hb o e => hk₂ b o (ne1 (dVI b hb)) e) hV'
    have X₂ : X h₂ := hX _ _ (fun b hb o e => hk₂ b o (ne1 fun q => dIX (q ▸ hb)) e) hX'
    have D₂ : h₂.get? D = some (lst ys) := hk₂ D _ (ne1 dDI) hD'
    have J₂ : J i ys (hideAll h₂ Mu) := Jm _ _ _ _ (hid_but fun b o m e => hk₂ b o (ne1 fun q => m (q ▸ mI)) e) hJ'
    have O₂ : Ok v h₂ := Okm _ _ _ (hid_of _ _) (Jok i v ys _ hlt hPv J₂)
    refine own (i + 1) v _ _ _ st₂ O₂ ?_
    refine vars.asg v _ _ _ V₂ O₂ fun h₃ tk₃ L₃ hk₃ => ?_
    dsimp only at hk₃ ⊢
    have V₃ := vars.is _ _ L₃
    have X₃ : X h₃ := hX _ _ (fun b hb o e => hk₃ b o (fun q => dVX b q hb) e) X₂
    have D₃ : h₃.get? D = some (lst ys) := hk₃ D _ dDV D₂
    have J₃ : J i ys (hideAll h₃ Mu) := Jm _ _ _ _ (hid_but fun b o m e => hk₃ b o (fun q => m (mV b q)) e) J₂
    have st₃ : St (i + 1) h₃ := W.frame _ _ _ st₂ fun b hb o e => hk₃ b o (fun q => dVf b q hb) e
    have M₃ : ∀ b ∈ Mu, ∃ o, h₃.get? b = some o := fun b hb => by
      rcases hMu _ X₃ b hb with e | e | e | e
      · exact e ▸ ⟨_, D₃⟩
      · exact e ▸ hSt _ _ st₃
      · exact vars.there _ V₃ b e
      · exact e
    refine (turn i v ys h₃ hlt hPv L₃ J₃ M₃).run (s := { s with heap := h₃, toks := tk₃ }) fun ok h₄ tk₄ k₄ p₄ => ?_
    dsimp only at k₄ ⊢
    have st₄ : St (i + 1) h₄ := W.frame _ _ _ st₃ fun b _ o e => k₄ b o e
    have V₄ : V h₄ := vars.ext _ _ (fun b _ o e => k₄ b o e) V₃
    have X₄ : X h₄ := hX _ _ (fun b _ o e => k₄ b o e) X₃
    cases ok with
    | false =>
      rw [if_neg Bool.false_ne_true] at p₄ ⊢
      exact ⟨n + 1 - (i + 1), by omega, h₄, tk₄, i + 1, ys, rfl, hlt, rfl, st₄, k₄ _ _ D₃, V₄, X₄, p₄⟩
    | true =>
      rw [if_pos rfl] at p₄ ⊢
      refine wpAny_bind (p₄.run (s := { s with heap := h₄, toks := tk₄ }) fun y h₅ tk₅ k₅ p₅ => ?_)
      dsimp only at k₅ ⊢
      have D₅ := k₅ _ _ (k₄ _ _ D₃)
      have hsz : ys.length ≤ sizeLine := by have := Js _ _ _ p₅; rw [List.length_append] at this; exact Nat.le_of_succ_le this
      refine wpAny_bind (append_at (hsz := by show ys.toArray.size ≤ sizeLine; rw [List.size_toArray]; exact hsz) D₅ fun h₆ hs₆ hD₆ => wpAny_pure ?_)
      refine ⟨n + 1 - (i + 1), by omega, h₆, tk₅, i + 1, ys ++ [y], rfl, hlt, rfl, ?_, hD₆.trans (congrArg some (LCg.lst_snoc ys y)), ?_, ?_, ?_⟩
      · exact W.frame _ _ _ st₄ fun b hb o e => hs₆.extBut b o (fun q => dDf (q ▸ hb)) (k₅ b o e)
      · exact vars.ext _ _ (fun b hb o e => hs₆.extBut b o (fun q => dDV (q ▸ hb)) (k₅ b o e)) V₄
      · exact hX _ _ (fun b hb o e => hs₆.extBut b o (fun q => dDX (q ▸ hb)) (k₅ b o e)) X₄
      · exact Jm _ _ _ _ (hid_but fun b o m e => hs₆.extBut b o (fun q => m (q ▸ mD)) e) p₅
  · obtain rfl : i = n := Nat.le_antisymm hi (Nat.not_lt.mp hlt)
    refine W.done _ _ _ st' fun h₂ tk₂ hk₂ => ?_
    dsimp only at hk₂ ⊢
    exact fin h₂ tk₂ ys (hk₂ D _ (ne1 dDI) hD') (vars.ext _ _ (fun b hb o e => hk₂ b o (ne1 (dVI b hb)) e) hV') (hX _ _ (fun b hb o e => hk₂ b o (ne1 fun q => dIX (q ▸ hb)) e) hX')
      (Jm _ _ _ _ (hid_but fun b o m e => hk₂ b o (ne1 fun q => m (q ▸ mI)) e) hJ')

/-- a clause ahead of others, the rest of the turn in one tree -/
theorem comp_emK {elt target iter : Expr} {gens : List Comprehension} {scope : Scope} {pos : Pos} {d : Nat} {env : Env} {I D : Addr} {fp : List Addr} {n : Nat} {P : Nat → Value → Prop} {St : Nat → Heap → Prop} {emit : Sem Fin}
    (hden : compTurn (.ListComp elt gens scope pos) d (.ref I) (.ref D) env =
      turnOfK target iter [] (.ref I) env emit (.compLoop (.ListComp elt gens scope pos) d (.ref I) (.ref D) env))
    (W : Walks prog w A I fp [I] n P St)
    {VA XA : List Addr} {V : Heap → Prop} {Lc Ok : Value → Heap → Prop} {X : Heap → Prop} (vars : Vars prog w A target env VA V Lc Ok)
    (own : ∀ i v (s : Shared) (Q : Unit → Shared → Prop) (E : Value → Shared → Prop), St i s.heap → Ok v s.heap → Q () s → wpAny (model prog w) A (letOwnedTupleGo target (.ref I) v) Q E s)
    (hX : ∀ h h', (∀ b ∈ XA, ∀ o, h.get? b = some o → h'.get? b = some o) → X h → X h')
    (Mu : List Addr) (mI : I ∈ Mu) (mV : ∀ b ∈ VA, b ∈ Mu)
    (dDf : D ∉ fp) (dDV : D ∉ VA) (dVf : ∀ b ∈ VA, b ∉ fp) (dVX : ∀ b ∈ VA, b ∉ XA) (dIX : I ∉ XA)
    (J : Nat → List Value → Heap → Prop) (Jm : ∀ i ys h h', Kp h h' → J i ys h → J i ys h')
    (Jok : ∀ i v ys h, i < n → P i v → J i ys h → Ok v h) (Okm : ∀ v h h', Kp h h' → Ok v h → Ok v h')
    (inner : ∀ i v ys (s : Shared) (Q : Fin → Shared → Prop) (E : Value → Shared → Prop), i < n → P i v → Lc v s.heap → St (i + 1) s.heap → s.heap.get? D = some (lst ys) → X s.heap → J i ys (hideAll s.heap Mu) →
      (∀ h' tk ys', St (i + 1) h' → h'.get? D = some (lst ys') → V h' → X h' → J (i + 1) ys' (hideAll h' Mu) → Q (.again (.compLoop (.ListComp elt gens scope pos) d (.ref I) (.ref D) env)) { s with heap := h', toks := tk }) →
      wpAny (model prog w) A emit Q E s)
    {ys₀ : List Value} (st : St 0 s.heap) (hD : s.heap.get? D = some (lst ys₀)) (hV : V s.heap) (hXs : X s.heap) (hJ : J 0 ys₀ (hideAll s.heap Mu))
    (fin : ∀ h' tk ys, h'.get? D = some (lst ys) → V h' → X h' → J n ys (hideAll h' Mu) → R (.ok .next) { s with heap := h', toks := tk }) :
    codeAny (model prog w) A (.compLoop (.ListComp elt gens scope pos) d (.ref I) (.ref D) env) R s := by
  have hIf : I ∈ fp := W.sub I (List.mem_singleton.mpr rfl)
  have dDI : D ≠ I := fun e => dDf (e ▸ hIf)
  have dVI : ∀ b ∈ VA, b ≠ I := fun b hb e => dVf b hb (e ▸ hIf)
  have ne1 : ∀ {b : Addr}, b ≠ I → b ∉ [I] := fun h => by simpa using h
  refine comp_rawK hden (fun k s' => ∃ h' tk i ys, s' = { s with heap := h', toks := tk } ∧ i ≤ n ∧ k = n + 1 - i ∧ St i h' ∧ h'.get? D = some (lst ys) ∧ V h' ∧ X h' ∧ J i ys (hideAll h' Mu)) ?_ (n + 1)
    ⟨s.heap, s.toks, 0, ys₀, rfl, Nat.zero_le _, rfl, st, hD, hV, hXs, hJ⟩
  rintro k s' ⟨h', tk, i, ys, rfl, hi, rfl, st', hD', hV', hX', hJ'⟩
  by_cases hlt : i < n
  · refine W.item i _ _ _ hlt st' fun v h₂ tk₂ hPv st₂ hk₂ => ?_
    dsimp only at hk₂ ⊢
    have V₂ : V h₂ := vars.ext _ _ (fun b hb o e => hk₂ b o (ne1 (dVI b hb)) e) hV'
    have X₂ : X h₂ := hX _ _ (fun b hb o e => hk₂ b o (ne1 fun q => dIX (q ▸ hb)) e) hX'
    have D₂ : h₂.get? D = some (lst ys) := hk₂ D _ (ne1 dDI) hD'
    have J₂ : J i ys (hideAll h₂ Mu) := Jm _ _ _ _ (hid_but fun b o m e => hk₂ b o (ne1 fun q => m (q ▸ mI)) e) hJ'
    have O₂ : Ok v h₂ := Okm _ _ _ (hid_of _ _) (Jok i v ys _ hlt hPv J₂)
    refine own (i + 1) v _ _ _ st₂ O₂ ?_
    refine vars.asg v _ _ _ V₂ O₂ fun h₃ tk₃ L₃ hk₃ => ?_
    dsimp only at hk₃ ⊢
    have X₃ : X h₃ := hX _ _ (fun b hb o e => hk₃ b o (fun q => dVX b q hb) e) X₂
    have D₃ : h₃.get? D = some (lst ys) := hk₃ D _ dDV D₂
    have J₃ : J i ys (hideAll h₃ Mu) := Jm _ _ _ _ (hid_but fun b o m e => hk₃ b o (fun q => m (mV b q)) e) J₂
    have st₃ : St (i + 1) h₃ := W.frame _ _ _ st₂ fun b hb o e => hk₃ b o (fun q => dVf b q hb) e
    refine wpAny_tests_nil ?_
    rw [if_pos rfl]
    refine inner i v ys { s with heap := h₃, toks := tk₃ } _ _ hlt hPv L₃ st₃ D₃ X₃ J₃ fun h₄ tk₄ ys' st₄ D₄ V₄ X₄ J₄ => ?_
    exact ⟨rfl, n + 1 - (i + 1), by omega, h₄, tk₄, i + 1, ys', rfl, hlt, rfl, st₄, D₄, V₄, X₄, J₄⟩
  · obtain rfl : i = n := Nat.le_antisymm hi (Nat.not_lt.mp hlt)
    refine W.done _ _ _ st' fun h₂ tk₂ hk₂ => ?_
    dsimp only at hk₂ ⊢
    exact fin h₂ tk₂ ys (hk₂ D _ (ne1 dDI) hD') (vars.ext _ _ (fun b hb o e => hk₂ b o (ne1 (dVI b hb)) e) hV') (hX _ _ (fun b hb o e => hk₂ b o (ne1 fun q => dIX (q ▸ hb)) e) hX')
      (Jm _ _ _ _ (hid_but fun b o m e => hk₂ b o (ne1 fun q => m (q ▸ mI)) e) hJ')
end

/-- what may be iterated: a list, a range; the iterator is one new object -/
def Src (prog : Program) (w : World) (A : Around) (xv : Value) (h : Heap) (Mu : List Addr) (n : Nat) (P : Nat → Value → Prop) : Prop :=
  ∀ (s : Shared) (Q : Value → Shared → Prop) (E : Value → Shared → Prop), s.heap = h →
    (∀ I o fp St, I = h.objs.size → o.isFreed = false → Walks prog w A I fp [I] n P St → St 0 (h.push o) → (∀ b ∈ fp, b = I ∨ (b ∉ Mu ∧ ∃ ob, h.get? b = some ob)) → (∀ i h', St i h' → ∃ ob, h'.get? I = some ob) →
      (∀ i h', St i h' → ∃ ob, h'.get? I = some ob ∧ (ob.cls = .type "list_iterator" ∨ ob.cls = .type "range_iterator")) →
      Q (.ref I) { s with heap := h.push o }) → wpAny (model prog w) A (pyIter xv) Q E s

theorem Src.list {prog : Program} {w : World} {A : Around} {h : Heap} {Mu : List Addr} {ax : Addr} {items : Array Value} (hh : A.handled = none) (hl : (hideAll h Mu).IsList ax items) :
    Src prog w A (.ref ax) h Mu items.size (fun i v => items[i]? = some v) := by
  intro s Q E e k
  subst e
  obtain ⟨o, ho, hc, m, hd⟩ := hl
  have hl : s.heap.IsList ax items := ⟨o, of_hideAll _ ho, hc, m, hd⟩
  have hlt : ax < s.heap.objs.size := Heap.lt_size (of_hideAll _ ho)
  refine wpAny_pyIter_list hl ?_
  refine k s.heap.objs.size _ [s.heap.objs.size, ax] _ rfl rfl (Walks.list hh _ ax (Nat.ne_of_lt hlt) items) ⟨⟨_, Heap.get?_push_size _ rfl, rfl, rfl⟩, hl.push _⟩ (fun b hb => ?_) (fun i h' st => ?_) (fun i h' st => ?_)
  · rcases List.mem_cons.mp hb with rfl | hb
    · exact .inl rfl
    · rw [List.mem_singleton.mp hb]
      exact .inr ⟨hid_off ho, o, of_hideAll _ ho⟩
  · obtain ⟨ob, e, _⟩ := st.1; exact ⟨ob, e⟩
  · obtain ⟨ob, e, c, _⟩ := st.1; exact ⟨ob, e, .inl c⟩

theorem Src.range {prog : Program} {w : World} {A : Around} {h : Heap} {Mu : List Addr} {r : Addr} {a b : Int} {t u v : Tok} {n : Nat} (hh : A.handled = none) (hr : IsRange h r a b 1 t u v) (hsm : Builtin.Range.small a b 1 = true)
    (hn : Builtin.Range.rangeSize a b 1 = ((n : Nat) : Int)) : Src prog w A (.ref r) h Mu n (fun i v => ∃ t, v = .int (a + (i : Int)) t) := by
  intro s Q E e k
  subst e
  refine wpAny_pyIter_range hr hsm ?_
  refine k s.heap.objs.size _ [s.heap.objs.size] _ rfl ?_ (LCg.range_walks hh a n) ?_ (fun b hb => .inl (List.mem_singleton.mp hb)) (fun i h' st => ⟨_, st⟩) (fun i h' st => ?_)
  · rfl
  · show IsRangeIter _ _ _ _ _
    rw [hn]; simpa using Heap.get?_push_size _ rfl
  · exact ⟨_, st, .inr rfl⟩
end Mine

namespace Mine

theorem cellsFrom_ge : ∀ (names : List (Str × NameKind)) (n lo : Nat) (acc : List (Str × Addr)), lo ≤ n → (∀ q ∈ acc, lo ≤ q.2) → ∀ q ∈ cellsFrom n names acc, lo ≤ q.2
  | [], _, _, _, _, ha => ha
  | (x, k) :: r, n, lo, acc, hn, ha => by
    unfold cellsFrom
    split
    · exact cellsFrom_ge r (n + 1) lo _ (Nat.le_succ_of_le hn) fun q hq => by
        rcases List.mem_cons.mp hq with rfl | hq
        · exact hn
        · exact ha q hq
    · exact cellsFrom_ge r n lo acc hn ha

abbrev newCells (scope : Scope) (C : Addr) : List (Str × Addr) := cellsFrom (C + 1) scope.names []
def VAof (scope : Scope) (C : Addr) : List Addr := C :: (newCells scope C).map (·.2)
def CellsThere (scope : Scope) (C : Addr) (h : Heap) : Prop := ∀ c ∈ (newCells scope C).map (·.2), ∃ v, h.IsCell c v
theorem newCells_gt {scope : Scope} {C c : Addr} (h : c ∈ (newCells scope C).map (·.2)) : C < c := by
  obtain ⟨q, hq, rfl⟩ := List.mem_map.mp h
  exact cellsFrom_ge scope.names (C + 1) (C + 1) [] (Nat.le_refl _) (fun _ h => nomatch h) q hq

section
variable {prog : Program} {w : World} {A : Around} {M : Model} {s : Shared} {E : Value → Shared → Prop}

theorem isCell_at {h h' : Heap} {c : Addr} {v : Option Value} (x : h.IsCell c v) (k : ∀ o, h.get? c = some o → h'.get? c = some o) : h'.IsCell c v := let ⟨o, e, d⟩ := x; ⟨o, k o e, d⟩
theorem CellsThere.at {scope : Scope} {C : Addr} {h h' : Heap} (x : CellsThere scope C h) (k : ∀ b ∈ VAof scope C, ∀ o, h.get? b = some o → h'.get? b = some o) : CellsThere scope C h' :=
  fun c hc => let ⟨v, z⟩ := x c hc; ⟨v, isCell_at z fun o e => k c (List.mem_cons_of_mem _ hc) o e⟩
theorem ns_there {h : Heap} {C : Addr} {m : Str → Option Value} (x : h.Ns C m) : ∃ o, h.get? C = some o := let ⟨o, _, _, e, _⟩ := x; ⟨o, e⟩

theorem newEnv_comp {scope : Scope} {globals : Addr} {cl : List (Str × Addr)} {qual : Str} {env : Env} {Q : Env → Shared → Prop}
    (q : Q (newEnv scope s.heap.objs.size globals (cellsFrom (s.heap.objs.size + 1) scope.names cl) qual none .none (some env) builtinsNs)
      { s with heap := pushCells (s.heap.push { cls := .type "dict", data := .dict #[] }) scope.names }) :
    wpAny M A (newFunctionEnv scope globals cl [] qual none .none (some env)) Q E s := by
  simp only [newFunctionEnv, Option.isSome_some, if_true]
  refine wpAny_bind (wpAny_alloc ?_)
  refine wpAny_bind (wpAny_layCells _ (fun name kind cells => by cases hkc : kind == NameKind.cell <;> simp [hkc]) _ _ _ _ ?_)
  rw [show ({ s with heap := s.heap.push { cls := .type "dict", data := .dict #[] } } : Shared).heap.objs.size = s.heap.objs.size + 1 from Heap.size_push ..]
  refine wpAny_bind ?_
  rw [List.forIn_nil]
  exact wpAny_pure (wpAny_pure q)

/-- a plain name of the block's own, what is said of the namespace besides standing over a store -/
theorem varsL {x : Str} {px : Pos} {scope : Scope} {C : Addr} {env : Env} (Pm : (Str → Option Value) → Prop) (hP : ∀ m v, Pm m → Pm (fun y => if y = x then some v else m y)) (hC : env.locals = C)
    (hx : env.kindOf x = some .local) (hp : (env.scope.kind == .class || (env.scope.kind == .module && env.locals != env.globals)) = false) :
    Vars prog w A (.Name x px) env (VAof scope C) (fun h => (∃ m, h.Ns C m ∧ Pm m) ∧ CellsThere scope C h) (fun v h => (∃ m, h.Ns C m ∧ Pm m ∧ m x = some v) ∧ CellsThere scope C h) (fun _ _ => True) where
  ext := fun h h' k ⟨⟨m, hm, p⟩, c⟩ => ⟨⟨m, hm.at' fun o e => k C List.mem_cons_self o e, p⟩, c.at k⟩
  up := fun v h h' k ⟨⟨m, hm, p⟩, c⟩ => ⟨⟨m, hm.keeps k, p⟩, c.at fun b _ o e => k b o e⟩
  is := fun v h ⟨⟨m, hm, p, _⟩, c⟩ => ⟨⟨m, hm, p⟩, c⟩
  there := fun h ⟨⟨m, hm, _⟩, c⟩ b hb => by
    rcases List.mem_cons.mp hb with rfl | hb
    · exact ns_there hm
    · obtain ⟨v, o, e, _⟩ := c b hb; exact ⟨o, e⟩
  asg := fun v s Q E ⟨⟨m, hm, p⟩, c⟩ _ k => by
    subst hC
    refine wpAny_assign_Name (wpAny_storeName_local hx hm (fun h' hn' hs' => k h' _ ⟨⟨_, hn', hP m v p, by simp⟩, fun c' hc' => ?_⟩ fun b o hb e => ?_) hp)
    · obtain ⟨v', z⟩ := c c' hc'
      exact ⟨v', isCell_at z fun o e => hs'.extBut c' o (Nat.ne_of_gt (newCells_gt hc')) e⟩
    · exact hs'.extBut b o (fun q => hb (by rw [q]; exact List.mem_cons_self)) e

/-- a name of the block's own that lies in a cell -/
theorem varsC {x : Str} {px : Pos} {scope : Scope} {C c : Addr} {env : Env} (Y : Heap → Prop) (hY : ∀ h h', Heap.SameBut c h h' → Y h → Y h') (hYe : ∀ h h', (∀ b ∈ VAof scope C, ∀ o, h.get? b = some o → h'.get? b = some o) → Y h → Y h')
    (hk : env.scope.kind = .function) (hx : env.kindOf x = some .cell) (hl : env.cells.lookup x = some c) (hc : c ∈ (newCells scope C).map (·.2)) :
    Vars prog w A (.Name x px) env (VAof scope C) (fun h => (∃ m, h.Ns C m) ∧ CellsThere scope C h ∧ Y h) (fun v h => ((∃ m, h.Ns C m) ∧ CellsThere scope C h ∧ Y h) ∧ h.IsCell c (some v)) (fun _ _ => True) where
  ext := fun h h' k ⟨⟨m, hm⟩, ct, y⟩ => ⟨⟨m, hm.at' fun o e => k C List.mem_cons_self o e⟩, ct.at k, hYe _ _ k y⟩
  up := fun v h h' k ⟨⟨⟨m, hm⟩, ct, y⟩, z⟩ => ⟨⟨⟨m, hm.keeps k⟩, ct.at fun b _ o e => k b o e, hYe _ _ (fun b _ o e => k b o e) y⟩, z.keeps k⟩
  is := fun v h q => q.1
  there := fun h ⟨⟨m, hm⟩, ct, _⟩ b hb => by
    rcases List.mem_cons.mp hb with rfl | hb
    · exact ns_there hm
    · obtain ⟨v, o, e, _⟩ := ct b hb; exact ⟨o, e⟩
  asg := fun v s Q E ⟨⟨m, hm⟩, ct, y⟩ _ k => by
    obtain ⟨v₀, z⟩ := ct c hc
    refine wpAny_assign_Name (wpAny_storeName_cell hk hx hl z fun h' hv' hs' => k h' _ ⟨⟨⟨m, hm.sameBut hs' (Nat.ne_of_lt (newCells_gt hc))⟩, fun c' hc' => ?_, hY _ _ hs' y⟩, hv'⟩ fun b o hb e => ?_)
    · by_cases q : c' = c
      · exact q ▸ ⟨_, hv'⟩
      · obtain ⟨v', z'⟩ := ct c' hc'
        exact ⟨v', z'.sameBut hs' q⟩
    · exact hs'.extBut b o (fun q => hb (by rw [q]; exact List.mem_cons_of_mem _ hc)) e

/-- two plain names, unpacked from a tuple of two -/
theorem varsT {x y : Str} {px py tp : Pos} {kk : Nat} {scope : Scope} {C : Addr} {env : Env} (hh : A.handled = none) (hC : env.locals = C)
    (hx : env.kindOf x = some .local) (hy : env.kindOf y = some .local) (hp : (env.scope.kind == .class || (env.scope.kind == .module && env.locals != env.globals)) = false) :
    Vars prog w A (.Tuple [.Name x px, .Name y py] kk tp) env (VAof scope C) (fun h => (∃ m, h.Ns C m) ∧ CellsThere scope C h)
      (fun v h => (∃ m T a b, v = .ref T ∧ h.IsTuple T #[a, b] ∧ h.Ns C m ∧ (x ≠ y → m x = some a) ∧ m y = some b) ∧ CellsThere scope C h) (fun v h => ∃ T a b, v = .ref T ∧ h.IsTuple T #[a, b]) where
  ext := fun h h' k ⟨⟨m, hm⟩, c⟩ => ⟨⟨m, hm.at' fun o e => k C List.mem_cons_self o e⟩, c.at k⟩
  up := fun v h h' k ⟨⟨m, T, a, b, e1, e2, hm, p⟩, c⟩ => ⟨⟨m, T, a, b, e1, (let ⟨o, q, r⟩ := e2; ⟨o, k _ _ q, r⟩), hm.keeps k, p⟩, c.at fun b _ o e => k b o e⟩
  is := fun v h ⟨⟨m, T, a, b, e1, e2, hm, p⟩, c⟩ => ⟨⟨m, hm⟩, c⟩
  there := fun h ⟨⟨m, hm⟩, c⟩ b hb => by
    rcases List.mem_cons.mp hb with rfl | hb
    · exact ns_there hm
    · obtain ⟨v, o, e, _⟩ := c b hb; exact ⟨o, e⟩
  asg := fun v s Q E ⟨⟨m, hm⟩, c⟩ ⟨T, a, b, e1, e2⟩ k => by
    subst hC e1
    have hTL : T ≠ env.locals := fun q => by
      obtain ⟨o, ho, hc, n, hd⟩ := e2
      obtain ⟨o', es, ep, ho', hd', _⟩ := hm
      rw [q, ho'] at ho; cases ho; rw [hd'] at hd; cases hd
    refine kcp_assign hh e2 hx hy hp hm fun h' tk hn' hk' => k h' tk ⟨⟨_, T, a, b, rfl, (let ⟨o, q, r⟩ := e2; ⟨o, hk' _ _ hTL q, r⟩), hn', fun ne => by simp [ne], by simp⟩, fun c' hc' => ?_⟩ fun b' o hb e => ?_
    · obtain ⟨v', z⟩ := c c' hc'
      exact ⟨v', isCell_at z fun o e => hk' c' o (Nat.ne_of_gt (newCells_gt hc')) e⟩
    · exact hk' b' o (fun q => hb (by rw [q]; exact List.mem_cons_self)) e
end
end Mine

namespace Mine

theorem den1 (elt target iter : Expr) (ifs : List Expr) (scope : Scope) (pos : Pos) (it acc : Value) (env : Env) :
    compTurn (.ListComp elt [⟨target, iter, ifs, 0⟩] scope pos) 0 it acc env =
      turnOf target iter ifs it env (do let _ ← call (.builtin "list.append") [acc, ← eval elt env]) (.compLoop (.ListComp elt [⟨target, iter, ifs, 0⟩] scope pos) 0 it acc env) := by rfl

section
variable {prog : Program} {w : World} {A : Around} {E : Value → Shared → Prop} {s : Shared}

/-- what stands when a block is opened: iterator, list, namespace, cells -/
theorem comp_setup {scope : Scope} {C : Addr} {h3 : Heap} (hC : C = h3.objs.size) :
    (∃ m, (pushCells (h3.push { cls := .type "dict", data := .dict #[] }) scope.names).Ns C m ∧ m = fun _ => none) ∧ CellsThere scope C (pushCells (h3.push { cls := .type "dict", data := .dict #[] }) scope.names) ∧
    Kp h3 (pushCells (h3.push { cls := .type "dict", data := .dict #[] }) scope.names) := by
  subst hC
  refine ⟨⟨_, (Heap.Ns.new h3 (.type "dict")).keeps (pushCells_keeps _ _), rfl⟩, ?_, fun b o e => pushCells_keeps _ _ b o (Heap.get?_push_of_some _ e)⟩
  have ok := cellsFrom_ok scope.names (h3.push { cls := .type "dict", data := .dict #[] }) (h3.objs.size + 1) [] ⟨fun _ _ hm => (nomatch hm), List.Pairwise.nil⟩ (by rw [Heap.size_push]; exact Nat.le_refl _)
  rw [Heap.size_push] at ok
  intro c hc
  obtain ⟨q, hq, rfl⟩ := List.mem_map.mp hc
  exact ⟨_, (ok.empty q.1 q.2 hq).1⟩

theorem none_of_ge {h : Heap} {a : Addr} (ha : h.objs.size ≤ a) : h.get? a = none := by
  cases e : h.get? a with
  | none => rfl
  | some o => exact absurd (Heap.lt_size e) (Nat.not_lt.mpr ha)

abbrev VV (scope : Scope) (C : Addr) (Pm : (Str → Option Value) → Prop) (h : Heap) : Prop := (∃ m, h.Ns C m ∧ Pm m) ∧ CellsThere scope C h

/-- one clause -/
theorem comp_core1 {elt target iter : Expr} {ifs : List Expr} {scope : Scope} {pos pos' : Pos} {env : Env} {cl : List (Str × Addr)} {use : Option (Value → Sem Unit)} {Q : Value → Shared → Prop}
    (hclos : closureFor scope env = pure cl) (hkind : scope.kind = .function) (hnames : ∀ x ∈ scope.names, x.2 = .local → scope.names.lookup x.1 = some .local)
    (V : Addr → Heap → Prop) (Lc : Addr → Value → Heap → Prop) (Ok : Value → Heap → Prop) (Okm : ∀ v h h', Kp h h' → Ok v h → Ok v h')
    (vars : ∀ C, Vars prog w A target (compEnvC scope (cellsFrom (C + 1) scope.names cl) C env) (VAof scope C) (V C) (Lc C) Ok)
    (hV0 : ∀ C h m, h.Ns C m → CellsThere scope C h → V C h) (hV1 : ∀ C h, V C h → ∃ m, h.Ns C m)
    (hown : ∀ I v (s : Shared) (Q : Unit → Shared → Prop) (E : Value → Shared → Prop), (∃ ob, s.heap.get? I = some ob ∧ (ob.cls = .type "list_iterator" ∨ ob.cls = .type "range_iterator")) → Ok v s.heap → Q () s → wpAny (model prog w) A (letOwnedTupleGo target (.ref I) v) Q E s)
    (src : EvS (model prog w) A (eval iter env) s.heap fun xv h1 => ∃ (n : Nat) (P : Nat → Value → Prop) (J : Nat → List Value → Heap → Prop), Src prog w A xv h1 [] n P ∧
      (∀ i ys h h', Kp h h' → J i ys h → J i ys h') ∧ (∀ i ys h, J i ys h → ys.length ≤ sizeLine) ∧ (∀ i v ys h, i < n → P i v → J i ys h → Ok v h) ∧ J 0 [] h1 ∧
      (∀ C Mu i v ys h, i < n → P i v → Lc C v h → J i ys (hideAll h Mu) → Kp h1 (hideAll h Mu) → (∀ b ∈ Mu, ∃ o, h.get? b = some o) →
        EvS (model prog w) A (testsOf ifs (compEnvC scope (cellsFrom (C + 1) scope.names cl) C env)) h fun ok h₃ =>
          if ok = true then EvS (model prog w) A (eval elt (compEnvC scope (cellsFrom (C + 1) scope.names cl) C env)) h₃ fun y h₄ => J (i + 1) (ys ++ [y]) (hideAll h₄ Mu) else J (i + 1) ys (hideAll h₃ Mu)) ∧
      (∀ C D Mu h' tk ys, C ∈ Mu → D ∈ Mu → h1.get? C = none → h1.get? D = none → D ≠ C → Kp h1 (hideAll h' Mu) → h'.get? D = some (lst ys) → (∃ m, h'.Ns C m) → J n ys (hideAll h' Mu) →
        compPost (model prog w) A E use Q (.ref D) C (.ok .next) { s with heap := h', toks := tk }))
    (hs : ∀ x, foldedSetIterable iter env x = pure x := by intro _; rfl) :
    wpAny (model prog w) A (comprehension (.ListComp elt [⟨target, iter, ifs, 0⟩] scope pos) scope env pos' (newList []) false (eval iter env) use) Q E s := by
  refine wpAny_comprehension_free rfl hs hclos hkind hnames (src.run fun xv h1 t1 k1 p1 => ?_)
  obtain ⟨n, P, J, sr, Jm, Js, Jok, J0, turn, fin⟩ := p1
  refine sr { s with heap := h1, toks := t1 } _ _ rfl fun I o fp St hI hfr W st hfp hex hcls => ?_
  refine wpAny_newObj_type (newEnv_comp ?_)
  dsimp only
  generalize hh2 : h1.push o = h2 at st ⊢
  have s2 : h2.objs.size = h1.objs.size + 1 := by rw [← hh2, Heap.size_push]
  generalize hh3 : h2.push ({ cls := .type "list", dict := none, data := .seq ([] : List Value).toArray } : Obj) = h3
  have s3 : h3.objs.size = h1.objs.size + 2 := by rw [← hh3, Heap.size_push, s2]
  have k12 : Kp h1 h2 := hh2 ▸ Kp.push _ _
  have k23 : Kp h2 h3 := hh3 ▸ Kp.push _ _
  obtain ⟨⟨m, hNs, _⟩, hCT, k34⟩ := comp_setup (scope := scope) (C := h3.objs.size) (h3 := h3) rfl
  generalize hh4 : pushCells (h3.push { cls := .type "dict", data := .dict #[] }) scope.names = h4 at hNs hCT k34 ⊢
  have hDat : h4.get? h2.objs.size = some (lst []) := k34 _ _ (by rw [← hh3]; exact Heap.get?_push_size _ rfl)
  have hIat : ∃ ob, h4.get? I = some ob := ⟨o, k34 _ _ (k23 _ _ (by rw [hI, ← hh2]; exact Heap.get?_push_size _ hfr))⟩
  have stt : St 0 h4 := W.frame _ _ _ st fun b _ o e => k34 _ _ (k23 _ _ e)
  have hCI : (h3.objs.size : Nat) ≠ I := by rw [hI, s3]; omega
  have hDI : (h2.objs.size : Nat) ≠ I := by rw [hI, s2]; omega
  have hDC : (h2.objs.size : Nat) ≠ h3.objs.size := by rw [s2, s3]; omega
  have vge : ∀ b ∈ VAof scope h3.objs.size, h3.objs.size ≤ b := fun b hb => by
    rcases List.mem_cons.mp hb with rfl | hb
    · exact Nat.le_refl _
    · exact Nat.le_of_lt (newCells_gt hb)
  have fle : ∀ b ∈ fp, b ≤ I := fun b hb => by
    rcases hfp b hb with rfl | ⟨_, ob, e⟩
    · exact Nat.le_refl _
    · rw [hI]; exact Nat.le_of_lt (Heap.lt_size e)
  have hMu0 : ∀ b ∈ h2.objs.size :: I :: VAof scope h3.objs.size, h1.get? b = none := fun b hb => none_of_ge (by
    rcases List.mem_cons.mp hb with rfl | hb
    · rw [s2]; exact Nat.le_succ _
    · rcases List.mem_cons.mp hb with rfl | hb
      · exact Nat.le_of_eq hI.symm
      · exact Nat.le_trans (by rw [s3]; omega) (vge b hb))
  have K0 : Kp h1 (hideAll h4 (h2.objs.size :: I :: VAof scope h3.objs.size)) := fun b ob e =>
    hideAll_get _ (k34 _ _ (k23 _ _ (k12 _ _ e))) fun m => by rw [hMu0 b m] at e; cases e
  have V0 : V h3.objs.size h4 := hV0 _ _ _ hNs hCT
  have loop : ∀ s₄ : Shared, (∃ tk, s₄ = { s with heap := h4, toks := tk }) → codeAny (model prog w) A (.compLoop (.ListComp elt [⟨target, iter, ifs, 0⟩] scope pos) 0 (.ref I) (.ref h2.objs.size) (compEnvC scope (cellsFrom (h3.objs.size + 1) scope.names cl) h3.objs.size env))
      (compPost (model prog w) A E use Q (.ref h2.objs.size) h3.objs.size) s₄ := by
    rintro s₄ ⟨tk, rfl⟩
    refine comp_last (den1 _ _ _ _ _ _ _ _ _) W hex (vars h3.objs.size) (fun i v s Q E st' ok q => hown I v s Q E (hcls _ _ st') ok q) (X := fun _ => True) (XA := []) (fun _ _ _ x => x)
      (h2.objs.size :: I :: VAof scope h3.objs.size) List.mem_cons_self (List.mem_cons_of_mem _ List.mem_cons_self) (fun b hb => List.mem_cons_of_mem _ (List.mem_cons_of_mem _ hb)) (fun h _ b hb => ?_)
      (fun hb => ?_) (fun hb => ?_) (fun hb => nomatch hb) (fun b hb hb' => ?_) (fun b _ hb' => nomatch hb') (fun hb => nomatch hb)
      (fun i ys h => Kp h1 h ∧ J i ys h) (fun i ys h h' k z => ⟨z.1.trans k, Jm _ _ _ _ k z.2⟩) (fun i ys h z => Js _ _ _ z.2) (fun i v ys h hi hp z => Jok i v ys h hi hp z.2) Okm (fun i v ys h hi hp hl z hm => ?_) stt hDat V0 trivial ⟨K0, Jm _ _ _ _ K0 J0⟩ fun h' tk' ys hD' hV' _ z => ?_
    · rcases List.mem_cons.mp hb with rfl | hb
      · exact .inl rfl
      · rcases List.mem_cons.mp hb with rfl | hb
        · exact .inr (.inl rfl)
        · exact .inr (.inr (.inl hb))
    · have a1 : (h2.objs.size : Nat) ≤ h1.objs.size := hI ▸ fle _ hb
      exact absurd a1 (by rw [s2]; omega)
    · exact absurd (show (h3.objs.size : Nat) ≤ h2.objs.size from vge _ hb) (by rw [s2, s3]; omega)
    · have a1 : (h3.objs.size : Nat) ≤ b := vge _ hb
      have a2 : (b : Nat) ≤ h1.objs.size := hI ▸ fle _ hb'
      rw [s3] at a1
      exact absurd (Nat.le_trans a1 a2) (by omega)
    · refine (turn h3.objs.size _ i v ys h hi hp hl z.2 z.1 hm).mono fun ok h₃ k₃ p₃ => ?_
      have z₃ : Kp h1 (hideAll h₃ (h2.objs.size :: I :: VAof scope h3.objs.size)) := z.1.trans (hid_up k₃)
      cases ok with
      | false => rw [if_neg Bool.false_ne_true] at p₃ ⊢; exact ⟨z₃, p₃⟩
      | true => rw [if_pos rfl] at p₃ ⊢; exact p₃.mono fun y h₄ k₄ p₄ => ⟨z₃.trans (hid_up k₄), p₄⟩
    · exact fin _ _ _ h' tk' ys (List.mem_cons_of_mem _ (List.mem_cons_of_mem _ List.mem_cons_self)) List.mem_cons_self (hMu0 _ (List.mem_cons_of_mem _ (List.mem_cons_of_mem _ List.mem_cons_self))) (hMu0 _ List.mem_cons_self) hDC z.1 hD' (hV1 _ _ hV') z.2
  exact codeAny_compStart_list (loop _ ⟨_, rfl⟩) (W.self 0 _ _ _ stt (loop _ ⟨_, rfl⟩))

theorem ev_comp1 {elt target iter : Expr} {ifs : List Expr} {scope : Scope} {pos : Pos} {env : Env} {cl : List (Str × Addr)} {h : Heap} {post : Value → Heap → Prop}
    (hclos : closureFor scope env = pure cl) (hkind : scope.kind = .function) (hnames : ∀ x ∈ scope.names, x.2 = .local → scope.names.lookup x.1 = some .local)
    (V : Addr → Heap → Prop) (Lc : Addr → Value → Heap → Prop) (Ok : Value → Heap → Prop) (Okm : ∀ v h h', Kp h h' → Ok v h → Ok v h')
    (vars : ∀ C, Vars prog w A target (compEnvC scope (cellsFrom (C + 1) scope.names cl) C env) (VAof scope C) (V C) (Lc C) Ok)
    (hV0 : ∀ C h m, h.Ns C m → CellsThere scope C h → V C h) (hV1 : ∀ C h, V C h → ∃ m, h.Ns C m)
    (hown : ∀ I v (s : Shared) (Q : Unit → Shared → Prop) (E : Value → Shared → Prop), (∃ ob, s.heap.get? I = some ob ∧ (ob.cls = .type "list_iterator" ∨ ob.cls = .type "range_iterator")) → Ok v s.heap → Q () s → wpAny (model prog w) A (letOwnedTupleGo target (.ref I) v) Q E s)
    (src : EvS (model prog w) A (eval iter env) h fun xv h1 => ∃ (n : Nat) (P : Nat → Value → Prop) (J : Nat → List Value → Heap → Prop), Src prog w A xv h1 [] n P ∧
      (∀ i ys h h', Kp h h' → J i ys h → J i ys h') ∧ (∀ i ys h, J i ys h → ys.length ≤ sizeLine) ∧ (∀ i v ys h, i < n → P i v → J i ys h → Ok v h) ∧ J 0 [] h1 ∧
      (∀ C Mu i v ys h, i < n → P i v → Lc C v h → J i ys (hideAll h Mu) → Kp h1 (hideAll h Mu) → (∀ b ∈ Mu, ∃ o, h.get? b = some o) →
        EvS (model prog w) A (testsOf ifs (compEnvC scope (cellsFrom (C + 1) scope.names cl) C env)) h fun ok h₃ =>
          if ok = true then EvS (model prog w) A (eval elt (compEnvC scope (cellsFrom (C + 1) scope.names cl) C env)) h₃ fun y h₄ => J (i + 1) (ys ++ [y]) (hideAll h₄ Mu) else J (i + 1) ys (hideAll h₃ Mu)) ∧
      (∀ D h' ys, Kp h1 h' → h1.get? D = none → h'.get? D = some (lst ys) → J n ys h' → post (.ref D) h'))
    (hs : ∀ x, foldedSetIterable iter env x = pure x := by intro _; rfl) :
    EvS (model prog w) A (eval (.ListComp elt [⟨target, iter, ifs, 0⟩] scope pos) env) h post := by
  intro s Q E e k
  subst e
  rw [eval_ListComp]
  refine comp_core1 (use := none) hclos hkind hnames V Lc Ok Okm vars hV0 hV1 hown ?_ hs
  intro s' Q' E' e' k'
  refine src s' Q' E' e' fun xv h1 tk k1 p1 => k' xv h1 tk k1 ?_
  obtain ⟨n, P, J, sr, Jm, Js, Jok, J0, turn, fin⟩ := p1
  refine ⟨n, P, J, sr, Jm, Js, Jok, J0, turn, fun C D Mu h' tk ys mC mD nC nD ne k2 hD hn hJ => ?_⟩
  obtain ⟨m, hn⟩ := hn
  refine ⟨m, hn, fun h'' hs'' => ?_⟩
  have k3 : Kp (hideAll h' Mu) h'' := fun b o e => hs''.extBut b o (fun q => hid_off e (q ▸ mC)) (of_hideAll _ e)
  exact k _ h'' tk (k1.trans (k2.trans k3)) (fin D h'' ys (k2.trans k3) nD (hs''.extBut D _ ne hD) (Jm _ _ _ _ k3 hJ))

theorem st_comp1 {elt target iter : Expr} {ifs : List Expr} {scope : Scope} {pos spos py : Pos} {env : Env} {cl : List (Str × Addr)} {y : Str} {m : Str → Option Value} {Q : Flow → Shared → Prop}
    (hsw : swapsWith (.ListComp elt [⟨target, iter, ifs, 0⟩] scope pos) (some (.Name y py)) spos.line env = pure true)
    (hy : env.kindOf y = some .local) (hp : (env.scope.kind == .class || (env.scope.kind == .module && env.locals != env.globals)) = false) (hn : s.heap.Ns env.locals m)
    (HL : List Addr) (hL : env.locals ∈ HL)
    (hclos : closureFor scope env = pure cl) (hkind : scope.kind = .function) (hnames : ∀ x ∈ scope.names, x.2 = .local → scope.names.lookup x.1 = some .local)
    (V : Addr → Heap → Prop) (Lc : Addr → Value → Heap → Prop) (Ok : Value → Heap → Prop) (Okm : ∀ v h h', Kp h h' → Ok v h → Ok v h')
    (vars : ∀ C, Vars prog w A target (compEnvC scope (cellsFrom (C + 1) scope.names cl) C env) (VAof scope C) (V C) (Lc C) Ok)
    (hV0 : ∀ C h m, h.Ns C m → CellsThere scope C h → V C h) (hV1 : ∀ C h, V C h → ∃ m, h.Ns C m)
    (hown : ∀ I v (s : Shared) (Q : Unit → Shared → Prop) (E : Value → Shared → Prop), (∃ ob, s.heap.get? I = some ob ∧ (ob.cls = .type "list_iterator" ∨ ob.cls = .type "range_iterator")) → Ok v s.heap → Q () s → wpAny (model prog w) A (letOwnedTupleGo target (.ref I) v) Q E s)
    (src : EvS (model prog w) A (eval iter env) s.heap fun xv h1 => ∃ (n : Nat) (P : Nat → Value → Prop) (J : Nat → List Value → Heap → Prop), Src prog w A xv h1 [] n P ∧
      (∀ i ys h h', Kp h h' → J i ys h → J i ys h') ∧ (∀ i ys h, J i ys h → ys.length ≤ sizeLine) ∧ (∀ i v ys h, i < n → P i v → J i ys (hideAll h HL) → Ok v h) ∧ J 0 [] (hideAll h1 HL) ∧
      (∀ C Mu i v ys h, i < n → P i v → Lc C v h → J i ys (hideAll (hideAll h Mu) HL) → Kp h1 (hideAll h Mu) → (∀ b ∈ Mu, ∃ o, h.get? b = some o) →
        EvS (model prog w) A (testsOf ifs (compEnvC scope (cellsFrom (C + 1) scope.names cl) C env)) h fun ok h₃ =>
          if ok = true then EvS (model prog w) A (eval elt (compEnvC scope (cellsFrom (C + 1) scope.names cl) C env)) h₃ fun y h₄ => J (i + 1) (ys ++ [y]) (hideAll (hideAll h₄ Mu) HL) else J (i + 1) ys (hideAll (hideAll h₃ Mu) HL)) ∧
      (∀ D h' tk ys, h'.Ns env.locals (fun z => if z = y then some (.ref D) else m z) → (∀ b o, b ≠ env.locals → h1.get? b = some o → h'.get? b = some o) → h1.get? D = none → h'.get? D = some (lst ys) → J n ys (hideAll h' HL) →
        Q .next { s with heap := h', toks := tk }))
    (hs : ∀ x, foldedSetIterable iter env x = pure x := by intro _; rfl) :
    wpAny (model prog w) A (exec (.Assign [.Name y py] (.ListComp elt [⟨target, iter, ifs, 0⟩] scope pos) spos) env) Q E s := by
  rw [exec_Assign_Name_used _ _ _ _ hsw]
  refine wpAny_bind (wpAny_standAt (wpAny_bind ?_))
  show wpAny _ A (do let _ ← comprehension (.ListComp elt [⟨target, iter, ifs, 0⟩] scope pos) scope env _ (newList []) false (eval iter env) (some (assign (.Name y py) env))) _ _ s
  refine wpAny_bind (wpAny_mono (comp_core1 (Q := fun _ s' => Q .next s') (use := some (assign (.Name y py) env)) hclos hkind hnames V Lc Ok Okm vars hV0 hV1 hown ?_ hs) (fun _ s' hq => wpAny_pure (wpAny_pure hq)) fun _ _ e => e)
  intro s' Q' E' e' k'
  refine src s' Q' E' e' fun xv h1 tk k1 p1 => k' xv h1 tk k1 ?_
  obtain ⟨n, P, J, sr, Jm, Js, Jok, J0, turn, fin⟩ := p1
  refine ⟨n, P, fun i ys h => J i ys (hideAll h HL), sr, fun i ys h h' k => Jm _ _ _ _ (hid_up k), fun i ys h => Js _ _ _, Jok, J0, turn, fun C D Mu h' tk ys mC mD nC nD ne k2 hD hn2 hJ => ?_⟩
  obtain ⟨mc, hnC⟩ := hn2
  have hnL : h'.Ns env.locals m := (hn.keeps k1).keeps (k2.trans (hid_of _ _))
  obtain ⟨oL, hoL⟩ := ns_there (hn.keeps k1)
  have hLC : env.locals ≠ C := by rintro rfl; rw [nC] at hoL; cases hoL
  have hLD : env.locals ≠ D := by rintro rfl; rw [nD] at hoL; cases hoL
  show wpAny _ A (assign (.Name y py) env (.ref D)) _ _ _
  refine wpAny_assign_Name (wpAny_storeName_local hy hnL (fun h₂ hn₂ hs₂ => ?_) hp)
  refine ⟨mc, hnC.sameBut hs₂ (Ne.symm hLC), fun h₃ hs₃ => ?_⟩
  refine fin D h₃ _ ys (hn₂.sameBut hs₃ hLC) (fun b o hb e => ?_) nD (hs₃.extBut D _ ne (hs₂.extBut D _ (Ne.symm hLD) hD)) (Jm _ _ _ _ (hid_kp fun b o hb e => ⟨hb, ?_⟩) hJ)
  · have e2 := k2 b o e
    exact hs₃.extBut b o (fun q => hid_off e2 (q ▸ mC)) (hs₂.extBut b o hb (of_hideAll _ e2))
  · exact hs₃.extBut b o (fun q => hid_off e (q ▸ mC)) (hs₂.extBut b o (fun q => hb (q ▸ hL)) (of_hideAll _ e))
end
end Mine

namespace Mine

section
variable {prog : Program} {w : World} {K : Frag} {p : Program} {loose : List Str} {mean : ExcName → Option Value} {mg mb : Str → Option Value} {A : Around} {h : Heap} {n : Nat}
  {name qual : Str} {params : Arguments} {body : List Stmt} {scope : Scope} {dV kV doc pm cdv ct oc : Value} {an od : Option Addr} {osl : Array (Option Value)} {f : Addr} {vs : List Value} {binds : List (Str × Value)}

/-- a call of a def with cells -/
theorem ev_defC {post : Value → Heap → Prop} (c : CC K p loose mean mg mb A h (n + 1))
    (ho : K.lookup f = some ⟨oc, od, .func (fnOf name qual params body scope dV kV doc pm an cdv ct), osl⟩) (hcd : codeIn K cdv qual = true)
    (hbind : bindArgs (fnOf name qual params body scope dV kV doc pm an cdv ct) ⟨vs, []⟩ = pure binds)
    (hkind : (binds.all fun y => scope.names.lookup y.1 == some .local || scope.names.lookup y.1 == some .cell) = true)
    (b : ∀ (h₁ : Heap) (s : Shared) (Q : Flow → Shared → Prop) (E : Value → Shared → Prop), s.heap = h₁ → Kp h h₁ → h₁.Ns h.objs.size (bindL (envOfC qual scope h.objs.size f cdv).kindOf binds fun _ => none) →
      (∀ x c, (cellsFrom (h.objs.size + 1) scope.names []).lookup x = some c → h₁.IsCell c (bindC (envOfC qual scope h.objs.size f cdv).kindOf binds (fun _ => none) x)) →
      CC K p loose mean mg mb (A.deeper (envOfC qual scope h.objs.size f cdv)) h₁ n → (∀ h₂ m', Kp h h₂ → h₂.Ns h.objs.size m' → CC K p loose mean mg mb (A.deeper (envOfC qual scope h.objs.size f cdv)) h₂ n) →
      (∀ v h' tk, Kp h h' → post v h' → Q (.ret v) { s with heap := h', toks := tk }) →
      wpAny (model prog w) (A.deeper (envOfC qual scope h.objs.size f cdv)) (execs body (envOfC qual scope h.objs.size f cdv)) Q E s)
    (hco : scope.isCoroutine = false := by rfl) (hgen : scope.isGenerator = false := by rfl) (hk : scope.kind = .function := by rfl) :
    EvS (model prog w) A (call (.ref f) vs) h post := by
  intro s Q E e k
  subst e
  obtain ⟨env, outer, A₀, base, h₀, L, m, a1, a2, a3, B, F, X, T⟩ := c.ex
  refine wpAny_call (codeAny_call_cells (fd := fnOf name qual params body scope dV kV doc pm an cdv ct) (body := body) (binds := binds) (Nat.lt_of_le_of_lt (Nat.le_add_right _ _) c.depth) (c.inK _ _ ho) rfl c.lim (codeRec_of c.inK hcd) rfl
    hbind rfl (kindsX hkind _) (fun s₁ Y => ?_) hco hgen hk)
  obtain ⟨h₁, tk, rfl, hk₁⟩ := Y.done
  have B₁ := pushX B F a2 a3
  have ccf : ∀ h₂ m', Kp s.heap h₂ → h₂.Ns s.heap.objs.size m' → CC K p loose mean mg mb (A.deeper (envOfC qual scope s.heap.objs.size f cdv)) h₂ n := fun h₂ m' kk hn =>
    ⟨c.handled, by have := c.depth; show A.depth + 1 + n < recursionLimit; omega, by have := c.units; show A.units + 3 + 8 * n + 100 < cLine; omega,
      envOfC qual scope s.heap.objs.size f cdv, env :: outer, _, base, s.heap, s.heap.objs.size, m', Around.frames_deeper a1, rfl, hk, ⟨a1, B₁.stays, B₁.frames⟩, ⟨hn, kk, Nat.le_refl _⟩, c.inK, T.keeps F.keep⟩
  exact b h₁ { s with heap := h₁, toks := tk } _ _ rfl hk₁ Y.toInCall.ns Y.cell (ccf h₁ _ hk₁ Y.toInCall.ns) ccf fun v h' tk k1 p1 => k v h' tk k1 p1
end

/-- a list of ints -/
def IsL (h : Heap) (v : Value) (ns : List Int) : Prop := ∃ a vs, v = .ref a ∧ h.IsList a vs.toArray ∧ IntsAre vs ns
/-- a list of ints that did not stand in h0 -/
def NewL (h0 h : Heap) (v : Value) (ns : List Int) : Prop := ∃ a vs, v = .ref a ∧ h0.get? a = none ∧ h.IsList a vs.toArray ∧ IntsAre vs ns
theorem IsL.up {h h' : Heap} {v : Value} {ns : List Int} (x : IsL h v ns) (k : Kp h h') : IsL h' v ns := let ⟨a, vs, e, l, i⟩ := x; ⟨a, vs, e, l.at fun o q => k _ _ q, i⟩
theorem NewL.isL {h0 h : Heap} {v : Value} {ns : List Int} (x : NewL h0 h v ns) : IsL h v ns := let ⟨a, vs, e, _, l, i⟩ := x; ⟨a, vs, e, l, i⟩
theorem NewL.hide {h0 h : Heap} {v : Value} {ns : List Int} {Mu : List Addr} (x : NewL h0 h v ns) (m : ∀ b ∈ Mu, ∃ o, h0.get? b = some o) : IsL (hideAll h Mu) v ns :=
  let ⟨a, vs, e, f, l, i⟩ := x
  ⟨a, vs, e, (l.at fun _ ho => hideAll_get _ ho fun q => let ⟨_, e2⟩ := m a q; nomatch f.symm.trans e2), i⟩
theorem isList_lst {h : Heap} {D : Addr} {ys : List Value} (e : h.get? D = some (lst ys)) : h.IsList D ys.toArray := ⟨_, e, rfl, _, rfl⟩

theorem none_up {h h' : Heap} {a : Addr} (k : Kp h h') (e : h'.get? a = none) : h.get? a = none := by
  cases q : h.get? a with
  | none => rfl
  | some o => rw [k _ _ q] at e; cases e
theorem ints_snoc {vs : List Value} {ns : List Int} {i : Int} {t : Tok} (x : IntsAre vs ns) : IntsAre (vs ++ [.int i t]) (ns ++ [i]) := x.append (.cons i t .nil)

theorem ev_range1 {prog : Program} {w : World} {A : Around} {h : Heap} {b : Int} {t : Tok} {post : Value → Heap → Prop} (q : ∀ r h' u v x, Kp h h' → IsRange h' r 0 b 1 u v x → post (.ref r) h') :
    EvS (model prog w) A (call (.type "range") [.int b t]) h post := by
  intro s Q E e k
  subst e
  exact call_range_1 (k _ _ _ (Kp.push _ _) (q _ _ _ _ _ (Kp.push _ _) (IsRange.new _ _ _ _ _ _ _)))

abbrev bitI (a : Int) (k : Int) : Int := Builtin.bitAnd (a.fdiv (2 ^ k.toNat)) 1
abbrev listedI (a : Int) : List Int := [bitI a 0, bitI a 1, bitI a 2, bitI a 3]

theorem own_name {prog : Program} {w : World} {A : Around} {x : Str} {px : Pos} : ∀ (I : Addr) (v : Value) (s : Shared) (Q : Unit → Shared → Prop) (E : Value → Shared → Prop), (∃ ob, s.heap.get? I = some ob ∧ (ob.cls = .type "list_iterator" ∨ ob.cls = .type "range_iterator")) → True → Q () s → wpAny (model prog w) A (letOwnedTupleGo (.Name x px) (.ref I) v) Q E s :=
  fun _ _ _ _ _ _ _ q => wpAny_pure q

theorem Src.range4 {prog : Program} {w : World} {A : Around} {h : Heap} {Mu : List Addr} {r : Addr} {t u v : Tok} {b : Nat} (hh : A.handled = none) (hr : IsRange h r 0 (b : Int) 1 t u v) (hb : b < 1000) :
    Src prog w A (.ref r) h Mu b (fun i v => ∃ t, v = .int (i : Int) t) := by
  have z := Src.range (prog := prog) (w := w) (Mu := Mu) hh hr (small_one (by decide) (by decide) (by omega) (by omega)) (n := b) (by rw [rangeSize_one]; split <;> omega)
  intro s Q E e k
  refine z s Q E e fun I o fp St h1 h2 W st h3 h4 h5 => k I o fp St h1 h2 ?_ st h3 h4 h5
  exact { sub := W.sub, frame := W.frame, done := W.done, self := W.self, item := fun i s Q E hi st hQ => W.item i s Q E hi st fun v h' tk hP => hQ v h' tk (by obtain ⟨t, rfl⟩ := hP; exact ⟨t, by rw [Int.zero_add]⟩) }

section
variable {prog p : Program} {loose : List Str} {w : World} {mean : ExcName → Option Value} {mg mb : Str → Option Value} {A : Around} {h : Heap} {n : Nat} {a : Int} {t : Tok} {post : Value → Heap → Prop}



end
end Mine

namespace Mine

theorem ns_hide {h : Heap} {L : Addr} {m : Str → Option Value} {Mu : List Addr} (x : h.Ns L m) (hm : L ∉ Mu) : (hideAll h Mu).Ns L m := x.at' fun _ e => hideAll_get _ e hm
theorem cell_hide {h : Heap} {c : Addr} {v : Option Value} {Mu : List Addr} (x : h.IsCell c v) (hm : c ∉ Mu) : (hideAll h Mu).IsCell c v := isCell_at x fun _ e => hideAll_get _ e hm

section
variable {prog : Program} {w : World} {A : Around} {E : Value → Shared → Prop} {s : Shared} {env : Env}

theorem ex_for {x : Str} {px pos : Pos} {iter : Expr} {body : List Stmt} {Q : Flow → Shared → Prop}
    (hx : env.kindOf x = some .local) (hp : (env.scope.kind == .class || (env.scope.kind == .module && env.locals != env.globals)) = false)
    (src : EvS (model prog w) A (eval iter env) s.heap fun xv h1 => ∃ (n : Nat) (P : Nat → Value → Prop) (Inv : Nat → Heap → Prop) (HL : List Addr), Src prog w A xv h1 HL n P ∧ (∀ b ∈ HL, ∃ o, h1.get? b = some o) ∧ env.locals ∈ HL ∧
      (∀ i h h', Kp h h' → Inv i h → Inv i h') ∧ Inv 0 h1 ∧ (∀ i h, Inv i h → ∃ m, h.Ns env.locals m) ∧
      (∀ I i v m h0 (s' : Shared) (Q' : Flow → Shared → Prop) (E' : Value → Shared → Prop), h1.get? I = none → i < n → P i v → Inv i h0 → h0.Ns env.locals m → h0.get? I = none → (∀ b o, b ≠ env.locals → h0.get? b = some o → s'.heap.get? b = some o) →
        s'.heap.Ns env.locals (fun z => if z = x then some v else m z) → (∃ o, s'.heap.get? I = some o) → (∃ tk, s' = { s with heap := s'.heap, toks := tk }) →
        (∀ h' tk, (∀ b o, b ∉ HL → s'.heap.get? b = some o → h'.get? b = some o) → Inv (i + 1) (hideAll h' [I]) → Q' .next { s' with heap := h', toks := tk }) →
        (∀ v h' tk, Q (.ret v) { s with heap := h', toks := tk } → Q' (.ret v) { s' with heap := h', toks := tk }) →
        wpAny (model prog w) A (execs body env) Q' E' s') ∧
      (∀ h' tk, Inv n h' → Q .next { s with heap := h', toks := tk }))
    (hs : ∀ x, foldedSetIterable iter env x = pure x := by intro _; rfl) :
    wpAny (model prog w) A (exec (.For (.Name x px) iter body [] pos) env) Q E s := by
  refine wpAny_For (src.run fun xv h1 t1 k1 p1 => ?_) hs
  obtain ⟨n, P, Inv, HL, sr, hHL, hL, Im, I0, hN, turn, fin⟩ := p1
  refine sr { s with heap := h1, toks := t1 } _ _ rfl fun I o fp St hI hfr W st hfp hex _ => ?_
  dsimp only
  have hI1 : h1.get? I = none := hI ▸ none_of_ge (Nat.le_refl _)
  have ne1 : ∀ {b : Addr}, b ≠ I → b ∉ [I] := fun h => by simpa using h
  have hLI : env.locals ≠ I := fun e => by obtain ⟨o, q⟩ := hHL _ hL; rw [e, hI1] at q; cases q
  have hfpL : ∀ b ∈ fp, b ∉ HL := fun b hb hb' => by
    rcases hfp b hb with rfl | ⟨h2, _⟩
    · obtain ⟨o, q⟩ := hHL _ hb'; rw [hI1] at q; cases q
    · exact h2 hb'
  refine codeAny_forLoop (fun k s' => ∃ h' tk i, s' = { s with heap := h', toks := tk } ∧ i ≤ n ∧ k = n + 1 - i ∧ St i h' ∧ Inv i (hideAll h' [I])) ?_ (n + 1)
    ⟨_, _, 0, rfl, Nat.zero_le _, rfl, st, Im _ _ _ (fun b ob e => hideAll_get _ (Heap.get?_push_of_some _ e) (ne1 fun q => by rw [q, hI1] at e; cases e)) I0⟩
  rintro k s' ⟨h', tk, i, rfl, hi, rfl, st', hJ'⟩
  by_cases hlt : i < n
  · refine W.item i _ _ _ hlt st' fun v h₂ tk₂ hPv st₂ hk₂ => ?_
    dsimp only at hk₂ ⊢
    have J₂ : Inv i (hideAll h₂ [I]) := Im _ _ _ (hid_but fun b o m e => hk₂ b o m e) hJ'
    obtain ⟨m, hm⟩ := hN _ _ J₂
    refine wpAny_assign_Name (wpAny_storeName_local hx (hm.keeps (hid_of _ _)) (fun h₃ hn₃ hs₃ => ?_) hp)
    dsimp only
    have st₃ : St (i + 1) h₃ := W.frame _ _ _ st₂ fun b hb o e => hs₃.extBut b o (fun q => hfpL b hb (q ▸ hL)) e
    obtain ⟨oI, heI⟩ := hex _ _ st₃
    refine turn I i v m (hideAll h₂ [I]) _ _ _ hI1 hlt hPv J₂ hm (hideAll_none _ List.mem_cons_self) (fun b o hb e => hs₃.extBut b o hb (of_hideAll _ e)) hn₃ ⟨oI, heI⟩ ⟨_, rfl⟩ (fun h₄ tk₄ k₄ J₄ => ?_) (fun v h₄ tk₄ q => q)
    exact ⟨n + 1 - (i + 1), by omega, h₄, tk₄, i + 1, rfl, hlt, rfl, W.frame _ _ _ st₃ fun b hb o e => k₄ b o (hfpL b hb) e, J₄⟩
  · obtain rfl : i = n := Nat.le_antisymm hi (Nat.not_lt.mp hlt)
    refine W.done _ _ _ st' fun h₂ tk₂ hk₂ => ?_
    dsimp only at hk₂ ⊢
    exact wpAny_execs_nil (fin h₂ tk₂ (Im _ _ _ ((hid_but fun b o m e => hk₂ b o m e).trans (hid_of _ _)) hJ'))

theorem ev_newList {M : Model} {h : Heap} {vs : List Value} {post : Value → Heap → Prop} (hsz : vs.length ≤ sizeLine)
    (q : ∀ D h', Kp h h' → h.get? D = none → h'.get? D = some { cls := .type "list", data := .seq vs.toArray } → post (.ref D) h') : EvS M A (newList vs) h post := by
  intro s Q E e k
  subst e
  refine wpAny_newObj_type (k _ _ s.toks (Kp.push _ _) (q _ _ (Kp.push _ _) (none_of_ge (Nat.le_refl _)) (Heap.get?_push_size _ rfl))) ?_
  show vs.toArray.size ≤ sizeLine
  rw [List.size_toArray]; exact hsz
theorem ev_newTuple {M : Model} {h : Heap} {vs : List Value} {post : Value → Heap → Prop} (hsz : vs.length ≤ sizeLine)
    (q : ∀ D h', Kp h h' → h.get? D = none → h'.IsTuple D vs.toArray → post (.ref D) h') : EvS M A (newTuple vs) h post := by
  intro s Q E e k
  subst e
  refine wpAny_newObj_type (k _ _ s.toks (Kp.push _ _) (q _ _ (Kp.push _ _) (none_of_ge (Nat.le_refl _)) ⟨_, Heap.get?_push_size _ rfl, rfl, _, rfl⟩)) ?_
  show vs.toArray.size ≤ sizeLine
  rw [List.size_toArray]; exact hsz

end
end Mine

namespace Mine

theorem ns_uniq {h : Heap} {L : Addr} {m m' : Str → Option Value} (x : h.Ns L m) (y : h.Ns L m') : m = m' := by
  obtain ⟨o, es, ep, e, d, _, f⟩ := x
  obtain ⟨o', es', ep', e', d', _, f'⟩ := y
  rw [e] at e'; cases e'
  rw [d] at d'; cases d'
  funext z
  rw [← f z, ← f' z]

def Rd (h : Heap) (v : Value) (d : PyData) : Prop := ∃ as, Reads h v d as
theorem Rd.up {h h' : Heap} {v : Value} {d : PyData} (x : Rd h v d) (k : Kp h h') : Rd h' v d := let ⟨as, r⟩ := x; ⟨as, Reads.keeps k r⟩

structure Enc {α : Type} [DecidableEq α] (enc : α → PyData) : Prop where
  eq : ∀ a b, PyData.eqv (enc a) (enc b) = decide (a = b)
  lay : ∀ a, (enc a).canLay0 = true
  dep : ∀ a, (enc a).depth ≤ 1

theorem encI : Enc PyData.int := ⟨fun a b => by simp [PyData.eqv, BEq.beq], fun _ => rfl, fun _ => Nat.zero_le _⟩
theorem eqvAll_ints : ∀ a b : List Int, PyData.eqvAll (a.map .int) (b.map .int) = decide (a = b)
  | [], [] => by simp [PyData.eqvAll]
  | [], _ :: _ => by simp [PyData.eqvAll]
  | _ :: _, [] => by simp [PyData.eqvAll]
  | x :: a, y :: b => by
    have := eqvAll_ints a b
    simp only [List.map_cons, PyData.eqvAll, PyData.eqv, this]
    by_cases hx : x = y <;> by_cases hb : a = b <;> simp [hx, hb]
abbrev encR (r : List Int) : PyData := .list (r.map .int)
theorem encL : Enc encR := ⟨fun a b => by simp only [PyData.eqv]; exact eqvAll_ints a b, fun a => by simp only [PyData.canLay0]; exact PyProof.Rows.canLayAll_ints a, fun a => by simp only [PyData.depth, PyProof.Rows.depthAll_ints]; exact Nat.le_refl _⟩

def ddStep {α : Type} [DecidableEq α] (acc : List α) (t : α) : List α := if acc.any (fun y => decide (y = t)) then acc else acc ++ [t]
def dd {α : Type} [DecidableEq α] (as : List α) : List α := as.foldl ddStep []
theorem ddStep_len {α : Type} [DecidableEq α] (acc : List α) (t : α) : (ddStep acc t).length ≤ acc.length + 1 := by
  unfold ddStep; split
  · exact Nat.le_succ _
  · rw [List.length_append]; exact Nat.le_refl _
theorem dd_len_aux {α : Type} [DecidableEq α] : ∀ (as acc : List α), (as.foldl ddStep acc).length ≤ acc.length + as.length
  | [], _ => Nat.le_refl _
  | t :: r, acc => by
    rw [List.foldl_cons, List.length_cons]
    have := dd_len_aux r (ddStep acc t); have := ddStep_len acc t; omega
theorem dd_len {α : Type} [DecidableEq α] (as : List α) : (dd as).length ≤ as.length := by have := dd_len_aux as []; simpa [dd] using this
theorem dd_take {α : Type} [DecidableEq α] (as : List α) (i : Nat) (a : α) (h : as[i]? = some a) : dd (as.take (i + 1)) = ddStep (dd (as.take i)) a := by
  unfold dd; rw [List.take_add_one, h, List.foldl_append]; rfl

section
variable {α : Type} [DecidableEq α] {enc : α → PyData} {h : Heap}
omit [DecidableEq α] in
theorem readsAll_of {vs : List Value} {as : List α} (p : Paired (fun v a => Rd h v (enc a)) vs as) : ∃ bs, ReadsAll h vs (as.map enc) bs := by
  induction p with
  | nil => exact ⟨_, .nil⟩
  | cons a _ ih => obtain ⟨x, a⟩ := a; obtain ⟨bs, ih⟩ := ih; exact ⟨_, .cons a ih⟩
omit [DecidableEq α] in
theorem rd_list {D : Addr} {vs : List Value} {as : List α} (l : h.IsList D vs.toArray) (p : Paired (fun v a => Rd h v (enc a)) vs as) : Rd h (.ref D) (.list (as.map enc)) := by
  obtain ⟨bs, r⟩ := readsAll_of p
  obtain ⟨o, e, c, n, d⟩ := l
  exact ⟨_, .list e c d r⟩
theorem canLayAll_enc (X : Enc enc) : ∀ as : List α, PyData.canLayAll0 (as.map enc) = true
  | [] => rfl
  | a :: r => by simp only [List.map_cons, PyData.canLayAll0, X.lay a, canLayAll_enc X r, Bool.and_self]
theorem any_enc (X : Enc enc) (a : α) : ∀ as : List α, ((as.map enc).any fun y => PyData.eqv y (enc a)) = as.any (fun y => decide (y = a))
  | [] => rfl
  | b :: r => by simp only [List.map_cons, List.any_cons, X.eq, any_enc X a r]

theorem ev_notin {prog : Program} {w : World} {A : Around} (X : Enc enc) {D : Addr} {v : Value} {a : α} {vs : List Value} {as : List α} {post : Value → Heap → Prop} (hu : A.units + 100 < cLine)
    (l : h.IsList D vs.toArray) (p : Paired (fun v a => Rd h v (enc a)) vs as) (hv : Rd h v (enc a)) (q : post (.bool (!as.any (fun y => decide (y = a)))) h) : EvS (model prog w) A (compareOp .NotIn v (.ref D)) h post := by
  intro s Q E e k
  subst e
  obtain ⟨_, r1⟩ := rd_list l p
  obtain ⟨_, r2⟩ := hv
  refine SeqAt.notIn_list_reads r1 r2 (canLayAll_enc X as) (X.lay a) ?_ (k _ _ s.toks (Kp.refl _) (by rw [any_enc X]; exact q))
  have := X.dep a
  have : min (PyData.depthAll (as.map enc)) (enc a).depth ≤ (enc a).depth := Nat.min_le_right _ _
  omega
theorem ev_in {prog : Program} {w : World} {A : Around} (X : Enc enc) {D : Addr} {v : Value} {a : α} {vs : List Value} {as : List α} {post : Value → Heap → Prop} (hu : A.units + 100 < cLine)
    (l : h.IsList D vs.toArray) (p : Paired (fun v a => Rd h v (enc a)) vs as) (hv : Rd h v (enc a)) (q : post (.bool (as.any (fun y => decide (y = a)))) h) : EvS (model prog w) A (compareOp .In v (.ref D)) h post := by
  intro s Q E e k
  subst e
  obtain ⟨_, r1⟩ := rd_list l p
  obtain ⟨_, r2⟩ := hv
  refine SeqAt.in_list_reads r1 r2 (canLayAll_enc X as) (X.lay a) ?_ (k _ _ s.toks (Kp.refl _) (by rw [any_enc X]; exact q))
  have := X.dep a
  have : min (PyData.depthAll (as.map enc)) (enc a).depth ≤ (enc a).depth := Nat.min_le_right _ _
  omega
theorem paired_mono {β γ : Type} {F G : β → γ → Prop} {l₁ : List β} {l₂ : List γ} (k : ∀ a b, F a b → G a b) (p : Paired F l₁ l₂) : Paired G l₁ l₂ := by
  induction p with
  | nil => exact .nil
  | cons a _ ih => exact .cons (k _ _ a) ih
theorem paired_get {β γ : Type} {F : β → γ → Prop} {l₁ : List β} {l₂ : List γ} (p : Paired F l₁ l₂) : ∀ {i : Nat} {a : β}, l₁[i]? = some a → ∃ b, l₂[i]? = some b ∧ F a b := by
  induction p with
  | nil => intro i a e; simp at e
  | cons x _ ih =>
    intro i a e
    cases i with
    | zero => simp at e; subst e; exact ⟨_, rfl, x⟩
    | succ i => simpa using ih (by simpa using e)
end

section
variable {prog p : Program} {loose : List Str} {w : World} {mean : ExcName → Option Value} {mg mb : Str → Option Value} {A : Around} {h : Heap} {n : Nat}



end
end Mine

namespace Mine

theorem den2a (elt t1 i1 t2 i2 : Expr) (ifs : List Expr) (scope : Scope) (pos : Pos) (it acc : Value) (env : Env) :
    compTurn (.ListComp elt [⟨t1, i1, [], 0⟩, ⟨t2, i2, ifs, 0⟩] scope pos) 0 it acc env =
      turnOfK t1 i1 [] it env (do
        let x ← eval i2 env
        standAt i2.pos
        let x ← foldedSetIterable i2 env x
        let _ ← runOwn (.compStart (.ListComp elt [⟨t1, i1, [], 0⟩, ⟨t2, i2, ifs, 0⟩] scope pos) 1 (← holding [x] (pyIter x)) acc env) env
        again (.compLoop (.ListComp elt [⟨t1, i1, [], 0⟩, ⟨t2, i2, ifs, 0⟩] scope pos) 0 it acc env)) (.compLoop (.ListComp elt [⟨t1, i1, [], 0⟩, ⟨t2, i2, ifs, 0⟩] scope pos) 0 it acc env) := by rfl
theorem den2b (elt t1 i1 t2 i2 : Expr) (ifs : List Expr) (scope : Scope) (pos : Pos) (it acc : Value) (env : Env) :
    compTurn (.ListComp elt [⟨t1, i1, [], 0⟩, ⟨t2, i2, ifs, 0⟩] scope pos) 1 it acc env =
      turnOf t2 i2 ifs it env (do let _ ← call (.builtin "list.append") [acc, ← eval elt env]) (.compLoop (.ListComp elt [⟨t1, i1, [], 0⟩, ⟨t2, i2, ifs, 0⟩] scope pos) 1 it acc env) := by rfl

section
variable {prog : Program} {w : World} {A : Around} {E : Value → Shared → Prop} {s : Shared}

theorem compStart_at1 {elt t1 i1 t2 i2 : Expr} {ifs : List Expr} {scope : Scope} {pos : Pos} {it acc : Value} {env : Env} {R : Result → Shared → Prop}
    (h0 : codeAny (model prog w) A (.compLoop (.ListComp elt [⟨t1, i1, [], 0⟩, ⟨t2, i2, ifs, 0⟩] scope pos) 1 it acc env) R s)
    (h : wpAny (model prog w) A (pyIter it) (fun it' s' => codeAny (model prog w) A (.compLoop (.ListComp elt [⟨t1, i1, [], 0⟩, ⟨t2, i2, ifs, 0⟩] scope pos) 1 it' acc env) R s')
      (notedBy (model prog w) A env fun x s' => R (.error x) s') s) :
    codeAny (model prog w) A (.compStart (.ListComp elt [⟨t1, i1, [], 0⟩, ⟨t2, i2, ifs, 0⟩] scope pos) 1 it acc env) R s := by
  refine codeAny_of_tree ?_
  show wpAny _ _ ((compStart (.ListComp elt [⟨t1, i1, [], 0⟩, ⟨t2, i2, ifs, 0⟩] scope pos) 1 it acc env).onRaise (fun x => do noteFrame x env; standAt theWindowsPlace)) _ _ s
  refine wpAny_notedAt ?_
  unfold compStart
  show wpAny _ _ (ask >>= _) _ _ s
  refine wpAny_bind (wpAny_askSetting (wpAny_ite ?_))
  split
  · first
      | exact wpAny_bind (wpAny_pure (wpAny_pure (And.intro rfl h0)))
      | exact wpAny_pure (And.intro rfl h0)
  · first
      | exact wpAny_bind (wpAny_rule (wpAny_bind (wpAny_standAt (wpAny_bind (wpAny_mono h (fun it' s' h' => wpAny_pure (And.intro rfl h')) fun _ _ x => x)))))
      | (refine wpAny_bind (wpAny_rule ?_); show wpAny _ _ (standAt i2.pos >>= _) _ _ s; exact wpAny_bind (wpAny_standAt (wpAny_bind (wpAny_mono h (fun it' s' h' => wpAny_pure (And.intro rfl h')) fun _ _ x => x))))

abbrev hownT (prog : Program) (w : World) (A : Around) (target : Expr) (Ok : Value → Heap → Prop) : Prop :=
  ∀ I v (s : Shared) (Q : Unit → Shared → Prop) (E : Value → Shared → Prop), (∃ ob, s.heap.get? I = some ob ∧ (ob.cls = .type "list_iterator" ∨ ob.cls = .type "range_iterator")) → Ok v s.heap → Q () s → wpAny (model prog w) A (letOwnedTupleGo target (.ref I) v) Q E s

/-- two clauses -/
theorem comp_core2 {elt t1 i1 t2 i2 : Expr} {ifs : List Expr} {scope : Scope} {pos pos' : Pos} {env : Env} {cl : List (Str × Addr)} {use : Option (Value → Sem Unit)} {Q : Value → Shared → Prop}
    (hclos : closureFor scope env = pure cl) (hkind : scope.kind = .function) (hnames : ∀ x ∈ scope.names, x.2 = .local → scope.names.lookup x.1 = some .local)
    (V1 : Addr → Heap → Prop) (L1 : Addr → Value → Heap → Prop) (V2 : Addr → Value → Heap → Prop) (L2 : Addr → Value → Value → Heap → Prop)
    (vars1 : ∀ C, Vars prog w A t1 (compEnvC scope (cellsFrom (C + 1) scope.names cl) C env) (VAof scope C) (V1 C) (L1 C) (fun _ _ => True))
    (vars2 : ∀ C v, Vars prog w A t2 (compEnvC scope (cellsFrom (C + 1) scope.names cl) C env) (VAof scope C) (V2 C v) (L2 C v) (fun _ _ => True))
    (hV0 : ∀ C h m, h.Ns C m → CellsThere scope C h → V1 C h) (hV1 : ∀ C h, V1 C h → ∃ m, h.Ns C m) (h12 : ∀ C v h, L1 C v h → V2 C v h) (h21 : ∀ C v h, V2 C v h → V1 C h)
    (hown1 : hownT prog w A t1 (fun _ _ => True)) (hown2 : hownT prog w A t2 (fun _ _ => True))
    (src : EvS (model prog w) A (eval i1 env) s.heap fun xv h1 => ∃ (n : Nat) (P : Nat → Value → Prop) (J : Nat → List Value → Heap → Prop), Src prog w A xv h1 [] n P ∧
      (∀ i ys h h', Kp h h' → J i ys h → J i ys h') ∧ J 0 [] h1 ∧
      (∀ C Mu i v ys h, i < n → P i v → L1 C v h → J i ys (hideAll h Mu) → Kp h1 (hideAll h Mu) → (∀ b ∈ Mu, ∃ o, h.get? b = some o) →
        EvS (model prog w) A (eval i2 (compEnvC scope (cellsFrom (C + 1) scope.names cl) C env)) h fun xv2 h2 => ∃ (n2 : Nat) (P2 : Nat → Value → Prop) (J2 : Nat → List Value → Heap → Prop), Src prog w A xv2 h2 Mu n2 P2 ∧
          (∀ j ys h h', Kp h h' → J2 j ys h → J2 j ys h') ∧ (∀ j ys h, J2 j ys h → ys.length ≤ sizeLine) ∧ J2 0 ys (hideAll h2 Mu) ∧ (∀ ys h, J2 n2 ys h → J (i + 1) ys h) ∧
          (∀ Mu2 j v2 ys h, j < n2 → P2 j v2 → L2 C v v2 h → J2 j ys (hideAll h Mu2) → Kp h1 (hideAll h Mu2) → (∀ b ∈ Mu2, ∃ o, h.get? b = some o) →
            EvS (model prog w) A (testsOf ifs (compEnvC scope (cellsFrom (C + 1) scope.names cl) C env)) h fun ok h₃ =>
              if ok = true then EvS (model prog w) A (eval elt (compEnvC scope (cellsFrom (C + 1) scope.names cl) C env)) h₃ fun y h₄ => J2 (j + 1) (ys ++ [y]) (hideAll h₄ Mu2) else J2 (j + 1) ys (hideAll h₃ Mu2))) ∧
      (∀ C D Mu h' tk ys, C ∈ Mu → D ∈ Mu → h1.get? C = none → h1.get? D = none → D ≠ C → Kp h1 (hideAll h' Mu) → h'.get? D = some (lst ys) → (∃ m, h'.Ns C m) → J n ys (hideAll h' Mu) →
        compPost (model prog w) A E use Q (.ref D) C (.ok .next) { s with heap := h', toks := tk }))
    (hs : ∀ x, foldedSetIterable i1 env x = pure x := by intro _; rfl) (hs2 : ∀ e x, foldedSetIterable i2 e x = pure x := by intro _ _; rfl) :
    wpAny (model prog w) A (comprehension (.ListComp elt [⟨t1, i1, [], 0⟩, ⟨t2, i2, ifs, 0⟩] scope pos) scope env pos' (newList []) false (eval i1 env) use) Q E s := by
  refine wpAny_comprehension_free rfl hs hclos hkind hnames (src.run fun xv h1 tk1 k1 p1 => ?_)
  obtain ⟨n, P, J, sr, Jm, J0, turn, fin⟩ := p1
  refine sr { s with heap := h1, toks := tk1 } _ _ rfl fun I o fp St hI hfr W st hfp hex hcls => ?_
  refine wpAny_newObj_type (newEnv_comp ?_)
  dsimp only
  generalize hh2 : h1.push o = h2 at st ⊢
  have s2 : h2.objs.size = h1.objs.size + 1 := by rw [← hh2, Heap.size_push]
  generalize hh3 : h2.push ({ cls := .type "list", dict := none, data := .seq ([] : List Value).toArray } : Obj) = h3
  have s3 : h3.objs.size = h1.objs.size + 2 := by rw [← hh3, Heap.size_push, s2]
  have k12 : Kp h1 h2 := hh2 ▸ Kp.push _ _
  have k23 : Kp h2 h3 := hh3 ▸ Kp.push _ _
  obtain ⟨⟨m, hNs, _⟩, hCT, k34⟩ := comp_setup (scope := scope) (C := h3.objs.size) (h3 := h3) rfl
  generalize hh4 : pushCells (h3.push { cls := .type "dict", data := .dict #[] }) scope.names = h4 at hNs hCT k34 ⊢
  have hDat : h4.get? h2.objs.size = some (lst []) := k34 _ _ (by rw [← hh3]; exact Heap.get?_push_size _ rfl)
  have stt : St 0 h4 := W.frame _ _ _ st fun b _ o e => k34 _ _ (k23 _ _ e)
  have hDI : (h2.objs.size : Nat) ≠ I := by rw [hI, s2]; omega
  have hDC : (h2.objs.size : Nat) ≠ h3.objs.size := by rw [s2, s3]; omega
  have vge : ∀ b ∈ VAof scope h3.objs.size, h3.objs.size ≤ b := fun b hb => by
    rcases List.mem_cons.mp hb with rfl | hb
    · exact Nat.le_refl _
    · exact Nat.le_of_lt (newCells_gt hb)
  have fle : ∀ b ∈ fp, b ≤ I := fun b hb => by
    rcases hfp b hb with rfl | ⟨_, ob, e⟩
    · exact Nat.le_refl _
    · rw [hI]; exact Nat.le_of_lt (Heap.lt_size e)
  have hMu0 : ∀ b ∈ h2.objs.size :: I :: VAof scope h3.objs.size, h1.get? b = none := fun b hb => none_of_ge (by
    rcases List.mem_cons.mp hb with rfl | hb
    · rw [s2]; exact Nat.le_succ _
    · rcases List.mem_cons.mp hb with rfl | hb
      · exact Nat.le_of_eq hI.symm
      · exact Nat.le_trans (by rw [s3]; omega) (vge b hb))
  have K0 : Kp h1 (hideAll h4 (h2.objs.size :: I :: VAof scope h3.objs.size)) := fun b ob e =>
    hideAll_get _ (k34 _ _ (k23 _ _ (k12 _ _ e))) fun m => by rw [hMu0 b m] at e; cases e
  have V0 : V1 h3.objs.size h4 := hV0 _ _ _ hNs hCT
  have dDf : h2.objs.size ∉ fp := fun hb => by
    have a1 : (h2.objs.size : Nat) ≤ h1.objs.size := hI ▸ fle _ hb
    exact absurd a1 (by rw [s2]; omega)
  have dDV : h2.objs.size ∉ VAof scope h3.objs.size := fun hb => absurd (show (h3.objs.size : Nat) ≤ h2.objs.size from vge _ hb) (by rw [s2, s3]; omega)
  have dVf : ∀ b ∈ VAof scope h3.objs.size, b ∉ fp := fun b hb hb' => by
    have a1 : (h3.objs.size : Nat) ≤ b := vge _ hb
    have a2 : (b : Nat) ≤ h1.objs.size := hI ▸ fle _ hb'
    rw [s3] at a1
    exact absurd (Nat.le_trans a1 a2) (by omega)
  have loop : ∀ s₄ : Shared, (∃ tk, s₄ = { s with heap := h4, toks := tk }) → codeAny (model prog w) A (.compLoop (.ListComp elt [⟨t1, i1, [], 0⟩, ⟨t2, i2, ifs, 0⟩] scope pos) 0 (.ref I) (.ref h2.objs.size) (compEnvC scope (cellsFrom (h3.objs.size + 1) scope.names cl) h3.objs.size env))
      (compPost (model prog w) A E use Q (.ref h2.objs.size) h3.objs.size) s₄ := by
    rintro s₄ ⟨tk, rfl⟩
    refine comp_emK (den2a _ _ _ _ _ _ _ _ _ _ _) W (vars1 h3.objs.size) (fun i v s Q E st' ok q => hown1 I v s Q E (hcls _ _ st') ok q) (X := fun _ => True) (XA := []) (fun _ _ _ x => x)
      (h2.objs.size :: I :: VAof scope h3.objs.size) (List.mem_cons_of_mem _ List.mem_cons_self) (fun b hb => List.mem_cons_of_mem _ (List.mem_cons_of_mem _ hb))
      dDf dDV dVf (fun b _ hb' => nomatch hb') (fun hb => nomatch hb)
      (fun i ys h => Kp h1 h ∧ J i ys h) (fun i ys h h' k z => ⟨z.1.trans k, Jm _ _ _ _ k z.2⟩) (fun i v ys h hi hp z => trivial) (fun _ _ _ _ x => x) (fun i v ys s5 Q5 E5 hi hp hl st5 hD5 _ z fin5 => ?_) stt hDat V0 trivial ⟨K0, Jm _ _ _ _ K0 J0⟩ fun h' tk' ys hD' hV' _ z => ?_
    · have M5 : ∀ b ∈ h2.objs.size :: I :: VAof scope h3.objs.size, ∃ o, s5.heap.get? b = some o := fun b hb => by
        rcases List.mem_cons.mp hb with rfl | hb
        · exact ⟨_, hD5⟩
        · rcases List.mem_cons.mp hb with rfl | hb
          · exact hex _ _ st5
          · exact (vars1 _).there _ ((vars1 _).is _ _ hl) b hb
      refine wpAny_bind ((turn h3.objs.size _ i v ys s5.heap hi hp hl z.2 z.1 M5).run fun xv2 h6 t6 k6 p6 => ?_)
      obtain ⟨n2, P2, J2, sr2, Jm2, Js2, J20, J2e, turn2⟩ := p6
      refine wpAny_bind (wpAny_standAt (wpAny_bind (wpAny_of_eq (hs2 _ xv2) (wpAny_bind (wpAny_holding (sr2 { s5 with heap := h6, toks := t6 } _ _ rfl fun I2 o2 fp2 St2 hI2 hfr2 W2 st2 hfp2 hex2 hcls2 => ?_))))))
      refine wpAny_bind (wpAny_runOwn ?_)
      have M6 : ∀ b ∈ h2.objs.size :: I :: VAof scope h3.objs.size, ∃ o, h6.get? b = some o := fun b hb => let ⟨o, e⟩ := M5 b hb; ⟨o, k6 _ _ e⟩
      have hlt6 : ∀ b ∈ h2.objs.size :: I :: VAof scope h3.objs.size, b ≠ I2 := fun b hb e => by obtain ⟨o, q⟩ := M6 b hb; exact absurd (Heap.lt_size q) (by rw [e, hI2]; exact Nat.lt_irrefl _)
      have hnone2 : h6.get? I2 = none := hI2 ▸ none_of_ge (Nat.le_refl _)
      have hfpX : ∀ b ∈ fp, ∃ o, h6.get? b = some o := fun b hb => by
        rcases hfp b hb with rfl | ⟨_, ob, e⟩
        · exact M6 _ (List.mem_cons_of_mem _ List.mem_cons_self)
        · exact ⟨ob, k6 _ _ (of_hideAll _ (z.1 _ _ e))⟩
      have hfp2M : ∀ b ∈ h2.objs.size :: I :: VAof scope h3.objs.size, b ∉ fp2 := fun b hb hb' => by
        rcases hfp2 b hb' with e | ⟨e, _⟩
        · exact hlt6 b hb e
        · exact e hb
      have k67 : Kp h6 (h6.push o2) := Kp.push _ _
      have hid67 : Kp (hideAll h6 (h2.objs.size :: I :: VAof scope h3.objs.size)) (hideAll (h6.push o2) (I2 :: h2.objs.size :: I :: VAof scope h3.objs.size)) := hid_kp fun b ob hb e =>
        ⟨fun hb' => by rcases List.mem_cons.mp hb' with rfl | hb'; (rw [hnone2] at e; cases e); exact hb hb', k67 _ _ e⟩
      have drop : ∀ h, Kp (hideAll h (I2 :: h2.objs.size :: I :: VAof scope h3.objs.size)) (hideAll h (h2.objs.size :: I :: VAof scope h3.objs.size)) := fun h => hid_kp fun b ob hb e => ⟨fun q => hb (List.mem_cons_of_mem _ q), e⟩
      have loop2 : ∀ s₇ : Shared, (∃ tk, s₇ = { s5 with heap := h6.push o2, toks := tk }) → codeAny (model prog w) A (.compLoop (.ListComp elt [⟨t1, i1, [], 0⟩, ⟨t2, i2, ifs, 0⟩] scope pos) 1 (.ref I2) (.ref h2.objs.size) (compEnvC scope (cellsFrom (h3.objs.size + 1) scope.names cl) h3.objs.size env))
          (fun r s' => match r with
            | .ok f => wpAny (model prog w) A (again (.compLoop (.ListComp elt [⟨t1, i1, [], 0⟩, ⟨t2, i2, ifs, 0⟩] scope pos) 0 (.ref I) (.ref h2.objs.size) (compEnvC scope (cellsFrom (h3.objs.size + 1) scope.names cl) h3.objs.size env))) Q5 E5 s'
            | .error e => cameBackBy (model prog w) A (compEnvC scope (cellsFrom (h3.objs.size + 1) scope.names cl) h3.objs.size env) E5 e s') s₇ := by
        rintro s₇ ⟨tk7, rfl⟩
        refine comp_last (den2b _ _ _ _ _ _ _ _ _ _ _) W2 hex2 (vars2 h3.objs.size v) (fun i v s Q E st' ok q => hown2 I2 v s Q E (hcls2 _ _ st') ok q) (X := St (i + 1)) (XA := fp) (fun h h' k x => W.frame _ _ _ x k)
          (I2 :: h2.objs.size :: I :: VAof scope h3.objs.size) (List.mem_cons_of_mem _ List.mem_cons_self) List.mem_cons_self (fun b hb => List.mem_cons_of_mem _ (List.mem_cons_of_mem _ (List.mem_cons_of_mem _ hb))) (fun h x b hb => ?_)
          (hfp2M _ List.mem_cons_self) dDV dDf (fun b hb => hfp2M _ (List.mem_cons_of_mem _ (List.mem_cons_of_mem _ hb))) dVf (fun hb => ?_)
          (fun j ys h => Kp h1 h ∧ J2 j ys h) (fun j ys h h' k z => ⟨z.1.trans k, Jm2 _ _ _ _ k z.2⟩) (fun j ys h z => Js2 _ _ _ z.2) (fun _ _ _ _ _ _ _ => trivial) (fun _ _ _ _ x => x) (fun j v2 ys h hj hp2 hl2 z2 hm2 => ?_)
          st2 (k67 _ _ (k6 _ _ hD5)) ((vars2 _ _).ext _ _ (fun b _ o e => k67 _ _ (k6 _ _ e)) (h12 _ _ _ hl)) (W.frame _ _ _ st5 fun b _ o e => k67 _ _ (k6 _ _ e))
          ⟨(z.1.trans (hid_up k6)).trans hid67, Jm2 _ _ _ _ hid67 J20⟩ fun h8 tk8 ys8 hD8 hV8 hX8 z8 => ?_
        · rcases List.mem_cons.mp hb with rfl | hb
          · exact .inr (.inl rfl)
          · rcases List.mem_cons.mp hb with rfl | hb
            · exact .inl rfl
            · rcases List.mem_cons.mp hb with rfl | hb
              · exact .inr (.inr (.inr (hex _ _ x)))
              · exact .inr (.inr (.inl hb))
        · obtain ⟨o, q⟩ := hfpX _ hb; rw [hnone2] at q; cases q
        · refine (turn2 _ j v2 ys h hj hp2 hl2 z2.2 z2.1 hm2).mono fun ok h₃ k₃ p₃ => ?_
          have z₃ := z2.1.trans (hid_up k₃)
          cases ok with
          | false => rw [if_neg Bool.false_ne_true] at p₃ ⊢; exact ⟨z₃, p₃⟩
          | true => rw [if_pos rfl] at p₃ ⊢; exact p₃.mono fun y h₄ k₄ p₄ => ⟨z₃.trans (hid_up k₄), p₄⟩
        · exact wpAny_pure (fin5 h8 tk8 ys8 hX8 hD8 (h21 _ _ _ hV8) trivial ⟨z8.1.trans (drop _), Jm _ _ _ _ (drop _) (J2e _ _ z8.2)⟩)
      exact compStart_at1 (loop2 _ ⟨_, rfl⟩) (W2.self 0 _ _ _ st2 (loop2 _ ⟨_, rfl⟩))
    · exact fin _ _ _ h' tk' ys (List.mem_cons_of_mem _ (List.mem_cons_of_mem _ List.mem_cons_self)) List.mem_cons_self (hMu0 _ (List.mem_cons_of_mem _ (List.mem_cons_of_mem _ List.mem_cons_self))) (hMu0 _ List.mem_cons_self) hDC z.1 hD' (hV1 _ _ hV') z.2
  exact codeAny_compStart_list (loop _ ⟨_, rfl⟩) (W.self 0 _ _ _ stt (loop _ ⟨_, rfl⟩))

theorem ev_comp2 {elt t1 i1 t2 i2 : Expr} {ifs : List Expr} {scope : Scope} {pos : Pos} {env : Env} {cl : List (Str × Addr)} {h : Heap} {post : Value → Heap → Prop}
    (hclos : closureFor scope env = pure cl) (hkind : scope.kind = .function) (hnames : ∀ x ∈ scope.names, x.2 = .local → scope.names.lookup x.1 = some .local)
    (V1 : Addr → Heap → Prop) (L1 : Addr → Value → Heap → Prop) (V2 : Addr → Value → Heap → Prop) (L2 : Addr → Value → Value → Heap → Prop)
    (vars1 : ∀ C, Vars prog w A t1 (compEnvC scope (cellsFrom (C + 1) scope.names cl) C env) (VAof scope C) (V1 C) (L1 C) (fun _ _ => True))
    (vars2 : ∀ C v, Vars prog w A t2 (compEnvC scope (cellsFrom (C + 1) scope.names cl) C env) (VAof scope C) (V2 C v) (L2 C v) (fun _ _ => True))
    (hV0 : ∀ C h m, h.Ns C m → CellsThere scope C h → V1 C h) (hV1 : ∀ C h, V1 C h → ∃ m, h.Ns C m) (h12 : ∀ C v h, L1 C v h → V2 C v h) (h21 : ∀ C v h, V2 C v h → V1 C h)
    (hown1 : hownT prog w A t1 (fun _ _ => True)) (hown2 : hownT prog w A t2 (fun _ _ => True))
    (src : EvS (model prog w) A (eval i1 env) h fun xv h1 => ∃ (n : Nat) (P : Nat → Value → Prop) (J : Nat → List Value → Heap → Prop), Src prog w A xv h1 [] n P ∧
      (∀ i ys h h', Kp h h' → J i ys h → J i ys h') ∧ J 0 [] h1 ∧
      (∀ C Mu i v ys h, i < n → P i v → L1 C v h → J i ys (hideAll h Mu) → Kp h1 (hideAll h Mu) → (∀ b ∈ Mu, ∃ o, h.get? b = some o) →
        EvS (model prog w) A (eval i2 (compEnvC scope (cellsFrom (C + 1) scope.names cl) C env)) h fun xv2 h2 => ∃ (n2 : Nat) (P2 : Nat → Value → Prop) (J2 : Nat → List Value → Heap → Prop), Src prog w A xv2 h2 Mu n2 P2 ∧
          (∀ j ys h h', Kp h h' → J2 j ys h → J2 j ys h') ∧ (∀ j ys h, J2 j ys h → ys.length ≤ sizeLine) ∧ J2 0 ys (hideAll h2 Mu) ∧ (∀ ys h, J2 n2 ys h → J (i + 1) ys h) ∧
          (∀ Mu2 j v2 ys h, j < n2 → P2 j v2 → L2 C v v2 h → J2 j ys (hideAll h Mu2) → Kp h1 (hideAll h Mu2) → (∀ b ∈ Mu2, ∃ o, h.get? b = some o) →
            EvS (model prog w) A (testsOf ifs (compEnvC scope (cellsFrom (C + 1) scope.names cl) C env)) h fun ok h₃ =>
              if ok = true then EvS (model prog w) A (eval elt (compEnvC scope (cellsFrom (C + 1) scope.names cl) C env)) h₃ fun y h₄ => J2 (j + 1) (ys ++ [y]) (hideAll h₄ Mu2) else J2 (j + 1) ys (hideAll h₃ Mu2))) ∧
      (∀ D h' ys, Kp h1 h' → h1.get? D = none → h'.get? D = some (lst ys) → J n ys h' → post (.ref D) h'))
    (hs : ∀ x, foldedSetIterable i1 env x = pure x := by intro _; rfl) (hs2 : ∀ e x, foldedSetIterable i2 e x = pure x := by intro _ _; rfl) :
    EvS (model prog w) A (eval (.ListComp elt [⟨t1, i1, [], 0⟩, ⟨t2, i2, ifs, 0⟩] scope pos) env) h post := by
  intro s Q E e k
  subst e
  rw [eval_ListComp]
  refine comp_core2 (use := none) hclos hkind hnames V1 L1 V2 L2 vars1 vars2 hV0 hV1 h12 h21 hown1 hown2 ?_ hs hs2
  intro s' Q' E' e' k'
  refine src s' Q' E' e' fun xv h1 tk k1 p1 => k' xv h1 tk k1 ?_
  obtain ⟨n, P, J, sr, Jm, J0, turn, fin⟩ := p1
  refine ⟨n, P, J, sr, Jm, J0, turn, fun C D Mu h' tk ys mC mD nC nD ne k2 hD hn hJ => ?_⟩
  obtain ⟨m, hn⟩ := hn
  refine ⟨m, hn, fun h'' hs'' => ?_⟩
  have k3 : Kp (hideAll h' Mu) h'' := fun b o e => hs''.extBut b o (fun q => hid_off e (q ▸ mC)) (of_hideAll _ e)
  exact k _ h'' tk (k1.trans (k2.trans k3)) (fin D h'' ys (k2.trans k3) nD (hs''.extBut D _ ne hD) (Jm _ _ _ _ k3 hJ))

theorem st_comp2 {elt t1 i1 t2 i2 : Expr} {ifs : List Expr} {scope : Scope} {pos spos py : Pos} {env : Env} {cl : List (Str × Addr)} {y : Str} {m : Str → Option Value} {Q : Flow → Shared → Prop}
    (hsw : swapsWith (.ListComp elt [⟨t1, i1, [], 0⟩, ⟨t2, i2, ifs, 0⟩] scope pos) (some (.Name y py)) spos.line env = pure true)
    (hy : env.kindOf y = some .local) (hp : (env.scope.kind == .class || (env.scope.kind == .module && env.locals != env.globals)) = false) (hn : s.heap.Ns env.locals m)
    (HL : List Addr) (hL : env.locals ∈ HL)
    (hclos : closureFor scope env = pure cl) (hkind : scope.kind = .function) (hnames : ∀ x ∈ scope.names, x.2 = .local → scope.names.lookup x.1 = some .local)
    (V1 : Addr → Heap → Prop) (L1 : Addr → Value → Heap → Prop) (V2 : Addr → Value → Heap → Prop) (L2 : Addr → Value → Value → Heap → Prop)
    (vars1 : ∀ C, Vars prog w A t1 (compEnvC scope (cellsFrom (C + 1) scope.names cl) C env) (VAof scope C) (V1 C) (L1 C) (fun _ _ => True))
    (vars2 : ∀ C v, Vars prog w A t2 (compEnvC scope (cellsFrom (C + 1) scope.names cl) C env) (VAof scope C) (V2 C v) (L2 C v) (fun _ _ => True))
    (hV0 : ∀ C h m, h.Ns C m → CellsThere scope C h → V1 C h) (hV1 : ∀ C h, V1 C h → ∃ m, h.Ns C m) (h12 : ∀ C v h, L1 C v h → V2 C v h) (h21 : ∀ C v h, V2 C v h → V1 C h)
    (hown1 : hownT prog w A t1 (fun _ _ => True)) (hown2 : hownT prog w A t2 (fun _ _ => True))
    (src : EvS (model prog w) A (eval i1 env) s.heap fun xv h1 => ∃ (n : Nat) (P : Nat → Value → Prop) (J : Nat → List Value → Heap → Prop), Src prog w A xv h1 [] n P ∧
      (∀ i ys h h', Kp h h' → J i ys h → J i ys h') ∧ J 0 [] (hideAll h1 HL) ∧
      (∀ C Mu i v ys h, i < n → P i v → L1 C v h → J i ys (hideAll (hideAll h Mu) HL) → Kp h1 (hideAll h Mu) → (∀ b ∈ Mu, ∃ o, h.get? b = some o) →
        EvS (model prog w) A (eval i2 (compEnvC scope (cellsFrom (C + 1) scope.names cl) C env)) h fun xv2 h2 => ∃ (n2 : Nat) (P2 : Nat → Value → Prop) (J2 : Nat → List Value → Heap → Prop), Src prog w A xv2 h2 Mu n2 P2 ∧
          (∀ j ys h h', Kp h h' → J2 j ys h → J2 j ys h') ∧ (∀ j ys h, J2 j ys h → ys.length ≤ sizeLine) ∧ J2 0 ys (hideAll (hideAll h2 Mu) HL) ∧ (∀ ys h, J2 n2 ys h → J (i + 1) ys h) ∧
          (∀ Mu2 j v2 ys h, j < n2 → P2 j v2 → L2 C v v2 h → J2 j ys (hideAll (hideAll h Mu2) HL) → Kp h1 (hideAll h Mu2) → (∀ b ∈ Mu2, ∃ o, h.get? b = some o) →
            EvS (model prog w) A (testsOf ifs (compEnvC scope (cellsFrom (C + 1) scope.names cl) C env)) h fun ok h₃ =>
              if ok = true then EvS (model prog w) A (eval elt (compEnvC scope (cellsFrom (C + 1) scope.names cl) C env)) h₃ fun y h₄ => J2 (j + 1) (ys ++ [y]) (hideAll (hideAll h₄ Mu2) HL) else J2 (j + 1) ys (hideAll (hideAll h₃ Mu2) HL))) ∧
      (∀ D h' tk ys, h'.Ns env.locals (fun z => if z = y then some (.ref D) else m z) → (∀ b o, b ≠ env.locals → h1.get? b = some o → h'.get? b = some o) → h1.get? D = none → h'.get? D = some (lst ys) → J n ys (hideAll h' HL) →
        Q .next { s with heap := h', toks := tk }))
    (hs : ∀ x, foldedSetIterable i1 env x = pure x := by intro _; rfl) (hs2 : ∀ e x, foldedSetIterable i2 e x = pure x := by intro _ _; rfl) :
    wpAny (model prog w) A (exec (.Assign [.Name y py] (.ListComp elt [⟨t1, i1, [], 0⟩, ⟨t2, i2, ifs, 0⟩] scope pos) spos) env) Q E s := by
  rw [exec_Assign_Name_used _ _ _ _ hsw]
  refine wpAny_bind (wpAny_standAt (wpAny_bind ?_))
  show wpAny _ A (do let _ ← comprehension (.ListComp elt [⟨t1, i1, [], 0⟩, ⟨t2, i2, ifs, 0⟩] scope pos) scope env _ (newList []) false (eval i1 env) (some (assign (.Name y py) env))) _ _ s
  refine wpAny_bind (wpAny_mono (comp_core2 (Q := fun _ s' => Q .next s') (use := some (assign (.Name y py) env)) hclos hkind hnames V1 L1 V2 L2 vars1 vars2 hV0 hV1 h12 h21 hown1 hown2 ?_ hs hs2) (fun _ s' hq => wpAny_pure (wpAny_pure hq)) fun _ _ e => e)
  intro s' Q' E' e' k'
  refine src s' Q' E' e' fun xv h1 tk k1 p1 => k' xv h1 tk k1 ?_
  obtain ⟨n, P, J, sr, Jm, J0, turn, fin⟩ := p1
  refine ⟨n, P, fun i ys h => J i ys (hideAll h HL), sr, fun i ys h h' k => Jm _ _ _ _ (hid_up k), J0, fun C Mu i v ys h hi hp hl hj hk hm => (turn C Mu i v ys h hi hp hl hj hk hm).mono fun xv2 h2 k2 p2 => ?_, fun C D Mu h' tk ys mC mD nC nD ne k2 hD hn2 hJ => ?_⟩
  · obtain ⟨n2, P2, J2, sr2, Jm2, Js2, J20, J2e, turn2⟩ := p2
    exact ⟨n2, P2, fun j ys h => J2 j ys (hideAll h HL), sr2, fun j ys h h' k => Jm2 _ _ _ _ (hid_up k), fun j ys h => Js2 _ _ _, J20, fun ys h => J2e _ _, turn2⟩
  obtain ⟨mc, hnC⟩ := hn2
  have hnL : h'.Ns env.locals m := (hn.keeps k1).keeps (k2.trans (hid_of _ _))
  obtain ⟨oL, hoL⟩ := ns_there (hn.keeps k1)
  have hLC : env.locals ≠ C := by rintro rfl; rw [nC] at hoL; cases hoL
  have hLD : env.locals ≠ D := by rintro rfl; rw [nD] at hoL; cases hoL
  show wpAny _ A (assign (.Name y py) env (.ref D)) _ _ _
  refine wpAny_assign_Name (wpAny_storeName_local hy hnL (fun h₂ hn₂ hs₂ => ?_) hp)
  refine ⟨mc, hnC.sameBut hs₂ (Ne.symm hLC), fun h₃ hs₃ => ?_⟩
  refine fin D h₃ _ ys (hn₂.sameBut hs₃ hLC) (fun b o hb e => ?_) nD (hs₃.extBut D _ ne (hs₂.extBut D _ (Ne.symm hLD) hD)) (Jm _ _ _ _ (hid_kp fun b o hb e => ⟨hb, ?_⟩) hJ)
  · have e2 := k2 b o e
    exact hs₃.extBut b o (fun q => hid_off e2 (q ▸ mC)) (hs₂.extBut b o hb (of_hideAll _ e2))
  · exact hs₃.extBut b o (fun q => hid_off e (q ▸ mC)) (hs₂.extBut b o (fun q => hb (q ▸ hL)) (of_hideAll _ e))
end
end Mine

namespace Mine

section
variable {prog : Program} {w : World} {A : Around} {h : Heap} {post : Value → Heap → Prop} {a b : Int} {t u : Tok}

theorem ev_add_lists {l b : Addr} {vs ws : List Value} (hl : h.IsList l vs.toArray) (hb : h.IsList b ws.toArray) (hsz : vs.length + ws.length ≤ sizeLine)
    (q : ∀ D h', Kp h h' → h.get? D = none → h'.IsList D (vs ++ ws).toArray → post (.ref D) h') : EvS (model prog w) A (binaryOp .Add (.ref l) (.ref b)) h post := by
  intro s Q E e k
  subst e
  obtain ⟨⟨cls, dd, data, sl⟩, ho, hc, n, hd⟩ := id hl
  obtain ⟨⟨cls2, dd2, data2, sl2⟩, ho2, hc2, n2, hd2⟩ := id hb
  simp only at hc hd hc2 hd2
  subst hc hd hc2 hd2
  have e : vs.toArray ++ ws.toArray = (vs ++ ws).toArray := by simp
  refine concat_meets ⟨_, ho, rfl⟩ ⟨_, ho2, rfl⟩ noFill_list_add seq_list_add PySem.F.slot_list_add PySem.F.entry_list_add (PySem.F.args_list_add_2 _ _) (list_addW l b vs.toArray ws.toArray n n2 dd dd2 sl sl2 (by simpa using hsz)) ⟨ho, ho2, ?_⟩
  rw [e]
  exact k _ _ _ (Kp.push _ _) (q _ _ (Kp.push _ _) (none_of_ge (Nat.le_refl _)) ⟨_, Heap.get?_push_size _ rfl, rfl, _, rfl⟩)

theorem ev_listOf {l : Addr} {vs : List Value} (hl : h.IsList l vs.toArray) (hsz : vs.length ≤ sizeLine)
    (q : ∀ D h', Kp h h' → h.get? D = none → h'.IsList D vs.toArray → post (.ref D) h') : EvS (model prog w) A (call (.type "list") [.ref l]) h post := by
  intro s Q E e k
  subst e
  obtain ⟨o, ho, hc, n, hd⟩ := hl
  exact call_list_seq (hsz := by rw [List.size_toArray]; exact hsz) l (.inl rfl) ho hc hd fun h' c' hk hD => k _ h' s.toks hk (q _ h' hk (none_of_ge (Nat.le_refl _)) ⟨_, hD, rfl, _, rfl⟩)

theorem ev_len {l : Addr} {vs : List Value} (hl : h.IsList l vs.toArray) (hsz : vs.length ≤ sizeLine)
    (q : ∀ t, post (.int vs.length t) h) : EvS (model prog w) A (call (.builtin "len") [.ref l]) h post := by
  intro s Q E e k
  subst e
  refine call_len_list hl ?_ ?_
  · rw [List.size_toArray]; have : sizeLine ≤ 2 ^ 24 := by decide
    omega
  · have := q (s.toks + 1)
    simpa using k _ _ _ (Kp.refl _) (by simpa using q _)

theorem ev_eq_int (q : post (.bool (a == b)) h) : EvS (model prog w) A (compareOp .Eq (.int a t) (.int b u)) h post := by
  intro s Q E e k; subst e; exact eq_int (k _ _ s.toks (Kp.refl _) q)
theorem ev_ne_int (q : post (.bool (a != b)) h) : EvS (model prog w) A (compareOp .NotEq (.int a t) (.int b u)) h post := by
  intro s Q E e k; subst e; exact ne_int (k _ _ s.toks (Kp.refl _) q)
theorem ev_le_int (q : post (.bool (decide (a ≤ b))) h) : EvS (model prog w) A (compareOp .LtE (.int a t) (.int b u)) h post := by
  intro s Q E e k; subst e; exact le_int (k _ _ s.toks (Kp.refl _) q)
theorem op_shl (h0 : 0 ≤ b) (h1 : b ≤ 1000000) (h2 : a.natAbs < 2 ^ 64) (q : ∀ t, post (.int (a * 2 ^ b.toNat) t) h) : EvS (model prog w) A (binaryOp .LShift (.int a t) (.int b u)) h post := by
  intro s Q E e k; subst e; exact lshift_int_small h0 h1 h2 (k _ _ _ (Kp.refl _) (q _))

theorem ev_item {value slice : Expr} {v : Value} {ns : List Int} {i : Nat} {u : Tok} (hl : IsL h v ns) (hi : i < ns.length) (h63 : i < 1000) (q : ∀ t, post (.int (ns.getD i 0) t) h)
    (hs : ∀ l, subscripted slice false (.ref l) (.int (i : Int) u) = operate [.ref l, .int (i : Int) u] (getItem (.ref l) (.int (i : Int) u)) := by intro _; with_unfolding_all rfl)
    (hg : ∀ l r, letTemporaryGo value (.ref l) r = pure () := by intro _ _; with_unfolding_all rfl) :
    EvS (model prog w) A (subscriptTail value slice v (.int (i : Int) u)) h post := by
  intro s Q E e k
  subst e
  obtain ⟨l, vs, rfl, hl, hI⟩ := hl
  refine item_list_ints hl hI (Int.natCast_nonneg _) (by omega) (by omega) (fun t => k _ _ s.toks (Kp.refl _) ?_) (hs _) (hg _)
  have := q t
  simpa using this

def insI (a : Int) : List Int → List Int
  | [] => [a]
  | b :: r => if a ≤ b then a :: b :: r else b :: insI a r
def sortI (l : List Int) : List Int := l.foldr insI []
theorem insI_perm (a : Int) : ∀ l : List Int, (insI a l).Perm (a :: l)
  | [] => .refl _
  | b :: r => by
    unfold insI; split
    · exact .refl _
    · exact ((insI_perm a r).cons b).trans (.swap a b r)
theorem insI_sorted (a : Int) : ∀ l : List Int, l.Pairwise (· ≤ ·) → (insI a l).Pairwise (· ≤ ·)
  | [], _ => by simp [insI]
  | b :: r, hp => by
    obtain ⟨h1, h2⟩ := List.pairwise_cons.mp hp
    unfold insI; split
    · rename_i hab
      refine List.pairwise_cons.mpr ⟨fun x hx => ?_, hp⟩
      rcases List.mem_cons.mp hx with rfl | hx
      · exact hab
      · exact Int.le_trans hab (h1 x hx)
    · rename_i hab
      refine List.pairwise_cons.mpr ⟨fun x hx => ?_, insI_sorted a r h2⟩
      rcases List.mem_cons.mp ((insI_perm a r).mem_iff.mp hx) with rfl | hx
      · omega
      · exact h1 x hx
theorem sortI_perm : ∀ l : List Int, (sortI l).Perm l
  | [] => .refl _
  | a :: r => (insI_perm a (sortI r)).trans ((sortI_perm r).cons a)
theorem sortI_sorted : ∀ l : List Int, (sortI l).Pairwise (· ≤ ·)
  | [] => .nil
  | a :: r => insI_sorted a _ (sortI_sorted r)

theorem ev_sorted {v : Value} {ns : List Int} (hl : IsL h v ns) (hsz : ns.length < 64) (q : ∀ h' r, Kp h h' → NewL h h' r (sortI ns) → post r h') :
    EvS (model prog w) A (call (.builtin "sorted") [v]) h post := by
  intro s Q E e k
  subst e
  obtain ⟨l, vs, rfl, hl, hI⟩ := hl
  refine sorted_ints hl hI (by rw [hI.length]; exact hsz) fun out ns' a1 a2 a3 => ?_
  have kk : Kp s.heap (sortedAll s.heap vs out) := fun _ _ => sortedAll_old
  obtain ⟨e, he⟩ := sortedAll_at s.heap vs out
  refine k _ _ s.toks kk (q _ _ kk ⟨_, out.toList, rfl, none_of_ge (Nat.le_succ _), ⟨_, he, rfl, _, rfl⟩, ?_⟩)
  have : ns' = sortI ns := List.Perm.eq_of_pairwise (fun a b _ _ h1 h2 => Int.le_antisymm h1 h2) a3 (sortI_sorted ns) (a2.trans (sortI_perm ns).symm)
  exact this ▸ a1

theorem ev_sum {v : Value} {ns : List Int} (hh : A.handled = none) (hl : IsL h v ns) (q : ∀ h' t, Kp h h' → post (.int ns.sum t) h') :
    EvS (model prog w) A (call (.builtin "sum") [v]) h post := by
  intro s Q E e k
  subst e
  obtain ⟨l, vs, rfl, hl, hI⟩ := hl
  obtain ⟨xs, ex⟩ := hI.allInts.items
  rw [ex] at hl
  have hn := hI.numsOf
  rw [show vs = vs.toArray.toList from rfl, ex, nums_intItems] at hn
  refine sum_intListG hh hl fun h' tk t' hk => k _ h' tk hk ?_
  rw [preSum_eq, List.take_of_length_le (by simp), hn]
  exact q _ _ hk
end
end Mine

namespace Mine

def freshF (known : List Int) : List (List Int) := known.flatMap fun one => (known.filter fun other => decide (other ≤ one)).map fun other => listedI (strokeI one other)
def valR (row : List Int) : Int := (([0, 1, 2, 3] : List Nat).map fun k => row.getD k 0 * 2 ^ k).sum
def okR (r : List Int) : Bool := r.length == 4 && r.all fun x => decide (x.natAbs < 1000)
def runF : Nat → List (List Int) → List Int → Option (List Int)
  | 0, _, _ => none
  | n + 1, found, known =>
    if known.length ≤ 20 ∧ found.length ≤ 20 then
      if (dd (found ++ freshF known)).length = known.length then some (sortI known)
      else if (dd (found ++ freshF known)).all okR = true ∧ (dd (found ++ freshF known)).length ≤ 20 then runF n (dd (found ++ freshF known)) ((dd (found ++ freshF known)).map valR)
      else none
    else none

/-- a list of lists of ints -/
def RowsL (h : Heap) (v : Value) (rows : List (List Int)) : Prop := ∃ D ys, v = .ref D ∧ h.IsList D ys.toArray ∧ Paired (IsL h) ys rows
theorem RowsL.up {h h' : Heap} {v : Value} {rows : List (List Int)} (x : RowsL h v rows) (k : Kp h h') : RowsL h' v rows :=
  let ⟨D, ys, e, l, p⟩ := x; ⟨D, ys, e, (l.at fun o q => k _ _ q), paired_mono (fun _ _ z => z.up k) p⟩
theorem isL_rd {h : Heap} {v : Value} {ns : List Int} (x : IsL h v ns) : Rd h v (encR ns) := by
  obtain ⟨a, vs, rfl, l, i⟩ := x
  have p : Paired (fun v a => Rd h v (PyData.int a)) vs ns := by
    clear l
    induction i with
    | nil => exact .nil
    | cons n t _ ih => exact .cons ⟨_, .int n t⟩ ih
  exact rd_list l p

theorem NewL.hide2 {h0 h : Heap} {v : Value} {ns : List Int} {Mu HL : List Addr} (x : NewL h0 h v ns) (m : ∀ b ∈ Mu, ∃ o, h0.get? b = some o) (m2 : ∀ b ∈ HL, ∃ o, h0.get? b = some o) : IsL (hideAll (hideAll h Mu) HL) v ns :=
  let ⟨a, vs, e, f, l, i⟩ := x
  ⟨a, vs, e, (l.at fun _ ho => hideAll_get _ (hideAll_get _ ho fun q => let ⟨_, e2⟩ := m a q; nomatch f.symm.trans e2) fun q => let ⟨_, e2⟩ := m2 a q; nomatch f.symm.trans e2), i⟩

def freshG (pre known : List Int) : List (List Int) := pre.flatMap fun one => (known.filter fun other => decide (other ≤ one)).map fun other => listedI (strokeI one other)
theorem freshG_len (pre known : List Int) : (freshG pre known).length ≤ pre.length * known.length := by
  unfold freshG
  rw [List.length_flatMap]
  induction pre with
  | nil => simp
  | cons a r ih =>
    simp only [List.map_cons, List.sum_cons, List.length_cons, List.length_map] at ih ⊢
    have := List.length_filter_le (fun other => decide (other ≤ a)) known
    rw [Nat.succ_mul]; omega
theorem freshG_snoc (pre known : List Int) (one : Int) : freshG (pre ++ [one]) known = freshG pre known ++ (known.filter fun other => decide (other ≤ one)).map fun other => listedI (strokeI one other) := by
  unfold freshG; rw [List.flatMap_append]; simp

theorem ev_tests_nil {prog : Program} {w : World} {A : Around} {h : Heap} {env : Env} {post : Bool → Heap → Prop} (q : post true h) : EvS (model prog w) A (testsOf [] env) h post := EvS.pure q
theorem ev_tests_one {prog : Program} {w : World} {A : Around} {h : Heap} {env : Env} {c : Expr} {post : Bool → Heap → Prop} (q : EvS (model prog w) A (PySem.isTrue c env (eval c env)) h post) : EvS (model prog w) A (testsOf [c] env) h post :=
  fun s Q E e k => wpAny_tests_one (q s Q E e k)

theorem ints_at {vs : List Value} {ns : List Int} (hI : IntsAre vs ns) {i : Nat} {v : Value} (e : vs[i]? = some v) : ∃ a t, ns[i]? = some a ∧ v = .int a t := by
  have hlt : i < vs.length := (List.getElem?_eq_some_iff.mp e).1
  have hlt2 : i < ns.length := by rw [← hI.length]; exact hlt
  obtain ⟨t, ht⟩ := hI.get i ns[i] (by simp [hlt2])
  rw [e] at ht
  exact ⟨ns[i], t, by simp [hlt2], Option.some.inj ht⟩
theorem paired_append {β γ : Type} {F : β → γ → Prop} {l₁ l₃ : List β} {l₂ l₄ : List γ} (p : Paired F l₁ l₂) (p' : Paired F l₃ l₄) : Paired F (l₁ ++ l₃) (l₂ ++ l₄) := by
  induction p with
  | nil => exact p'
  | cons a _ ih => exact .cons a ih
theorem take_snoc {α : Type} {l : List α} {i : Nat} {a : α} (e : l[i]? = some a) : l.take (i + 1) = l.take i ++ [a] := by rw [List.take_add_one, e]; rfl

section
variable {prog p : Program} {loose : List Str} {w : World} {mean : ExcName → Option Value} {mg mb : Str → Option Value} {A : Around} {h : Heap} {n : Nat}



end
end Mine

namespace Mine

section
variable {prog : Program} {w : World} {A : Around} {E : Value → Shared → Prop} {s : Shared} {env : Env}

/-- a loop over an iterator of a list that stands already -/
theorem ex_for_it {x : Str} {px pos : Pos} {iter : Expr} {body : List Stmt} {Q : Flow → Shared → Prop}
    (hx : env.kindOf x = some .local) (hp : (env.scope.kind == .class || (env.scope.kind == .module && env.locals != env.globals)) = false)
    (src : EvS (model prog w) A (eval iter env) s.heap fun xv h1 => ∃ (I ax : Addr) (items : Array Value) (Inv : Nat → Heap → Prop), xv = .ref I ∧ A.handled = none ∧ h1.IsListIter I ax 0 ∧ h1.IsList ax items ∧ ax ≠ I ∧
      env.locals ≠ I ∧ env.locals ≠ ax ∧ (∀ i h h', Kp h h' → Inv i h → Inv i h') ∧ Inv 0 (hideAll h1 [I]) ∧ (∀ i h, Inv i h → ∃ m, h.Ns env.locals m) ∧
      (∀ i v m h0 (s' : Shared) (Q' : Flow → Shared → Prop) (E' : Value → Shared → Prop), i < items.size → items[i]? = some v → Inv i h0 → h0.Ns env.locals m → h0.get? I = none → (∀ b o, b ≠ env.locals → h0.get? b = some o → s'.heap.get? b = some o) →
        s'.heap.Ns env.locals (fun z => if z = x then some v else m z) → (∃ tk, s' = { s with heap := s'.heap, toks := tk }) →
        (∀ h' tk, (∀ b o, b ≠ env.locals → s'.heap.get? b = some o → h'.get? b = some o) → Inv (i + 1) (hideAll h' [I]) → Q' .next { s' with heap := h', toks := tk }) →
        wpAny (model prog w) A (execs body env) Q' E' s') ∧
      (∀ h' tk, Inv items.size h' → Q .next { s with heap := h', toks := tk }))
    (hs : ∀ x, foldedSetIterable iter env x = pure x := by intro _; rfl) :
    wpAny (model prog w) A (exec (.For (.Name x px) iter body [] pos) env) Q E s := by
  refine wpAny_For (src.run fun xv h1 t1 k1 p1 => ?_) hs
  obtain ⟨I, ax, items, Inv, rfl, hh, hit, hli, hne, hLI, hLa, Im, I0, hN, turn, fin⟩ := p1
  refine wpAny_pyIter_listiter hit ?_
  have W := Walks.list (prog := prog) (w := w) hh I ax hne items
  have ne1 : ∀ {b : Addr}, b ≠ I → b ∉ [I] := fun h => by simpa using h
  have hfpL : ∀ b ∈ [I, ax], b ≠ env.locals := fun b hb => by
    rcases List.mem_cons.mp hb with rfl | hb
    · exact Ne.symm hLI
    · rw [List.mem_singleton.mp hb]; exact Ne.symm hLa
  refine codeAny_forLoop (fun k s' => ∃ h' tk i, s' = { s with heap := h', toks := tk } ∧ i ≤ items.size ∧ k = items.size + 1 - i ∧ (h'.IsListIter I ax i ∧ h'.IsList ax items) ∧ Inv i (hideAll h' [I])) ?_ (items.size + 1)
    ⟨_, _, 0, rfl, Nat.zero_le _, rfl, ⟨hit, hli⟩, I0⟩
  rintro k s' ⟨h', tk, i, rfl, hi, rfl, st', hJ'⟩
  by_cases hlt : i < items.size
  · refine W.item i _ _ _ hlt st' fun v h₂ tk₂ hPv st₂ hk₂ => ?_
    dsimp only at hk₂ ⊢
    have J₂ : Inv i (hideAll h₂ [I]) := Im _ _ _ (hid_but fun b o m e => hk₂ b o m e) hJ'
    obtain ⟨m, hm⟩ := hN _ _ J₂
    refine wpAny_assign_Name (wpAny_storeName_local hx (hm.keeps (hid_of _ _)) (fun h₃ hn₃ hs₃ => ?_) hp)
    dsimp only
    have st₃ := W.frame _ _ h₃ st₂ fun b hb o e => hs₃.extBut b o (hfpL b hb) e
    refine turn i v m (hideAll h₂ [I]) _ _ _ hlt hPv J₂ hm (hideAll_none _ List.mem_cons_self) (fun b o hb e => hs₃.extBut b o hb (of_hideAll _ e)) hn₃ ⟨_, rfl⟩ (fun h₄ tk₄ k₄ J₄ => ?_)
    exact ⟨items.size + 1 - (i + 1), by omega, h₄, tk₄, i + 1, rfl, hlt, rfl, W.frame _ _ _ st₃ fun b hb o e => k₄ b o (hfpL b hb) e, J₄⟩
  · obtain rfl : i = items.size := Nat.le_antisymm hi (Nat.not_lt.mp hlt)
    refine W.done _ _ _ st' fun h₂ tk₂ hk₂ => ?_
    dsimp only at hk₂ ⊢
    exact wpAny_execs_nil (fin h₂ tk₂ (Im _ _ _ ((hid_but fun b o m e => hk₂ b o m e).trans (hid_of _ _)) hJ'))

theorem ev_iter_list {h : Heap} {l : Addr} {items : Array Value} {post : Value → Heap → Prop} (hl : h.IsList l items)
    (q : ∀ I h', Kp h h' → h.get? I = none → h'.IsListIter I l 0 → post (.ref I) h') : EvS (model prog w) A (call (.builtin "iter") [.ref l]) h post := by
  intro s Q E e k
  subst e
  refine call_function_entry (by decide +kernel) (by decide +kernel) kdk_entry_iter (kdk_args_iter _) ?_
  unfold Builtin.«iter»
  refine wpAny_bind (m := PySem.someArgs "iter" 1 2 _) (wpAny_of_eq (a := [Value.ref l]) (by first | rfl | kernel_rfl!) ?_)
  show wpAny _ _ (pyIter (.ref l) >>= _) _ _ _
  refine wpAny_bind (wpAny_pyIter_list hl ?_)
  exact wpAny_pure ⟨_, rfl, k _ _ s.toks (Kp.push _ _) (q _ _ (Kp.push _ _) (none_of_ge (Nat.le_refl _)) ⟨_, Heap.get?_push_size _ rfl, rfl, rfl⟩)⟩

theorem ev_is_int_ref {h : Heap} {a : Int} {t : Tok} {x : Addr} {post : Value → Heap → Prop} (q : post (.bool false) h) : EvS (model prog w) A (compareOp .Is (.int a t) (.ref x)) h post := by
  intro s Q E e k
  subst e
  exact wpAny_is_other rfl (by intro z; cases z) (k _ _ s.toks (Kp.refl _) q)
end

section
variable {prog : Program} {w : World} {K : Frag} {p : Program} {loose : List Str} {mean : ExcName → Option Value} {mg mb : Str → Option Value} {A : Around} {h : Heap} {n : Nat}
  {name qual : Str} {params : Arguments} {body : List Stmt} {scope : Scope} {dV kV doc pm cdv ct oc : Value} {an od : Option Addr} {osl : Array (Option Value)} {f : Addr} {vs : List Value} {binds : List (Str × Value)}

theorem ev_defB {post : Value → Heap → Prop} (c : CC K p loose mean mg mb A h (n + 1))
    (ho : K.lookup f = some ⟨oc, od, .func (fnOf name qual params body scope dV kV doc pm an cdv ct), osl⟩) (hcd : codeIn K cdv qual = true)
    (hbind : ∀ s : Shared, K.In s.heap → BindsTo s (fnOf name qual params body scope dV kV doc pm an cdv ct) ⟨vs, []⟩ binds) (hloc : ∀ y ∈ binds, scope.names.lookup y.1 = some .local)
    (hcell : ∀ x ∈ scope.names, x.2 ≠ .cell)
    (b : ∀ (h₁ : Heap) (s : Shared) (Q : Flow → Shared → Prop) (E : Value → Shared → Prop), s.heap = h₁ → Kp h h₁ → h₁.Ns h.objs.size (fun y => binds.reverse.lookup y) →
      (∀ h₂ m', Kp h h₂ → h₂.Ns h.objs.size m' → CC K p loose mean mg mb (A.deeper (envOf qual scope h.objs.size f cdv)) h₂ n) →
      (∀ v h' tk, Kp h h' → post v h' → Q (.ret v) { s with heap := h', toks := tk }) →
      wpAny (model prog w) (A.deeper (envOf qual scope h.objs.size f cdv)) (execs body (envOf qual scope h.objs.size f cdv)) Q E s)
    (hco : scope.isCoroutine = false := by rfl) (hgen : scope.isGenerator = false := by rfl) (hk : scope.kind = .function := by rfl) :
    EvS (model prog w) A (call (.ref f) vs) h post := by
  intro s Q E e k
  subst e
  obtain ⟨env, outer, A₀, base, h₀, L, m, a1, a2, a3, B, F, X, T⟩ := c.ex
  refine wpAny_call (codeAny_call_def (fd := fnOf name qual params body scope dV kV doc pm an cdv ct) (body := body) (binds := binds) (Nat.lt_of_le_of_lt (Nat.le_add_right _ _) c.depth) (c.inK _ _ ho) rfl c.lim (codeRec_of c.inK hcd) rfl
    (hbind s c.inK) hcell hloc (fun h₁ hns hk₁ => ?_) hco hgen hk)
  have B₁ := pushX B F a2 a3
  have ccf : ∀ h₂ m', Kp s.heap h₂ → h₂.Ns s.heap.objs.size m' → CC K p loose mean mg mb (A.deeper (envOf qual scope s.heap.objs.size f cdv)) h₂ n := fun h₂ m' kk hn =>
    ⟨c.handled, by have := c.depth; show A.depth + 1 + n < recursionLimit; omega, by have := c.units; show A.units + 3 + 8 * n + 100 < cLine; omega,
      envOf qual scope s.heap.objs.size f cdv, env :: outer, _, base, s.heap, s.heap.objs.size, m', Around.frames_deeper a1, rfl, hk, ⟨a1, B₁.stays, B₁.frames⟩, ⟨hn, kk, Nat.le_refl _⟩, c.inK, T.keeps F.keep⟩
  exact b h₁ { s with heap := h₁, toks := s.toks + binds.length } _ _ rfl hk₁ hns ccf fun v h' tk k1 p1 => k v h' tk k1 p1
end

section
variable {prog p : Program} {loose : List Str} {w : World} {mean : ExcName → Option Value} {mg mb : Str → Option Value} {A : Around} {h : Heap} {n : Nat}



end
end Mine

namespace Mine

section
variable {prog : Program} {w : World} {A : Around} {h : Heap} {env : Env} {a b : Int} {t u : Tok}

theorem ev_base {value slice : Expr} {o i : Value} {post : Value → Heap → Prop} (q : EvS (model prog w) A (subscriptTail (.Name (PySem.Str.ofString "_") ⟨0, 0, 0, 0⟩) slice o i) h post) :
    EvS (model prog w) A (subscriptTail value slice o i) h post :=
  fun s Q E e k => kba_turn (fun _ => rfl) (q s Q E e k)

theorem ev_part_none {M : Model} {post : Value → Heap → Prop} (q : post .none h) : EvS M A (evalPart none env) h post := EvS.pure q
theorem ev_part_some {M : Model} {e : Expr} {post : Value → Heap → Prop} (q : EvS M A (eval e env) h post) : EvS M A (evalPart (some e) env) h post := q

/-- a slice of a list of ints -/
theorem ev_slice {value : Expr} {lower upper : Option Expr} {sp pos : Pos} {ns out : List Int} {lo hi : Option Int} {post : Value → Heap → Prop}
    (hv : EvS (model prog w) A (eval value env) h fun v h1 => IsL h1 v ns ∧ EvS (model prog w) A (evalPart lower env) h1 fun vl h2 => EvS (model prog w) A (evalPart upper env) h2 fun vu h3 =>
      IsPart vl lo ∧ IsPart vu hi ∧ ∀ h' r, Kp h3 h' → NewL h3 h' r out → post r h')
    (hsz : ns.length ≤ sizeLine) (hout : ∀ vs, IntsAre vs ns → IntsAre (slicePick vs.toArray lo hi none).toList out) :
    EvS (model prog w) A (eval (.Subscript value (.Slice lower upper none sp) pos) env) h post := by
  refine ev_sub ?_
  intro s Q E e k
  refine hv s Q E e fun v h1 t1 k1 p1 => ?_
  obtain ⟨⟨l, vs, rfl, hl, hI⟩, p1⟩ := p1
  refine k _ _ _ k1 ?_
  intro s' Q' E' e' k'
  refine wpAny_Slice (p1 s' _ E' e' fun vl h2 t2 k2 p2 => p2 { s' with heap := h2, toks := t2 } _ E' rfl fun vu h3 t3 k3 p3 => wpAny_evalPart_none ?_)
  obtain ⟨pl, pu, p3⟩ := p3
  refine k' _ _ t3 ((k2.trans k3).trans (Kp.push _ _)) ?_
  refine ev_base ?_
  intro s'' Q'' E'' e'' k''
  obtain ⟨hp, g, d, tk, os⟩ := s''
  cases e''
  have hl3 : h3.IsList l vs.toArray := hl.at fun o e => k3 _ _ (k2 _ _ e)
  have e1 : (slicePick vs.toArray lo hi none) = (slicePick vs.toArray lo hi none).toList.toArray := by simp
  refine slice_listK (s := ⟨h3, g, d, tk, os⟩) hl3 pl pu (k'' _ _ _ (Kp.push _ _) (p3 _ _ ((Kp.push _ _).trans (Kp.push _ _)) ⟨_, (slicePick vs.toArray lo hi none).toList, rfl, none_of_ge (Nat.le_succ _), ⟨{ cls := .type "list", data := .seq (slicePick vs.toArray lo hi none) }, ?_, rfl, 0, ?_⟩, hout _ hI⟩)) rfl (fun _ => rfl)
    (by rw [List.size_toArray, hI.length]; exact hsz)
  · have := Heap.get?_push_size (h3.push { cls := .type "slice", data := .fields #[vl, vu, .none] }) (o := { cls := .type "list", data := .seq (slicePick vs.toArray lo hi none) }) rfl
    rw [Heap.size_push] at this
    exact this
  · rw [← e1]

theorem op_mod (hb : 0 < b) (q : ∀ t, post (.int (a.fmod b) t) h) : EvS (model prog w) A (binaryOp .Mod (.int a t) (.int b u)) h post := by
  intro s Q E e k; subst e; exact mod_int (by omega) (k _ _ _ (Kp.refl _) (q _))

theorem ev_or_nil {M : Model} {post : Bool → Heap → Prop} (q : post false h) : EvS M A (allTrue .Or [] env) h post := EvS.pure q
theorem ev_and_nil {M : Model} {post : Bool → Heap → Prop} (q : post true h) : EvS M A (allTrue .And [] env) h post := EvS.pure q
theorem ev_or {M : Model} {x : Expr} {rest : List Expr} {post : Bool → Heap → Prop} (q : EvS M A (PySem.isTrue x env (eval x env)) h fun b h1 => if b = true then post true h1 else EvS M A (allTrue .Or rest env) h1 post) :
    EvS M A (allTrue .Or (x :: rest) env) h post := by
  show EvS M A (PySem.isTrue x env (eval x env) >>= _) h post
  refine EvS.bind (q.mono fun b h1 k1 p1 => ?_)
  cases b with
  | true => rw [if_pos rfl] at p1; exact EvS.pure p1
  | false => rw [if_neg Bool.false_ne_true] at p1; exact p1
theorem ev_and {M : Model} {x : Expr} {rest : List Expr} {post : Bool → Heap → Prop} (q : EvS M A (PySem.isTrue x env (eval x env)) h fun b h1 => if b = true then EvS M A (allTrue .And rest env) h1 post else post false h1) :
    EvS M A (allTrue .And (x :: rest) env) h post := by
  show EvS M A (PySem.isTrue x env (eval x env) >>= _) h post
  refine EvS.bind (q.mono fun b h1 k1 p1 => ?_)
  cases b with
  | true => rw [if_pos rfl] at p1; exact p1
  | false => rw [if_neg Bool.false_ne_true] at p1; exact EvS.pure p1
theorem ev_boolop {M : Model} {op : BoolOp} {vals : List Expr} {pos : Pos} {whole : Sem Value} {post : Bool → Heap → Prop} (q : EvS M A (allTrue op vals env) h post) :
    EvS M A (PySem.isTrue (.BoolOp op vals pos) env whole) h post := q

theorem ev_ne_lists {v v' : Value} {ns ns' : List Int} {post : Value → Heap → Prop} (hu : A.units + 100 < cLine) (a : IsL h v ns) (b : IsL h v' ns') (q : post (.bool (!decide (ns = ns'))) h) :
    EvS (model prog w) A (compareOp .NotEq v v') h post := by
  intro s Q E e k
  subst e
  obtain ⟨_, ra⟩ := isL_rd a
  obtain ⟨_, rb⟩ := isL_rd b
  refine SeqAt.compareNe_reads ra rb (encL.lay _) (encL.lay _) ?_ (k _ _ s.toks (Kp.refl _) (by rw [encL.eq]; exact q))
  have := encL.dep ns
  have : min (encR ns).depth (encR ns').depth ≤ (encR ns).depth := Nat.min_le_left _ _
  omega
theorem ev_eq_lists {v v' : Value} {ns ns' : List Int} {post : Value → Heap → Prop} (hu : A.units + 100 < cLine) (a : IsL h v ns) (b : IsL h v' ns') (q : post (.bool (decide (ns = ns'))) h) :
    EvS (model prog w) A (compareOp .Eq v v') h post := by
  intro s Q E e k
  subst e
  obtain ⟨_, ra⟩ := isL_rd a
  obtain ⟨_, rb⟩ := isL_rd b
  refine SeqAt.compareEq_reads ra rb (encL.lay _) (encL.lay _) ?_ (k _ _ s.toks (Kp.refl _) (by rw [encL.eq]; exact q))
  have := encL.dep ns
  have : min (encR ns).depth (encR ns').depth ≤ (encR ns).depth := Nat.min_le_left _ _
  omega
theorem isL_paired {l : Addr} {ns : List Int} (x : IsL h (.ref l) ns) : ∃ vs, h.IsList l vs.toArray ∧ Paired (fun v a => Rd h v (PyData.int a)) vs ns := by
  obtain ⟨a, vs, e, l, i⟩ := x
  cases e
  refine ⟨vs, l, ?_⟩
  clear l
  induction i with
  | nil => exact .nil
  | cons n t _ ih => exact .cons ⟨_, .int n t⟩ ih
theorem ev_in_ints {v : Value} {ns : List Int} {post : Value → Heap → Prop} (hu : A.units + 100 < cLine) (x : IsL h v ns) (q : post (.bool (ns.any (fun y => decide (y = a)))) h) :
    EvS (model prog w) A (compareOp .In (.int a t) v) h post := by
  obtain ⟨l, vs, rfl, _⟩ := id x
  obtain ⟨vs, hl, hp⟩ := isL_paired x
  exact ev_in encI hu hl hp ⟨_, .int a t⟩ q
theorem ev_notin_ints {v : Value} {ns : List Int} {post : Value → Heap → Prop} (hu : A.units + 100 < cLine) (x : IsL h v ns) (q : post (.bool (!ns.any (fun y => decide (y = a)))) h) :
    EvS (model prog w) A (compareOp .NotIn (.int a t) v) h post := by
  obtain ⟨l, vs, rfl, _⟩ := id x
  obtain ⟨vs, hl, hp⟩ := isL_paired x
  exact ev_notin encI hu hl hp ⟨_, .int a t⟩ q
end
end Mine

namespace Mine

/-- pairs of places at which both drawn tables are alike -/
def sameAt (drawn : List Int) (j k : Nat) : Bool := decide (drawn.filter (fun t => decide (bitI t j ≠ bitI t k)) = [])
def alikeG (drawn : List Int) (l : List Nat) : List (Nat × Nat) := l.flatMap fun j => ((List.range j).filter (sameAt drawn j)).map fun k => (j, k)
def parted (al : List (Nat × Nat)) (t : Int) : List (Nat × Nat) := al.filter fun p => decide (bitI t p.1 ≠ bitI t p.2)
def dueG (al : List (Nat × Nat)) (l : List Nat) : List Int := (l.filter fun (t : Nat) => decide (parted al (t : Int) = [])).map fun (t : Nat) => (t : Int)

noncomputable def memM (a : Nat) (l : List Nat) : Bool := @List.rec Nat (fun _ => Bool) false (fun y _ ih => bif Nat.beq y a then true else ih) l
noncomputable def ddM (l : List Nat) : List Nat → List Nat := @List.rec Nat (fun _ => List Nat → List Nat) (fun acc => acc) (fun t _ ih acc => bif memM t acc then ih acc else ih (acc ++ [t])) l
def strokeM (a b : Nat) : Nat := 15 - Nat.land a b
noncomputable def rowM (one : Nat) (l : List Nat) (rest : List Nat) : List Nat := @List.rec Nat (fun _ => List Nat) rest (fun other _ ih => bif Nat.ble other one then strokeM one other :: ih else ih) l
noncomputable def freshM (known : List Nat) (l : List Nat) : List Nat := @List.rec Nat (fun _ => List Nat) [] (fun one _ ih => rowM one known ih) l
noncomputable def insM (a : Nat) (l : List Nat) : List Nat := @List.rec Nat (fun _ => List Nat) [a] (fun b r ih => bif Nat.ble a b then a :: b :: r else b :: ih) l
noncomputable def sortM (l : List Nat) : List Nat := @List.rec Nat (fun _ => List Nat) [] (fun a _ ih => insM a ih) l
noncomputable def runM (n : Nat) : List Nat → Option (List Nat) := @Nat.rec (fun _ => List Nat → Option (List Nat)) (fun _ => none)
  (fun _ ih known => (fun next => bif Nat.beq next.length known.length then some (sortM known) else bif Nat.ble next.length 20 then ih next else none) (ddM (known ++ freshM known known) [])) n
noncomputable def eqM (l : List Nat) : List Nat → Bool := @List.rec Nat (fun _ => List Nat → Bool) (fun m => m.isEmpty) (fun a _ ih m => match m with | [] => false | b :: s => bif Nat.beq a b then ih s else false) l
def bitM (t k : Nat) : Nat := Nat.land (Nat.shiftRight t k) 1
def alikeM (x y : Nat) : List (Nat × Nat) := (List.range 4).flatMap fun j => ((List.range j).filter fun k => Nat.beq (bitM x j) (bitM x k) && Nat.beq (bitM y j) (bitM y k)).map fun k => (j, k)
def dueM (al : List (Nat × Nat)) : List Nat := (List.range 16).filter fun t => al.all fun p => Nat.beq (bitM t p.1) (bitM t p.2)
noncomputable def checkM (x y : Nat) : Bool :=
  match runM 8 (ddM [x, y] []) with
  | none => false
  | some first => eqM first (dueM (alikeM x y))

abbrev E (t : Nat) : Int := (t : Int)
theorem lt16 {P : Nat → Prop} (h : ∀ t : _root_.Fin 16, P t.val) {t : Nat} (ht : t < 16) : P t := h ⟨t, ht⟩
set_option maxRecDepth 100000 in
theorem stroke_M {a b : Nat} (ha : a < 16) (hb : b < 16) : strokeI (a : Int) (b : Int) = (strokeM a b : Nat) :=
  lt16 (P := fun a => ∀ b : _root_.Fin 16, strokeI (a : Int) (b.val : Int) = (strokeM a b.val : Nat)) (by decide +kernel) ha ⟨b, hb⟩
theorem bit_M {t k : Nat} (ht : t < 16) (hk : k < 4) : bitI (t : Int) (k : Int) = (bitM t k : Nat) :=
  lt16 (P := fun t => ∀ k : _root_.Fin 4, bitI (t : Int) (k.val : Int) = (bitM t k.val : Nat)) (by decide +kernel) ht ⟨k, hk⟩
theorem listed_ok {t : Nat} (ht : t < 16) : okR (listedI (t : Int)) = true := lt16 (P := fun t => okR (listedI (t : Int)) = true) (by decide +kernel) ht
theorem listed_val {t : Nat} (ht : t < 16) : valR (listedI (t : Int)) = (t : Int) := lt16 (P := fun t => valR (listedI (t : Int)) = (t : Int)) (by decide +kernel) ht
theorem listed_inj {a b : Nat} (ha : a < 16) (hb : b < 16) (e : listedI (a : Int) = listedI (b : Int)) : a = b := by
  have := congrArg valR e
  rw [listed_val ha, listed_val hb] at this
  omega

theorem memM_eq (a : Nat) : ∀ l : List Nat, memM a l = l.any fun y => decide (y = a)
  | [] => rfl
  | y :: r => by
    show (bif Nat.beq y a then true else memM a r) = _
    rw [List.any_cons, memM_eq a r]
    cases h : Nat.beq y a with
    | true => have := Nat.eq_of_beq_eq_true h; subst this; simp
    | false => have : y ≠ a := Nat.ne_of_beq_eq_false h
               simp [this]
theorem ddM_eq {α : Type} [DecidableEq α] (g : Nat → α) (inj : ∀ a b, a < 16 → b < 16 → g a = g b → a = b) : ∀ (l acc : List Nat), (∀ t ∈ l, t < 16) → (∀ t ∈ acc, t < 16) →
    (l.map g).foldl ddStep (acc.map g) = (ddM l acc).map g
  | [], _, _, _ => rfl
  | t :: r, acc, hl, ha => by
    have ht := hl t List.mem_cons_self
    have hr : ∀ u ∈ r, u < 16 := fun u hu => hl u (List.mem_cons_of_mem _ hu)
    have e : (acc.map g).any (fun y => decide (y = g t)) = memM t acc := by
      rw [memM_eq, List.any_map]
      rw [Bool.eq_iff_iff, List.any_eq_true, List.any_eq_true]
      constructor
      · rintro ⟨u, hu, h⟩; exact ⟨u, hu, decide_eq_true (inj u t (ha u hu) ht (of_decide_eq_true h))⟩
      · rintro ⟨u, hu, h⟩; exact ⟨u, hu, decide_eq_true (congrArg g (of_decide_eq_true h))⟩
    show (r.map g).foldl ddStep (ddStep (acc.map g) (g t)) = (bif memM t acc then ddM r acc else ddM r (acc ++ [t])).map g
    unfold ddStep
    rw [e]
    cases memM t acc with
    | true => rw [if_pos rfl]; exact ddM_eq g inj r acc hr ha
    | false =>
      rw [if_neg Bool.false_ne_true, show acc.map g ++ [g t] = (acc ++ [t]).map g by simp]
      exact ddM_eq g inj r (acc ++ [t]) hr fun u hu => by
        rcases List.mem_append.mp hu with h | h
        · exact ha u h
        · rw [List.mem_singleton.mp h]; exact ht
theorem ddM_lt : ∀ (l acc : List Nat), (∀ t ∈ l, t < 16) → (∀ t ∈ acc, t < 16) → ∀ t ∈ ddM l acc, t < 16
  | [], _, _, ha => ha
  | t :: r, acc, hl, ha => by
    have hr : ∀ u ∈ r, u < 16 := fun u hu => hl u (List.mem_cons_of_mem _ hu)
    show ∀ u ∈ (bif memM t acc then ddM r acc else ddM r (acc ++ [t])), u < 16
    cases memM t acc with
    | true => exact ddM_lt r acc hr ha
    | false =>
      refine ddM_lt r (acc ++ [t]) hr fun u hu => ?_
      rcases List.mem_append.mp hu with h | h
      · exact ha u h
      · rw [List.mem_singleton.mp h]; exact hl t List.mem_cons_self
theorem rowM_eq (one : Nat) (rest : List Nat) : ∀ l : List Nat, rowM one l rest = (l.filter fun other => Nat.ble other one).map (strokeM one) ++ rest
  | [] => rfl
  | o :: r => by
    show (bif Nat.ble o one then strokeM one o :: rowM one r rest else rowM one r rest) = _
    rw [rowM_eq one rest r, List.filter_cons]
    cases Nat.ble o one <;> simp
theorem freshM_lt (known : List Nat) : ∀ l : List Nat, ∀ t ∈ freshM known l, t < 16
  | [], _, h => nomatch h
  | o :: r, t, h => by
    replace h : t ∈ rowM o known (freshM known r) := h
    rw [rowM_eq] at h
    rcases List.mem_append.mp h with h | h
    · obtain ⟨u, _, rfl⟩ := List.mem_map.mp h; unfold strokeM; omega
    · exact freshM_lt known r t h
theorem freshM_eq (known : List Nat) (hk : ∀ t ∈ known, t < 16) : ∀ l : List Nat, (∀ t ∈ l, t < 16) → freshG (l.map E) (known.map E) = (freshM known l).map fun (t : Nat) => listedI (t : Int)
  | [], _ => rfl
  | o :: r, hl => by
    show freshG ((o : Int) :: r.map E) (known.map E) = (rowM o known (freshM known r)).map _
    rw [rowM_eq, List.map_append, ← freshM_eq known hk r fun t ht => hl t (List.mem_cons_of_mem _ ht)]
    unfold freshG
    rw [List.flatMap_cons]
    congr 1
    rw [List.filter_map, List.map_map, List.map_map]
    have ef : known.filter ((fun other : Int => decide (other ≤ (o : Int))) ∘ E) = known.filter fun other => Nat.ble other o := List.filter_congr fun u _ => by
      show decide ((u : Int) ≤ (o : Int)) = Nat.ble u o
      rw [Bool.eq_iff_iff, decide_eq_true_iff, Nat.ble_eq]; omega
    rw [ef]
    refine List.map_congr_left fun u hu => ?_
    show listedI (strokeI (o : Int) (u : Int)) = listedI ((strokeM o u : Nat) : Int)
    rw [stroke_M (hl o List.mem_cons_self) (hk u (List.mem_filter.mp hu).1)]
theorem insM_eq (a : Nat) : ∀ l : List Nat, insI (a : Int) (l.map E) = (insM a l).map E
  | [] => rfl
  | b :: r => by
    show (if (a : Int) ≤ (b : Int) then _ else (b : Int) :: insI (a : Int) (r.map E)) = (bif Nat.ble a b then a :: b :: r else b :: insM a r).map E
    rw [insM_eq a r]
    cases h : Nat.ble a b with
    | true => rw [if_pos (by have := Nat.le_of_ble_eq_true h; omega)]; rfl
    | false => rw [if_neg (by intro q; have : Nat.ble a b = true := Nat.ble_eq.mpr (by omega); rw [h] at this; cases this)]; rfl
theorem sortM_eq : ∀ l : List Nat, sortI (l.map E) = (sortM l).map E
  | [] => rfl
  | a :: r => by
    show insI (a : Int) (sortI (r.map E)) = (insM a (sortM r)).map E
    rw [sortM_eq r, insM_eq]
theorem map_back (l : List Nat) (hl : ∀ t ∈ l, t < 16) : (l.map fun t : Nat => listedI (t : Int)).map valR = l.map E := by
  rw [List.map_map]; exact List.map_congr_left fun t ht => listed_val (hl t ht)
theorem runM_eq : ∀ (n : Nat) (known : List Nat), (∀ t ∈ known, t < 16) → known.length ≤ 20 → ∀ res, runM n known = some res → runF n (known.map fun t : Nat => listedI (t : Int)) (known.map E) = some (res.map E)
  | 0, _, _, _, _, h => nomatch h
  | n + 1, known, hk, hlen, res, h => by
    replace h : (bif Nat.beq (ddM (known ++ freshM known known) []).length known.length then some (sortM known) else bif Nat.ble (ddM (known ++ freshM known known) []).length 20 then runM n (ddM (known ++ freshM known known) []) else none) = some res := h
    have hall : ∀ t ∈ known ++ freshM known known, t < 16 := fun t ht => by
      rcases List.mem_append.mp ht with q | q
      · exact hk t q
      · exact freshM_lt _ _ t q
    have hdd : dd ((known.map fun t : Nat => listedI (t : Int)) ++ freshF (known.map E)) = (ddM (known ++ freshM known known) []).map fun t : Nat => listedI (t : Int) := by
      rw [show freshF (known.map E) = freshG (known.map E) (known.map E) from rfl, freshM_eq known hk known hk, ← List.map_append]
      exact ddM_eq (fun t : Nat => listedI (t : Int)) (fun a b ha hb e => listed_inj ha hb e) _ [] hall (fun _ h => nomatch h)
    unfold runF
    rw [hdd, if_pos ⟨by simpa using hlen, by simpa using hlen⟩]
    have hlt := ddM_lt (known ++ freshM known known) [] hall (fun _ h => nomatch h)
    generalize ddM (known ++ freshM known known) [] = next at h hlt ⊢
    cases h1 : Nat.beq next.length known.length with
    | true =>
      rw [h1] at h
      have := Nat.eq_of_beq_eq_true h1
      rw [if_pos (by simpa using this), sortM_eq]
      cases h; rfl
    | false =>
      rw [h1] at h
      rw [if_neg (by simpa using Nat.ne_of_beq_eq_false h1)]
      cases h2 : Nat.ble next.length 20 with
      | false => rw [h2] at h; cases h
      | true =>
        rw [h2] at h
        have hl20 := Nat.le_of_ble_eq_true h2
        have hok : (next.map fun t : Nat => listedI (t : Int)).all okR = true := by
          rw [List.all_map, List.all_eq_true]
          exact fun t ht => listed_ok (hlt t ht)
        rw [if_pos ⟨hok, by simpa using hl20⟩, map_back next hlt]
        exact runM_eq n next hlt hl20 res h
theorem eqM_eq : ∀ l m : List Nat, eqM l m = true → l = m
  | [], [], _ => rfl
  | [], _ :: _, h => nomatch h
  | _ :: _, [], h => nomatch h
  | a :: l, b :: m, h => by
    replace h : (bif Nat.beq a b then eqM l m else false) = true := h
    cases h1 : Nat.beq a b with
    | false => rw [h1] at h; cases h
    | true => rw [h1] at h; rw [Nat.eq_of_beq_eq_true h1, eqM_eq l m h]

theorem castI (a b : Nat) : ((a : Int) = (b : Int)) = (a = b) := propext (by omega)
theorem same_M {x y j k : Nat} (hx : x < 16) (hy : y < 16) (hj : j < 4) (hk : k < 4) : sameAt [(x : Int), (y : Int)] j k = (Nat.beq (bitM x j) (bitM x k) && Nat.beq (bitM y j) (bitM y k)) := by
  unfold sameAt
  simp only [List.filter_cons, List.filter_nil, bit_M hx hj, bit_M hx hk, bit_M hy hj, bit_M hy hk]
  have e : ∀ a b : Nat, Nat.beq a b = decide (a = b) := fun a b => by
    rw [Bool.eq_iff_iff, decide_eq_true_iff, Nat.beq_eq]
  rw [e, e]
  by_cases h1 : bitM x j = bitM x k <;> by_cases h2 : bitM y j = bitM y k <;> simp [castI, h1, h2]
theorem alike_M {x y : Nat} (hx : x < 16) (hy : y < 16) : alikeG [(x : Int), (y : Int)] (List.range 4) = alikeM x y := by
  unfold alikeG alikeM
  rw [List.flatMap_def, List.flatMap_def]
  congr 1
  refine List.map_congr_left fun j hj => ?_
  congr 1
  refine List.filter_congr fun k hk => ?_
  have h1 := List.mem_range.mp hj
  have h2 := List.mem_range.mp hk
  exact same_M hx hy h1 (by omega)
theorem alike_lt {x y : Nat} {p : Nat × Nat} (h : p ∈ alikeM x y) : p.1 < 4 ∧ p.2 < 4 := by
  unfold alikeM at h
  obtain ⟨j, hj, h⟩ := List.mem_flatMap.mp h
  obtain ⟨k, hk, rfl⟩ := List.mem_map.mp h
  have h1 := List.mem_range.mp hj
  have h2 := List.mem_range.mp (List.mem_filter.mp hk).1
  exact ⟨h1, by show k < 4; omega⟩
theorem due_M (al : List (Nat × Nat)) (hal : ∀ p ∈ al, p.1 < 4 ∧ p.2 < 4) : dueG al (List.range 16) = (dueM al).map E := by
  unfold dueG dueM
  congr 1
  refine List.filter_congr fun t ht => ?_
  have ht := List.mem_range.mp ht
  rw [Bool.eq_iff_iff, decide_eq_true_iff, List.all_eq_true]
  unfold parted
  rw [List.filter_eq_nil_iff]
  constructor
  · intro h p hp
    have := h p hp
    rw [bit_M ht (hal p hp).1, bit_M ht (hal p hp).2] at this
    rw [Nat.beq_eq]
    simpa [castI] using this
  · intro h p hp
    have := h p hp
    rw [bit_M ht (hal p hp).1, bit_M ht (hal p hp).2]
    rw [Nat.beq_eq] at this
    simpa [castI] using this
/-- what is in the plain set: the places hold alike -/
theorem dueM_mem {al : List (Nat × Nat)} {t : Nat} : t ∈ dueM al ↔ t < 16 ∧ ∀ p ∈ al, bitM t p.1 = bitM t p.2 := by
  unfold dueM
  rw [List.mem_filter, List.mem_range, List.all_eq_true]
  exact and_congr_right fun _ => forall_congr' fun p => imp_congr_right fun _ => iff_of_eq Nat.beq_eq
theorem dueM_len (al : List (Nat × Nat)) : (dueM al).length ≤ 16 := by
  have := List.length_filter_le (fun t => al.all fun p => Nat.beq (bitM t p.1) (bitM t p.2)) (List.range 16)
  simpa [dueM] using this

theorem bit_op (f : Nat → Nat → Nat) (hf : ∀ a b : _root_.Fin 16, f a.val b.val < 16 ∧ ∀ j : _root_.Fin 4, bitM (f a.val b.val) j.val = f (bitM a.val j.val) (bitM b.val j.val) % 2) {al : List (Nat × Nat)} (hal : ∀ p ∈ al, p.1 < 4 ∧ p.2 < 4) {a b : Nat} (ha : a ∈ dueM al) (hb : b ∈ dueM al) : f a b ∈ dueM al := by
  obtain ⟨ha, ha'⟩ := dueM_mem.mp ha
  obtain ⟨hb, hb'⟩ := dueM_mem.mp hb
  have h := hf ⟨a, ha⟩ ⟨b, hb⟩
  refine dueM_mem.mpr ⟨h.1, fun p hp => ?_⟩
  have h1 := h.2 ⟨p.1, (hal p hp).1⟩
  have h2 := h.2 ⟨p.2, (hal p hp).2⟩
  dsimp only at h1 h2
  rw [h1, h2, ha' p hp, hb' p hp]
theorem due_and {al : List (Nat × Nat)} (hal : ∀ p ∈ al, p.1 < 4 ∧ p.2 < 4) {a b : Nat} (ha : a ∈ dueM al) (hb : b ∈ dueM al) : Nat.land a b ∈ dueM al := bit_op Nat.land (by decide +kernel) hal ha hb
theorem due_or {al : List (Nat × Nat)} (hal : ∀ p ∈ al, p.1 < 4 ∧ p.2 < 4) {a b : Nat} (ha : a ∈ dueM al) (hb : b ∈ dueM al) : Nat.lor a b ∈ dueM al := bit_op Nat.lor (by decide +kernel) hal ha hb
theorem due_xor {al : List (Nat × Nat)} (hal : ∀ p ∈ al, p.1 < 4 ∧ p.2 < 4) {a b : Nat} (ha : a ∈ dueM al) (hb : b ∈ dueM al) : Nat.xor a b ∈ dueM al := bit_op Nat.xor (by decide +kernel) hal ha hb
theorem due_inv {al : List (Nat × Nat)} (hal : ∀ p ∈ al, p.1 < 4 ∧ p.2 < 4) {a : Nat} (ha : a ∈ dueM al) : 15 - a ∈ dueM al := by
  obtain ⟨ha, ha'⟩ := dueM_mem.mp ha
  have h : ∀ j, j < 4 → bitM (15 - a) j = 1 - bitM a j := fun j hj => lt16 (P := fun a => ∀ j : _root_.Fin 4, bitM (15 - a) j.val = 1 - bitM a j.val) (by decide +kernel) ha ⟨j, hj⟩
  exact dueM_mem.mpr ⟨by omega, fun p hp => by rw [h _ (hal p hp).1, h _ (hal p hp).2, ha' p hp]⟩
theorem due_stroke {al : List (Nat × Nat)} (hal : ∀ p ∈ al, p.1 < 4 ∧ p.2 < 4) {a b : Nat} (ha : a ∈ dueM al) (hb : b ∈ dueM al) : strokeM a b ∈ dueM al := due_inv hal (due_and hal ha hb)
theorem due_zero (al : List (Nat × Nat)) (hal : ∀ p ∈ al, p.1 < 4 ∧ p.2 < 4) : 0 ∈ dueM al := by
  have h : ∀ j, j < 4 → bitM 0 j = 0 := by decide +kernel
  exact dueM_mem.mpr ⟨by omega, fun p hp => by rw [h _ (hal p hp).1, h _ (hal p hp).2]⟩
end Mine

namespace Mine
set_option maxRecDepth 100000 in
theorem chk0 : ∀ y : _root_.Fin 16, checkM 0 y.val = true := by decide +kernel
set_option maxRecDepth 100000 in
theorem chk1 : ∀ y : _root_.Fin 16, checkM 1 y.val = true := by decide +kernel
set_option maxRecDepth 100000 in
theorem chk2 : ∀ y : _root_.Fin 16, checkM 2 y.val = true := by decide +kernel
set_option maxRecDepth 100000 in
theorem chk3 : ∀ y : _root_.Fin 16, checkM 3 y.val = true := by decide +kernel
set_option maxRecDepth 100000 in
theorem chk4 : ∀ y : _root_.Fin 16, checkM 4 y.val = true := by decide +kernel
set_option maxRecDepth 100000 in
theorem chk5 : ∀ y : _root_.Fin 16, checkM 5 y.val = true := by decide +kernel
set_option maxRecDepth 100000 in
theorem chk6 : ∀ y : _root_.Fin 16, checkM 6 y.val = true := by decide +kernel
set_option maxRecDepth 100000 in
theorem chk7 : ∀ y : _root_.Fin 16, checkM 7 y.val = true := by decide +kernel
set_option maxRecDepth 100000 in
theorem chk8 : ∀ y : _root_.Fin 16, checkM 8 y.val = true := by decide +kernel
set_option maxRecDepth 100000 in
theorem chk9 : ∀ y : _root_.Fin 16, checkM 9 y.val = true := by decide +kernel
set_option maxRecDepth 100000 in
theorem chk10 : ∀ y : _root_.Fin 16, checkM 10 y.val = true := by decide +kernel
set_option maxRecDepth 100000 in
theorem chk11 : ∀ y : _root_.Fin 16, checkM 11 y.val = true := by decide +kernel
set_option maxRecDepth 100000 in
theorem chk12 : ∀ y : _root_.Fin 16, checkM 12 y.val = true := by decide +kernel
set_option maxRecDepth 100000 in
theorem chk13 : ∀ y : _root_.Fin 16, checkM 13 y.val = true := by decide +kernel
set_option maxRecDepth 100000 in
theorem chk14 : ∀ y : _root_.Fin 16, checkM 14 y.val = true := by decide +kernel
set_option maxRecDepth 100000 in
theorem chk15 : ∀ y : _root_.Fin 16, checkM 15 y.val = true := by decide +kernel
theorem check_M {x y : Nat} (hx : x < 16) (hy : y < 16) : checkM x y = true :=
  match x, hx with
  | 0, _ => chk0 ⟨y, hy⟩
  | 1, _ => chk1 ⟨y, hy⟩
  | 2, _ => chk2 ⟨y, hy⟩
  | 3, _ => chk3 ⟨y, hy⟩
  | 4, _ => chk4 ⟨y, hy⟩
  | 5, _ => chk5 ⟨y, hy⟩
  | 6, _ => chk6 ⟨y, hy⟩
  | 7, _ => chk7 ⟨y, hy⟩
  | 8, _ => chk8 ⟨y, hy⟩
  | 9, _ => chk9 ⟨y, hy⟩
  | 10, _ => chk10 ⟨y, hy⟩
  | 11, _ => chk11 ⟨y, hy⟩
  | 12, _ => chk12 ⟨y, hy⟩
  | 13, _ => chk13 ⟨y, hy⟩
  | 14, _ => chk14 ⟨y, hy⟩
  | 15, _ => chk15 ⟨y, hy⟩
  | _ + 16, h => absurd h (by omega)
theorem run_M {x y : Nat} (hx : x < 16) (hy : y < 16) : runM 8 (ddM [x, y] []) = some (dueM (alikeM x y)) := by
  have h := check_M hx hy
  unfold checkM at h
  cases e : runM 8 (ddM [x, y] []) with
  | none => rw [e] at h; cases h
  | some first => rw [e] at h; rw [eqM_eq _ _ h]
theorem due_35 : (dueM (alikeM 3 5)).length = 16 := by decide +kernel
theorem dd2_len (x y : Nat) : (ddM [x, y] []).length ≤ 2 := by
  show (bif memM x [] then ddM [y] [] else ddM [y] [x]).length ≤ 2
  show (ddM [y] [x]).length ≤ 2
  show (bif memM y [x] then ddM [] [x] else ddM [] ([x] ++ [y])).length ≤ 2
  cases memM y [x] <;> exact Nat.le_of_ble_eq_true rfl
/-- the closure, as the program reckons it -/
theorem run_F {x y : Nat} (hx : x < 16) (hy : y < 16) : runF 8 ((dd [(x : Int), (y : Int)]).map listedI) (dd [(x : Int), (y : Int)]) = some ((dueM (alikeM x y)).map E) := by
  have hall : ∀ t ∈ [x, y], t < 16 := fun t ht => by
    rcases List.mem_cons.mp ht with rfl | ht
    · exact hx
    · rw [List.mem_singleton.mp ht]; exact hy
  have e : dd [(x : Int), (y : Int)] = (ddM [x, y] []).map E := ddM_eq E (fun a b _ _ h => by unfold E at h; omega) [x, y] [] hall (fun _ h => nomatch h)
  rw [e, List.map_map]
  exact runM_eq 8 _ (ddM_lt [x, y] [] hall fun _ h => nomatch h) (Nat.le_trans (dd2_len x y) (by decide)) _ (run_M hx hy)
end Mine

namespace Mine

section
variable {prog : Program} {w : World} {K : Frag} {p : Program} {loose : List Str} {mean : ExcName → Option Value} {mg mb : Str → Option Value}
  {name qual : Str} {params : Arguments} {body : List Stmt} {scope : Scope} {dV kV doc pm cdv ct oc : Value} {an od : Option Addr} {osl : Array (Option Value)} {f : Addr} {vs : List Value} {binds : List (Str × Value)} {s : Shared} {R : Result → Shared → Prop}

/-- the first call of all -/
theorem top_defC (T : Top p loose mean mg mb s.heap) (X : K.In s.heap)
    (ho : K.lookup f = some ⟨oc, od, .func (fnOf name qual params body scope dV kV doc pm an cdv ct), osl⟩) (hcd : codeIn K cdv qual = true)
    (hbind : bindArgs (fnOf name qual params body scope dV kV doc pm an cdv ct) ⟨vs, []⟩ = pure binds)
    (hkind : (binds.all fun y => scope.names.lookup y.1 == some .local || scope.names.lookup y.1 == some .cell) = true)
    (b : ∀ (s' : Shared) (Q : Flow → Shared → Prop) (E : Value → Shared → Prop), (∃ tk, s' = { s with heap := s'.heap, toks := tk }) → Kp s.heap s'.heap → s'.heap.Ns s.heap.objs.size (bindL (envOfC qual scope s.heap.objs.size f cdv).kindOf binds fun _ => none) →
      (∀ x c, (cellsFrom (s.heap.objs.size + 1) scope.names []).lookup x = some c → s'.heap.IsCell c (bindC (envOfC qual scope s.heap.objs.size f cdv).kindOf binds (fun _ => none) x)) →
      (∀ h₂ m', Kp s.heap h₂ → h₂.Ns s.heap.objs.size m' → CC K p loose mean mg mb (callerA.deeper (envOfC qual scope s.heap.objs.size f cdv)) h₂ 20) →
      (∀ v h' tk, R (.ok (.ret v)) { s with heap := h', toks := tk } → Q (.ret v) { s' with heap := h', toks := tk }) →
      wpAny (model prog w) (callerA.deeper (envOfC qual scope s.heap.objs.size f cdv)) (execs body (envOfC qual scope s.heap.objs.size f cdv)) Q E s')
    (hco : scope.isCoroutine = false := by rfl) (hgen : scope.isGenerator = false := by rfl) (hk : scope.kind = .function := by rfl) :
    codeAny (model prog w) callerA (.call (.ref f) ⟨vs, []⟩) R s := by
  refine codeAny_call_cells (fd := fnOf name qual params body scope dV kV doc pm an cdv ct) (body := body) (binds := binds) (by decide) (X _ _ ho) rfl T.nolimit (codeRec_of X hcd) rfl
    hbind rfl (kindsX hkind _) (fun s₁ Y => ?_) hco hgen hk
  obtain ⟨h₁, tk, rfl, hk₁⟩ := Y.done
  have ccf : ∀ h₂ m', Kp s.heap h₂ → h₂.Ns s.heap.objs.size m' → CC K p loose mean mg mb (callerA.deeper (envOfC qual scope s.heap.objs.size f cdv)) h₂ 20 := fun h₂ m' kk hn =>
    ⟨rfl, by show 1 + claimMargin + 1 + 20 < recursionLimit; decide, by show 4 + 3 + 8 * 20 + 100 < cLine; decide, envOfC qual scope s.heap.objs.size f cdv, [], callerA, s.heap, s.heap, s.heap.objs.size, m', Around.frames_deeper rfl, rfl, hk, below_caller _, ⟨hn, kk, Nat.le_refl _⟩, X, T⟩
  exact b { s with heap := h₁, toks := tk } _ _ ⟨tk, rfl⟩ hk₁ Y.toInCall.ns Y.cell ccf fun v h' tk q => q
end

def drawnF (script : List Int) : List Int := (((script.take 2).map fun n : Int => n.fmod 16) ++ [3, 5]).take 2
theorem fmod16 (n : Int) : ∃ x : Nat, x < 16 ∧ n.fmod 16 = (x : Int) := by
  have h : n.fmod 16 = n % 16 := Int.fmod_eq_emod_of_nonneg n (by decide)
  exact ⟨(n % 16).toNat, by omega, by rw [h]; omega⟩
theorem drawnF_two : ∀ script : List Int, ∃ x y : Nat, x < 16 ∧ y < 16 ∧ drawnF script = [(x : Int), (y : Int)] ∧ (script = [] → x = 3 ∧ y = 5)
  | [] => ⟨3, 5, by decide, by decide, rfl, fun _ => ⟨rfl, rfl⟩⟩
  | [a] => by
    obtain ⟨x, hx, e⟩ := fmod16 a
    exact ⟨x, 3, hx, by decide, by show [a.fmod 16, 3] = _; rw [e]; rfl, fun h => nomatch h⟩
  | a :: b :: r => by
    obtain ⟨x, hx, e⟩ := fmod16 a
    obtain ⟨y, hy, e'⟩ := fmod16 b
    exact ⟨x, y, hx, hy, by show [a.fmod 16, b.fmod 16] = _; rw [e, e'], fun h => nomatch h⟩

theorem neLa (L a : Nat) (h : a ≠ 0) : L ≠ L + a := by omega
theorem neaL (L a : Nat) (h : a ≠ 0) : L + a ≠ L := by omega
theorem neab (L a b : Nat) (h : a ≠ b) : L + a ≠ L + b := by omega
abbrev HLof (L : Addr) : List Addr := [L, L + 1, L + 2, L + 3]

/-- the law's frame: its names, its three cells; what is known of the rest -/
structure LawAt (g h : Heap) (L : Addr) (m : Str → Option Value) (vD vF vA : Option Value) (P : Heap → Prop) : Prop where
  ns : h.Ns L m
  cD : h.IsCell (L + 1) vD
  cF : h.IsCell (L + 2) vF
  cA : h.IsCell (L + 3) vA
  kp : Kp g (hideAll h (HLof L))
  facts : P (hideAll h (HLof L))
theorem cell_there {h : Heap} {c : Addr} {v : Option Value} (x : h.IsCell c v) : ∃ o, h.get? c = some o := let ⟨o, e, _⟩ := x; ⟨o, e⟩
theorem LawAt.mem {g h : Heap} {L : Addr} {m : Str → Option Value} {vD vF vA : Option Value} {P : Heap → Prop} (x : LawAt g h L m vD vF vA P) : ∀ b ∈ HLof L, ∃ o, h.get? b = some o := fun b hb => by
  rcases List.mem_cons.mp hb with rfl | hb
  · exact ns_there x.ns
  rcases List.mem_cons.mp hb with rfl | hb
  · exact cell_there x.cD
  rcases List.mem_cons.mp hb with rfl | hb
  · exact cell_there x.cF
  rw [List.mem_singleton.mp hb]; exact cell_there x.cA
theorem LawAt.up {g h h' : Heap} {L : Addr} {m : Str → Option Value} {vD vF vA : Option Value} {P : Heap → Prop} (x : LawAt g h L m vD vF vA P) (Pm : ∀ h h', Kp h h' → P h → P h') (k : Kp h h') : LawAt g h' L m vD vF vA P :=
  ⟨x.ns.keeps k, x.cD.keeps k, x.cF.keeps k, x.cA.keeps k, x.kp.trans (hid_up k), Pm _ _ (hid_up k) x.facts⟩
theorem LawAt.setL {g h h' : Heap} {L : Addr} {m m' : Str → Option Value} {vD vF vA : Option Value} {P P' : Heap → Prop} (x : LawAt g h L m vD vF vA P) (n : h'.Ns L m') (k : ∀ b o, b ≠ L → h.get? b = some o → h'.get? b = some o) (Pm : ∀ h h', Kp h h' → P' h → P' h') (p : P' (hideAll h (HLof L))) : LawAt g h' L m' vD vF vA P' :=
  have kk : Kp (hideAll h (HLof L)) (hideAll h' (HLof L)) := hid_but fun b o hb e => k b o (fun q => hb (by rw [q]; exact List.mem_cons_self)) e
  ⟨n, isCell_at x.cD fun o e => k _ _ (Nat.succ_ne_self _) e, isCell_at x.cF fun o e => k _ _ (neaL L 2 (by decide)) e, isCell_at x.cA fun o e => k _ _ (neaL L 3 (by decide)) e, x.kp.trans kk, Pm _ _ kk p⟩
theorem LawAt.setD {g h h' : Heap} {L : Addr} {m : Str → Option Value} {vD vF vA : Option Value} {v : Value} {P P' : Heap → Prop} (x : LawAt g h L m vD vF vA P) (n : h'.IsCell (L + 1) (some v)) (k : Heap.SameBut (L + 1) h h') (Pm : ∀ h h', Kp h h' → P' h → P' h') (p : P' (hideAll h (HLof L))) : LawAt g h' L m (some v) vF vA P' :=
  have kk : Kp (hideAll h (HLof L)) (hideAll h' (HLof L)) := hid_but fun b o hb e => k.extBut b o (fun q => hb (by rw [q]; exact List.mem_cons_of_mem _ List.mem_cons_self)) e
  ⟨x.ns.sameBut k (neLa L 1 (by decide)), n, x.cF.sameBut k (neab L 2 1 (by decide)), x.cA.sameBut k (neab L 3 1 (by decide)), x.kp.trans kk, Pm _ _ kk p⟩
theorem LawAt.setF {g h h' : Heap} {L : Addr} {m : Str → Option Value} {vD vF vA : Option Value} {v : Value} {P P' : Heap → Prop} (x : LawAt g h L m vD vF vA P) (n : h'.IsCell (L + 2) (some v)) (k : Heap.SameBut (L + 2) h h') (Pm : ∀ h h', Kp h h' → P' h → P' h') (p : P' (hideAll h (HLof L))) : LawAt g h' L m vD (some v) vA P' :=
  have kk : Kp (hideAll h (HLof L)) (hideAll h' (HLof L)) := hid_but fun b o hb e => k.extBut b o (fun q => hb (by rw [q]; exact List.mem_cons_of_mem _ (List.mem_cons_of_mem _ List.mem_cons_self))) e
  ⟨x.ns.sameBut k (neLa L 2 (by decide)), x.cD.sameBut k (neab L 1 2 (by decide)), n, x.cA.sameBut k (neab L 3 2 (by decide)), x.kp.trans kk, Pm _ _ kk p⟩
theorem LawAt.setA {g h h' : Heap} {L : Addr} {m : Str → Option Value} {vD vF vA : Option Value} {v : Value} {P P' : Heap → Prop} (x : LawAt g h L m vD vF vA P) (n : h'.IsCell (L + 3) (some v)) (k : Heap.SameBut (L + 3) h h') (Pm : ∀ h h', Kp h h' → P' h → P' h') (p : P' (hideAll h (HLof L))) : LawAt g h' L m vD vF (some v) P' :=
  have kk : Kp (hideAll h (HLof L)) (hideAll h' (HLof L)) := hid_but fun b o hb e => k.extBut b o (fun q => hb (by rw [q]; exact List.mem_cons_of_mem _ (List.mem_cons_of_mem _ (List.mem_cons_of_mem _ List.mem_cons_self)))) e
  ⟨x.ns.sameBut k (neLa L 3 (by decide)), x.cD.sameBut k (neab L 1 3 (by decide)), x.cF.sameBut k (neab L 2 3 (by decide)), n, x.kp.trans kk, Pm _ _ kk p⟩

theorem paired_ints {vs : List Value} {ns : List Int} (x : IntsAre vs ns) : Paired (fun v a => ∃ t, v = .int a t) vs ns := by
  induction x with
  | nil => exact .nil
  | cons n t _ ih => exact .cons ⟨t, rfl⟩ ih
theorem ints_paired {vs : List Value} {ns : List Int} (x : Paired (fun v a => ∃ t, v = .int a t) vs ns) : IntsAre vs ns := by
  induction x with
  | nil => exact .nil
  | cons h _ ih => obtain ⟨t, rfl⟩ := h; exact .cons _ t ih
def TupI (h : Heap) (v : Value) (p : Nat × Nat) : Prop := ∃ T tj tk, v = .ref T ∧ h.IsTuple T #[.int (p.1 : Int) tj, .int (p.2 : Int) tk]
theorem isTuple_at {h h' : Heap} {a : Addr} {xs : Array Value} (x : h.IsTuple a xs) (k : ∀ o, h.get? a = some o → h'.get? a = some o) : h'.IsTuple a xs := let ⟨o, e, r⟩ := x; ⟨o, k o e, r⟩
theorem TupI.up {h h' : Heap} {v : Value} {p : Nat × Nat} (x : TupI h v p) (k : Kp h h') : TupI h' v p := let ⟨T, tj, tk, e, z⟩ := x; ⟨T, tj, tk, e, isTuple_at z fun o e => k _ _ e⟩
def PairsL (h : Heap) (v : Value) (al : List (Nat × Nat)) : Prop := ∃ D ys, v = .ref D ∧ h.IsList D ys.toArray ∧ Paired (TupI h) ys al
theorem PairsL.up {h h' : Heap} {v : Value} {al : List (Nat × Nat)} (x : PairsL h v al) (k : Kp h h') : PairsL h' v al :=
  let ⟨D, ys, e, l, p⟩ := x; ⟨D, ys, e, (l.at fun o q => k _ _ q), paired_mono (fun _ _ z => z.up k) p⟩
theorem listed_get (a : Int) {i : Nat} (h : i < 4) : (listedI a).getD i 0 = bitI a (i : Int) := by
  match i, h with
  | 0, _ => rfl
  | 1, _ => rfl
  | 2, _ => rfl
  | 3, _ => rfl

theorem alikeG_snoc (d : List Int) (i : Nat) : alikeG d (List.range (i + 1)) = alikeG d (List.range i) ++ ((List.range i).filter (sameAt d i)).map fun k => (i, k) := by
  unfold alikeG; rw [List.range_succ, List.flatMap_append]; simp
theorem alikeG_len (d : List Int) : ∀ i : Nat, (alikeG d (List.range i)).length ≤ i * i
  | 0 => by simp [alikeG]
  | i + 1 => by
    rw [alikeG_snoc, List.length_append, List.length_map]
    have a1 := alikeG_len d i
    have a2 := List.length_filter_le (sameAt d i) (List.range i)
    rw [List.length_range] at a2
    have : (i + 1) * (i + 1) = i * i + 2 * i + 1 := by rw [Nat.add_mul, Nat.mul_add]; omega
    omega

theorem own_tuple {prog : Program} {w : World} {A : Around} {elts : List Expr} {x1 : Nat} {pos : Pos} : ∀ (I : Addr) (v : Value) (s : Shared) (Q : Unit → Shared → Prop) (E : Value → Shared → Prop), (∃ ob, s.heap.get? I = some ob ∧ (ob.cls = .type "list_iterator" ∨ ob.cls = .type "range_iterator")) →
    (∃ T a b, v = .ref T ∧ s.heap.IsTuple T #[a, b]) → Q () s → wpAny (model prog w) A (letOwnedTupleGo (.Tuple elts x1 pos) (.ref I) v) Q E s := by
  rintro I v s Q E ⟨ob, ho, hc⟩ ⟨T, _, _, rfl, _⟩ q
  unfold letOwnedTupleGo
  refine wpAny_bind (wpAny_load ho ?_)
  have key : ∀ n, n = "list_iterator" ∨ n = "range_iterator" → ob.cls = .type n → wpAny (model prog w) A (match ob.cls, ob.data with
    | .type n, .fields vs =>
      if (["enumerate", "zip", "dict_itemiterator", "dict_reverseitemiterator", "odict_iterator", "itertools.zip_longest", "itertools.pairwise"].contains n && vs[0]? == some (rawInt T)) = true then do
        rule "for.unpacks-the-owned-tuple"
        updateField I 0 .none
      else pure ()
    | _, _ => pure ()) Q E s := fun n hn hc => by
    rw [hc]
    cases ob.data with
    | fields vs =>
      show wpAny _ A (if _ = true then _ else _) Q E s
      rw [if_neg (by
        rw [show (["enumerate", "zip", "dict_itemiterator", "dict_reverseitemiterator", "odict_iterator", "itertools.zip_longest", "itertools.pairwise"].contains n) = false by rcases hn with rfl | rfl <;> decide, Bool.false_and]
        exact Bool.false_ne_true)]
      exact wpAny_pure q
    | _ => exact wpAny_pure q
  rcases hc with hc | hc
  · exact key _ (.inl rfl) hc
  · exact key _ (.inr rfl) hc
theorem tuple_uniq {h : Heap} {a : Addr} {xs ys : Array Value} (x : h.IsTuple a xs) (y : h.IsTuple a ys) : xs = ys := by
  obtain ⟨o, e, _, n, d⟩ := x
  obtain ⟨o', e', _, n', d'⟩ := y
  rw [e] at e'
  cases e'
  rw [d] at d'
  cases d'
  rfl
theorem dueG_len (al : List (Nat × Nat)) (i : Nat) : (dueG al (List.range i)).length ≤ i := by
  unfold dueG
  rw [List.length_map]
  have := List.length_filter_le (fun t : Nat => decide (parted al (t : Int) = [])) (List.range i)
  rwa [List.length_range] at this
theorem dueG_snoc (al : List (Nat × Nat)) (i : Nat) : dueG al (List.range (i + 1)) = dueG al (List.range i) ++ (if parted al (i : Int) = [] then [(i : Int)] else []) := by
  unfold dueG
  rw [List.range_succ, List.filter_append, List.map_append]
  by_cases h : parted al (i : Int) = []
  · rw [if_pos h]; simp [h]
  · rw [if_neg h]; simp [h]

theorem firstF_mem {al : List (Nat × Nat)} {a : Int} (h : a ∈ (dueM al).map Mine.E) : ∃ n, n ∈ dueM al ∧ n < 16 ∧ a = (n : Int) := by
  obtain ⟨n, hn, e⟩ := List.mem_map.mp h
  exact ⟨n, hn, (dueM_mem.mp hn).1, e.symm⟩
theorem any_in {al : List (Nat × Nat)} {n : Nat} (h : n ∈ dueM al) : (((dueM al).map Mine.E).any fun y => decide (y = (n : Int))) = true :=
  List.any_eq_true.mpr ⟨(n : Int), List.mem_map.mpr ⟨n, h, rfl⟩, decide_eq_true rfl⟩
theorem and_M {a b : Nat} (ha : a < 16) (hb : b < 16) : Builtin.bitAnd (a : Int) (b : Int) = (Nat.land a b : Nat) :=
  lt16 (P := fun a => ∀ b : _root_.Fin 16, Builtin.bitAnd (a : Int) (b.val : Int) = (Nat.land a b.val : Nat)) (by decide +kernel) ha ⟨b, hb⟩
theorem or_M {a b : Nat} (ha : a < 16) (hb : b < 16) : Builtin.bitOr (a : Int) (b : Int) = (Nat.lor a b : Nat) :=
  lt16 (P := fun a => ∀ b : _root_.Fin 16, Builtin.bitOr (a : Int) (b.val : Int) = (Nat.lor a b.val : Nat)) (by decide +kernel) ha ⟨b, hb⟩
theorem xor_M {a b : Nat} (ha : a < 16) (hb : b < 16) : Builtin.bitXor (a : Int) (b : Int) = (Nat.xor a b : Nat) :=
  lt16 (P := fun a => ∀ b : _root_.Fin 16, Builtin.bitXor (a : Int) (b.val : Int) = (Nat.xor a b.val : Nat)) (by decide +kernel) ha ⟨b, hb⟩
theorem inv_M {a : Nat} (ha : a < 16) : Builtin.bitAnd (Builtin.bitNot (a : Int)) 15 = (15 - a : Nat) :=
  lt16 (P := fun a => Builtin.bitAnd (Builtin.bitNot (a : Int)) 15 = (15 - a : Nat)) (by decide +kernel) ha
theorem fold_M {al : List (Nat × Nat)} (hal : ∀ p ∈ al, p.1 < 4 ∧ p.2 < 4) : ∀ (ws : List Int), (∀ n ∈ ws, n ∈ (dueM al).map Mine.E) → ∀ a ∈ dueM al, ∃ r ∈ dueM al, ws.foldl strokeI (a : Int) = (r : Int)
  | [], _, a, ha => ⟨a, ha, rfl⟩
  | n :: ws, h, a, ha => by
    obtain ⟨b, hb, h16, rfl⟩ := firstF_mem (h n List.mem_cons_self)
    rw [List.foldl_cons, stroke_M (dueM_mem.mp ha).1 h16]
    exact fold_M hal ws (fun m hm => h m (List.mem_cons_of_mem _ hm)) _ (due_stroke hal ha hb)

/-- between the statements behind the tables -/
def LoopAt (g h : Heap) (L l : Addr) (v : Value) (F : List Int) (m : Str → Option Value) : Prop :=
  ∃ vD vA, LawAt g h L m vD (some v) vA (fun H => IsL H v F) ∧ m (Str.ofString "script") = some (.ref l)
section
variable {g h h' : Heap} {L l : Addr} {v : Value} {F : List Int} {m m' : Str → Option Value}
theorem LoopAt.ns (x : LoopAt g h L l v F m) : h.Ns L m := let ⟨_, _, x, _⟩ := x; x.ns
theorem LoopAt.cF (x : LoopAt g h L l v F m) : h.IsCell (L + 2) (some v) := let ⟨_, _, x, _⟩ := x; x.cF
theorem LoopAt.facts (x : LoopAt g h L l v F m) : IsL (hideAll h (HLof L)) v F := let ⟨_, _, x, _⟩ := x; x.facts
theorem LoopAt.kp (x : LoopAt g h L l v F m) : Kp g (hideAll h (HLof L)) := let ⟨_, _, x, _⟩ := x; x.kp
theorem LoopAt.kg (x : LoopAt g h L l v F m) : Kp g h := x.kp.trans (hid_of _ _)
theorem LoopAt.script (x : LoopAt g h L l v F m) : m (Str.ofString "script") = some (.ref l) := let ⟨_, _, _, x⟩ := x; x
theorem LoopAt.mem (x : LoopAt g h L l v F m) : ∀ b ∈ HLof L, ∃ o, h.get? b = some o := let ⟨_, _, x, _⟩ := x; x.mem
theorem LoopAt.up (x : LoopAt g h L l v F m) (k : Kp h h') : LoopAt g h' L l v F m := let ⟨a, b, x, y⟩ := x; ⟨a, b, x.up (fun _ _ k z => z.up k) k, y⟩
theorem LoopAt.setL (x : LoopAt g h L l v F m) (n : h'.Ns L m') (k : ∀ b o, b ≠ L → h.get? b = some o → h'.get? b = some o) (e : m' (Str.ofString "script") = some (.ref l)) : LoopAt g h' L l v F m' :=
  let ⟨a, b, x, _⟩ := x; ⟨a, b, x.setL n k (fun _ _ k z => z.up k) x.facts, e⟩
/-- the end of a turn of a loop, its iterator at I hidden -/
theorem LoopAt.turn {h0 : Heap} {m0 : Str → Option Value} {I : Addr} (x : LoopAt g h L l v F m) (x0 : LoopAt g h0 L l v F m0) (hI0 : h0.get? I = none) (hI : I ∉ HLof L)
    (k : ∀ b o, b ∉ HLof L → h0.get? b = some o → h.get? b = some o) : LoopAt g (hideAll h [I]) L l v F m := by
  obtain ⟨a, b, x, e⟩ := x
  have ne : ∀ c ∈ HLof L, c ∉ [I] := fun c hc q => hI (List.mem_singleton.mp q ▸ hc)
  have kk : Kp (hideAll h0 (HLof L)) (hideAll (hideAll h [I]) (HLof L)) := hid_kp fun b o m e => ⟨m, hideAll_get _ (k b o m e) fun q => by rw [List.mem_singleton.mp q, hI0] at e; cases e⟩
  exact ⟨a, b, ⟨ns_hide x.ns (ne _ List.mem_cons_self), cell_hide x.cD (ne _ (List.mem_cons_of_mem _ List.mem_cons_self)), cell_hide x.cF (ne _ (List.mem_cons_of_mem _ (List.mem_cons_of_mem _ List.mem_cons_self))),
    cell_hide x.cA (ne _ (List.mem_cons_of_mem _ (List.mem_cons_of_mem _ (List.mem_cons_of_mem _ List.mem_cons_self)))), x0.kp.trans kk, x0.facts.up kk⟩, e⟩
end

theorem ev_itemZ {prog : Program} {w : World} {A : Around} {h : Heap} {value slice : Expr} {v : Value} {ns : List Int} {b : Int} {u : Tok} {post : Value → Heap → Prop} (hl : IsL h v ns) (h0 : 0 ≤ b) (h1 : b.toNat < ns.length) (h63 : b.toNat < 1000) (q : ∀ t, post (.int (ns.getD b.toNat 0) t) h)
    (hs : ∀ l, subscripted slice false (.ref l) (.int b u) = operate [.ref l, .int b u] (getItem (.ref l) (.int b u)) := by intro _; with_unfolding_all rfl)
    (hg : ∀ l r, letTemporaryGo value (.ref l) r = pure () := by intro _ _; with_unfolding_all rfl) :
    EvS (model prog w) A (subscriptTail value slice v (.int b u)) h post := by
  obtain ⟨n, rfl⟩ := Int.eq_ofNat_of_zero_le h0
  rw [Int.toNat_natCast] at h1 h63 q
  exact ev_item hl h1 h63 q hs hg
theorem getD_mem (F : List Int) {i : Nat} (h : i < F.length) : F.getD i 0 ∈ F := by
  rw [List.getD_eq_getElem?_getD, List.getElem?_eq_getElem h, Option.getD_some]; exact List.getElem_mem h

section
variable {prog p : Program} {loose : List Str} {w : World} {mean : ExcName → Option Value} {mg mb : Str → Option Value}



end
end Mine

open Mine
set_option maxRecDepth 100000 in
set_option maxHeartbeats 80000000 in
theorem PySem.Challenge.cw_xn0002_01_holds : PySem.Challenge.rw_xn0002_01.Holds := by
  w_on; o_law; k_head; (case hw => w_witness2)
  k_fill
  have and_ct : ∀ {prog p : Program} {loose : List Str} {w : World} {mean : ExcName → Option Value} {mg mb : Str → Option Value} {A : Around} {h : Heap} {n : Nat} {a b : Int} {t u : Tok} {post : Value → Heap → Prop} (c : CC (PySem.Challenge.cw_xn0002_01_holds.heap_39 w.params) p loose mean mg mb A h (n + 1)) (q : ∀ h' t, Kp h h' → post (.int (Builtin.bitAnd a b) t) h'),
      EvS (model prog w) A (call (.ref 37) [.int a t, .int b u]) h post := by
    intro prog p loose w mean mg mb A h n a b t u post c q
    refine' ev_def_ret c ?k6 ?k7 ?k9 ?kB ?c5 ?_ ?c2 ?c3 ?c4
    case k6 => k_is
    case k7 => k_is
    case k9 => exact rfl
    case kB => exact locs rfl
    case c5 => decide
    case c2 => exact rfl
    case c3 => exact rfl
    case c4 => exact rfl
    intro h₁ k1 hns c1
    exact ev_binop (ev_local rfl rfl hns rfl (ev_local rfl rfl hns rfl (op_and fun t => q _ t k1)))
  have inv_ct : ∀ {prog p : Program} {loose : List Str} {w : World} {mean : ExcName → Option Value} {mg mb : Str → Option Value} {A : Around} {h : Heap} {n : Nat} {a : Int} {t : Tok} {post : Value → Heap → Prop} (c : CC (PySem.Challenge.cw_xn0002_01_holds.heap_39 w.params) p loose mean mg mb A h (n + 1)) (q : ∀ h' t, Kp h h' → post (.int (Builtin.bitNot a) t) h'),
      EvS (model prog w) A (call (.ref 44) [.int a t]) h post := by
    intro prog p loose w mean mg mb A h n a t post c q
    refine' ev_def_ret c ?k6 ?k7 ?k9 ?kB ?c5 ?_ ?c2 ?c3 ?c4
    case k6 => k_is
    case k7 => k_is
    case k9 => exact rfl
    case kB => exact locs rfl
    case c5 => decide
    case c2 => exact rfl
    case c3 => exact rfl
    case c4 => exact rfl
    intro h₁ k1 hns c1
    exact ev_unop (ev_local rfl rfl hns rfl (op_inv fun t => q _ t k1))
  have or_ct : ∀ {prog p : Program} {loose : List Str} {w : World} {mean : ExcName → Option Value} {mg mb : Str → Option Value} {A : Around} {h : Heap} {n : Nat} {a b : Int} {t u : Tok} {post : Value → Heap → Prop} (c : CC (PySem.Challenge.cw_xn0002_01_holds.heap_39 w.params) p loose mean mg mb A h (n + 1)) (q : ∀ h' t, Kp h h' → post (.int (Builtin.bitOr a b) t) h'),
      EvS (model prog w) A (call (.ref 51) [.int a t, .int b u]) h post := by
    intro prog p loose w mean mg mb A h n a b t u post c q
    refine' ev_def_ret c ?k6 ?k7 ?k9 ?kB ?c5 ?_ ?c2 ?c3 ?c4
    case k6 => k_is
    case k7 => k_is
    case k9 => exact rfl
    case kB => exact locs rfl
    case c5 => decide
    case c2 => exact rfl
    case c3 => exact rfl
    case c4 => exact rfl
    intro h₁ k1 hns c1
    exact ev_binop (ev_local rfl rfl hns rfl (ev_local rfl rfl hns rfl (op_or fun t => q _ t k1)))
  have shr_ct : ∀ {prog p : Program} {loose : List Str} {w : World} {mean : ExcName → Option Value} {mg mb : Str → Option Value} {A : Around} {h : Heap} {n : Nat} {a b : Int} {t u : Tok} {post : Value → Heap → Prop} (c : CC (PySem.Challenge.cw_xn0002_01_holds.heap_39 w.params) p loose mean mg mb A h (n + 1)) (h0 : 0 ≤ b) (q : ∀ h' t, Kp h h' → post (.int (a.fdiv (2 ^ b.toNat)) t) h'),
      EvS (model prog w) A (call (.ref 58) [.int a t, .int b u]) h post := by
    intro prog p loose w mean mg mb A h n a b t u post c h0 q
    refine' ev_def_ret c ?k6 ?k7 ?k9 ?kB ?c5 ?_ ?c2 ?c3 ?c4
    case k6 => k_is
    case k7 => k_is
    case k9 => exact rfl
    case kB => exact locs rfl
    case c5 => decide
    case c2 => exact rfl
    case c3 => exact rfl
    case c4 => exact rfl
    intro h₁ k1 hns c1
    exact ev_binop (ev_local rfl rfl hns rfl (ev_local rfl rfl hns rfl (op_shr h0 fun t => q _ t k1)))
  have xor_ct : ∀ {prog p : Program} {loose : List Str} {w : World} {mean : ExcName → Option Value} {mg mb : Str → Option Value} {A : Around} {h : Heap} {n : Nat} {a b : Int} {t u : Tok} {post : Value → Heap → Prop} (c : CC (PySem.Challenge.cw_xn0002_01_holds.heap_39 w.params) p loose mean mg mb A h (n + 1)) (q : ∀ h' t, Kp h h' → post (.int (Builtin.bitXor a b) t) h'),
      EvS (model prog w) A (call (.ref 65) [.int a t, .int b u]) h post := by
    intro prog p loose w mean mg mb A h n a b t u post c q
    refine' ev_def_ret c ?k6 ?k7 ?k9 ?kB ?c5 ?_ ?c2 ?c3 ?c4
    case k6 => k_is
    case k7 => k_is
    case k9 => exact rfl
    case kB => exact locs rfl
    case c5 => decide
    case c2 => exact rfl
    case c3 => exact rfl
    case c4 => exact rfl
    intro h₁ k1 hns c1
    exact ev_binop (ev_local rfl rfl hns rfl (ev_local rfl rfl hns rfl (op_xor fun t => q _ t k1)))
  have stroke_ct : ∀ {prog p : Program} {loose : List Str} {w : World} {mean : ExcName → Option Value} {mg mb : Str → Option Value} {A : Around} {h : Heap} {n : Nat} {a b : Int} {t u : Tok} {post : Value → Heap → Prop} (c : CC (PySem.Challenge.cw_xn0002_01_holds.heap_39 w.params) p loose mean mg mb A h (n + 2)) (q : ∀ h' t, Kp h h' → post (.int (strokeI a b) t) h'),
      EvS (model prog w) A (call (.ref 72) [.int a t, .int b u]) h post := by
    intro prog p loose w mean mg mb A h n a b t u post c q
    refine' ev_def_ret c ?k6 ?k7 ?k9 ?kB ?c5 ?_ ?c2 ?c3 ?c4
    case k6 => k_is
    case k7 => k_is
    case k9 => exact rfl
    case kB => exact locs rfl
    case c5 => decide
    case c2 => exact rfl
    case c3 => exact rfl
    case c4 => exact rfl
    intro h₁ k1 hns c1
    refine ev_callK c1.inK (ev_global (v := .ref 37) c1 (by k_is) ⟨by k_is, ?_⟩)
    refine ev_args_cons (ev_callK c1.inK (ev_global (v := .ref 44) c1 (by k_is) ⟨by k_is, ?_⟩))
    refine ev_args_cons (ev_callK c1.inK (ev_global (v := .ref 37) c1 (by k_is) ⟨by k_is, ?_⟩))
    refine ev_args_cons (ev_local rfl rfl hns rfl (ev_args_cons (ev_local rfl rfl hns rfl (ev_args_nil ?_))))
    refine and_ct c1 fun h2 t2 k2 => ev_args_nil ?_
    refine inv_ct (c1.keeps k2) fun h3 t3 k3 => ev_args_cons (ev_int fun t4 => ev_args_nil ?_)
    exact and_ct (c1.keeps (k2.trans k3)) fun h4 t4 k4 => q _ _ (k1.trans (k2.trans (k3.trans k4)))
  have listed_ct : ∀ {prog p : Program} {loose : List Str} {w : World} {mean : ExcName → Option Value} {mg mb : Str → Option Value} {A : Around} {h : Heap} {n : Nat} {a : Int} {t : Tok} {post : Value → Heap → Prop} (c : CC (PySem.Challenge.cw_xn0002_01_holds.heap_39 w.params) p loose mean mg mb A h (n + 3)) (q : ∀ h' r, Kp h h' → NewL h h' r (listedI a) → post r h'),
      EvS (model prog w) A (call (.ref 77) [.int a t]) h post := by
    intro prog p loose w mean mg mb A h n a t post c q
    refine' ev_defC c ?k6 ?k7 ?k9 ?kB ?_ ?c2 ?c3 ?c4
    case k6 => k_is
    case k7 => k_is
    case k9 => exact rfl
    case kB => exact rfl
    case c2 => exact rfl
    case c3 => exact rfl
    case c4 => exact rfl
    intro h₁ s Q E e k1 hns hcell c1 _ k
    subst e
    have ht : s.heap.IsCell (h.objs.size + 1) (some (.int a t)) := hcell (Str.ofString "table") _ rfl
    refine wpAny_execs_cons (wpAny_Return_some (EvS.run (post := fun v h' => post v h') ?_ fun v h' tk k2 p2 => k v h' tk (k1.trans k2) p2))
    refine ev_comp1 (cl := [(Str.ofString "table", h.objs.size + 1)]) rfl rfl (by decide) (fun C h => (∃ m, h.Ns C m ∧ True) ∧ CellsThere _ C h) (fun C v h => (∃ m, h.Ns C m ∧ True ∧ m (Str.ofString "k") = some v) ∧ CellsThere _ C h) (fun _ _ => True) (fun _ _ _ _ x => x)
      (fun C => varsL (fun _ => True) (fun _ _ x => x) rfl rfl rfl) (fun C h m hm hc => ⟨⟨m, hm, trivial⟩, hc⟩) (fun C h hv => ⟨hv.1.choose, hv.1.choose_spec.1⟩) own_name ?_
    refine ev_callT (ev_built c1 (by k_is) (v := .type "range") (by boot_by_name) ⟨⟨_, rfl⟩, ev_args_cons (ev_int fun t4 => ev_args_nil (ev_range1 fun r h2 u v x k2 hr => ?_))⟩)
    refine ⟨4, _, fun i ys h => IntsAre ys ((listedI a).take i), Src.range4 c1.handled hr (by decide), fun _ _ _ _ _ z => z, fun i ys h z => ?_, fun _ _ _ _ _ _ _ => trivial, .nil, fun C Mu i v ys h3 hi hP hL hJ hk hm => ?_, fun D h3 ys k3 nD hD hJ => ?_⟩
    · rw [z.length]; exact Nat.le_trans (List.length_take_le' _ _) (show 4 ≤ sizeLine by decide)
    · refine EvS.pure ?_
      rw [if_pos rfl]
      obtain ⟨t5, rfl⟩ := hP
      obtain ⟨⟨m, hm, _, hv⟩, _⟩ := hL
      have k3 : Kp s.heap h3 := k2.trans (hk.trans (hid_of _ _))
      have c3 := c1.keeps k3
      refine ev_callK c3.inK (ev_global (v := .ref 37) c3 (by k_is) ⟨by k_is, ?_⟩)
      refine ev_args_cons (ev_callK c3.inK (ev_global (v := .ref 58) c3 (by k_is) ⟨by k_is, ?_⟩))
      refine ev_args_cons (ev_cell rfl rfl rfl (ht.keeps k3) (ev_args_cons (ev_local rfl rfl hm hv (ev_args_nil ?_))))
      refine shr_ct c3 (Int.natCast_nonneg _) fun h4 t4 k4 => ev_args_cons (ev_int fun t6 => ev_args_nil ?_)
      refine and_ct (c3.keeps k4) fun h5 t7 k5 => ?_
      have e : (listedI a).take (i + 1) = (listedI a).take i ++ [bitI a i] := by
        match i, hi with
        | 0, _ => rfl
        | 1, _ => rfl
        | 2, _ => rfl
        | 3, _ => rfl
      show IntsAre _ ((listedI a).take (i + 1))
      rw [e]
      exact Mine.ints_snoc hJ
    · exact q _ _ (k1.trans (k2.trans k3)) ⟨D, ys, rfl, none_up (k1.trans k2) nD, isList_lst hD, hJ⟩
  have dedup_ct : ∀ {prog p : Program} {loose : List Str} {w : World} {mean : ExcName → Option Value} {mg mb : Str → Option Value} {A : Around} {h : Heap} {n : Nat} {α : Type} [DecidableEq α] {enc : α → PyData} (X : Mine.Enc enc) (F : Value → α → Prop) (hF : ∀ v a, F v a → Rd h v (enc a)) {l : Addr} {vs : List Value} {as : List α} {post : Value → Heap → Prop} (c : CC (PySem.Challenge.cw_xn0002_01_holds.heap_39 w.params) p loose mean mg mb A h (n + 1)) (hl : h.IsList l vs.toArray) (hp : Paired F vs as) (hsz : as.length ≤ 1000) (q : ∀ D h' vs', Kp h h' → h.get? D = none → h'.IsList D vs'.toArray → Paired F vs' (dd as) → post (.ref D) h'),
      EvS (model prog w) A (call (.ref 21) [.ref l]) h post := by
    intro prog p loose w mean mg mb A h n α _ enc X F hF l vs as post c hl hp hsz q
    refine' ev_def c ?k6 ?k7 ?k9 ?kB ?c5 ?_ ?c2 ?c3 ?c4
    case k6 => k_is
    case k7 => k_is
    case k9 => exact rfl
    case kB => exact locs rfl
    case c5 => decide
    case c2 => exact rfl
    case c3 => exact rfl
    case c4 => exact rfl
    intro h₁ s Q E e k1 hns c1 F1 k
    subst e
    refine wpAny_execs_cons (wpAny_Assign_Name (EvS.run (post := fun v h' => ∃ D, v = .ref D ∧ s.heap.get? D = none ∧ h'.get? D = some (lst [])) (ev_list (ev_args_nil (ev_newList (Nat.zero_le _) fun D h' _ nD hD => ⟨D, rfl, nD, hD⟩))) fun v h2 t2 k2 p2 => ?_))
    obtain ⟨D, rfl, nD, hD⟩ := p2
    refine wpAny_storeName_local rfl (hns.keeps k2) fun h3 hn3 hs3 => ?_
    dsimp only
    obtain ⟨oL, eL⟩ := ns_there hns
    have hLD : h.objs.size ≠ D := by rintro rfl; rw [nD] at eL; cases eL
    have k13 : Kp h h3 := fun b o e => hs3.extBut b o (Nat.ne_of_lt (Heap.lt_size e)) (k2 _ _ (k1 _ _ e))
    have hD3 : h3.get? D = some (lst []) := hs3.extBut _ _ (Ne.symm hLD) hD
    refine wpAny_execs_cons (ex_for rfl rfl (s := { s with heap := h3, toks := t2 + 1 }) (ev_local (m := fun z => if z = Str.ofString "new_unhashable" then some (.ref D) else _) rfl rfl hn3 rfl ?_))
    have lenE : vs.length = as.length := hp.length
    refine ⟨_, _, fun i h' => ∃ m vs', h'.Ns h.objs.size m ∧ m (Str.ofString "new_unhashable") = some (.ref D) ∧ h'.get? D = some (lst vs') ∧ Paired F vs' (dd (as.take i)) ∧ Kp h h', [h.objs.size, D],
      Src.list c1.handled (items := vs.toArray) (ax := l) ?_, ?_, List.mem_cons_self, ?_, ⟨_, [], hn3, rfl, hD3, .nil, k13⟩, fun i h' z => ⟨z.choose, z.choose_spec.choose_spec.1⟩, ?_, ?_⟩
    · refine hl.at fun o e => hideAll_get _ (k13 _ _ e) fun m => ?_
      rcases List.mem_cons.mp m with e2 | m
      · exact absurd (Heap.lt_size e) (by rw [e2]; exact Nat.lt_irrefl _)
      · have e2 := k1 _ _ e; rw [List.mem_singleton.mp m, nD] at e2; cases e2
    · intro b hb
      rcases List.mem_cons.mp hb with rfl | hb
      · exact ns_there hn3
      · rw [List.mem_singleton.mp hb]; exact ⟨_, hD3⟩
    · rintro i h' h'' kk ⟨m, vs', a1, a2, a3, a4, a5⟩
      exact ⟨m, vs', a1.keeps kk, a2, kk _ _ a3, a4, a5.trans kk⟩
    · rintro I i v m h0 s' Q' E' hI hi hPv ⟨m', vs', a1, a2, a3, a4, a5⟩ hm - hk hns' ⟨oI, hIt⟩ - kn -
      cases ns_uniq a1 hm
      replace hI : h3.get? I = none := hI
      have hv : vs[i]? = some v := by simpa using hPv
      obtain ⟨a, ha, rd⟩ := paired_get hp hv
      have hLI : h.objs.size ≠ I := by rintro rfl; obtain ⟨o, e⟩ := ns_there hn3; exact nomatch hI.symm.trans e
      have hDI : D ≠ I := by rintro rfl; exact nomatch hI.symm.trans hD3
      have kg : Kp h s'.heap := fun b o e => hk b o (Nat.ne_of_lt (Heap.lt_size e)) (a5 _ _ e)
      have hD' : s'.heap.get? D = some (lst vs') := hk D _ (Ne.symm hLD) a3
      have hg : dd (as.take (i + 1)) = ddStep (dd (as.take i)) a := dd_take _ _ _ ha
      have hlen : vs'.length ≤ 1000 := by
        rw [a4.length]
        exact Nat.le_trans (dd_len _) (Nat.le_trans (List.length_take_le' _ _) hsz)
      refine wpAny_execs_cons (wpAny_If (EvS.run (post := fun b h' => h' = s'.heap ∧ b = !(dd (as.take i)).any (fun y => decide (y = a))) ?_ fun b h4 t4 k4 p4 => ?_))
      · intro s₂ Q₂ E₂ e₂ kk
        refine ev_true_cmp (ev_local (v := v) rfl rfl hns' rfl (ev_local (v := .ref D) rfl rfl hns' ?_ (ev_notin (a := a) (as := dd (as.take i)) X ?_ (isList_lst hD') (paired_mono (fun _ _ z => (hF _ _ z).up kg) a4) ((hF _ _ rd).up kg) ⟨_, rfl, rfl, rfl⟩))) rfl s₂ Q₂ E₂ e₂ kk
        · exact a2
        · have := c1.units; omega
      · obtain ⟨rfl, rfl⟩ := p4
        cases hb : (dd (as.take i)).any (fun y => decide (y = a)) with
        | true =>
          rw [Bool.not_true, if_neg Bool.false_ne_true]
          refine wpAny_execs_nil (wpAny_execs_nil (kn _ _ (fun b o _ e => e) ⟨_, vs', ns_hide hns' (by simpa using hLI), a2, hideAll_get _ hD' (by simpa using hDI), ?_, ?_⟩))
          · rw [hg]; unfold ddStep; rw [if_pos hb]; exact a4
          · exact fun b o e => hideAll_get _ (kg b o e) fun m => by
              rw [List.mem_singleton.mp m] at e
              exact nomatch hI.symm.trans (k13 _ _ e)
        | false =>
          rw [Bool.not_false, if_pos rfl]
          refine wpAny_execs_cons (wpAny_Expr (MethodCall_ ?_))
          refine EvS.run (post := fun v h' => v = .ref D ∧ h' = s'.heap) (ev_local rfl rfl hns' ?_ ⟨rfl, rfl⟩) fun v5 h5 t5 k5 p5 => ?_
          · exact a2
          obtain ⟨rfl, rfl⟩ := p5
          refine Calls.getMethod_list_append hD' rfl rfl (callWith_method1 (args_cons ?_))
          refine EvS.run (s := { s' with heap := s'.heap, toks := t5 }) (post := fun v' h' => v' = v ∧ h' = s'.heap) (ev_local rfl rfl hns' rfl ⟨rfl, rfl⟩) fun v6 h6 t6 k6 p6 => ?_
          obtain ⟨rfl, rfl⟩ := p6
          refine args_nil (append_at (hsz := ?hsz) hD' fun h7 hs7 hD7 => ?_)
          case hsz =>
            show vs'.toArray.size ≤ sizeLine
            rw [List.size_toArray]; exact Nat.le_trans hlen (by decide)
          · refine wpAny_execs_nil (wpAny_execs_nil (kn _ _ (fun b o hb e => hs7.extBut b o (fun q => hb (by rw [q]; exact List.mem_cons_of_mem _ List.mem_cons_self)) e) ⟨_, vs' ++ [v6], ns_hide (hns'.sameBut hs7 hLD) (by simpa using hLI), a2, hideAll_get _ (hD7.trans (congrArg some (LCg.lst_snoc _ _))) (by simpa using hDI), ?_, ?_⟩))
            · rw [hg]; unfold ddStep; rw [if_neg (by rw [hb]; exact Bool.false_ne_true)]; exact a4.snoc rd
            · exact fun b o e => hideAll_get _ (hs7.extBut b o (fun q => by rw [q] at e; have e2 := k1 _ _ e; rw [nD] at e2; cases e2) (kg b o e)) fun m => by
                rw [List.mem_singleton.mp m] at e
                exact nomatch hI.symm.trans (k13 _ _ e)
    · rintro h' tk ⟨m, vs', a1, a2, a3, a4, a5⟩
      refine wpAny_execs_cons (wpAny_Return_some (EvS.run (post := fun v h'' => v = .ref D ∧ h'' = h') (ev_local rfl rfl a1 a2 ⟨rfl, rfl⟩) fun v h'' tk' k2 p2 => ?_))
      obtain ⟨rfl, rfl⟩ := p2
      refine k _ _ _ a5 (q D h'' vs' a5 (none_up k1 nD) (isList_lst a3) ?_)
      have : as.take vs.toArray.size = as := List.take_of_length_le (by rw [List.size_toArray, lenE]; exact Nat.le_refl _)
      rwa [this] at a4
  have closed_ct : ∀ {prog p : Program} {loose : List Str} {w : World} {mean : ExcName → Option Value} {mg mb : Str → Option Value} {A : Around} {h : Heap} {n : Nat} {v : Value} {tables res : List Int} {post : Value → Heap → Prop} (c : CC (PySem.Challenge.cw_xn0002_01_holds.heap_39 w.params) p loose mean mg mb A h (n + 6)) (hl : Mine.IsL h v tables) (hsz : tables.length ≤ 20) (hr : runF 8 (tables.map listedI) tables = some res) (q : ∀ h' r, Kp h h' → NewL h h' r res → post r h'),
      EvS (model prog w) A (call (.ref 82) [v]) h post := by
    intro prog p loose w mean mg mb A h n v tables res post c hl hsz hr q
    refine' ev_defC c ?k6 ?k7 ?k9 ?kB ?_ ?c2 ?c3 ?c4
    case k6 => k_is
    case k7 => k_is
    case k9 => exact rfl
    case kB => exact rfl
    case c2 => exact rfl
    case c3 => exact rfl
    case c4 => exact rfl
    intro h₁ s Q E e k1 hns hcell c1 ccf k
    subst e
    have hkn : s.heap.IsCell (h.objs.size + 1) none := hcell (Str.ofString "known") _ rfl
    obtain ⟨l, vs, rfl, hl, hI⟩ := hl
    have lenE : vs.length = tables.length := hI.length
    have hHL : ∀ b ∈ [h.objs.size, h.objs.size + 1], h.get? b = none := fun b hb => none_of_ge (by
      rcases List.mem_cons.mp hb with rfl | hb
      · exact Nat.le_refl _
      · rw [List.mem_singleton.mp hb]; exact Nat.le_succ _)
    have kHL : ∀ {h' : Heap}, Kp h h' → Kp h (hideAll h' [h.objs.size, h.objs.size + 1]) := fun kk b o e => hideAll_get _ (kk b o e) fun m => nomatch (hHL b m).symm.trans e
    have hsz20 : 20 ≤ sizeLine := by decide
    have tHL : ∀ b ∈ [h.objs.size, h.objs.size + 1], ∃ o, s.heap.get? b = some o := fun b hb => by
      rcases List.mem_cons.mp hb with rfl | hb
      · exact ns_there hns
      · rw [List.mem_singleton.mp hb]; obtain ⟨o, e, _⟩ := hkn; exact ⟨o, e⟩
    -- found
    refine wpAny_execs_cons (st_comp1 (cl := []) rfl rfl rfl hns [h.objs.size, h.objs.size + 1] List.mem_cons_self rfl rfl (by decide)
      (fun C h => (∃ m, h.Ns C m ∧ True) ∧ CellsThere _ C h) (fun C v h => (∃ m, h.Ns C m ∧ True ∧ m (Str.ofString "table") = some v) ∧ CellsThere _ C h) (fun _ _ => True) (fun _ _ _ _ x => x)
      (fun C => varsL (fun _ => True) (fun _ _ x => x) rfl rfl rfl) (fun C h m hm hc => ⟨⟨m, hm, trivial⟩, hc⟩) (fun C h hv => ⟨hv.1.choose, hv.1.choose_spec.1⟩) own_name ?_)
    refine ev_local (v := .ref l) rfl rfl hns rfl ?_
    refine ⟨_, _, fun i ys h' => Paired (Mine.IsL h') ys ((tables.take i).map listedI), Src.list c1.handled (items := vs.toArray) (ax := l) (hl.at fun o e => k1 _ _ e), fun i ys h' h'' kk z => paired_mono (fun _ _ z => z.up kk) z, fun i ys h' z => ?_, fun _ _ _ _ _ _ _ => trivial, .nil,
      fun C Mu i v ys h3 hi hP hL hJ hk hm => ?_, fun D h3 tk ys hn3 k3 nD hD hJ => ?_⟩
    · rw [z.length, List.length_map]; exact Nat.le_trans (List.length_take_le' _ _) (Nat.le_trans hsz hsz20)
    · refine EvS.pure ?_
      rw [if_pos rfl]
      obtain ⟨⟨m, hm', _, hv⟩, _⟩ := hL
      have hv2 : vs[i]? = some v := by simpa using hP
      have hi2 : i < tables.length := by rw [← lenE]; simpa using hi
      obtain ⟨t, ht⟩ := hI.get i tables[i] (by simp [hi2])
      have k3 : Kp s.heap h3 := hk.trans (hid_of _ _)
      rw [hv2] at ht
      cases ht
      have c3 := c1.keeps k3
      refine ev_callK c3.inK (ev_global (v := .ref 77) c3 (by k_is) ⟨by k_is, ?_⟩)
      refine ev_args_cons (ev_local rfl rfl hm' hv (ev_args_nil ?_))
      refine listed_ct (n := n + 2) c3 fun h4 r k4 hr4 => ?_
      have e : tables.take (i + 1) = tables.take i ++ [tables[i]] := by rw [List.take_add_one]; simp [hi2]
      show Paired _ (ys ++ [r]) ((tables.take (i + 1)).map listedI)
      rw [e, List.map_append]
      refine (paired_mono (fun _ _ z => z.up (hid_up (hid_up k4))) hJ).snoc ?_
      exact hr4.hide2 hm fun b hb => let ⟨o, e⟩ := tHL b hb; ⟨o, k3 _ _ e⟩
    replace hJ : Paired (Mine.IsL (hideAll h3 [h.objs.size, h.objs.size + 1])) ys (tables.map listedI) := by
      have z : tables.take vs.toArray.size = tables := List.take_of_length_le (by rw [List.size_toArray, lenE]; exact Nat.le_refl _)
      simpa only [z] using hJ
    have kg3 : Kp h h3 := fun b o e => k3 b o (Nat.ne_of_lt (Heap.lt_size e)) (k1 _ _ e)
    have kn3 : h3.IsCell (h.objs.size + 1) none := isCell_at hkn fun o e => k3 _ _ (Nat.succ_ne_self _) e
    have hDHL : D ∉ [h.objs.size, h.objs.size + 1] := fun m => let ⟨_, e⟩ := tHL _ m; nomatch nD.symm.trans e
    have hFound : RowsL (hideAll h3 [h.objs.size, h.objs.size + 1]) (.ref D) (tables.map listedI) := ⟨D, ys, rfl, (isList_lst hD).at fun o e => hideAll_get _ e hDHL, hJ⟩
    have tHL3 : ∀ b ∈ [h.objs.size, h.objs.size + 1], ∃ o, h3.get? b = some o := fun b hb => by
      rcases List.mem_cons.mp hb with rfl | hb
      · exact ns_there hn3
      · rw [List.mem_singleton.mp hb]; obtain ⟨o, e, _⟩ := kn3; exact ⟨o, e⟩
    clear hJ hD
    -- known
    refine wpAny_execs_cons (wpAny_Assign_Name (EvS.run (s := { s with heap := h3, toks := tk }) (post := fun v h' => Mine.IsL (hideAll h' [h.objs.size, h.objs.size + 1]) v tables) ?_ fun v h4 t4 k4 p4 => ?_))
    · have c3 := ccf h3 _ kg3 hn3
      refine ev_callT (ev_built c3 (by k_is) (v := .type "list") (by boot_by_name) ⟨⟨_, rfl⟩, ev_args_cons (ev_local (v := .ref l) rfl rfl hn3 rfl (ev_args_nil ?_))⟩)
      refine ev_listOf (hl.at fun o e => kg3 _ _ e) (by rw [lenE]; exact Nat.le_trans hsz hsz20) fun D2 h4 k4 nD2 hD2 => ?_
      exact ⟨D2, vs, rfl, (hD2.at fun o e => hideAll_get _ e fun m => let ⟨_, e⟩ := tHL3 _ m; nomatch nD2.symm.trans e), hI⟩
    refine wpAny_storeName_cell rfl rfl (c := h.objs.size + 1) rfl (kn3.keeps k4) fun h5 hc5 hs5 => ?_
    have kg5 : Kp h h5 := fun b o e => hs5.extBut b o (Nat.ne_of_lt (Nat.lt_succ_of_lt (Heap.lt_size e))) (k4 _ _ (kg3 _ _ e))
    have hid45 : Kp (hideAll h4 [h.objs.size, h.objs.size + 1]) (hideAll h5 [h.objs.size, h.objs.size + 1]) := hid_but fun b o m e => hs5.extBut b o (fun q => m (by rw [q]; exact List.mem_cons_of_mem _ List.mem_cons_self)) e
    replace hFound := hFound.up ((hid_up k4).trans hid45)
    have hKnown := p4.up hid45
    have hn5 := (hn3.keeps k4).sameBut hs5 (Nat.ne_of_lt (Nat.lt_succ_self _))
    dsimp only
    -- the loop
    refine wpAny_execs_cons (ex_for rfl rfl (s := { s with heap := h5, toks := t4 }) ?_)
    have c5 := ccf h5 _ kg5 hn5
    refine ev_callT (ev_built c5 (by k_is) (v := .type "range") (by boot_by_name) ⟨⟨_, rfl⟩, ev_args_cons (ev_int fun t6 => ev_args_nil (ev_range1 fun r h6 u v x k6 hr6 => ?_))⟩)
    have tHL6 : ∀ b ∈ [h.objs.size, h.objs.size + 1], ∃ o, h6.get? b = some o := fun b hb => by
      rcases List.mem_cons.mp hb with rfl | hb
      · exact ns_there (hn5.keeps k6)
      · rw [List.mem_singleton.mp hb]; obtain ⟨o, e, _⟩ := hc5.keeps k6; exact ⟨o, e⟩
    refine ⟨8, _, fun i h' => ∃ m fv kv found known, h'.Ns h.objs.size m ∧ m (Str.ofString "found") = some fv ∧ h'.IsCell (h.objs.size + 1) (some kv) ∧ RowsL (hideAll h' [h.objs.size, h.objs.size + 1]) fv found ∧
        Mine.IsL (hideAll h' [h.objs.size, h.objs.size + 1]) kv known ∧ runF (8 - i) found known = some res ∧ Kp h (hideAll h' [h.objs.size, h.objs.size + 1]), [h.objs.size, h.objs.size + 1],
      Src.range4 c5.handled hr6 (by decide), fun b hb => ?_, List.mem_cons_self, ?_, ⟨_, _, _, _, _, hn5.keeps k6, rfl, hc5.keeps k6, hFound.up (hid_up k6), hKnown.up (hid_up k6), hr, kHL (kg5.trans k6)⟩, fun i h' z => ⟨z.choose, z.choose_spec.choose_spec.choose_spec.choose_spec.choose_spec.1⟩, ?_, ?_⟩
    · exact tHL6 b hb
    · rintro i h' h'' kk ⟨m, fv, kv, found, known, a1, a2, a3, a4, a5, a6, a7⟩
      exact ⟨m, fv, kv, found, known, a1.keeps kk, a2, a3.keeps kk, a4.up (hid_up kk), a5.up (hid_up kk), a6, a7.trans (hid_up kk)⟩
    · rintro I i v m h0 s' Q' E' hI hi - ⟨m', fv, kv, found, known, a1, a2, a3, a4, a5, a6, a7⟩ hm hI0 hk hns' ⟨oI, hIt⟩ ⟨tks, es⟩ kn kr
      cases ns_uniq a1 hm
      have hLI : h.objs.size ≠ I := fun q => by obtain ⟨o, e⟩ := tHL6 h.objs.size List.mem_cons_self; rw [q] at e; exact nomatch hI.symm.trans e
      have hCI : h.objs.size + 1 ≠ I := fun q => by obtain ⟨o, e⟩ := tHL6 (h.objs.size + 1) (List.mem_cons_of_mem _ List.mem_cons_self); rw [q] at e; exact nomatch hI.symm.trans e
      have kh : Kp (hideAll h0 [h.objs.size, h.objs.size + 1]) (hideAll s'.heap [I, h.objs.size, h.objs.size + 1]) := hid_kp fun b o m e => ⟨fun m2 => by rcases List.mem_cons.mp m2 with rfl | m2; (exact nomatch hI0.symm.trans e); exact m m2, hk b o (fun q => m (by rw [q]; exact List.mem_cons_self)) e⟩
      have b3 : s'.heap.IsCell (h.objs.size + 1) (some kv) := isCell_at a3 fun o e => hk _ _ (Nat.succ_ne_self _) e
      have b4 := a4.up kh
      have b5 := a5.up kh
      have b7 := a7.trans kh
      clear a1 a3 a4 a5 a7 kh hm hk
      have tHLs : ∀ b ∈ [I, h.objs.size, h.objs.size + 1], ∃ o, s'.heap.get? b = some o := fun b hb => by
        rcases List.mem_cons.mp hb with rfl | hb
        · exact ⟨oI, hIt⟩
        rcases List.mem_cons.mp hb with rfl | hb
        · exact ns_there hns'
        · rw [List.mem_singleton.mp hb]; obtain ⟨o, e, _⟩ := b3; exact ⟨o, e⟩
      obtain ⟨r7, hr7⟩ : ∃ r7, 8 - i = r7 + 1 := ⟨7 - i, by omega⟩
      rw [hr7] at a6
      unfold runF at a6
      split at a6
      case isFalse => cases a6
      rename_i hlen
      obtain ⟨hlk, hlf⟩ := hlen
      obtain ⟨kl, kvs, rfl, hkl, hkI⟩ := id b5
      have hkl2 : s'.heap.IsList kl kvs.toArray := hkl.at fun o e => of_hideAll _ e
      have lenK : kvs.length = known.length := hkI.length
      refine wpAny_execs_cons (st_comp2 (cl := [(Str.ofString "known", h.objs.size + 1)]) rfl rfl rfl hns' [I, h.objs.size, h.objs.size + 1] (List.mem_cons_of_mem _ List.mem_cons_self) rfl rfl (by decide)
        (fun C h => (∃ m, h.Ns C m ∧ True) ∧ CellsThere _ C h) (fun C v h => (∃ m, h.Ns C m ∧ True ∧ m (Str.ofString "one") = some v) ∧ CellsThere _ C h)
        (fun C v h => (∃ m, h.Ns C m ∧ m (Str.ofString "one") = some v) ∧ CellsThere _ C h) (fun C v v2 h => (∃ m, h.Ns C m ∧ m (Str.ofString "one") = some v ∧ m (Str.ofString "other") = some v2) ∧ CellsThere _ C h)
        (fun C => varsL (fun _ => True) (fun _ _ x => x) rfl rfl rfl) (fun C v => varsL (fun m => m (Str.ofString "one") = some v) (fun m v' hm' => hm') rfl rfl rfl)
        (fun C h m hm hc => ⟨⟨m, hm, trivial⟩, hc⟩) (fun C h hv => ⟨hv.1.choose, hv.1.choose_spec.1⟩) (fun C v h ⟨⟨m, a, _, b⟩, c⟩ => ⟨⟨m, a, b⟩, c⟩) (fun C v h ⟨⟨m, a, _⟩, c⟩ => ⟨⟨m, a, trivial⟩, c⟩) own_name own_name ?_)
      refine ev_cell (c := h.objs.size + 1) rfl rfl rfl b3 ?_
      refine ⟨_, _, fun i ys h' => Paired (Mine.IsL h') ys (freshG (known.take i) known), Src.list c1.handled (items := kvs.toArray) (ax := kl) hkl2, fun i ys h' h'' kk z => paired_mono (fun _ _ z => z.up kk) z, .nil,
        fun C Mu i1 v1 ys h8 hi1 hP1 hL1 hJ1 hk1 hm1 => ?_, fun D8 h8 tk8 ys8 hn8 k8 nD8 hD8 hJ8 => ?_⟩
      · obtain ⟨one, to, ho, rfl⟩ := ints_at hkI (by simpa using hP1)
        have k8 : Kp s'.heap h8 := hk1.trans (hid_of _ _)
        refine ev_cell (c := h.objs.size + 1) rfl rfl rfl (b3.keeps k8) ?_
        refine ⟨_, _, fun j ys h' => Paired (Mine.IsL h') ys (freshG (known.take i1) known ++ ((known.take j).filter fun other => decide (other ≤ one)).map fun other => listedI (strokeI one other)),
          Src.list c1.handled (items := kvs.toArray) (ax := kl) (hkl2.at fun o e => hk1 _ _ e), fun i ys h' h'' kk z => paired_mono (fun _ _ z => z.up kk) z, fun j ys h' z => ?_, by simpa using hJ1, fun ys h' z => ?_,
          fun Mu2 j v2 ys h9 hj hP2 hL2 hJ2 hk2 hm2 => ?_⟩
        · rw [z.length, List.length_append, List.length_map]
          have z1 := freshG_len (known.take i1) known
          have z2 : (known.take i1).length ≤ known.length := List.length_take_le' _ _
          have z3 : ((known.take j).filter fun other => decide (other ≤ one)).length ≤ known.length := Nat.le_trans (List.length_filter_le _ _) (List.length_take_le' _ _)
          have z4 : (known.take i1).length * known.length ≤ 20 * 20 := Nat.mul_le_mul (Nat.le_trans z2 hlk) hlk
          have : 1000 ≤ sizeLine := by decide
          omega
        · have e1 : known.take kvs.toArray.size = known := List.take_of_length_le (by rw [List.size_toArray, lenK]; exact Nat.le_refl _)
          replace z : Paired (Mine.IsL h') ys (freshG (known.take i1) known ++ ((known.take kvs.toArray.size).filter fun other => decide (other ≤ one)).map fun other => listedI (strokeI one other)) := z
          rw [e1, ← freshG_snoc, ← Mine.take_snoc ho] at z
          exact z
        · obtain ⟨other, tp, hoo, rfl⟩ := ints_at hkI (by simpa using hP2)
          obtain ⟨⟨m2, hm2n, hm2a, hm2b⟩, _⟩ := hL2
          have k9 : Kp s'.heap h9 := hk2.trans (hid_of _ _)
          refine ev_tests_one (ev_true_cmp (ev_local rfl rfl hm2n hm2b (ev_local rfl rfl hm2n hm2a (ev_le_int ⟨_, rfl, ?_⟩))))
          cases hd : decide (other ≤ one) with
          | false =>
            rw [if_neg Bool.false_ne_true]
            show Paired _ ys (freshG (known.take i1) known ++ ((known.take (j + 1)).filter fun other => decide (other ≤ one)).map fun other => listedI (strokeI one other))
            rw [Mine.take_snoc hoo, List.filter_append, List.map_append, ← List.append_assoc, show ([other].filter fun other => decide (other ≤ one)) = [] by simp [hd]]
            simpa using hJ2
          | true =>
            rw [if_pos rfl]
            have c9 := (ccf s'.heap _ (b7.trans (hid_of _ _)) hns').keeps k9
            refine ev_callK c9.inK (ev_global (v := .ref 77) c9 (by k_is) ⟨by k_is, ?_⟩)
            refine ev_args_cons (ev_callK c9.inK (ev_global (v := .ref 72) c9 (by k_is) ⟨by k_is, ?_⟩))
            refine ev_args_cons (ev_local rfl rfl hm2n hm2a (ev_args_cons (ev_local rfl rfl hm2n hm2b (ev_args_nil ?_))))
            refine stroke_ct (n := n + 3) c9 fun h10 t10 k10 => ev_args_nil ?_
            refine listed_ct (n := n + 2) (c9.keeps k10) fun h11 r11 k11 hr11 => ?_
            show Paired _ (ys ++ [r11]) (freshG (known.take i1) known ++ ((known.take (j + 1)).filter fun other => decide (other ≤ one)).map fun other => listedI (strokeI one other))
            rw [Mine.take_snoc hoo, List.filter_append, List.map_append, ← List.append_assoc, show ([other].filter fun other => decide (other ≤ one)) = [other] by simp [hd]]
            exact (paired_mono (fun _ _ z => z.up (hid_up (hid_up (k10.trans k11)))) hJ2).snoc (hr11.hide2 (fun b hb => let ⟨o, e⟩ := hm2 b hb; ⟨o, k10 _ _ e⟩) fun b hb => let ⟨o, e⟩ := tHLs b hb; ⟨o, k10 _ _ (k9 _ _ e)⟩)
      · have e1 : known.take kvs.toArray.size = known := List.take_of_length_le (by rw [List.size_toArray, lenK]; exact Nat.le_refl _)
        replace hJ8 : Paired (Mine.IsL (hideAll h8 [I, h.objs.size, h.objs.size + 1])) ys8 (freshG known known) := by simpa only [e1] using hJ8
        replace hJ8 : Paired (Mine.IsL (hideAll h8 [I, h.objs.size, h.objs.size + 1])) ys8 (freshF known) := hJ8
        have kh8 : Kp (hideAll s'.heap [I, h.objs.size, h.objs.size + 1]) (hideAll h8 [I, h.objs.size, h.objs.size + 1]) := hid_but fun b o m e => k8 b o (fun q => m (by rw [q]; exact List.mem_cons_of_mem _ List.mem_cons_self)) e
        have d3 : h8.IsCell (h.objs.size + 1) (some (.ref kl)) := isCell_at b3 fun o e => k8 _ _ (Nat.succ_ne_self _) e
        have d4 := b4.up kh8
        have d5 := b5.up kh8
        have d7 := b7.trans kh8
        have dHL : ∀ b ∈ [I, h.objs.size, h.objs.size + 1], ∃ o, h8.get? b = some o := fun b hb => by
          rcases List.mem_cons.mp hb with rfl | hb
          · exact ⟨oI, k8 _ _ hLI.symm hIt⟩
          rcases List.mem_cons.mp hb with rfl | hb
          · exact ns_there hn8
          · rw [List.mem_singleton.mp hb]; obtain ⟨o, e, _⟩ := d3; exact ⟨o, e⟩
        clear kh8 b3 b4 b5 b7
        have c8 := ccf h8 _ (d7.trans (hid_of _ _)) hn8
        obtain ⟨fD, fys, rfl, fl, fp⟩ := d4
        have hl1000 : 1000 ≤ sizeLine := by decide
        have lf := fp.length
        have lfr := hJ8.length
        have lg := freshG_len known known
        have lg2 : known.length * known.length ≤ 20 * 20 := Nat.mul_le_mul hlk hlk
        have lg3 : (freshF known).length = (freshG known known).length := rfl
        refine wpAny_execs_cons (wpAny_Assign_Name (EvS.run (s := { s' with heap := h8, toks := tk8 }) (post := fun v h' => RowsL (hideAll h' [I, h.objs.size, h.objs.size + 1]) v (dd (found ++ freshF known))) ?_ fun v9 h9 t9 k9 p9 => ?_))
        · refine ev_callK c8.inK (ev_global (v := .ref 21) c8 (by k_is) ⟨by k_is, ?_⟩)
          refine ev_args_cons (ev_binop (ev_local (v := .ref fD) rfl rfl hn8 ?_ (ev_local (v := .ref D8) rfl rfl hn8 rfl (ev_add_lists (fl.at fun o e => of_hideAll _ e) (isList_lst hD8) (by omega) fun D9 h9 k9 nD9 hD9 => ev_args_nil ?_))))
          · exact a2
          refine dedup_ct (n := n + 4) encL (fun v r => Mine.IsL (hideAll h8 [I, h.objs.size, h.objs.size + 1]) v r) (fun v r z => isL_rd (z.up ((hid_of _ _).trans k9))) (c8.keeps k9) hD9 (as := found ++ freshF known) ?_ (by rw [List.length_append]; omega) fun D10 h10 vs10 k10 nD10 hD10 p10 => ?_
          · exact paired_append fp hJ8
          · refine ⟨D10, vs10, rfl, hD10.at fun o e => hideAll_get _ e fun m => ?_, paired_mono (fun _ _ z => z.up (hid_up (k9.trans k10))) p10⟩
            obtain ⟨o, e⟩ := dHL _ m
            exact nomatch nD10.symm.trans (k9 _ _ e)
        refine wpAny_storeName_local rfl (hn8.keeps k9) fun h10 hn10 hs10 => ?_
        dsimp only at hn10 hs10 ⊢
        have kh10 : Kp (hideAll h8 [I, h.objs.size, h.objs.size + 1]) (hideAll h10 [I, h.objs.size, h.objs.size + 1]) := (hid_up k9).trans (hid_but fun b o m e => hs10.extBut b o (fun q => m (by rw [q]; exact List.mem_cons_of_mem _ List.mem_cons_self)) e)
        have e3 : h10.IsCell (h.objs.size + 1) (some (.ref kl)) := isCell_at d3 fun o e => hs10.extBut _ _ (Nat.succ_ne_self _) (k9 _ _ e)
        have e4 := p9.up (hid_but (h' := h10) fun b o m e => hs10.extBut b o (fun q => m (by rw [q]; exact List.mem_cons_of_mem _ List.mem_cons_self)) e)
        have e5 := d5.up kh10
        have e7 := d7.trans kh10
        have kc10 : ∀ b o, b ∉ [h.objs.size, h.objs.size + 1] → s'.heap.get? b = some o → h10.get? b = some o := fun b o m e =>
          hs10.extBut b o (fun q => m (by rw [q]; exact List.mem_cons_self)) (k9 _ _ (k8 b o (fun q => m (by rw [q]; exact List.mem_cons_self)) e))
        have tHL10 : ∀ b ∈ [I, h.objs.size, h.objs.size + 1], ∃ o, h10.get? b = some o := fun b hb => by
          rcases List.mem_cons.mp hb with rfl | hb
          · exact ⟨oI, hs10.extBut _ _ (Ne.symm hLI) (k9 _ _ (k8 _ _ hLI.symm hIt))⟩
          rcases List.mem_cons.mp hb with rfl | hb
          · exact ns_there hn10
          · rw [List.mem_singleton.mp hb]; obtain ⟨o, e, _⟩ := e3; exact ⟨o, e⟩
        clear kh10 d3 p9 d5 d7 hs10
        generalize dd (found ++ freshF known) = found' at a6 e4
        obtain ⟨D9, ys9, rfl, l9, p9⟩ := e4
        have c10 := ccf h10 _ (e7.trans (hid_of _ _)) hn10
        have l9' : h10.IsList D9 ys9.toArray := l9.at fun o e => of_hideAll _ e
        have len9 := p9.length
        have hlen9 : found'.length ≤ 20 := by
          split at a6
          · rename_i q; rw [q]; exact hlk
          · split at a6
            · rename_i q; exact q.2
            · cases a6
        refine wpAny_execs_cons (wpAny_If (EvS.run (post := fun b h' => b = decide (found'.length = known.length)) (ev_true_cmp ?_) fun b h11 t11 k11 p11 => ?_))
        · refine ev_callB (ev_built c10 (by k_is) (v := .builtin "len") (by boot_by_name) ⟨⟨_, rfl⟩, ev_args_cons (ev_local (v := .ref D9) rfl rfl hn10 rfl (ev_args_nil (ev_len l9' (by omega) fun tl => ?_)))⟩)
          refine ev_callB (ev_built c10 (by k_is) (v := .builtin "len") (by boot_by_name) ⟨⟨_, rfl⟩, ev_args_cons (ev_cell (c := h.objs.size + 1) rfl rfl rfl e3 (ev_args_nil ?_))⟩)
          obtain ⟨kl', kvs', ek, lk', ik'⟩ := e5
          cases ek
          have lenK' := ik'.length
          refine ev_len (lk'.at fun o e => of_hideAll _ e) (by omega) fun tl2 => ev_eq_int ⟨_, rfl, ?_⟩
          rw [len9, lenK', Bool.eq_iff_iff, beq_iff_eq, decide_eq_true_iff]
          omega
        · subst p11
          have c11 := c10.keeps k11
          cases hb : decide (found'.length = known.length) with
          | true =>
            rw [if_pos rfl]
            rw [if_pos (of_decide_eq_true hb)] at a6
            cases a6
            refine wpAny_execs_cons (wpAny_Return_some (EvS.run (s := { s' with heap := h11, toks := t11 }) (post := fun v h' => NewL h h' v (Mine.sortI known)) ?_ fun v12 h12 t12 k12 p12 => ?_))
            · refine ev_callB (ev_built c11 (by k_is) (v := .builtin "sorted") (by boot_by_name) ⟨⟨_, rfl⟩, ev_args_cons (ev_cell (c := h.objs.size + 1) rfl rfl rfl (e3.keeps k11) (ev_args_nil (ev_sorted (ns := known) (e5.up ((hid_of _ _).trans k11)) (by omega) fun h' r kk hr' => ?_)))⟩)
              obtain ⟨ra, rvs, e, nn, l, i⟩ := hr'
              exact ⟨ra, rvs, e, none_up ((e7.trans (hid_of _ _)).trans k11) nn, l, i⟩
            · exact kr _ _ _ (k _ _ _ (((e7.trans (hid_of _ _)).trans k11).trans k12) (q _ _ (((e7.trans (hid_of _ _)).trans k11).trans k12) p12))
          | false =>
            rw [if_neg Bool.false_ne_true]
            refine wpAny_execs_nil ?_
            rw [if_neg (of_decide_eq_false hb)] at a6
            split at a6
            case isFalse => cases a6
            rename_i hok
            obtain ⟨hok, hf20⟩ := hok
            have f3 := e3.keeps k11
            have f7 := e7.trans (hid_up k11)
            have fl9 : (hideAll h11 [I, h.objs.size, h.objs.size + 1]).IsList D9 ys9.toArray := l9.at fun o e => (hid_up k11) _ _ e
            have fp9 : Paired (Mine.IsL (hideAll h11 [I, h.objs.size, h.objs.size + 1])) ys9 found' := paired_mono (fun _ _ z => z.up (hid_up k11)) p9
            have hn11 := hn10.keeps k11
            clear e3 e5 e7 l9 l9' p9 c10 hn10
            refine wpAny_execs_cons (wpAny_Assign_Name (EvS.run (s := { s' with heap := h11, toks := t11 }) (post := fun v h' => Mine.IsL (hideAll h' [I, h.objs.size, h.objs.size + 1]) v (found'.map valR)) ?_ fun v12 h12 t12 k12 p12 => ?_))
            · refine ev_comp1 (cl := []) rfl rfl (by decide) (fun C h => (∃ m, h.Ns C m) ∧ CellsThere _ C h ∧ True) (fun C v h => ((∃ m, h.Ns C m) ∧ CellsThere _ C h ∧ True) ∧ h.IsCell (C + 1) (some v)) (fun _ _ => True) (fun _ _ _ _ x => x)
                (fun C => varsC (fun _ => True) (fun _ _ _ x => x) (fun _ _ _ x => x) rfl rfl rfl List.mem_cons_self) (fun C h m hm hc => ⟨⟨m, hm⟩, hc, trivial⟩) (fun C h hv => hv.1) own_name ?_
              refine ev_local (v := .ref D9) rfl rfl hn11 rfl ?_
              refine ⟨_, _, fun i ys h' => IntsAre ys ((found'.take i).map valR), Src.list c1.handled (items := ys9.toArray) (ax := D9) (fl9.at fun o e => of_hideAll _ e), fun _ _ _ _ _ z => z, fun i ys h' z => ?_, fun _ _ _ _ _ _ _ => trivial, .nil,
                fun C Mu i v ys h13 hi hP hL hJ hk hm => ?_, fun D13 h13 ys k13 nD13 hD13 hJ => ?_⟩
              · rw [z.length, List.length_map]; exact Nat.le_trans (List.length_take_le' _ _) (by omega)
              · obtain ⟨r, hr, hvr⟩ := paired_get fp9 (by simpa using hP)
                have okr : okR r = true := List.all_eq_true.mp hok r (List.mem_of_getElem? hr)
                obtain ⟨hlen4, hsm⟩ := Bool.and_eq_true_iff.mp okr
                replace hlen4 : r.length = 4 := by simpa using hlen4
                obtain ⟨_, hrow⟩ := hL
                have k13 : Kp h11 h13 := hk.trans (hid_of _ _)
                have c13 := c11.keeps k13
                refine ev_tests_nil ?_
                rw [if_pos rfl]
                refine ev_callB (ev_built c13 (by k_is) (v := .builtin "sum") (by boot_by_name) ⟨⟨_, rfl⟩, ev_args_cons ?_⟩)
                refine ev_comp1 (cl := [(Str.ofString "row", C + 1)]) rfl rfl (by decide) (fun C h => (∃ m, h.Ns C m ∧ True) ∧ CellsThere _ C h) (fun C v h => (∃ m, h.Ns C m ∧ True ∧ m (Str.ofString "k") = some v) ∧ CellsThere _ C h) (fun _ _ => True) (fun _ _ _ _ x => x)
                  (fun C => varsL (fun _ => True) (fun _ _ x => x) rfl rfl rfl) (fun C h m hm hc => ⟨⟨m, hm, trivial⟩, hc⟩) (fun C h hv => ⟨hv.1.choose, hv.1.choose_spec.1⟩) own_name ?_
                refine ev_callT (ev_built c13 (by k_is) (v := .type "range") (by boot_by_name) ⟨⟨_, rfl⟩, ev_args_cons (ev_int fun t4 => ev_args_nil (ev_range1 fun rr h14 u v x k14 hr14 => ?_))⟩)
                refine ⟨4, _, fun i ys h' => IntsAre ys ((([0, 1, 2, 3] : List Nat).take i).map fun k => r.getD k 0 * 2 ^ k), Src.range4 c1.handled hr14 (by decide), fun _ _ _ _ _ z => z, fun i ys h' z => ?_, fun _ _ _ _ _ _ _ => trivial, .nil,
                  fun C2 Mu2 i2 v2 ys2 h15 hi2 hP2 hL2 hJ2 hk2 hm2 => ?_, fun D16 h16 ys16 k16 nD16 hD16 hJ16 => ev_args_nil (ev_sum (ns := ([0, 1, 2, 3] : List Nat).map fun k => r.getD k 0 * 2 ^ k) c1.handled ⟨D16, ys16, rfl, isList_lst hD16, hJ16⟩ fun h17 t17 k17 => ?_)⟩
                · rw [z.length, List.length_map]; exact Nat.le_trans (List.length_take_le' _ _) (show 4 ≤ sizeLine by decide)
                · obtain ⟨t5, rfl⟩ := hP2
                  obtain ⟨⟨m2, hm2n, _, hm2v⟩, _⟩ := hL2
                  have k15 : Kp h13 h15 := k14.trans (hk2.trans (hid_of _ _))
                  refine ev_tests_nil ?_
                  rw [if_pos rfl]
                  have hsmall : (r.getD i2 0).natAbs < 2 ^ 64 := by
                    have hi4 : i2 < r.length := by rw [hlen4]; exact hi2
                    have := List.all_eq_true.mp hsm r[i2] (List.getElem_mem hi4)
                    have e : r.getD i2 0 = r[i2] := by simp [hi4]
                    rw [e]
                    have := of_decide_eq_true this
                    omega
                  refine ev_binop (ev_sub (ev_cell (c := C + 1) rfl rfl rfl (hrow.keeps k15) (ev_local rfl rfl hm2n hm2v (ev_item (hvr.up ((hid_of _ _).trans (k13.trans k15))) (by rw [hlen4]; exact hi2) (by omega) fun t6 => ?_))))
                  refine ev_local rfl rfl hm2n hm2v (op_shl (Int.natCast_nonneg _) (by omega) hsmall fun t7 => ?_)
                  have e : (([0, 1, 2, 3] : List Nat).take (i2 + 1)) = ([0, 1, 2, 3] : List Nat).take i2 ++ [i2] := by
                    match i2, hi2 with
                    | 0, _ => rfl
                    | 1, _ => rfl
                    | 2, _ => rfl
                    | 3, _ => rfl
                  show IntsAre _ ((([0, 1, 2, 3] : List Nat).take (i2 + 1)).map fun k => r.getD k 0 * 2 ^ k)
                  rw [e, List.map_append]
                  exact Mine.ints_snoc hJ2
                · show IntsAre _ ((found'.take (i + 1)).map valR)
                  rw [Mine.take_snoc hr, List.map_append]
                  exact Mine.ints_snoc hJ
              · refine ⟨D13, ys, rfl, (isList_lst hD13).at fun o e => hideAll_get _ e fun m => ?_, ?_⟩
                · obtain ⟨o, e⟩ := tHL10 _ m
                  exact nomatch nD13.symm.trans (k11 _ _ e)
                · have e1 : found'.take ys9.toArray.size = found' := List.take_of_length_le (by rw [List.size_toArray, len9]; exact Nat.le_refl _)
                  simpa only [e1] using hJ
            · refine wpAny_storeName_cell rfl rfl (c := h.objs.size + 1) rfl (f3.keeps k12) fun h13 hc13 hs13 => ?_
              dsimp only at hc13 hs13 ⊢
              have kh13 : Kp (hideAll h12 [I, h.objs.size, h.objs.size + 1]) (hideAll h13 [I, h.objs.size, h.objs.size + 1]) := hid_but fun b o m e => hs13.extBut b o (fun q => m (by rw [q]; exact List.mem_cons_of_mem _ (List.mem_cons_of_mem _ List.mem_cons_self))) e
              have hH : ∀ h', Kp (hideAll h' [I, h.objs.size, h.objs.size + 1]) (hideAll (hideAll h' [I]) [h.objs.size, h.objs.size + 1]) := fun h' => hid_kp (Mu := [I, h.objs.size, h.objs.size + 1]) fun b o m e =>
                ⟨fun m2 => m (List.mem_cons_of_mem _ m2), hideAll_get _ e fun m2 => m (by rw [List.mem_singleton.mp m2]; exact List.mem_cons_self)⟩
              have hne13 : h.objs.size ≠ h.objs.size + 1 := Nat.ne_of_lt (Nat.lt_succ_self _)
              refine wpAny_execs_nil (kn h13 _ (fun b o m e => hs13.extBut b o (fun q => m (by rw [q]; exact List.mem_cons_of_mem _ List.mem_cons_self)) (k12 _ _ (k11 _ _ (kc10 b o m e))))
                ⟨_, _, _, found', _, ns_hide ((hn11.keeps k12).sameBut hs13 hne13) (by simpa using hLI), rfl, cell_hide hc13 (by simpa using hCI), ?_, (p12.up kh13).up (hH _), ?_, ?_⟩)
              · exact RowsL.up ⟨D9, ys9, rfl, fl9, fp9⟩ ((hid_up k12).trans (kh13.trans (hH _)))
              · rw [show 8 - (i + 1) = r7 by omega]; exact a6
              · exact f7.trans ((hid_up k12).trans (kh13.trans (hH _)))
    · rintro h' tk ⟨m, fv, kv, found, known, a1, a2, a3, a4, a5, a6, a7⟩
      exact nomatch a6
  have reduce_ct : ∀ {prog p : Program} {loose : List Str} {w : World} {mean : ExcName → Option Value} {mg mb : Str → Option Value} {A : Around} {h : Heap} {n : Nat} {v : Value} {ns : List Int} {a : Int} {t : Tok} {post : Value → Heap → Prop} (c : CC (PySem.Challenge.cw_xn0002_01_holds.heap_39 w.params) p loose mean mg mb A h (n + 3)) (hl : Mine.IsL h v ns) (q : ∀ h' t, Kp h h' → post (.int (ns.foldl strokeI a) t) h'),
      EvS (model prog w) A (call (.ref 30) [.ref 72, v, .int a t]) h post := by
    intro prog p loose w mean mg mb A h n v ns a t post c hl q
    refine' ev_defB c ?k6 ?k7 ?k9 ?kB ?c5 ?_ ?c2 ?c3 ?c4
    case k6 => k_is
    case k7 => k_is
    case k9 => intro s X; exact binds_K X rfl (by k_is) rfl rfl rfl
    case kB => exact locs rfl
    case c5 => decide
    case c2 => exact rfl
    case c3 => exact rfl
    case c4 => exact rfl
    intro h₁ s Q E e k1 hns ccf k
    subst e
    obtain ⟨l, vs, rfl, hl, hI⟩ := hl
    have lenE : vs.length = ns.length := hI.length
    have c1 := ccf _ _ k1 hns
    refine wpAny_execs_cons (wpAny_Assign_Name (EvS.run (post := fun v h' => ∃ I, v = .ref I ∧ s.heap.get? I = none ∧ h'.IsListIter I l 0) ?_ fun v h2 t2 k2 p2 => ?_))
    · refine ev_callB (ev_built c1 (by k_is) (v := .builtin "iter") (by boot_by_name) ⟨⟨_, rfl⟩, ev_args_cons (ev_local (v := .ref l) rfl rfl hns rfl (ev_args_nil ?_))⟩)
      exact ev_iter_list (hl.at fun o e => k1 _ _ e) fun I h' kk nI hit => ⟨I, rfl, nI, hit⟩
    obtain ⟨I, rfl, nI, hit⟩ := p2
    refine wpAny_storeName_local rfl (hns.keeps k2) fun h3 hn3 hs3 => ?_
    dsimp only at hn3 hs3 ⊢
    obtain ⟨oL, eL⟩ := ns_there hns
    have hLI : h.objs.size ≠ I := by rintro rfl; exact nomatch nI.symm.trans eL
    have kg3 : Kp h h3 := fun b o e => hs3.extBut b o (Nat.ne_of_lt (Heap.lt_size e)) (k2 _ _ (k1 _ _ e))
    have hit3 : h3.IsListIter I l 0 := hit.at fun o e => hs3.extBut _ _ (Ne.symm hLI) e
    have c3 := ccf _ _ kg3 hn3
    refine wpAny_execs_cons (wpAny_If (EvS.run (s := { s with heap := h3, toks := t2 + 1 }) (post := fun b h' => b = false) (ev_true_cmp (ev_local (v := .int a t) rfl rfl hn3 rfl (ev_global (v := .ref 22) c3 (by k_is) (ev_is_int_ref ⟨_, rfl, rfl⟩)))) fun b h4 t4 k4 p4 => ?_))
    subst p4
    rw [if_neg Bool.false_ne_true]
    refine wpAny_execs_cons (wpAny_Assign_Name (EvS.run (s := { s with heap := h4, toks := t4 }) (post := fun v h' => v = .int a t) (ev_local rfl rfl (hn3.keeps k4) rfl rfl) fun v h5 t5 k5 p5 => ?_))
    subst p5
    refine wpAny_storeName_local rfl ((hn3.keeps k4).keeps k5) fun h6 hn6 hs6 => ?_
    dsimp only at hn6 hs6 ⊢
    refine wpAny_execs_nil ?_
    have kg6 : Kp h h6 := fun b o e => hs6.extBut b o (Nat.ne_of_lt (Heap.lt_size e)) (k5 _ _ (k4 _ _ (kg3 _ _ e)))
    have hit6 : h6.IsListIter I l 0 := (hit3.at fun o e => k5 _ _ (k4 _ _ e)).at fun o e => hs6.extBut _ _ (Ne.symm hLI) e
    have hIg : h.get? I = none := none_up k1 nI
    have lne : l ≠ I := by rintro rfl; obtain ⟨o, e, _⟩ := hl; exact nomatch hIg.symm.trans e
    have lnL : h.objs.size ≠ l := by rintro rfl; obtain ⟨o, e, _⟩ := hl; exact Nat.lt_irrefl _ (Heap.lt_size e)
    refine wpAny_execs_cons (ex_for_it rfl rfl (s := { s with heap := h6, toks := t5 + 1 }) (ev_local (v := .ref I) rfl rfl hn6 rfl ?_))
    refine ⟨I, l, vs.toArray, fun i h' => ∃ m tk, h'.Ns h.objs.size m ∧ m (Str.ofString "function") = some (.ref 72) ∧ m (Str.ofString "value") = some (.int ((ns.take i).foldl strokeI a) tk) ∧ Kp h h', rfl, c1.handled, hit6, hl.at fun o e => kg6 _ _ e, lne, hLI, lnL,
      ?_, ⟨_, t, ns_hide hn6 (by simpa using hLI), rfl, rfl, fun b o e => hideAll_get _ (kg6 _ _ e) fun m => by rw [List.mem_singleton.mp m] at e; exact nomatch hIg.symm.trans e⟩, fun i h' z => ⟨z.choose, z.choose_spec.choose_spec.1⟩, ?_, ?_⟩
    · rintro i h' h'' kk ⟨m, tk, a1, a2, a3, a4⟩
      exact ⟨m, tk, a1.keeps kk, a2, a3, a4.trans kk⟩
    · rintro i v m h0 s' Q' E' hi hP ⟨m', tk, a1, a2, a3, a4⟩ hm hI0 hk hns' - kn
      cases ns_uniq a1 hm
      obtain ⟨b, tb, hb, rfl⟩ := ints_at hI (by simpa using hP)
      have kg : Kp h s'.heap := fun b o e => hk b o (Nat.ne_of_lt (Heap.lt_size e)) (a4 _ _ e)
      have cs := ccf _ _ kg hns'
      refine wpAny_execs_cons (wpAny_Assign_Name (EvS.run (post := fun v h' => ∃ tk, v = .int ((ns.take (i + 1)).foldl strokeI a) tk) ?_ fun v h7 t7 k7 p7 => ?_))
      · refine ev_callK cs.inK (ev_local (v := .ref 72) rfl rfl hns' ?_ ⟨by k_is, ?_⟩)
        · exact a2
        refine ev_args_cons (ev_local (v := .int ((ns.take i).foldl strokeI a) tk) rfl rfl hns' ?_ (ev_args_cons (ev_local (v := .int b tb) rfl rfl hns' rfl (ev_args_nil ?_))))
        · exact a3
        refine stroke_ct (n := n) cs fun h8 t8 k8 => ⟨t8, ?_⟩
        rw [Mine.take_snoc hb, List.foldl_append]; rfl
      obtain ⟨tk7, rfl⟩ := p7
      refine wpAny_storeName_local rfl (hns'.keeps k7) fun h8 hn8 hs8 => ?_
      dsimp only at hn8 hs8 ⊢
      refine wpAny_execs_nil (kn h8 _ (fun b o hb e => hs8.extBut b o hb (k7 _ _ e)) ⟨_, tk7, ns_hide hn8 (by simpa using hLI), ?_, rfl, fun b o e => hideAll_get _ (hs8.extBut b o (Nat.ne_of_lt (Heap.lt_size e)) (k7 _ _ (kg _ _ e))) fun m => by
        rw [List.mem_singleton.mp m] at e; exact nomatch hIg.symm.trans e⟩)
      exact a2
    · rintro h' tk ⟨m, tk2, a1, a2, a3, a4⟩
      have e1 : ns.take vs.toArray.size = ns := List.take_of_length_le (by rw [List.size_toArray, lenE]; exact Nat.le_refl _)
      rw [e1] at a3
      refine wpAny_execs_cons (wpAny_Return_some (EvS.run (s := { s with heap := h', toks := tk }) (post := fun v h'' => v = .int (ns.foldl strokeI a) tk2) (ev_local rfl rfl a1 a3 rfl) fun v h'' t9 k9 p9 => ?_))
      subst p9
      exact k _ _ _ (a4.trans k9) (q _ _ (a4.trans k9))
  have law_ct : ∀ {prog p : Program} {loose : List Str} {w : World} {mean : ExcName → Option Value} {mg mb : Str → Option Value} {s : Shared} {R : Result → Shared → Prop} {l : Addr} {vs : List Value} {script : List Int} (T : Top p loose mean mg mb s.heap) (X : (PySem.Challenge.cw_xn0002_01_holds.heap_39 w.params).In s.heap) (hl : s.heap.IsList l vs.toArray) (hI : IntsAre vs script) (h63 : script.length ≤ 63) (kR : ∀ h' tk m, Kp s.heap h' → h'.Ns s.heap.objs.size m → R (.ok (.ret (.bool true))) { s with heap := h', toks := tk }),
      codeAny (model prog w) callerA (.call (.ref 87) ⟨[.ref l], []⟩) R s := by
    intro prog p loose w mean mg mb s R l vs script T X hl hI h63 kR
    refine' top_defC T X ?k6 ?k7 ?k9 ?kB ?_ ?c2 ?c3 ?c4
    case k6 => k_is
    case k7 => k_is
    case k9 => exact rfl
    case kB => exact rfl
    case c2 => exact rfl
    case c3 => exact rfl
    case c4 => exact rfl
    rintro s' Q EE ⟨tk0, es⟩ k1 hns hcell ccf k
    generalize hg : s.heap = g at *
    generalize hLL : g.objs.size = L at *
    have cD : s'.heap.IsCell (L + 1) none := hcell (Str.ofString "drawn") _ rfl
    have cF : s'.heap.IsCell (L + 2) none := hcell (Str.ofString "first") _ rfl
    have cA : s'.heap.IsCell (L + 3) none := hcell (Str.ofString "alike") _ rfl
    obtain ⟨x, y, hx, hy, hdr, h35⟩ := drawnF_two script
    have hgnone : ∀ b ∈ HLof L, g.get? b = none := fun b hb => none_of_ge (by
      rw [hLL]
      rcases List.mem_cons.mp hb with rfl | hb
      · exact Nat.le_refl _
      rcases List.mem_cons.mp hb with rfl | hb
      · exact Nat.le_add_right _ _
      rcases List.mem_cons.mp hb with rfl | hb
      · exact Nat.le_add_right _ _
      rw [List.mem_singleton.mp hb]; exact Nat.le_add_right _ _)
    have kHL : ∀ {h' : Heap}, Kp g h' → Kp g (hideAll h' (HLof L)) := fun kk b o e => hideAll_get _ (kk b o e) fun m => nomatch (hgnone b m).symm.trans e
    have hs64 : 1000 ≤ sizeLine := by decide
    have c1 := ccf _ _ k1 hns
    have st0 : LawAt g s'.heap L _ none none none (fun _ => True) := ⟨hns, cD, cF, cA, kHL k1, trivial⟩
    -- drawn
    refine wpAny_execs_cons (wpAny_Assign_Name (EvS.run (post := fun v h' => Mine.IsL (hideAll h' (HLof L)) v (drawnF script)) ?_ fun v1 h1 t1 q1 p1 => ?_))
    · refine ev_slice (ns := ((script.take 2).map fun n : Int => n.fmod 16) ++ [3, 5]) (out := drawnF script) (lo := none) (hi := some 2) (ev_binop ?_) (by
        rw [List.length_append, List.length_map]; have := List.length_take_le 2 script; simp only [List.length_cons, List.length_nil]; omega) (fun vs hi => kmk_upto hi (by decide))
      refine ev_comp1 (cl := []) rfl rfl (by decide) (fun C h => (∃ m, h.Ns C m ∧ True) ∧ CellsThere _ C h) (fun C v h => (∃ m, h.Ns C m ∧ True ∧ m (Str.ofString "number") = some v) ∧ CellsThere _ C h) (fun _ _ => True) (fun _ _ _ _ x => x)
        (fun C => varsL (fun _ => True) (fun _ _ x => x) rfl rfl rfl) (fun C h m hm hc => ⟨⟨m, hm, trivial⟩, hc⟩) (fun C h hv => ⟨hv.1.choose, hv.1.choose_spec.1⟩) own_name ?_
      refine ev_slice (ns := script) (out := script.take 2) (lo := none) (hi := some 2) (ev_local (v := .ref l) rfl rfl hns rfl ⟨⟨l, vs, rfl, hl.at fun o e => k1 _ _ e, hI⟩, ev_part_none (ev_part_some (ev_int fun t2 => ⟨.none, .int 2 t2, fun h2 r2 q2 hr2 => ?_⟩))⟩) (by omega) (fun vs hi => kmk_upto hi (by decide))
      obtain ⟨l2, vs2, rfl, _, hl2, hI2⟩ := hr2
      have len2 := hI2.length
      refine ⟨_, _, fun i ys h' => IntsAre ys (((script.take 2).take i).map fun n : Int => n.fmod 16), Src.list c1.handled (items := vs2.toArray) (ax := l2) hl2, fun _ _ _ _ _ z => z, fun i ys h' z => ?_, fun _ _ _ _ _ _ _ => trivial, .nil,
        fun C Mu i v ys h3 hi hP hL hJ hk hm => ?_, fun D h3 ys q3 nD hD hJ => ?_⟩
      · rw [z.length, List.length_map]; exact Nat.le_trans (List.length_take_le' _ _) (Nat.le_trans (List.length_take_le 2 script) (by omega))
      · obtain ⟨a, ta, ha, rfl⟩ := ints_at hI2 (by simpa using hP)
        obtain ⟨⟨m, hm', _, hv⟩, _⟩ := hL
        refine ev_tests_nil ?_
        rw [if_pos rfl]
        refine ev_binop (ev_local rfl rfl hm' hv (ev_int fun t3 => op_mod (by decide) fun t4 => ?_))
        show IntsAre _ (((script.take 2).take (i + 1)).map fun n : Int => n.fmod 16)
        rw [Mine.take_snoc ha, List.map_append]
        exact Mine.ints_snoc hJ
      · refine ev_list (ev_args_cons (ev_int fun t3 => ev_args_cons (ev_int fun t4 => ev_args_nil (ev_newList (show 2 ≤ sizeLine by decide) fun D4 h4 q4 nD4 hD4 => ?_))))
        have e1 : (script.take 2).take vs2.toArray.size = script.take 2 := List.take_of_length_le (by rw [List.size_toArray, len2]; exact Nat.le_refl _)
        have hJ' : IntsAre ys ((script.take 2).map fun n : Int => n.fmod 16) := by simpa only [e1] using hJ
        have lenJ := hJ'.length
        refine ev_add_lists (vs := ys) (ws := [.int 3 t3, .int 5 t4]) ((isList_lst hD).at fun o e => q4 _ _ e) ⟨_, hD4, rfl, _, rfl⟩ ?_ fun D5 h5 q5 nD5 hD5 => ?_
        · rw [lenJ, List.length_map]; have := List.length_take_le 2 script; simp only [List.length_cons, List.length_nil]; omega
        · refine ⟨⟨D5, _, rfl, hD5, hJ'.append (.cons _ _ (.cons _ _ .nil))⟩, ev_part_none (ev_part_some (ev_int fun t6 => ⟨.none, .int 2 t6, fun h6 r6 q6 hr6 => ?_⟩))⟩
          exact hr6.hide fun b hb => let ⟨o, e⟩ := st0.mem b hb; ⟨o, q5 _ _ (q4 _ _ (q3 _ _ (q2 _ _ e)))⟩
    rw [hdr] at p1
    refine wpAny_storeName_cell rfl rfl (c := L + 1) rfl (cD.keeps q1) fun h2 hc2 hs2 => ?_
    dsimp only at hc2 hs2 ⊢
    have st1 : LawAt g h2 L _ (some v1) none none (fun H => Mine.IsL H v1 [(x : Int), (y : Int)]) := (st0.up (fun _ _ _ z => z) q1).setD hc2 hs2 (fun _ _ k z => z.up k) p1
    clear p1 hc2 hs2 st0 cD cF cA hns
    have c2 := ccf _ _ (st1.kp.trans (hid_of _ _)) st1.ns
    -- first
    refine wpAny_execs_cons (wpAny_Assign_Name (EvS.run (s := { s' with heap := h2, toks := t1 }) (post := fun v h' => Mine.IsL (hideAll h' (HLof L)) v ((dueM (alikeM x y)).map E)) ?_ fun v3 h3 t3 q3 p3 => ?_))
    · refine ev_callK c2.inK (ev_global (v := .ref 82) c2 (by k_is) ⟨by k_is, ?_⟩)
      refine ev_args_cons (ev_callK c2.inK (ev_global (v := .ref 21) c2 (by k_is) ⟨by k_is, ?_⟩))
      refine ev_args_cons (ev_cell (c := L + 1) rfl rfl rfl st1.cD (ev_args_nil ?_))
      obtain ⟨dl, dvs, rfl, dL, dI⟩ := st1.facts
      refine dedup_ct (n := 19) encI (fun v a => ∃ t, v = .int a t) (fun v a ⟨t, e⟩ => e ▸ ⟨_, .int a t⟩) c2 (dL.at fun o e => of_hideAll _ e) (Mine.paired_ints dI) (by rw [show ([(x : Int), (y : Int)]).length = 2 from rfl]; decide) fun D h4 vs4 k4 nD hD p4 => ev_args_nil ?_
      refine closed_ct (n := 14) (c2.keeps k4) (tables := dd [(x : Int), (y : Int)]) ⟨D, vs4, rfl, hD, ints_paired p4⟩ (Nat.le_trans (dd_len _) (by rw [show ([(x : Int), (y : Int)]).length = 2 from rfl]; decide)) (run_F hx hy) fun h5 r k5 hr => ?_
      exact hr.hide fun b hb => let ⟨o, e⟩ := st1.mem b hb; ⟨o, k4 _ _ e⟩
    refine wpAny_storeName_cell rfl rfl (c := L + 2) rfl (st1.cF.keeps q3) fun h4 hc4 hs4 => ?_
    dsimp only at hc4 hs4 ⊢
    have st2 : LawAt g h4 L _ (some v1) (some v3) none (fun H => Mine.IsL H v1 [(x : Int), (y : Int)] ∧ Mine.IsL H v3 ((dueM (alikeM x y)).map E)) := (st1.up (fun _ _ k z => z.up k) q3).setF hc4 hs4 (fun _ _ k z => ⟨z.1.up k, z.2.up k⟩) ⟨st1.facts.up (hid_up q3), p3⟩
    clear p3 hc4 hs4 st1 c2
    have c4 := ccf _ _ (st2.kp.trans (hid_of _ _)) st2.ns
    -- alike
    refine wpAny_execs_cons (wpAny_Assign_Name (EvS.run (s := { s' with heap := h4, toks := t3 }) (post := fun v h' => PairsL (hideAll h' (HLof L)) v (alikeM x y)) ?_ fun v5 h5 t5 q5 p5 => ?_))
    · refine ev_comp2 (cl := [(Str.ofString "drawn", L + 1)]) rfl rfl (by decide)
        (fun C h => (∃ m, h.Ns C m) ∧ CellsThere _ C h ∧ True) (fun C v h => ((∃ m, h.Ns C m) ∧ CellsThere _ C h ∧ True) ∧ h.IsCell (C + 1) (some v))
        (fun C v h => (∃ m, h.Ns C m) ∧ CellsThere _ C h ∧ h.IsCell (C + 1) (some v)) (fun C v v2 h => ((∃ m, h.Ns C m) ∧ CellsThere _ C h ∧ h.IsCell (C + 1) (some v)) ∧ h.IsCell (C + 2) (some v2))
        (fun C => varsC (fun _ => True) (fun _ _ _ x => x) (fun _ _ _ x => x) rfl rfl rfl (by first | exact List.mem_cons_self | exact List.mem_cons_of_mem _ List.mem_cons_self))
        (fun C v => varsC (fun h => h.IsCell (C + 1) (some v)) (fun _ _ k z => z.sameBut k (neab C 1 2 (by decide))) (fun _ _ k z => isCell_at z fun o e => k _ (List.mem_cons_of_mem _ (by first | exact List.mem_cons_self | exact List.mem_cons_of_mem _ List.mem_cons_self)) o e) rfl rfl rfl (by first | exact List.mem_cons_self | exact List.mem_cons_of_mem _ List.mem_cons_self))
        (fun C h m hm hc => ⟨⟨m, hm⟩, hc, trivial⟩) (fun C h hv => hv.1) (fun C v h z => ⟨z.1.1, z.1.2.1, z.2⟩) (fun C v h z => ⟨z.1, z.2.1, trivial⟩) own_name own_name ?_
      refine ev_callT (ev_built c4 (by k_is) (v := .type "range") (by boot_by_name) ⟨⟨_, rfl⟩, ev_args_cons (ev_int fun t6 => ev_args_nil (ev_range1 fun r6 h6 u6 w6 x6 k6 hr6 => ?_))⟩)
      refine ⟨4, _, fun i ys h' => Paired (TupI (hideAll h' (HLof L))) ys (alikeG [(x : Int), (y : Int)] (List.range i)), Src.range4 c1.handled hr6 (by decide), fun i ys h' h'' kk z => paired_mono (fun _ _ z => z.up (hid_up kk)) z, .nil,
        fun C Mu i v ys h7 hi hP hL hJ hk hm => ?_, fun D h7 ys k7 nD hD hJ => ?_⟩
      · obtain ⟨tv, rfl⟩ := hP
        obtain ⟨_, hj1⟩ := hL
        have k7 : Kp h6 h7 := hk.trans (hid_of _ _)
        have c7 := c4.keeps (k6.trans k7)
        refine ev_callT (ev_built c7 (by k_is) (v := .type "range") (by boot_by_name) ⟨⟨_, rfl⟩, ev_args_cons (ev_cell (c := C + 1) rfl rfl rfl hj1 (ev_args_nil (ev_range1 fun r8 h8 u8 w8 x8 k8 hr8 => ?_)))⟩)
        refine ⟨i, _, fun j ys h' => j ≤ i ∧ Paired (TupI (hideAll h' (HLof L))) ys (alikeG [(x : Int), (y : Int)] (List.range i) ++ ((List.range j).filter (sameAt [(x : Int), (y : Int)] i)).map fun k => (i, k)),
          Src.range4 c1.handled hr8 (by omega), fun j ys h' h'' kk z => ⟨z.1, paired_mono (fun _ _ z => z.up (hid_up kk)) z.2⟩, fun j ys h' z => ?_, ⟨Nat.zero_le _, ?_⟩, fun ys h' z => ?_, fun Mu2 j v2 ys h9 hj hP2 hL2 hJ2 hk2 hm2 => ?_⟩
        · rw [z.2.length, List.length_append, List.length_map]
          have a1 := alikeG_len [(x : Int), (y : Int)] i
          have a2 := List.length_filter_le (sameAt [(x : Int), (y : Int)] i) (List.range j)
          rw [List.length_range] at a2
          have a3 : i * i ≤ 4 * 4 := Nat.mul_le_mul (by omega) (by omega)
          have := z.1
          omega
        · simpa using paired_mono (fun _ _ z => z.up (hid_up (hid_up k8))) hJ
        · show Paired _ _ (alikeG [(x : Int), (y : Int)] (List.range (i + 1)))
          rw [alikeG_snoc]; exact z.2
        · obtain ⟨tv2, rfl⟩ := hP2
          obtain ⟨⟨_, _, hj2⟩, hk2c⟩ := hL2
          have k9 : Kp h6 h9 := hk2.trans (hid_of _ _)
          have st9 := st2.up (fun _ _ k z => ⟨z.1.up k, z.2.up k⟩) (k6.trans k9)
          have c9 := c4.keeps (k6.trans k9)
          have hu9 := c9.units
          have hj4 : j < 4 := by omega
          obtain ⟨⟨dl, dvs, rfl, dL, dI⟩, _⟩ := id st9.facts
          have lenD : dvs.length = 2 := dI.length
          refine ev_tests_one (ev_true_cmp (ev_comp1 (cl := [(Str.ofString "k", C + 2), (Str.ofString "j", C + 1)]) rfl rfl (by decide)
            (fun C h => (∃ m, h.Ns C m ∧ True) ∧ CellsThere _ C h) (fun C v h => (∃ m, h.Ns C m ∧ True ∧ m (Str.ofString "table") = some v) ∧ CellsThere _ C h) (fun _ _ => True) (fun _ _ _ _ x => x)
            (fun C => varsL (fun _ => True) (fun _ _ x => x) rfl rfl rfl) (fun C h m hm hc => ⟨⟨m, hm, trivial⟩, hc⟩) (fun C h hv => ⟨hv.1.choose, hv.1.choose_spec.1⟩) own_name ?_))
          refine ev_cell (c := L + 1) rfl rfl rfl st9.cD ?_
          refine ⟨_, _, fun a ys h' => IntsAre ys (([(x : Int), (y : Int)].take a).filter fun t => decide (bitI t i ≠ bitI t j)), Src.list c1.handled (items := dvs.toArray) (ax := dl) (dL.at fun o e => of_hideAll _ e), fun _ _ _ _ _ z => z, fun a ys h' z => ?_, fun _ _ _ _ _ _ _ => trivial, .nil,
            fun C2 Mu3 a v ys3 h10 ha hP3 hL3 hJ3 hk3 hm3 => ?_, fun D3 h10 ys3 k10 nD3 hD3 hJ3 => ?_⟩
          · rw [z.length]; exact Nat.le_trans (List.length_filter_le _ _) (Nat.le_trans (List.length_take_le' _ _) (show 2 ≤ sizeLine by decide))
          · obtain ⟨t, tt, ht, rfl⟩ := ints_at dI (by simpa using hP3)
            obtain ⟨⟨m3, hm3n, _, hm3v⟩, _⟩ := hL3
            have k10 : Kp h9 h10 := hk3.trans (hid_of _ _)
            have c10 := c9.keeps k10
            refine ev_tests_one (ev_true_cmp (ev_sub (ev_callK c10.inK (ev_global (v := .ref 77) c10 (by k_is) ⟨by k_is, ?_⟩))))
            refine ev_args_cons (ev_local rfl rfl hm3n hm3v (ev_args_nil ?_))
            refine listed_ct (n := 17) c10 fun h11 r11 k11 hr11 => ?_
            refine ev_cell (c := C + 1) rfl rfl rfl (hj2.keeps (k10.trans k11)) (ev_base (ev_item hr11.isL hi (by omega) fun t12 => ?_))
            rw [listed_get _ hi]
            have c11 := c10.keeps k11
            refine ev_sub (ev_callK c11.inK (ev_global (v := .ref 77) c11 (by k_is) ⟨by k_is, ?_⟩))
            refine ev_args_cons (ev_local rfl rfl (hm3n.keeps k11) hm3v (ev_args_nil ?_))
            refine listed_ct (n := 17) c11 fun h12 r12 k12 hr12 => ?_
            refine ev_cell (c := C + 2) rfl rfl rfl (hk2c.keeps (k10.trans (k11.trans k12))) (ev_base (ev_item hr12.isL hj4 (by omega) fun t13 => ?_))
            rw [listed_get _ hj4]
            refine ev_ne_int ⟨_, rfl, ?_⟩
            have e1 : (([(x : Int), (y : Int)].take (a + 1)).filter fun t => decide (bitI t i ≠ bitI t j)) = (([(x : Int), (y : Int)].take a).filter fun t => decide (bitI t i ≠ bitI t j)) ++ ([t].filter fun t => decide (bitI t i ≠ bitI t j)) := by
              rw [Mine.take_snoc ht, List.filter_append]
            by_cases hd : bitI t i = bitI t j
            · rw [if_neg (by simp [hd])]
              show IntsAre _ (([(x : Int), (y : Int)].take (a + 1)).filter fun t => decide (bitI t i ≠ bitI t j))
              rw [e1, show ([t].filter fun t => decide (bitI t i ≠ bitI t j)) = [] by simp [hd], List.append_nil]
              exact hJ3
            · rw [if_pos (by simp [hd])]
              refine ev_local rfl rfl ((hm3n.keeps k11).keeps k12) hm3v ?_
              show IntsAre _ (([(x : Int), (y : Int)].take (a + 1)).filter fun t => decide (bitI t i ≠ bitI t j))
              rw [e1, show ([t].filter fun t => decide (bitI t i ≠ bitI t j)) = [t] by simp [hd]]
              exact Mine.ints_snoc hJ3
          · have e1 : [(x : Int), (y : Int)].take dvs.toArray.size = [(x : Int), (y : Int)] := List.take_of_length_le (by rw [List.size_toArray, lenD]; exact Nat.le_refl _)
            replace hJ3 : IntsAre ys3 ([(x : Int), (y : Int)].filter fun t => decide (bitI t i ≠ bitI t j)) := by simpa only [e1] using hJ3
            refine ev_list (ev_args_nil (ev_newList (show 0 ≤ sizeLine by decide) fun D4 h11 k11 nD4 hD4 => ?_))
            refine ev_eq_lists (by omega) ⟨D3, ys3, rfl, (isList_lst hD3).at fun o e => k11 _ _ e, hJ3⟩ ⟨D4, [], rfl, ⟨_, hD4, rfl, _, rfl⟩, .nil⟩ ⟨_, rfl, ?_⟩
            show if sameAt [(x : Int), (y : Int)] i j = true then _ else _
            have e2 : ((List.range (j + 1)).filter (sameAt [(x : Int), (y : Int)] i)).map (fun k => (i, k)) = ((List.range j).filter (sameAt [(x : Int), (y : Int)] i)).map (fun k => (i, k)) ++ ([j].filter (sameAt [(x : Int), (y : Int)] i)).map (fun k => (i, k)) := by
              rw [List.range_succ, List.filter_append, List.map_append]
            cases hd : sameAt [(x : Int), (y : Int)] i j with
            | false =>
              rw [if_neg Bool.false_ne_true]
              refine ⟨hj, ?_⟩
              rw [e2, show ([j].filter (sameAt [(x : Int), (y : Int)] i)) = [] by simp [hd]]
              simpa using paired_mono (fun _ _ z => z.up (hid_up (hid_up (k10.trans k11)))) hJ2.2
            | true =>
              rw [if_pos rfl]
              refine ev_tuple (ev_args_cons (ev_cell (c := C + 1) rfl rfl rfl (hj2.keeps (k10.trans k11)) (ev_args_cons (ev_cell (c := C + 2) rfl rfl rfl (hk2c.keeps (k10.trans k11)) (ev_args_nil (ev_newTuple (show 2 ≤ sizeLine by decide) fun D5 h12 k12 nD5 hT5 => ?_))))))
              refine ⟨hj, ?_⟩
              rw [e2, show ([j].filter (sameAt [(x : Int), (y : Int)] i)) = [j] by simp [hd], ← List.append_assoc]
              refine (paired_mono (fun _ _ z => z.up (hid_up (hid_up (k10.trans (k11.trans k12))))) hJ2.2).snoc ⟨D5, tv, tv2, rfl, isTuple_at hT5 fun o e => hideAll_get _ (hideAll_get _ e fun m => ?_) fun m => ?_⟩
              · obtain ⟨o, e⟩ := hm2 _ m
                exact nomatch nD5.symm.trans (k11 _ _ (k10 _ _ e))
              · obtain ⟨o, e⟩ := st9.mem _ m
                exact nomatch nD5.symm.trans (k11 _ _ (k10 _ _ e))
      · refine ⟨D, ys, rfl, (isList_lst hD).at fun o e => hideAll_get _ e fun m => ?_, ?_⟩
        · obtain ⟨o, e⟩ := st2.mem _ m
          exact nomatch nD.symm.trans (k6 _ _ e)
        · rw [← alike_M hx hy]; exact hJ
    refine wpAny_storeName_cell rfl rfl (c := L + 3) rfl (st2.cA.keeps q5) fun h6 hc6 hs6 => ?_
    dsimp only at hc6 hs6 ⊢
    have st3 : LawAt g h6 L _ (some v1) (some v3) (some v5) (fun H => Mine.IsL H v3 ((dueM (alikeM x y)).map Mine.E) ∧ PairsL H v5 (alikeM x y)) := (st2.up (fun _ _ k z => ⟨z.1.up k, z.2.up k⟩) q5).setA hc6 hs6 (fun _ _ k z => ⟨z.1.up k, z.2.up k⟩) ⟨st2.facts.2.up (hid_up q5), p5⟩
    have hal : ∀ p ∈ alikeM x y, p.1 < 4 ∧ p.2 < 4 := fun p hp => alike_lt hp
    have h16 : script = [] → (dueM (alikeM x y)).length = 16 := fun e => by obtain ⟨rfl, rfl⟩ := h35 e; exact due_35
    have hal16 : (alikeM x y).length ≤ 16 := by rw [← alike_M hx hy]; exact alikeG_len _ 4
    clear p5 hc6 hs6 st2 c4 hdr h35
    generalize alikeM x y = al at st3 hal h16 hal16
    have c6 := ccf _ _ (st3.kp.trans (hid_of _ _)) st3.ns
    -- due
    refine wpAny_execs_cons (st_comp1 (s := { s' with heap := h6, toks := t5 }) (cl := [(Str.ofString "alike", L + 3)]) rfl rfl rfl st3.ns (HLof L) List.mem_cons_self rfl rfl (by decide)
      (fun C h => (∃ m, h.Ns C m) ∧ CellsThere _ C h ∧ True) (fun C v h => ((∃ m, h.Ns C m) ∧ CellsThere _ C h ∧ True) ∧ h.IsCell (C + 1) (some v)) (fun _ _ => True) (fun _ _ _ _ x => x)
      (fun C => varsC (fun _ => True) (fun _ _ _ x => x) (fun _ _ _ x => x) rfl rfl rfl List.mem_cons_self) (fun C h m hm hc => ⟨⟨m, hm⟩, hc, trivial⟩) (fun C h hv => hv.1) own_name ?_)
    refine ev_callT (ev_built c6 (by k_is) (v := .type "range") (by boot_by_name) ⟨⟨_, rfl⟩, ev_args_cons (ev_int fun t7 => ev_args_nil (ev_range1 fun r7 h7 u7 w7 x7 k7 hr7 => ?_))⟩)
    refine ⟨16, _, fun i ys h' => i ≤ 16 ∧ IntsAre ys (dueG al (List.range i)), Src.range4 c1.handled hr7 (by decide), fun _ _ _ _ _ z => z, fun i ys h' z => ?_, fun _ _ _ _ _ _ _ => trivial, ⟨by decide, .nil⟩,
      fun C Mu i v ys h8 hi hP hL hJ hk hm => ?_, fun D h8 t8 ys hn8 k8 nD hD hJ => ?_⟩
    · rw [z.2.length]
      have := dueG_len al i
      have := z.1
      omega
    · obtain ⟨tv, rfl⟩ := hP
      obtain ⟨_, hT⟩ := hL
      have k8 : Kp h7 h8 := hk.trans (hid_of _ _)
      have st8 := st3.up (fun _ _ k z => ⟨z.1.up k, z.2.up k⟩) (k7.trans k8)
      have c8 := c6.keeps (k7.trans k8)
      have hu8 := c8.units
      obtain ⟨_, pD, pys, rfl, pl, pp⟩ := id st8.facts
      have lenP := pp.length
      refine ev_tests_one (ev_true_cmp (ev_comp1 (cl := [(Str.ofString "table", C + 1)]) rfl rfl (by decide) _ _ _
        (fun v h h' k ⟨T, a, b, e, z⟩ => ⟨T, a, b, e, isTuple_at z fun o e => k _ _ e⟩) (fun C2 => varsT (scope := _) (C := C2) c1.handled rfl rfl rfl rfl) (fun C h m hm hc => ⟨⟨m, hm⟩, hc⟩) (fun C h hv => hv.1) own_tuple ?_))
      refine ev_cell (c := L + 3) rfl rfl rfl st8.cA ?_
      refine ⟨_, _, fun a ys h' => IntsAre ys ((parted (al.take a) (i : Int)).map fun _ => (1 : Int)) ∧ Paired (TupI h') pys al, Src.list c1.handled (items := pys.toArray) (ax := pD) (pl.at fun o e => of_hideAll _ e), fun _ _ _ _ k z => ⟨z.1, paired_mono (fun _ _ z => z.up k) z.2⟩,
        fun a ys h' z => ?_, fun a v ys h' ha hP z => ?_, ⟨.nil, paired_mono (fun _ _ z => z.up (hid_of _ _)) pp⟩, fun C2 Mu3 a v ys3 h10 ha hP3 hL3 hJ3 hk3 hm3 => ?_, fun D3 h10 ys3 k10 nD3 hD3 hJ3 => ?_⟩
      · rw [z.1.length, List.length_map]
        have a1 : (parted (al.take a) (i : Int)).length ≤ (al.take a).length := List.length_filter_le _ _
        have a2 : (al.take a).length ≤ al.length := List.length_take_le' _ _
        omega
      · obtain ⟨pr, _, T, tj, tk, e, hT⟩ := paired_get z.2 (i := a) (a := v) (by simpa using hP)
        exact ⟨T, _, _, e, hT⟩
      · obtain ⟨pr, hpr, hTup⟩ := paired_get pp (i := a) (a := v) (by simpa using hP3)
        obtain ⟨h4a, h4b⟩ := hal pr (List.mem_of_getElem? hpr)
        obtain ⟨⟨m3, T3, va, vb, e3, hT3, hm3n, hva, hvb⟩, _⟩ := hL3
        have k10 : Kp h8 h10 := hk3.trans (hid_of _ _)
        have c10 := c8.keeps k10
        obtain ⟨T4, tj, tk, e4, hT4⟩ := hTup.up ((hid_of _ _).trans k10)
        cases e3.symm.trans e4
        cases tuple_uniq hT3 hT4
        refine ev_tests_one (ev_true_cmp (ev_sub (ev_callK c10.inK (ev_global (v := .ref 77) c10 (by k_is) ⟨by k_is, ?_⟩))))
        refine ev_args_cons (ev_cell (c := C + 1) rfl rfl rfl (hT.keeps k10) (ev_args_nil ?_))
        refine listed_ct (n := 17) c10 fun h11 r11 k11 hr11 => ?_
        refine ev_local rfl rfl (hm3n.keeps k11) (hva (by decide)) (ev_base (ev_item hr11.isL h4a (by omega) fun t12 => ?_))
        rw [listed_get _ h4a]
        have c11 := c10.keeps k11
        refine ev_sub (ev_callK c11.inK (ev_global (v := .ref 77) c11 (by k_is) ⟨by k_is, ?_⟩))
        refine ev_args_cons (ev_cell (c := C + 1) rfl rfl rfl (hT.keeps (k10.trans k11)) (ev_args_nil ?_))
        refine listed_ct (n := 17) c11 fun h12 r12 k12 hr12 => ?_
        refine ev_local rfl rfl ((hm3n.keeps k11).keeps k12) hvb (ev_base (ev_item hr12.isL h4b (by omega) fun t13 => ?_))
        rw [listed_get _ h4b]
        refine ev_ne_int ⟨_, rfl, ?_⟩
        have e1 : parted (al.take (a + 1)) (i : Int) = parted (al.take a) (i : Int) ++ parted [pr] (i : Int) := by
          unfold parted
          rw [Mine.take_snoc hpr, List.filter_append]
        by_cases hd : bitI (i : Int) pr.1 = bitI (i : Int) pr.2
        · rw [if_neg (by simp [hd])]
          show IntsAre _ ((parted (al.take (a + 1)) (i : Int)).map fun _ => (1 : Int)) ∧ _
          rw [e1, show parted [pr] (i : Int) = [] by simp [parted, hd], List.append_nil]
          exact ⟨hJ3.1, paired_mono (fun _ _ z => z.up (hid_up (k11.trans k12))) hJ3.2⟩
        · rw [if_pos (by simp [hd])]
          refine ev_int fun t14 => ?_
          show IntsAre _ ((parted (al.take (a + 1)) (i : Int)).map fun _ => (1 : Int)) ∧ _
          rw [e1, show parted [pr] (i : Int) = [pr] by simp [parted, hd], List.map_append]
          exact ⟨Mine.ints_snoc hJ3.1, paired_mono (fun _ _ z => z.up (hid_up (k11.trans k12))) hJ3.2⟩
      · have e1 : al.take pys.toArray.size = al := List.take_of_length_le (by rw [List.size_toArray, lenP]; exact Nat.le_refl _)
        replace hJ3 : IntsAre ys3 ((parted al (i : Int)).map fun _ => (1 : Int)) := by simpa only [e1] using hJ3.1
        refine ev_list (ev_args_nil (ev_newList (show 0 ≤ sizeLine by decide) fun D4 h11 k11 nD4 hD4 => ?_))
        refine ev_eq_lists (by omega) ⟨D3, ys3, rfl, (isList_lst hD3).at fun o e => k11 _ _ e, hJ3⟩ ⟨D4, [], rfl, ⟨_, hD4, rfl, _, rfl⟩, .nil⟩ ⟨_, rfl, ?_⟩
        by_cases hd : parted al (i : Int) = []
        · rw [if_pos (by simp [hd])]
          refine ev_cell (c := C + 1) rfl rfl rfl (hT.keeps (k10.trans k11)) ?_
          refine ⟨hi, ?_⟩
          rw [dueG_snoc, if_pos hd]
          exact Mine.ints_snoc hJ.2
        · rw [if_neg (by simp [hd])]
          refine ⟨hi, ?_⟩
          rw [dueG_snoc, if_neg hd, List.append_nil]
          exact hJ.2
    have hF : dueG al (List.range 16) = (dueM al).map Mine.E := due_M al hal
    replace hJ : 16 ≤ 16 ∧ IntsAre ys (dueG al (List.range 16)) := hJ
    rw [hF] at hJ
    have st4 : LawAt g h8 L _ (some v1) (some v3) (some v5) (fun H => Mine.IsL H v3 ((dueM al).map Mine.E)) := (st3.up (fun _ _ k z => ⟨z.1.up k, z.2.up k⟩) k7).setL hn8 k8 (fun _ _ k z => z.up k) (st3.facts.1.up (hid_up k7))
    have kg8 := st4.kp.trans (hid_of _ _)
    have c8 := ccf _ _ kg8 st4.ns
    have hu8 := c8.units
    have lenF : ((dueM al).map Mine.E).length = (dueM al).length := List.length_map _
    have len16 := dueM_len al
    clear st3 c6
    -- the three laws
    refine wpAny_execs_cons (wpAny_If (EvS.run (s := { s' with heap := h8, toks := t8 }) (post := fun b h' => b = false) (ev_boolop (ev_or ?_)) fun b h9 t9 k9 p9 => ?_))
    · refine ev_true_cmp (ev_cell (c := L + 2) rfl rfl rfl st4.cF (ev_local (v := .ref D) rfl rfl st4.ns rfl (ev_ne_lists (by omega) (st4.facts.up (hid_of _ _)) ⟨D, ys, rfl, isList_lst hD, hJ.2⟩ ⟨_, rfl, ?_⟩)))
      rw [if_neg (by simp)]
      refine ev_or (ev_boolop (ev_and (ev_true_cmp (ev_local (v := .ref l) rfl rfl st4.ns rfl (ev_list (ev_args_nil (ev_newList (show 0 ≤ sizeLine by decide) fun D4 h9 k9 nD4 hD4 => ?_)))))))
      refine ev_eq_lists (by omega) ⟨l, vs, rfl, hl.at fun o e => k9 _ _ (kg8 _ _ e), hI⟩ ⟨D4, [], rfl, ⟨_, hD4, rfl, _, rfl⟩, .nil⟩ ⟨_, rfl, ?_⟩
      by_cases hs : script = []
      · rw [if_pos (by simp [hs])]
        have c9 := c8.keeps k9
        obtain ⟨fa, fvs, rfl, fl, fI⟩ := id st4.facts
        refine ev_and (ev_true_cmp (ev_callB (ev_built c9 (by k_is) (v := .builtin "len") (by boot_by_name) ⟨⟨_, rfl⟩, ev_args_cons (ev_cell (c := L + 2) rfl rfl rfl (st4.cF.keeps k9) (ev_args_nil ?_))⟩)))
        have lenV := fI.length
        refine ev_len (fl.at fun o e => k9 _ _ (of_hideAll _ e)) (by omega) fun tl => ev_int fun t => ev_ne_int ⟨_, rfl, ?_⟩
        rw [if_neg (by rw [lenV, lenF, h16 hs]; decide), if_neg Bool.false_ne_true]
        exact ev_or_nil rfl
      · rw [if_neg (by simp [hs]), if_neg Bool.false_ne_true]
        exact ev_or_nil rfl
    subst p9
    rw [if_neg Bool.false_ne_true]
    refine wpAny_execs_nil ?_
    have st5 := st4.up (fun _ _ k z => z.up k) k9
    have l5 : Mine.LoopAt g h9 L l v3 ((dueM al).map Mine.E) _ := ⟨_, _, st5, rfl⟩
    clear st4 st5 c8 kg8 hu8 hJ hD hn8
    obtain ⟨fa, fvs, rfl, fl, fI⟩ := l5.facts
    -- closed under the connectives
    refine wpAny_execs_cons (ex_for rfl rfl (s := { s' with heap := h9, toks := t9 }) (ev_cell (c := L + 2) rfl rfl rfl l5.cF ?_))
    refine ⟨_, _, fun i h' => ∃ m, Mine.LoopAt g h' L l (.ref fa) ((dueM al).map Mine.E) m, HLof L, Src.list c1.handled (items := fvs.toArray) (ax := fa) fl, l5.mem, List.mem_cons_self, fun i h' h'' kk ⟨m, z⟩ => ⟨m, z.up kk⟩, ⟨_, l5⟩, fun i h' ⟨m, z⟩ => ⟨m, z.ns⟩, ?_, ?_⟩
    · rintro I i v m h0 s1 Q1 E1 hIn hi hP ⟨m', a1⟩ hm hI0 hk hns1 - ⟨tk1, es1⟩ kn kr
      cases ns_uniq a1.ns hm
      obtain ⟨one, to, hone, rfl⟩ := ints_at fI (by simpa using hP)
      obtain ⟨n1, hn1, h16a, rfl⟩ := firstF_mem (List.mem_of_getElem? hone)
      have hIH : I ∉ HLof L := fun m => let ⟨o, e⟩ := l5.mem I m; nomatch hIn.symm.trans e
      have b1 := a1.setL (m' := fun z => if z = Str.ofString "one" then some (.int (n1 : Int) to) else m z) hns1 hk a1.script
      have cs := ccf _ _ b1.kg hns1
      refine wpAny_execs_cons (ex_for rfl rfl (s := s1) (ev_slice (ns := (dueM al).map Mine.E) (out := ((dueM al).map Mine.E).take 3) (lo := none) (hi := some 3) (ev_cell (c := L + 2) rfl rfl rfl b1.cF ⟨b1.facts.up (hid_of _ _), ev_part_none (ev_part_some (ev_int fun t2 => ⟨.none, .int 3 t2, fun h2 r2 q2 hr2 => ?_⟩))⟩) (by omega) (fun vs hi => kmk_upto hi (by decide))))
      obtain ⟨l2, vs2, rfl, nl2, hl2, hI2⟩ := hr2
      have b2 := b1.up q2
      refine ⟨_, _, fun j h' => ∃ m, Mine.LoopAt g h' L l (.ref fa) ((dueM al).map Mine.E) m ∧ m (Str.ofString "one") = some (.int (n1 : Int) to) ∧ ∀ b o, b ∉ HLof L → s1.heap.get? b = some o → h'.get? b = some o, HLof L,
        Src.list c1.handled (items := vs2.toArray) (ax := l2) (hl2.at fun o e => hideAll_get _ e fun m => let ⟨_, e⟩ := b1.mem _ m; nomatch nl2.symm.trans e), b2.mem, List.mem_cons_self, fun j h' h'' kk ⟨m, z, z1, z2⟩ => ⟨m, z.up kk, z1, fun b o hb e => kk _ _ (z2 b o hb e)⟩,
        ⟨_, b2, rfl, fun b o _ e => q2 _ _ e⟩, fun j h' ⟨m, z, _⟩ => ⟨m, z.ns⟩, ?_, ?_⟩
      · rintro I2 j v m2 h20 s2 Q2 E2 hI2n hj hP2 ⟨m2', a3, a4, a5⟩ hm2 hI20 hk2 hns2 - ⟨tk2, es2⟩ kn2 -
        cases ns_uniq a3.ns hm2
        obtain ⟨other, tb, hb, rfl⟩ := ints_at hI2 (by simpa using hP2)
        obtain ⟨n2, hn2, h16b, rfl⟩ := firstF_mem (List.mem_of_mem_take (List.mem_of_getElem? hb))
        have hI2H : I2 ∉ HLof L := fun m => let ⟨o, e⟩ := b2.mem I2 m; nomatch hI2n.symm.trans e
        have b3 := a3.setL (m' := fun z => if z = Str.ofString "other" then some (.int (n2 : Int) tb) else m2 z) hns2 hk2 a3.script
        have c3 := ccf _ _ b3.kg hns2
        have hu3 := c3.units
        refine wpAny_execs_cons (wpAny_If (EvS.run (post := fun b h' => b = false) (ev_boolop ?_) fun b h9 t9 k9 p9 => ?_))
        · refine ev_or (ev_true_cmp (ev_callK c3.inK (ev_global (v := .ref 37) c3 (by k_is) ⟨by k_is, ev_args_cons (ev_local (v := .int (n1 : Int) to) rfl rfl hns2 a4 (ev_args_cons (ev_local (v := .int (n2 : Int) tb) rfl rfl hns2 rfl (ev_args_nil ?_))))⟩)))
          refine and_ct (n := 19) c3 fun h4 t4 k4 => ev_cell (c := L + 2) rfl rfl rfl (b3.cF.keeps k4) (ev_notin_ints (by omega) (b3.facts.up ((hid_of _ _).trans k4)) ⟨_, rfl, ?_⟩)
          rw [and_M h16a h16b, any_in (due_and hal hn1 hn2), if_neg (by decide)]
          have c4 := c3.keeps k4
          have hns4 := hns2.keeps k4
          refine ev_or (ev_true_cmp (ev_callK c4.inK (ev_global (v := .ref 51) c4 (by k_is) ⟨by k_is, ev_args_cons (ev_local (v := .int (n1 : Int) to) rfl rfl hns4 a4 (ev_args_cons (ev_local (v := .int (n2 : Int) tb) rfl rfl hns4 rfl (ev_args_nil ?_))))⟩)))
          refine or_ct (n := 19) c4 fun h5 t5 k5 => ev_cell (c := L + 2) rfl rfl rfl (b3.cF.keeps (k4.trans k5)) (ev_notin_ints (by omega) (b3.facts.up ((hid_of _ _).trans (k4.trans k5))) ⟨_, rfl, ?_⟩)
          rw [or_M h16a h16b, any_in (due_or hal hn1 hn2), if_neg (by decide)]
          have c5 := c4.keeps k5
          have hns5 := hns4.keeps k5
          refine ev_or (ev_true_cmp (ev_callK c5.inK (ev_global (v := .ref 65) c5 (by k_is) ⟨by k_is, ev_args_cons (ev_local (v := .int (n1 : Int) to) rfl rfl hns5 a4 (ev_args_cons (ev_local (v := .int (n2 : Int) tb) rfl rfl hns5 rfl (ev_args_nil ?_))))⟩)))
          refine xor_ct (n := 19) c5 fun h6 t6 k6 => ev_cell (c := L + 2) rfl rfl rfl (b3.cF.keeps ((k4.trans k5).trans k6)) (ev_notin_ints (by omega) (b3.facts.up ((hid_of _ _).trans ((k4.trans k5).trans k6))) ⟨_, rfl, ?_⟩)
          rw [xor_M h16a h16b, any_in (due_xor hal hn1 hn2), if_neg (by decide)]
          exact ev_or_nil rfl
        · subst p9
          rw [if_neg Bool.false_ne_true]
          refine wpAny_execs_nil (wpAny_execs_nil (kn2 h9 _ (fun b o _ e => k9 _ _ e) ⟨_, (b3.up k9).turn a3 hI20 hI2H fun b o hb e => k9 _ _ (hk2 b o (fun q => hb (by rw [q]; exact List.mem_cons_self)) e), a4, fun b o hb e => hideAll_get _ (k9 _ _ (hk2 b o (fun q => hb (by rw [q]; exact List.mem_cons_self)) (a5 b o hb e))) fun q => ?_⟩))
          have e2 := q2 _ _ e
          rw [List.mem_singleton.mp q] at e2
          exact nomatch hI2n.symm.trans e2
      · rintro h3 t3 ⟨m3, a3, a4, a5⟩
        have c3 := ccf _ _ a3.kg a3.ns
        have hu3 := c3.units
        refine wpAny_execs_cons (wpAny_If (EvS.run (s := { s1 with heap := h3, toks := t3 }) (post := fun b h' => b = false) (ev_true_cmp (ev_callK c3.inK (ev_global (v := .ref 37) c3 (by k_is) ⟨by k_is, ev_args_cons (ev_callK c3.inK (ev_global (v := .ref 44) c3 (by k_is) ⟨by k_is, ev_args_cons (ev_local (v := .int (n1 : Int) to) rfl rfl a3.ns a4 (ev_args_nil ?_))⟩))⟩))) fun b h9 t9 k9 p9 => ?_))
        · refine inv_ct (n := 19) c3 fun h4 t4 k4 => ev_args_cons (ev_int fun t5 => ev_args_nil ?_)
          refine and_ct (n := 19) (c3.keeps k4) fun h5 t5 k5 => ev_cell (c := L + 2) rfl rfl rfl (a3.cF.keeps (k4.trans k5)) (ev_notin_ints (by omega) (a3.facts.up ((hid_of _ _).trans (k4.trans k5))) ⟨_, rfl, ?_⟩)
          rw [inv_M h16a, any_in (due_inv hal hn1)]
          rfl
        · subst p9
          rw [if_neg Bool.false_ne_true]
          exact wpAny_execs_nil (wpAny_execs_nil (kn h9 _ (fun b o hb e => k9 _ _ (a5 b o hb e)) ⟨_, (a3.up k9).turn a1 hI0 hIH fun b o hb e => k9 _ _ (a5 b o hb (hk b o (fun q => hb (by rw [q]; exact List.mem_cons_self)) e))⟩))
    rintro h10 t10 ⟨m10, l10⟩
    -- word
    have c10 := ccf _ _ l10.kg l10.ns
    have hz : 0 < ((dueM al).map Mine.E).length := List.length_pos_of_mem (List.mem_map.mpr ⟨0, due_zero al hal, rfl⟩)
    refine wpAny_execs_cons (st_comp1 (s := { s' with heap := h10, toks := t10 }) (cl := [(Str.ofString "first", L + 2)]) rfl rfl rfl l10.ns (HLof L) List.mem_cons_self rfl rfl (by decide)
      (fun C h => (∃ m, h.Ns C m ∧ True) ∧ CellsThere _ C h) (fun C v h => (∃ m, h.Ns C m ∧ True ∧ m (Str.ofString "number") = some v) ∧ CellsThere _ C h) (fun _ _ => True) (fun _ _ _ _ x => x)
      (fun C => varsL (fun _ => True) (fun _ _ x => x) rfl rfl rfl) (fun C h m hm hc => ⟨⟨m, hm, trivial⟩, hc⟩) (fun C h hv => ⟨hv.1.choose, hv.1.choose_spec.1⟩) own_name ?_)
    refine ev_slice (ns := script) (out := (script.drop (2 : Int).toNat).take (min (40 : Int).toNat script.length - (2 : Int).toNat)) (lo := some 2) (hi := some 40) (ev_local (v := .ref l) rfl rfl l10.ns l10.script ⟨⟨l, vs, rfl, hl.at fun o e => l10.kg _ _ e, hI⟩, ev_part_some (ev_int fun t1 => ev_part_some (ev_int fun t2 => ⟨.int 2 t1, .int 40 t2, fun h2 r2 q2 hr2 => ?_⟩))⟩) (by omega) (fun vs hi => kmk_run hi (by decide) (by decide))
    obtain ⟨l2, vs2, rfl, nl2, hl2, hI2⟩ := hr2
    have len2 := hI2.length
    generalize hW : (script.drop (2 : Int).toNat).take (min (40 : Int).toNat script.length - (2 : Int).toNat) = W at hI2 len2
    have lenW : W.length ≤ 63 := by
      rw [← hW]
      refine Nat.le_trans (List.length_take_le _ _) ?_
      have : min (40 : Int).toNat script.length ≤ script.length := Nat.min_le_right _ _
      omega
    refine ⟨_, _, fun i ys h' => IntsAre ys ((W.take i).map fun n : Int => ((dueM al).map Mine.E).getD (n.fmod (((dueM al).map Mine.E).length : Int)).toNat 0), Src.list c1.handled (items := vs2.toArray) (ax := l2) hl2, fun _ _ _ _ _ z => z, fun i ys h' z => ?_, fun _ _ _ _ _ _ _ => trivial, .nil,
      fun C Mu i v ys h3 hi hP hL hJ hk hm => ?_, fun D2 h11 t11 ys2 hn11 k11 nD2 hD2 hJ2 => ?_⟩
    · rw [z.length, List.length_map]
      have : (W.take i).length ≤ W.length := List.length_take_le' _ _
      omega
    · obtain ⟨a, ta, ha, rfl⟩ := ints_at hI2 (by simpa using hP)
      obtain ⟨⟨m, hm', _, hv⟩, _⟩ := hL
      have k3 : Kp h10 h3 := q2.trans (hk.trans (hid_of _ _))
      have c3 := c10.keeps k3
      have l3 := l10.up k3
      refine ev_tests_nil ?_
      rw [if_pos rfl]
      refine ev_sub (ev_cell (c := L + 2) rfl rfl rfl l3.cF ?_)
      refine ev_binop (ev_local rfl rfl hm' hv (ev_callB (ev_built c3 (by k_is) (v := .builtin "len") (by boot_by_name) ⟨⟨_, rfl⟩, ev_args_cons (ev_cell (c := L + 2) rfl rfl rfl l3.cF (ev_args_nil ?_))⟩)))
      obtain ⟨fb, fvs3, e3, fl3, fI3⟩ := id l3.facts
      cases e3
      have lenV := fI3.length
      refine ev_len (fl3.at fun o e => of_hideAll _ e) (by omega) fun tl => ?_
      rw [lenV]
      refine op_mod (by omega) fun t4 => ?_
      have hnn : 0 ≤ a.fmod (((dueM al).map Mine.E).length : Int) := Int.fmod_nonneg_of_pos _ (by omega)
      have hlt : a.fmod (((dueM al).map Mine.E).length : Int) < (((dueM al).map Mine.E).length : Int) := Int.fmod_lt_of_pos _ (by omega)
      refine ev_base (ev_itemZ (l3.facts.up (hid_of _ _)) hnn (by omega) (by omega) fun t => ?_)
      show IntsAre _ ((W.take (i + 1)).map fun n : Int => ((dueM al).map Mine.E).getD (n.fmod (((dueM al).map Mine.E).length : Int)).toNat 0)
      rw [Mine.take_snoc ha, List.map_append]
      exact Mine.ints_snoc hJ
    have e1 : W.take vs2.toArray.size = W := List.take_of_length_le (by rw [List.size_toArray, len2]; exact Nat.le_refl _)
    replace hJ2 : IntsAre ys2 (W.map fun n : Int => ((dueM al).map Mine.E).getD (n.fmod (((dueM al).map Mine.E).length : Int)).toNat 0) := by simpa only [e1] using hJ2
    have hmemW : ∀ n ∈ (W.map fun n : Int => ((dueM al).map Mine.E).getD (n.fmod (((dueM al).map Mine.E).length : Int)).toNat 0), n ∈ (dueM al).map Mine.E := fun n hn => by
      obtain ⟨a, _, e⟩ := List.mem_map.mp hn
      have hnn : 0 ≤ a.fmod (((dueM al).map Mine.E).length : Int) := Int.fmod_nonneg_of_pos _ (by omega)
      have hlt : a.fmod (((dueM al).map Mine.E).length : Int) < (((dueM al).map Mine.E).length : Int) := Int.fmod_lt_of_pos _ (by omega)
      rw [← e]
      exact Mine.getD_mem _ (by omega)
    have l11 : Mine.LoopAt g h11 L l (.ref fa) ((dueM al).map Mine.E) _ := (l10.up q2).setL (m' := fun z => if z = Str.ofString "word" then some (.ref D2) else m10 z) hn11 k11 l10.script
    have c11 := ccf _ _ l11.kg hn11
    have hu11 := c11.units
    refine wpAny_execs_cons (wpAny_Return_some (EvS.run (s := { s' with heap := h11, toks := t11 }) (post := fun v h' => v = .bool true) ?_ fun v12 h12 t12 k12 p12 => ?_))
    · refine ev_cmp (ev_callK c11.inK (ev_global (v := .ref 30) c11 (by k_is) ⟨by k_is, ?_⟩))
      refine ev_args_cons (ev_global (v := .ref 72) c11 (by k_is) (ev_args_cons (ev_local (v := .ref D2) rfl rfl hn11 rfl (ev_args_cons (ev_sub (ev_cell (c := L + 2) rfl rfl rfl l11.cF (ev_int fun t => ?_)))))))
      refine ev_base (ev_itemZ (b := 0) (l11.facts.up (hid_of _ _)) (Int.le_refl _) hz (by decide) fun t2 => ev_args_nil ?_)
      obtain ⟨n0, hn0, _, e0⟩ := firstF_mem (Mine.getD_mem ((dueM al).map Mine.E) hz)
      refine reduce_ct (n := 17) c11 ⟨D2, ys2, rfl, isList_lst hD2, hJ2⟩ fun h13 t13 k13 => ev_cell (c := L + 2) rfl rfl rfl (l11.cF.keeps k13) (ev_in_ints (by omega) (l11.facts.up ((hid_of _ _).trans k13)) ?_)
      show Value.bool _ = Value.bool true
      rw [show (0 : Int).toNat = 0 from rfl, e0]
      obtain ⟨r, hr, er⟩ := fold_M hal _ hmemW n0 hn0
      rw [er, any_in hr]
    · subst p12
      exact k _ _ _ (kR _ _ _ (l11.kg.trans k12) (hn11.keeps k12))
  w_strict (
    intro w s₀ s₁ mg mb G Y fa o pm cd doc dV kV ho hd hcd hD hmg hg args vals as hpre hlay hrd hwl hlo
    have KX := kIn_of Y
    refine Ground.open G ?_
    intro T B D TE TW
    have hfa : mg (PySem.Str.ofString "law") = some (.ref 87) := mg_of KX T.g (by k_is)
    wrow_args hpre hlay hrd hwl hlo
    all_goals (
      first | refine callC_kw (enter_call ?_) | refine enter_call ?_ | refine callC_kw (enter_callW ?_) | refine enter_callW ?_ | w_how
      w_top on
      try refine codeAny_mono ?_ (fun _ _ g => GoodW.toG g))
    have e87 : fa = 87 := by have e := hmg.symm.trans hfa; injection e with e; injection e
    subst e87
    refine law_ct T KX ‹_› ‹_› (by omega) fun h' tk m kp hn => goodW_bool ⟨hn, kp, Nat.le_refl _⟩ hg (raisesW_false ?_) ?_
    · wrow_none_raised
    · wrow_post)
