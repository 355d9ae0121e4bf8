import PyProof.Rows.All
import Wide.All
import OpenK.AllK
import Wide.FinOn
import KE.KStar
import PySem.Challenge.RW_mr0257_01
set_option Elab.async false
section
open PySem PySem.W PySem.Calls PyProof.Rows
set_option maxRecDepth 100000
namespace Mine

def prog : Program := PySem.Challenge.pw_mr0257_01

def b1L : List Int := [173, 847, 6150, 6155, 6156, 6157, 8203, 8204, 8205, 8288, 65279] ++ (List.range 16).map fun (i : Nat) => ((65024 + i : Nat) : Int)

def pairsOf : List (Option Expr) → List Expr → List (Int × Str)
  | some (.Constant (.int k) _ _) :: ks, .Constant (.str x) _ _ :: vs => (k, x) :: pairsOf ks vs
  | _, _ => []
def b3L : List (Int × Str) := match (prog.main.body[5]? : Option Stmt) with
  | some (Stmt.Assign _ (Expr.Dict ks vs _) _) => pairsOf ks vs
  | _ => []
def b3F (k : Int) : Option Str := b3L.lookup k

def biNames : List Str := ["len", "filter", "ord", "chr", "list", "range", "set"]

structure TopF (w : World) (P : Addr) (fa : Str → Addr) (b1a b3a : Addr) (mg mb : Str → Option Value) (h : Heap) : Prop where
  g : h.Ns mainGlobals mg
  b : h.Ns builtinsNs mb
  boot : ∀ x : Str, x ≠ "__name__" → mb x = bootBuiltins x
  nolimit : h.NoLimit
  gP : mainGlobals ≠ P
  bP : builtinsNs ≠ P
  cP : cStatics ≠ P
  fn : ∀ name params body scope, prog.theDef name = some (params, body, scope) → mg name = some (.ref (fa name)) ∧ fa name ≠ P ∧
    ∃ o pm c doc, h.get? (fa name) = some o ∧ o.data = .func (docDef name params body scope pm (.ref c) doc) ∧ h.CodeRec (.ref c) name ∧ c ≠ P
  bi : ∀ x ∈ biNames, mg x = none
  b1n : mg "b1_set" = some (.ref b1a) ∧ b1a ≠ P
  b3n : mg "b3_exceptions" = some (.ref b3a) ∧ b3a ≠ P ∧ (b3a == sysModules) = false
  b1 : ∃ n, h.SetOf (intKind prog w) b1a (fun k => b1L.contains k) n
  b3 : ∃ f, h.MapOf (intKind prog w) b3a f ∧ ∀ k, match b3F k with | some x => ∃ t, f k = some (.str x t) | none => f k = none

section
variable {w : World} {P : Addr} {fa : Str → Addr} {b1a b3a : Addr} {mg mb : Str → Option Value}
theorem TopF.ext {h h' : Heap} (T : TopF w P fa b1a b3a mg mb h) (K : Heap.ExtBut P h h') : TopF w P fa b1a b3a mg mb h' where
  g := T.g.extBut K T.gP
  b := T.b.extBut K T.bP
  boot := T.boot
  nolimit := T.nolimit.extBut K T.cP
  gP := T.gP
  bP := T.bP
  cP := T.cP
  fn := fun name params body scope hd => let ⟨h1, h2, o, pm, c, doc, h3, h4, h5, h6⟩ := T.fn name params body scope hd
    ⟨h1, h2, o, pm, c, doc, K _ _ h2 h3, h4, h5.at fun o e => K _ o h6 e, h6⟩
  bi := T.bi
  b1n := T.b1n
  b3n := T.b3n
  b1 := let ⟨n, o, es, ep, t, h1, r⟩ := T.b1; ⟨n, o, es, ep, t, K _ _ T.b1n.2 h1, r⟩
  b3 := let ⟨f, ⟨o, es, ep, h1, r⟩, q⟩ := T.b3; ⟨f, ⟨o, es, ep, K _ _ T.b3n.2.1 h1, r⟩, q⟩
theorem TopF.keeps {h h' : Heap} (T : TopF w P fa b1a b3a mg mb h) (K : ∀ b o, h.get? b = some o → h'.get? b = some o) : TopF w P fa b1a b3a mg mb h' := T.ext fun b o _ e => K b o e
end

structure At (s₀ : Shared) (L : Addr) (l : List (Str × Value)) (N : List (Addr × Obj)) (s : Shared) : Prop where
  fr : ∃ m, Fr s₀.heap L s.heap m ∧ ∀ x v, l.lookup x = some v → m x = some v
  news : News s₀.heap L s.heap N
  same : ∃ h tk, s = { s₀ with heap := h, toks := tk }

section
variable {s₀ s s' : Shared} {L : Addr} {l l' : List (Str × Value)} {N : List (Addr × Obj)}
theorem At.keep (a : At s₀ L l N s) : ∀ b o, s₀.heap.get? b = some o → s.heap.get? b = some o := let ⟨_, F, _⟩ := a.fr; F.keep
theorem At.keeps (a : At s₀ L l N s) : Keeps s₀ s := let ⟨h, tk, e⟩ := a.same; ⟨h, tk, e, by have := a.keep; rw [e] at this; exact this⟩
theorem kpHeap {s s' : Shared} (k : Keeps s s') : ∀ b o, s.heap.get? b = some o → s'.heap.get? b = some o := by
  obtain ⟨h, tk, rfl, hk⟩ := k; exact hk
theorem kpRefl (s : Shared) : Keeps s s := ⟨s.heap, s.toks, rfl, fun _ _ e => e⟩
theorem kpTrans {s s' s'' : Shared} (k : Keeps s s') (k' : Keeps s' s'') : Keeps s s'' := by
  obtain ⟨h, tk, rfl, hk⟩ := k
  obtain ⟨h', tk', rfl, hk'⟩ := k'
  exact ⟨h', tk', rfl, fun b o e => hk' b o (hk b o e)⟩
theorem kpTok (s : Shared) (t : Nat) : Keeps s { s with toks := t } := ⟨s.heap, t, rfl, fun _ _ e => e⟩
theorem kpPush (s : Shared) (o : Obj) : Keeps s { s with heap := s.heap.push o } := ⟨_, s.toks, rfl, fun _ _ e => Heap.get?_push_of_some o e⟩
theorem At.go (a : At s₀ L l N s) (k : Keeps s s') : At s₀ L l N s' := by
  obtain ⟨m, F, hm⟩ := a.fr
  obtain ⟨h, tk, rfl, hk⟩ := k
  obtain ⟨h₁, tk₁, e⟩ := a.same
  exact ⟨⟨m, ⟨F.ns.keeps hk, fun b o e => hk _ _ (F.keep b o e), F.above⟩, hm⟩, fun p hp => ⟨hk _ _ (a.news p hp).1, (a.news p hp).2⟩, h, tk, by rw [e]⟩
theorem At.tok (a : At s₀ L l N s) (t : Nat) : At s₀ L l N { s with toks := t } := a.go (kpTok s t)
/-- fewer names, or in another order -/
theorem At.pick (a : At s₀ L l N s) (h : ∀ x v, l'.lookup x = some v → l.lookup x = some v) : At s₀ L l' N s :=
  let ⟨m, F, hm⟩ := a.fr; ⟨⟨m, F, fun x v e => hm x v (h x v e)⟩, a.news, a.same⟩
def PickOk (l : List (Str × Value)) : List (Str × Value) → Prop
  | [] => True
  | (x, v) :: r => l.lookup x = some v ∧ PickOk l r
theorem PickOk.all : ∀ {l' : List (Str × Value)}, PickOk l l' → ∀ x v, l'.lookup x = some v → l.lookup x = some v
  | [], _, _, _, e => by cases e
  | (y, u) :: r, ⟨h1, h2⟩, x, v, e => by
    rw [List.lookup_cons] at e
    split at e
    · rename_i hb
      rw [beq_iff_eq] at hb; subst hb; cases e; exact h1
    · exact h2.all x v e
theorem At.only (a : At s₀ L l N s) (h : PickOk l l') : At s₀ L l' N s := a.pick h.all
theorem At.frp (a : At s₀ L l N s) : ∃ m, Fr s₀.heap L s.heap m := let ⟨m, F, _⟩ := a.fr; ⟨m, F⟩
theorem At.obj (a : At s₀ L l N s) {b : Addr} {o : Obj} (h : (b, o) ∈ N) : s.heap.get? b = some o := (a.news _ h).1
end

section
variable {w : World} {A : Around} {E : Value → Shared → Prop} {s₀ s : Shared} {name : Str} {scope : Scope} {L f : Addr} {cd : Value} {l : List (Str × Value)} {N : List (Addr × Obj)}

theorem r_name {x : Str} {pos : Pos} {v : Value} {Q : Value → Shared → Prop} (a : At s₀ L l N s) (h : Q v s) (hv : l.lookup x = some v := by with_unfolding_all rfl)
    (hk : scope.kind = .function := by rfl) (hl : (envOf name scope L f cd).kindOf x = some .local := by rfl)
    (hd : (x == ("__debug__" : Str)) = false := by decide) : wpAny (model prog w) A (eval (.Name x pos) (envOf name scope L f cd)) Q E s :=
  let ⟨_, F, hm⟩ := a.fr; ld F (hm _ _ hv) h hk hl hd

theorem r_store {x : Str} {v : Value} {Q : Unit → Shared → Prop} (a : At s₀ L l N s) (h : ∀ s', At s₀ L ((x, v) :: l) N s' → Q () s')
    (hk : scope.kind = .function := by rfl) (hl : (envOf name scope L f cd).kindOf x = some .local := by rfl) :
    wpAny (model prog w) A (storeName (envOf name scope L f cd) x v) Q E s := by
  obtain ⟨m, F, hm⟩ := a.fr
  refine wpAny_storeName_local hl F.ns (fun h' hn hs => ?_) (by show (scope.kind == .class || (scope.kind == .module && L != mainGlobals)) = false; rw [hk]; rfl)
  obtain ⟨h₁, tk₁, e⟩ := a.same
  refine h _ ⟨⟨_, F.set hn hs, fun y u hy => ?_⟩, a.news.set hs, ⟨h', s.toks + 1, by rw [e]⟩⟩
  rw [List.lookup_cons] at hy
  by_cases hyx : y = x
  · subst hyx
    rw [beq_self_eq_true] at hy
    cases hy
    exact if_pos rfl
  · have hb : (y == x) = false := by simpa using hyx
    rw [hb] at hy
    show (if y = x then some v else m y) = some u
    rw [if_neg hyx]; exact hm _ _ hy

theorem r_str {env : Env} {x : Str} {k : Nat} {pos : Pos} {Q : Value → Shared → Prop} (a : At s₀ L l N s) (h : ∀ t s', At s₀ L l N s' → Q (.str x t) s') : wpAny (model prog w) A (eval (.Constant (.str x) k pos) env) Q E s :=
  wpAny_Constant_str (h _ _ (a.tok _))
theorem r_int {env : Env} {i : Int} {k : Nat} {pos : Pos} {Q : Value → Shared → Prop} (a : At s₀ L l N s) (h : ∀ t s', At s₀ L l N s' → Q (.int i t) s') : wpAny (model prog w) A (eval (.Constant (.int i) k pos) env) Q E s :=
  wpAny_Constant_int (h _ _ (a.tok _))
end
end Mine
end

section
open PySem PySem.W PySem.Calls PyProof.Rows
set_option maxRecDepth 100000
namespace Mine
section
variable {w : World} {P : Addr} {fa : Str → Addr} {b1a b3a : Addr} {mg mb : Str → Option Value}
variable {A : Around} {E : Value → Shared → Prop} {s₀ s : Shared} {name : Str} {scope : Scope} {L f : Addr} {cd : Value} {l : List (Str × Value)} {N : List (Addr × Obj)} {env : Env}

theorem r_negint {i : Int} {k : Nat} {pos pos' : Pos} {Q : Value → Shared → Prop} (a : At s₀ L l N s) (h : ∀ t s', At s₀ L l N s' → Q (.int (-i) t) s') :
    wpAny (model prog w) A (eval (.UnaryOp .USub (.Constant (.int i) k pos) pos') env) Q E s :=
  wpAny_UnaryOp (wpAny_Constant_int (neg_int (h _ _ ((a.tok _).tok _))))

theorem r_slice {value : Expr} {lower upper : Option Expr} {p pos : Pos} {Q : Value → Shared → Prop}
    (h : wpAny (model prog w) A (eval value env) (fun o s₁ => wpAny (model prog w) A (evalPart lower env) (fun vl s₂ => wpAny (model prog w) A (evalPart upper env) (fun vu s₃ =>
      ∃ x t lo up, o = .str x t ∧ vl = partValue lo ∧ vu = partValue up ∧ x.length ≤ sizeLine ∧ ∀ t' s', Keeps s₃ s' → Q (.str (Txt.slice x (lo.map (·.1)) (up.map (·.1))) t') s') E s₂) E s₁) E s)
    (ht : ∀ o r, letTemporaryGo value o r = pure () := by intro _ _; rfl) :
    wpAny (model prog w) A (eval (.Subscript value (.Slice lower upper none p) pos) env) Q E s := by
  refine wpAny_Subscript_str_slice (wpAny_mono h (fun o s₁ h₁ => wpAny_mono h₁ (fun vl s₂ h₂ => wpAny_mono h₂ (fun vu s₃ h₃ => ?_) fun _ _ e => e) fun _ _ e => e) fun _ _ e => e) ht
  obtain ⟨x, t, lo, up, rfl, rfl, rfl, hsz, hQ⟩ := h₃
  refine ⟨x, t, lo, up, rfl, rfl, rfl, ?_⟩
  cases lo <;> cases up <;> exact post_val_or_str ⟨Nat.le_trans (Txt.slice_le x _ _) hsz, fun t' k => hQ t' _ (kpTrans (kpPush s₃ _) (kpTok _ k))⟩

theorem r_part_none {Q : Value → Shared → Prop} (h : Q .none s) : wpAny (model prog w) A (evalPart none env) Q E s := by
  rw [evalPart_none]; exact wpAny_pure h

theorem r_part {e : Expr} {Q : Value → Shared → Prop} (h : wpAny (model prog w) A (eval e env) Q E s) : wpAny (model prog w) A (evalPart (some e) env) Q E s := by
  rw [evalPart_some]; exact h

/-- a global def's name -/
theorem r_fun {x : Str} {pos : Pos} {Q : Value → Shared → Prop} {d : Arguments × List Stmt × Scope} (T : TopF w P fa b1a b3a mg mb s₀.heap) (a : At s₀ L l N s) (hd : prog.theDef x = some d) (h : Q (.ref (fa x)) s)
    (hk : scope.kind = .function := by rfl) (hl : (envOf name scope L f cd).kindOf x = some .globalImplicit := by rfl)
    (hdb : (x == ("__debug__" : Str)) = false := by decide) : wpAny (model prog w) A (eval (.Name x pos) (envOf name scope L f cd)) Q E s :=
  Name_function_global hk hl (loadGlobal_global (env := envOf name scope L f cd) ((T.keeps a.keep).g) (T.fn x d.1 d.2.1 d.2.2 hd).1 h) hdb
theorem r_glob {x : Str} {v : Value} {pos : Pos} {Q : Value → Shared → Prop} (T : TopF w P fa b1a b3a mg mb s₀.heap) (a : At s₀ L l N s) (hv : mg x = some v) (h : Q v s)
    (hk : scope.kind = .function := by rfl) (hl : (envOf name scope L f cd).kindOf x = some .globalImplicit := by rfl)
    (hdb : (x == ("__debug__" : Str)) = false := by decide) : wpAny (model prog w) A (eval (.Name x pos) (envOf name scope L f cd)) Q E s :=
  Name_function_global hk hl (loadGlobal_global (env := envOf name scope L f cd) ((T.keeps a.keep).g) hv h) hdb
/-- a built-in's name -/
theorem r_bi {x : Str} {v : Value} {pos : Pos} {Q : Value → Shared → Prop} (T : TopF w P fa b1a b3a mg mb s₀.heap) (a : At s₀ L l N s) (hx : x ∈ biNames) (hv : bootBuiltins x = some v) (h : Q v s)
    (hk : scope.kind = .function := by rfl) (hl : (envOf name scope L f cd).kindOf x = some .globalImplicit := by rfl)
    (hdb : (x == ("__debug__" : Str)) = false := by decide) (hn : x ≠ "__name__" := by decide) : wpAny (model prog w) A (eval (.Name x pos) (envOf name scope L f cd)) Q E s :=
  Name_function_global hk hl (loadGlobal_builtin (env := envOf name scope L f cd) ((T.keeps a.keep).g) (T.bi x hx) ((T.keeps a.keep).b) ((T.boot x hn).trans hv) h) hdb

/-- a call of a global def, one argument or more -/
theorem r_call {x : Str} {p pos : Pos} {e : Expr} {rest : List Expr} {Q : Value → Shared → Prop} {d : Arguments × List Stmt × Scope} (T : TopF w P fa b1a b3a mg mb s₀.heap) (a : At s₀ L l N s) (hd : prog.theDef x = some d)
    (h : wpAny (model prog w) A (spliced (backTo pos (starEach (e :: rest) (envOf name scope L f cd)))) (fun vs s₁ => At s₀ L l N s₁ ∧ wpAny (model prog w) A (call (.ref (fa x)) vs) Q E s₁) E s)
    (hk : scope.kind = .function := by rfl) (hl : (envOf name scope L f cd).kindOf x = some .globalImplicit := by rfl)
    (hdb : (x == ("__debug__" : Str)) = false := by decide)
    (he : starEach (e :: rest) (envOf name scope L f cd) = (false, eval e (envOf name scope L f cd)) :: starEach rest (envOf name scope L f cd) := by rfl)
    (hc : eval (.Call (.Name x p) (e :: rest) [] pos) (envOf name scope L f cd) = (do callWith pos (← eval (.Name x p) (envOf name scope L f cd)) [] (backTo pos (starEach (e :: rest) (envOf name scope L f cd))) (backToKw pos (keywordEach [] (envOf name scope L f cd)))) := by rfl) :
    wpAny (model prog w) A (eval (.Call (.Name x p) (e :: rest) [] pos) (envOf name scope L f cd)) Q E s := by
  refine Call_ (r_fun T a hd ?_ hk hl hdb) hc
  obtain ⟨_, _, o, pm, c, doc, h3, h4, h5, h6⟩ := T.fn x d.1 d.2.1 d.2.2 hd
  refine callWith_def h4 (wpAny_mono h (fun vs s₁ h₁ => ⟨h₁.1.keep _ _ h3, h₁.2⟩) fun _ _ e => e) he

/-- the head of a call of a built-in function -/
theorem r_callb {x : Str} {id : String} {p pos : Pos} {e : Expr} {rest : List Expr} {Q : Value → Shared → Prop} (T : TopF w P fa b1a b3a mg mb s₀.heap) (a : At s₀ L l N s) (hx : x ∈ biNames) (hv : bootBuiltins x = some (.builtin id))
    (h : wpAny (model prog w) A (spliced (backTo pos (starEach (e :: rest) (envOf name scope L f cd)))) (fun vs s₁ => wpAny (model prog w) A (call (.builtin id) vs) Q E s₁) E s)
    (hk : scope.kind = .function := by rfl) (hl : (envOf name scope L f cd).kindOf x = some .globalImplicit := by rfl)
    (hdb : (x == ("__debug__" : Str)) = false := by decide) (hn : x ≠ "__name__" := by decide)
    (he : starEach (e :: rest) (envOf name scope L f cd) = (false, eval e (envOf name scope L f cd)) :: starEach rest (envOf name scope L f cd) := by rfl)
    (hplain : (backTo pos (starEach rest (envOf name scope L f cd))).any (·.1) = false := by rfl)
    (hc : eval (.Call (.Name x p) (e :: rest) [] pos) (envOf name scope L f cd) = (do callWith pos (← eval (.Name x p) (envOf name scope L f cd)) [] (backTo pos (starEach (e :: rest) (envOf name scope L f cd))) (backToKw pos (keywordEach [] (envOf name scope L f cd)))) := by rfl) :
    wpAny (model prog w) A (eval (.Call (.Name x p) (e :: rest) [] pos) (envOf name scope L f cd)) Q E s :=
  Call_ (r_bi T a hx hv (callWith_builtin1 h he hplain) hk hl hdb hn) hc

/-- a def is entered -/
theorem r_enter {x : Str} {params : Arguments} {body : List Stmt} {sc : Scope} {args : List Value} {binds : List (Str × Value)} {Q : Value → Shared → Prop}
    (T : TopF w P fa b1a b3a mg mb s.heap) (hd : prog.theDef x = some (params, body, sc)) (hroom : A.depth < 1000)
    (hbind : ∀ pm cd doc, bindArgs (docDef x params body sc pm cd doc) ⟨args, []⟩ = pure binds) (hloc : ∀ b ∈ binds, sc.names.lookup b.1 = some .local)
    (h : ∀ cd s', At s s.heap.objs.size binds.reverse [] s' → wpAny (model prog w) (A.deeper (envOf x sc s.heap.objs.size (fa x) cd)) (execs body (envOf x sc s.heap.objs.size (fa x) cd))
        (fun fl s' => Q (match fl with | .ret v => v | _ => .none) s') (fun _ _ => False) s')
    (hco : sc.isCoroutine = false := by rfl) (hgen : sc.isGenerator = false := by rfl) (hk : sc.kind = .function := by rfl)
    (hcell : ∀ x ∈ sc.names, x.2 ≠ .cell := by decide) :
    wpAny (model prog w) A (call (.ref (fa x)) args) Q E s := by
  obtain ⟨_, _, o, pm, c, doc, h3, h4, h5, h6⟩ := T.fn x params body sc hd
  refine wpAny_call (call_plain_ret hroom h3 h4 T.nolimit h5 (hbind _ _ _) hloc (fun h₁ F => ?_) hco hgen hk hcell)
  refine wpAny_mono (h (.ref c) _ ⟨⟨_, F, fun _ _ e => e⟩, News.nil, ⟨_, _, rfl⟩⟩) (fun fl s' hq => ?_) fun _ _ x => x
  exact hq
end
end Mine
end

section
open PySem PySem.W PySem.Calls PyProof.Rows
namespace Mine
/-- a text's signs -/
def tl (x : Str) : List Nat := x.cps.toList
def ms (l : List Nat) : Str := ⟨l.toArray⟩
theorem tl_ms (l : List Nat) : tl (ms l) = l := rfl
theorem ms_tl (x : Str) : ms (tl x) = x := by cases x; rfl
theorem tl_inj {x y : Str} (h : tl x = tl y) : x = y := by rw [← ms_tl x, h, ms_tl]
theorem tl_length (x : Str) : (tl x).length = x.length := by simp [tl, Str.length]
theorem beq_tl (x y : Str) : (x == y) = decide (tl x = tl y) := by
  by_cases h : x = y
  · subst h; simp
  · have : tl x ≠ tl y := fun e => h (tl_inj e)
    simp [h, this]
theorem tl_append (x y : Str) : tl (x ++ y) = tl x ++ tl y := by
  show (Str.append x y).cps.toList = _
  simp [Str.append, tl]

def clipN (i : Option Int) (d n : Nat) : Nat := match i with
  | none => d
  | some i => (max 0 (min (if i < 0 then i + n else i) n)).toNat

theorem range_map_add (a k : Nat) (x : Array Nat) (h : a + k ≤ x.size) : ((List.range k).map (fun i => a + i)).filterMap (x[·]?) = (x.toList.drop a).take k := by
  induction k with
  | zero => simp
  | succ k ih =>
    rw [List.range_succ, List.map_append, List.filterMap_append, ih (by omega)]
    have : a + k < x.size := by omega
    simp [List.take_add_one, List.getElem?_drop, this]

theorem idx_eq {a b : Int} (ha : 0 ≤ a) (hb : 0 ≤ b) : (List.range (if a < b then b - a else 0).toNat).map (fun (k : Nat) => (a + 1 * (k : Int)).toNat) = (List.range (b.toNat - a.toNat)).map (fun i => a.toNat + i) := by
  have e : (if a < b then b - a else 0).toNat = b.toNat - a.toNat := by split <;> omega
  rw [e]
  refine List.map_congr_left fun k _ => ?_
  omega

theorem tl_slice (x : Str) (l u : Option Int) : tl (Txt.slice x l u) = ((tl x).take (clipN u x.length x.length)).drop (clipN l 0 x.length) := by
  have hlo : clipN l 0 x.length ≤ x.length := by cases l <;> simp only [clipN] <;> (try split) <;> omega
  have hhi : clipN u x.length x.length ≤ x.length := by cases u <;> simp only [clipN] <;> (try split) <;> omega
  have hidx : PySem.Builtin.Str.strSliceIndices l u 1 x.length = (List.range (clipN u x.length x.length - clipN l 0 x.length)).map (fun i => clipN l 0 x.length + i) := by
    unfold PySem.Builtin.Str.strSliceIndices PySem.sliceRange
    simp only [gt_iff_lt, Int.zero_lt_one, if_true, Int.add_sub_cancel, Int.ediv_one]
    cases l <;> cases u <;> simp only [clipN]
    · exact idx_eq (a := 0) (b := x.length) (Int.le_refl _) (by omega)
    · exact idx_eq (a := 0) (Int.le_refl _) (by omega)
    · exact idx_eq (b := x.length) (by omega) (by omega)
    · exact idx_eq (by omega) (by omega)
  have hx : x.cps.size = x.length := rfl
  unfold Txt.slice
  rw [hidx]
  split
  · rename_i hc
    simp only [beq_self_eq_true, Bool.true_and, List.length_map, List.length_range, beq_iff_eq] at hc
    have h0 : clipN l 0 x.length = 0 := by omega
    have h1 : clipN u x.length x.length = x.length := by omega
    rw [h0, h1, List.drop_zero, ← tl_length, List.take_length]
  · show ((List.range _).map _).filterMap _ = _
    by_cases hle : clipN l 0 x.length ≤ clipN u x.length x.length
    · rw [range_map_add _ _ _ (by omega)]
      rw [List.drop_take]; rfl
    · have : clipN u x.length x.length - clipN l 0 x.length = 0 := by omega
      rw [this, List.range_zero, List.map_nil, List.filterMap_nil]
      rw [List.drop_eq_nil_of_le]
      rw [List.length_take]; omega

theorem tl_to (x : Str) (k : Nat) : tl (Txt.slice x none (some (k : Int))) = (tl x).take k := by
  rw [tl_slice, show clipN none 0 x.length = 0 from rfl, List.drop_zero]
  have : clipN (some (k : Int)) x.length x.length = min k x.length := by simp only [clipN]; split <;> omega
  rw [this, ← tl_length, List.take_eq_take_iff]; omega
theorem tl_from (x : Str) (k : Nat) : tl (Txt.slice x (some (k : Int)) none) = (tl x).drop k := by
  rw [tl_slice, show clipN none x.length x.length = x.length from rfl, ← tl_length, List.take_length]
  have : clipN (some (k : Int)) 0 (tl x).length = min k (tl x).length := by simp only [clipN]; split <;> omega
  rw [this]
  by_cases h : k ≤ (tl x).length
  · rw [Nat.min_eq_left h]
  · rw [Nat.min_eq_right (by omega), List.drop_length, List.drop_eq_nil_of_le (by omega)]
theorem tl_toN (x : Str) (k : Nat) (hk : 1 ≤ k) : tl (Txt.slice x none (some (-(k : Int)))) = (tl x).take ((tl x).length - k) := by
  rw [tl_slice, show clipN none 0 x.length = 0 from rfl, List.drop_zero]
  have : clipN (some (-(k : Int))) x.length x.length = x.length - k := by simp only [clipN]; split <;> omega
  rw [this, tl_length]
theorem tl_fromN (x : Str) (k : Nat) (hk : 1 ≤ k) : tl (Txt.slice x (some (-(k : Int))) none) = (tl x).drop ((tl x).length - k) := by
  rw [tl_slice, show clipN none x.length x.length = x.length from rfl, ← tl_length, List.take_length]
  have : clipN (some (-(k : Int))) 0 (tl x).length = (tl x).length - k := by simp only [clipN]; split <;> omega
  rw [this]
theorem tl_between (x : Str) (a b : Nat) : tl (Txt.slice x (some (a : Int)) (some (b : Int))) = ((tl x).take b).drop a := by
  rw [tl_slice]
  have h1 : clipN (some (b : Int)) x.length x.length = min b x.length := by simp only [clipN]; split <;> omega
  have h2 : clipN (some (a : Int)) 0 x.length = min a x.length := by simp only [clipN]; split <;> omega
  rw [h1, h2, ← tl_length]
  have e : (tl x).take (min b (tl x).length) = (tl x).take b := by rw [List.take_eq_take_iff]; omega
  rw [e]
  by_cases h : a ≤ (tl x).length
  · rw [Nat.min_eq_left h]
  · rw [Nat.min_eq_right (by omega), List.drop_eq_nil_of_le (by rw [List.length_take]; omega), List.drop_eq_nil_of_le (by rw [List.length_take]; omega)]
end Mine
namespace Mine
theorem tl_Sjoin (sep : Str) : ∀ ts : List Str, tl (PySem.Str.join sep ts) = List.intercalate (tl sep) (ts.map tl)
  | [] => rfl
  | [x] => by simp [PySem.Str.join, List.intercalate]
  | x :: y :: r => by
    have ih := tl_Sjoin sep (y :: r)
    rw [show PySem.Str.join sep (x :: y :: r) = x ++ sep ++ PySem.Str.join sep (y :: r) from rfl, tl_append, tl_append, ih]
    simp [List.intercalate]
end Mine
namespace Mine
theorem tl_join (sep : Str) (ts : List Str) : tl (Txt.join sep ts) = List.intercalate (tl sep) (ts.map tl) := by
  show tl (PySem.Builtin.Str.glued sep ts) = _
  rw [StrLaws.glued_eq_join]; exact tl_Sjoin sep ts
theorem intercalate_nil : ∀ ts : List (List Nat), List.intercalate [] ts = ts.flatten
  | [] => rfl
  | [x] => by simp [List.intercalate]
  | x :: y :: r => by
    have ih := intercalate_nil (y :: r)
    simp [List.intercalate] at ih ⊢
    exact ih
end Mine
end

section
open PySem PySem.W PySem.Calls PyProof.Rows
set_option maxRecDepth 100000
namespace Mine
section
variable {w : World} {P : Addr} {fa : Str → Addr} {b1a b3a : Addr} {mg mb : Str → Option Value}
variable {A : Around} {E : Value → Shared → Prop} {s₀ s : Shared} {name : Str} {scope : Scope} {L f : Addr} {cd : Value} {l : List (Str × Value)} {N : List (Addr × Obj)} {env : Env}

theorem r_in2 {x y k : Str} {n1 n2 : Nat} {p1 p2 pos : Pos} {t : Tok} {Q : Value → Shared → Prop} (h : ∀ s', Keeps s s' → Q (.bool (([x, y] : List Str).any (· == k))) s') :
    wpAny (model prog w) A (eval (.List [.Constant (.str x) n1 p1, .Constant (.str y) n2 p2] pos) env) (fun b s₂ => wpAny (model prog w) A (compareOp .In (.str k t) b) Q E s₂) E s := by
  refine wpAny_List (wpAny_items_cons (wpAny_Constant_str (wpAny_items_cons (wpAny_Constant_str (wpAny_items_nil ?_)))))
  refine ⟨by show 2 ≤ 16777216; decide, ?_⟩
  refine in_list_strs (ys := [x, y]) (vs := [.str x _, .str y _]) ⟨_, Heap.get?_push_size _ rfl, rfl, 0, rfl⟩ (.cons x _ (.cons y _ .nil)) (h _ ?_)
  exact kpTrans (kpTok s _) (kpTrans (kpTok _ _) (kpPush _ _))

theorem r_while {test : Expr} {body : List Stmt} {pos : Pos} {Q : Flow → Shared → Prop} (I : Nat → Shared → Prop) (n : Nat) (h0 : I n s)
    (turn : ∀ n s (E' : Value → Shared → Prop), I n s → wpAny (model prog w) A (isTrue test env (eval test env)) (fun b s₂ =>
        if b then wpAny (model prog w) A (execs body env) (fun f s₃ => match f with
            | .next | .cont => ∃ m, m < n ∧ I m s₃
            | .brk => Q .next s₃
            | .ret v => Q (.ret v) s₃) E' s₂
        else Q .next s₂) E' s) :
    wpAny (model prog w) A (exec (.While test body [] pos) env) Q E s := by
  refine wpAny_While (codeAny_whileLoop I (fun n s hI => ?_) n h0)
  refine wpAny_mono (turn n s _ hI) (fun b s₂ hb => ?_) fun _ _ e => e
  cases b with
  | true => simp only [if_true] at hb ⊢; exact wpAny_mono hb (fun f s₃ hf => by cases f <;> exact hf) fun _ _ e => e
  | false => simp only [Bool.false_eq_true, if_false] at hb ⊢; exact wpAny_execs_nil hb
end

def isBl (c : Nat) : Bool := c == 32 || c == 9
def lstripT (l : List Nat) : List Nat := l.dropWhile isBl
def rstripT (l : List Nat) : List Nat := (l.reverse.dropWhile isBl).reverse
def trimT (l : List Nat) : List Nat := rstripT (lstripT l)

theorem test_head (x : Str) : (([" ", "\t"] : List Str).any (· == Txt.slice x none (some 1))) = (tl x).head?.any isBl := by
  have e := tl_to x 1
  rw [show ((1 : Nat) : Int) = 1 from rfl] at e
  simp only [List.any_cons, List.any_nil, Bool.or_false, beq_tl, e, show tl " " = [32] by decide +kernel, show tl "\t" = [9] by decide +kernel]
  cases tl x with
  | nil => simp
  | cons c r => simp [isBl, eq_comm]; rfl
theorem test_last (x : Str) : (([" ", "\t"] : List Str).any (· == Txt.slice x (some (-1)) none)) = (tl x).getLast?.any isBl := by
  have e := tl_fromN x 1 (Nat.le_refl _)
  rw [show -((1 : Nat) : Int) = -1 from rfl] at e
  simp only [List.any_cons, List.any_nil, Bool.or_false, beq_tl, e, show tl " " = [32] by decide +kernel, show tl "\t" = [9] by decide +kernel]
  rcases List.eq_nil_or_concat (tl x) with h | ⟨r, c, h⟩
  · rw [h]; simp
  · rw [h]; simp [isBl, eq_comm]; rfl

theorem lstripT_step {c : Nat} {r : List Nat} (h : isBl c = true) : lstripT (c :: r) = lstripT r := by simp [lstripT, h]
theorem lstripT_id {l : List Nat} (h : l.head?.any isBl = false) : lstripT l = l := by
  cases l with
  | nil => rfl
  | cons c r => simp at h; simp [lstripT, h]
theorem rstripT_step {c : Nat} {r : List Nat} (h : isBl c = true) : rstripT (r ++ [c]) = rstripT r := by simp [rstripT, h]
theorem rstripT_id {l : List Nat} (h : l.getLast?.any isBl = false) : rstripT l = l := by
  rcases List.eq_nil_or_concat l with rfl | ⟨r, c, rfl⟩
  · rfl
  · simp at h; simp [rstripT, h]

section
variable {w : World} {P : Addr} {fa : Str → Addr} {b1a b3a : Addr} {mg mb : Str → Option Value} {A : Around} {E : Value → Shared → Prop} {s : Shared}
theorem trimmed_spec {x : Str} {t : Tok} {Q : Value → Shared → Prop} (T : TopF w P fa b1a b3a mg mb s.heap) (hroom : A.depth < 1000) (hx : x.length ≤ 1000000)
    (h : ∀ t' s', Keeps s s' → Q (.str (ms (trimT (tl x))) t') s') : wpAny (model prog w) A (call (.ref (fa "_law_trimmed")) [.str x t]) Q E s := by
  have hsl : sizeLine = 16777216 := rfl
  refine r_enter T (by rfl) hroom (binds := [("text", .str x t)]) (fun _ _ _ => rfl) (locs rfl) (fun cd s' a => ?_)
  refine wpAny_execs_cons ?_
  refine r_while (fun n s' => ∃ y t, n = (tl y).length ∧ At s s.heap.objs.size [("text", .str y t)] [] s' ∧ lstripT (tl y) = lstripT (tl x) ∧ y.length ≤ x.length) (tl x).length ⟨x, t, rfl, a, rfl, Nat.le_refl _⟩ ?_
  · rintro n s' E' ⟨y, t, rfl, a, hy, hl⟩
    refine wpAny_isTrue_Compare1 ?_
    refine r_slice (r_name a ?_)
    refine r_part_none (r_part (r_int a fun t₁ s₁ a => ⟨y, t, none, some (1, t₁), rfl, rfl, rfl, by omega, fun t₂ s₂ k => ?_⟩))
    replace a := a.go k
    refine r_in2 fun s₃ k => wpAny_truthy_bool ?_
    replace a := a.go k
    rw [show ((some ((1 : Int), t₁)).map (·.1)) = some 1 from rfl, show ((none : Option (Int × Tok)).map (·.1)) = none from rfl, test_head]
    cases hb : (tl y).head?.any isBl with
    | true =>
      simp only [if_true]
      refine wpAny_execs_cons (wpAny_Assign_Name (r_slice (r_name a ?_)))
      refine r_part (r_int a fun t₁ s₁ a => r_part_none ⟨y, t, some (1, t₁), none, rfl, rfl, rfl, by omega, fun t₂ s₂ k => ?_⟩)
      refine r_store (a.go k) fun s₃ a => wpAny_execs_nil ?_
      have e := tl_from y 1
      rw [show ((1 : Nat) : Int) = 1 from rfl] at e
      cases hc : tl y with
      | nil => rw [hc] at hb; cases hb
      | cons c r =>
        rw [hc] at hb e hy
        refine ⟨r.length, by simp, _, _, ?_, a.only ⟨rfl, trivial⟩, ?_, Nat.le_trans (Txt.slice_le _ _ _) hl⟩
        · show _ = (tl (Txt.slice y (some 1) none)).length
          rw [e]; rfl
        · show lstripT (tl (Txt.slice y (some 1) none)) = _
          rw [e, ← hy, lstripT_step (by simpa using hb)]; rfl
    | false =>
      simp only [Bool.false_eq_true, if_false]
      rw [lstripT_id hb] at hy
      refine wpAny_execs_cons ?_
      refine r_while (fun n s' => ∃ y t, n = (tl y).length ∧ At s s.heap.objs.size [("text", .str y t)] [] s' ∧ rstripT (tl y) = trimT (tl x) ∧ y.length ≤ x.length) (tl y).length ⟨y, t, rfl, a, by rw [hy]; rfl, hl⟩ ?_
      rintro n s' E' ⟨y, t, rfl, a, hy, hl⟩
      refine wpAny_isTrue_Compare1 ?_
      refine r_slice (r_name a ?_)
      refine r_part (r_negint a fun t₁ s₁ a => r_part_none ⟨y, t, some (-1, t₁), none, rfl, rfl, rfl, by omega, fun t₂ s₂ k => ?_⟩)
      replace a := a.go k
      refine r_in2 fun s₃ k => wpAny_truthy_bool ?_
      replace a := a.go k
      rw [show ((some ((-1 : Int), t₁)).map (·.1)) = some (-1) from rfl, show ((none : Option (Int × Tok)).map (·.1)) = none from rfl, test_last]
      cases hb : (tl y).getLast?.any isBl with
      | true =>
        simp only [if_true]
        refine wpAny_execs_cons (wpAny_Assign_Name (r_slice (r_name a ?_)))
        refine r_part_none (r_part (r_negint a fun t₁ s₁ a => ⟨y, t, none, some (-1, t₁), rfl, rfl, rfl, by omega, fun t₂ s₂ k => ?_⟩))
        refine r_store (a.go k) fun s₃ a => wpAny_execs_nil ?_
        have e := tl_toN y 1 (Nat.le_refl _)
        rw [show -((1 : Nat) : Int) = -1 from rfl] at e
        rcases List.eq_nil_or_concat (tl y) with hc | ⟨r, c, hc⟩
        · rw [hc] at hb; cases hb
        · rw [List.concat_eq_append] at hc
          rw [hc] at hb e hy
          simp at e
          refine ⟨r.length, by rw [hc]; simp, _, _, ?_, a.only ⟨rfl, trivial⟩, ?_, Nat.le_trans (Txt.slice_le _ _ _) hl⟩
          · show _ = (tl (Txt.slice y none (some (-1)))).length
            rw [e]
          · show rstripT (tl (Txt.slice y none (some (-1)))) = _
            rw [e, ← hy, rstripT_step (by simpa using hb)]
      | false =>
        simp only [Bool.false_eq_true, if_false]
        rw [rstripT_id hb] at hy
        refine wpAny_execs_cons (wpAny_Return_some (r_name a ?_))
        have : y = ms (trimT (tl x)) := tl_inj (by rw [hy]; rfl)
        rw [this]
        exact h _ _ a.keeps
end
end Mine
end

section
open PySem PySem.W PySem.Calls PyProof.Rows
set_option maxRecDepth 100000
namespace Mine
section
variable {w : World} {P : Addr} {fa : Str → Addr} {b1a b3a : Addr} {mg mb : Str → Option Value}
variable {A : Around} {E : Value → Shared → Prop} {s : Shared} {env : Env}

/-- names and calls in any block of a def -/
theorem c_fun {x : Str} {pos : Pos} {Q : Value → Shared → Prop} {d : Arguments × List Stmt × Scope} (T : TopF w P fa b1a b3a mg mb s.heap) (hd : prog.theDef x = some d) (h : Q (.ref (fa x)) s)
    (hk : env.scope.kind = .function := by rfl) (hl : env.kindOf x = some .globalImplicit := by rfl) (hg : env.globals = mainGlobals := by rfl)
    (hdb : (x == ("__debug__" : Str)) = false := by decide) : wpAny (model prog w) A (eval (.Name x pos) env) Q E s :=
  Name_function_global hk hl (loadGlobal_global (by rw [hg]; exact T.g) (T.fn x d.1 d.2.1 d.2.2 hd).1 h) hdb
theorem c_bi {x : Str} {v : Value} {pos : Pos} {Q : Value → Shared → Prop} (T : TopF w P fa b1a b3a mg mb s.heap) (hx : x ∈ biNames) (hv : bootBuiltins x = some v) (h : Q v s)
    (hk : env.scope.kind = .function := by rfl) (hl : env.kindOf x = some .globalImplicit := by rfl) (hg : env.globals = mainGlobals := by rfl) (hb : env.builtins = builtinsNs := by rfl)
    (hdb : (x == ("__debug__" : Str)) = false := by decide) (hn : x ≠ "__name__" := by decide) : wpAny (model prog w) A (eval (.Name x pos) env) Q E s :=
  Name_function_global hk hl (loadGlobal_builtin (by rw [hg]; exact T.g) (T.bi x hx) (by rw [hb]; exact T.b) ((T.boot x hn).trans hv) h) hdb
theorem c_call {x : Str} {p pos : Pos} {e : Expr} {rest : List Expr} {Q : Value → Shared → Prop} {d : Arguments × List Stmt × Scope} (T : TopF w P fa b1a b3a mg mb s.heap) (hd : prog.theDef x = some d)
    (h : wpAny (model prog w) A (spliced (backTo pos (starEach (e :: rest) env))) (fun vs s₁ => Keeps s s₁ ∧ wpAny (model prog w) A (call (.ref (fa x)) vs) Q E s₁) E s)
    (hk : env.scope.kind = .function := by rfl) (hl : env.kindOf x = some .globalImplicit := by rfl) (hg : env.globals = mainGlobals := by rfl)
    (hdb : (x == ("__debug__" : Str)) = false := by decide)
    (he : starEach (e :: rest) env = (false, eval e env) :: starEach rest env := by rfl)
    (hc : eval (.Call (.Name x p) (e :: rest) [] pos) env = (do callWith pos (← eval (.Name x p) env) [] (backTo pos (starEach (e :: rest) env)) (backToKw pos (keywordEach [] env))) := by rfl) :
    wpAny (model prog w) A (eval (.Call (.Name x p) (e :: rest) [] pos) env) Q E s := by
  refine Call_ (c_fun T hd ?_ hk hl hg hdb) hc
  obtain ⟨_, _, o, pm, c, doc, h3, h4, h5, h6⟩ := T.fn x d.1 d.2.1 d.2.2 hd
  refine callWith_def h4 (wpAny_mono h (fun vs s₁ h₁ => ⟨kpHeap h₁.1 _ _ h3, h₁.2⟩) fun _ _ e => e) he
theorem c_callb {x : Str} {id : String} {p pos : Pos} {e : Expr} {rest : List Expr} {Q : Value → Shared → Prop} (T : TopF w P fa b1a b3a mg mb s.heap) (hx : x ∈ biNames) (hv : bootBuiltins x = some (.builtin id))
    (h : wpAny (model prog w) A (spliced (backTo pos (starEach (e :: rest) env))) (fun vs s₁ => wpAny (model prog w) A (call (.builtin id) vs) Q E s₁) E s)
    (hk : env.scope.kind = .function := by rfl) (hl : env.kindOf x = some .globalImplicit := by rfl) (hg : env.globals = mainGlobals := by rfl) (hb : env.builtins = builtinsNs := by rfl)
    (hdb : (x == ("__debug__" : Str)) = false := by decide) (hn : x ≠ "__name__" := by decide)
    (he : starEach (e :: rest) env = (false, eval e env) :: starEach rest env := by rfl)
    (hplain : (backTo pos (starEach rest env)).any (·.1) = false := by rfl)
    (hc : eval (.Call (.Name x p) (e :: rest) [] pos) env = (do callWith pos (← eval (.Name x p) env) [] (backTo pos (starEach (e :: rest) env)) (backToKw pos (keywordEach [] env))) := by rfl) :
    wpAny (model prog w) A (eval (.Call (.Name x p) (e :: rest) [] pos) env) Q E s :=
  Call_ (c_bi T hx hv (callWith_builtin1 h he hplain) hk hl hg hb hdb hn) hc
/-- f(x), x a name of the block at hand -/
theorem c_call1 {x y : Str} {p p' pos : Pos} {v : Value} {m : Str → Option Value} {Q : Value → Shared → Prop} {d : Arguments × List Stmt × Scope} (T : TopF w P fa b1a b3a mg mb s.heap) (hd : prog.theDef x = some d)
    (hn : s.heap.Ns env.locals m) (hv : m y = some v)
    (h : wpAny (model prog w) A (call (.ref (fa x)) [v]) Q E s)
    (hk : env.scope.kind = .function := by rfl) (hl : env.kindOf x = some .globalImplicit := by rfl) (hg : env.globals = mainGlobals := by rfl)
    (hy : env.scope.names.lookup y = some .local := by rfl)
    (hdb : (x == ("__debug__" : Str)) = false := by decide) (hdy : (y == ("__debug__" : Str)) = false := by decide)
    (he : starEach [.Name y p'] env = (false, eval (.Name y p') env) :: starEach [] env := by rfl)
    (hc : eval (.Call (.Name x p) [.Name y p'] [] pos) env = (do callWith pos (← eval (.Name x p) env) [] (backTo pos (starEach [.Name y p'] env)) (backToKw pos (keywordEach [] env))) := by rfl) :
    wpAny (model prog w) A (eval (.Call (.Name x p) [.Name y p'] [] pos) env) Q E s := by
  refine c_call T hd ?_ hk hl hg hdb he hc
  exact wpAny_items_cons (ldG hn hv (wpAny_items_nil ⟨kpRefl s, h⟩) hk hy hdy) he

def signOf : Value → Nat
  | .str ⟨#[c]⟩ _ => c
  | _ => 0

theorem paired_strs {α : Type} {F : Value → Value → Prop} {k : Value → α} {g : α → Str} (hF : ∀ v y, F v y → ∃ u, y = .str (g (k v)) u) : ∀ {vs ys : List Value}, Paired F vs ys → ∃ l : List (Str × Tok), strValues l = ys ∧ l.map (·.1) = (vs.map k).map g
  | _, _, .nil => ⟨[], rfl, rfl⟩
  | _, _, .cons h r => by
    obtain ⟨u, rfl⟩ := hF _ _ h
    obtain ⟨l, h1, h2⟩ := paired_strs hF r
    exact ⟨(g (k _), u) :: l, congrArg (List.cons _) h1, by rw [List.map_cons, h2]; rfl⟩

/-- [elt for x in TEXT if ..], every item a text -/
theorem r_compS {elt iter : Expr} {x : Str} {px : Pos} {ifs : List Expr} {scope : Scope} {pos : Pos} {Q : Value → Shared → Prop} (p : Nat → Bool) (F : Nat → List Nat) (hh : A.handled = none)
    (h : wpAny (model prog w) A (eval iter env) (fun xv s₁ => ∃ y t, xv = .str y t ∧ y.length ≤ sizeLine ∧
      (∀ C c u s₃ m₃ E', c ∈ tl y → s₃.heap.Ns C m₃ → m₃ x = some (.str ⟨#[c]⟩ u) → (∀ b o, s₁.heap.get? b = some o → s₃.heap.get? b = some o) →
        wpAny (model prog w) A (forIn ifs true fun c r => if r = true then do let ok ← isTrue c (compEnv scope C env) (eval c (compEnv scope C env)); pure (ForInStep.yield ok) else pure (ForInStep.yield r))
          (fun ok s₄ => ok = p c ∧ Keeps s₃ s₄) E' s₃) ∧
      (∀ C c u s₃ m₃ E', c ∈ tl y → p c = true → s₃.heap.Ns C m₃ → m₃ x = some (.str ⟨#[c]⟩ u) → (∀ b o, s₁.heap.get? b = some o → s₃.heap.get? b = some o) →
        wpAny (model prog w) A (eval elt (compEnv scope C env)) (fun v s₄ => (∃ u, v = .str (ms (F c)) u) ∧ Keeps s₃ s₄) E' s₃) ∧
      (∀ D s' l, Keeps s₁ s' → s₁.heap.get? D = none → s'.heap.IsList D (strValues l).toArray → l.map (·.1) = ((tl y).filter p).map (fun c => ms (F c)) → Q (.ref D) s')) E s)
    (hfree : ∀ y ∈ scope.names, y.2 ≠ .free := by decide +kernel) (hcell : ∀ y ∈ scope.names, y.2 ≠ .cell := by decide +kernel) (hkind : scope.kind = .function := by rfl)
    (hnames : ∀ y ∈ scope.names, y.2 = .local → scope.names.lookup y.1 = some .local := by decide +kernel) (hx : scope.names.lookup x = some .local := by rfl)
    (hs : ∀ x, foldedSetIterable iter env x = pure x := by intro _; rfl) :
    wpAny (model prog w) A (eval (.ListComp elt [⟨.Name x px, iter, ifs, 0⟩] scope pos) env) Q E s := by
  refine wpAny_ListComp_walk (fun v => p (signOf v)) (fun v y => ∃ u, y = .str (ms (F (signOf v))) u) hfree hcell hkind hnames hx (wpAny_mono h (fun xv s₁ h₁ => ?_) fun _ _ e => e) hs
  obtain ⟨y, t, rfl, hsz, ht, he, hq⟩ := h₁
  refine wpAny_pyIter_str fun o St W st => ?_
  have hnew : ∀ b o', s₁.heap.get? b = some o' → b ∉ [s₁.heap.objs.size] := fun b o' e hm => by
    simp at hm; exact Nat.lt_irrefl _ (hm ▸ Heap.lt_size e)
  have hkeep : ∀ b o', s₁.heap.get? b = some o' → (s₁.heap.push o).get? b = some o' := fun b o' e => Heap.get?_push_of_some o e
  refine ⟨_, _, _, _, _, _, rfl, W A hh, hsz, st, (by intro b hb; simp at hb; subst hb; show _ < (s₁.heap.push o).objs.size; rw [Heap.size_push]; exact Nat.lt_succ_self _), ⟨?_, ?_⟩, ?_⟩
  · rintro C i v s₃ m₃ E' ⟨c, u, hc, rfl⟩ hn hm hk _
    have hmem : c ∈ tl y := Array.mem_toList_iff.mpr (Array.mem_of_getElem? hc)
    exact wpAny_mono (ht C c u s₃ m₃ E' hmem hn hm fun b o' e => hk b o' (hnew b o' e) (hkeep b o' e)) (fun ok s₄ q => q) fun _ _ e => e
  · rintro C i v s₃ m₃ E' ⟨c, u, hc, rfl⟩ hp hn hm hk _
    have hmem : c ∈ tl y := Array.mem_toList_iff.mpr (Array.mem_of_getElem? hc)
    exact wpAny_mono (he C c u s₃ m₃ E' hmem hp hn hm fun b o' e => hk b o' (hnew b o' e) (hkeep b o' e)) (fun ok s₄ q => q) fun _ _ e => e
  · intro D h' tk ys vs hD hl _ hlen hP hF hk
    obtain ⟨l, hl1, hl2⟩ := paired_strs (k := signOf) (g := fun c => ms (F c)) (fun v y h => h) hF
    have hvs : vs.map signOf = tl y := by
      apply List.ext_getElem?
      intro i
      by_cases hi : i < vs.length
      · obtain ⟨c, u, hc, hv⟩ := hP i vs[i] (List.getElem?_eq_getElem hi)
        rw [List.getElem?_map, List.getElem?_eq_getElem hi]
        show some (signOf vs[i]) = _
        rw [hv]
        show some c = _
        rw [← hc]; simp [tl]
      · rw [List.getElem?_eq_none (by simpa using hi), List.getElem?_eq_none (by rw [tl_length]; show y.cps.size ≤ i; omega)]
    refine hq D _ l ⟨h', tk, rfl, fun b o' e => hk b o' (hnew b o' e) (hkeep b o' e)⟩ ?_ ?_ ?_
    · cases e : s₁.heap.get? D with
      | none => rfl
      | some o' => rw [hkeep D o' e] at hD; cases hD
    · rw [hl1]; exact hl
    · rw [hl2, ← hvs, List.filter_map]; rfl

/-- [elt for x in LIST if ..], the list's items texts, every item a text -/
theorem r_compL {elt iter : Expr} {x : Str} {px : Pos} {ifs : List Expr} {scope : Scope} {pos : Pos} {Q : Value → Shared → Prop} (p : Str → Bool) (F : Str → Str) (hh : A.handled = none)
    (h : wpAny (model prog w) A (eval iter env) (fun xv s₁ => ∃ a ts, xv = .ref a ∧ s₁.heap.IsList a (strValues ts).toArray ∧ ts.length ≤ sizeLine ∧
      (∀ C y u s₃ m₃ E', (y, u) ∈ ts → s₃.heap.Ns C m₃ → m₃ x = some (.str y u) → (∀ b o, s₁.heap.get? b = some o → s₃.heap.get? b = some o) →
        wpAny (model prog w) A (forIn ifs true fun c r => if r = true then do let ok ← isTrue c (compEnv scope C env) (eval c (compEnv scope C env)); pure (ForInStep.yield ok) else pure (ForInStep.yield r))
          (fun ok s₄ => ok = p y ∧ Keeps s₃ s₄) E' s₃) ∧
      (∀ C y u s₃ m₃ E', (y, u) ∈ ts → p y = true → s₃.heap.Ns C m₃ → m₃ x = some (.str y u) → (∀ b o, s₁.heap.get? b = some o → s₃.heap.get? b = some o) →
        wpAny (model prog w) A (eval elt (compEnv scope C env)) (fun v s₄ => (∃ u, v = .str (F y) u) ∧ Keeps s₃ s₄) E' s₃) ∧
      (∀ D s' l, Keeps s₁ s' → s₁.heap.get? D = none → s'.heap.IsList D (strValues l).toArray → l.map (·.1) = ((ts.map (·.1)).filter p).map F → Q (.ref D) s')) E s)
    (hfree : ∀ y ∈ scope.names, y.2 ≠ .free := by decide +kernel) (hcell : ∀ y ∈ scope.names, y.2 ≠ .cell := by decide +kernel) (hkind : scope.kind = .function := by rfl)
    (hnames : ∀ y ∈ scope.names, y.2 = .local → scope.names.lookup y.1 = some .local := by decide +kernel) (hx : scope.names.lookup x = some .local := by rfl)
    (hs : ∀ x, foldedSetIterable iter env x = pure x := by intro _; rfl) :
    wpAny (model prog w) A (eval (.ListComp elt [⟨.Name x px, iter, ifs, 0⟩] scope pos) env) Q E s := by
  have txt : ∃ txt : Value → Str, ∀ y u, txt (.str y u) = y := ⟨fun v => match v with | .str y _ => y | _ => default, fun _ _ => rfl⟩
  obtain ⟨txt, htxt⟩ := txt
  refine wpAny_ListComp_walk (fun v => p (txt v)) (fun v y => ∃ u, y = .str (F (txt v)) u) hfree hcell hkind hnames hx (wpAny_mono h (fun xv s₁ h₁ => ?_) fun _ _ e => e) hs
  obtain ⟨a, ts, rfl, hl, hsz, ht, he, hq⟩ := h₁
  refine wpAny_pyIter_list hl ?_
  have hlt : ∀ b o', s₁.heap.get? b = some o' → b ≠ s₁.heap.objs.size := fun b o' e => Nat.ne_of_lt (Heap.lt_size e)
  have hnew : ∀ b o', s₁.heap.get? b = some o' → b ∉ [s₁.heap.objs.size] := fun b o' e hm => by
    simp at hm; exact Nat.lt_irrefl _ (hm ▸ Heap.lt_size e)
  obtain ⟨oa, hoa, _⟩ := id hl
  have hsize : (strValues ts).toArray.size = ts.length := by simp [strValues]
  have hget : ∀ (i : Nat) (v : Value), (strValues ts).toArray[i]? = some v → ∃ y u, (y, u) ∈ ts ∧ v = Value.str y u ∧ ts[i]? = some (y, u) := fun i v hv => by
    simp only [strValues, List.getElem?_toArray, List.getElem?_map, Option.map_eq_some_iff] at hv
    obtain ⟨⟨y, u⟩, hp, rfl⟩ := hv
    exact ⟨y, u, List.mem_of_getElem? hp, rfl, hp⟩
  refine ⟨_, _, _, _, _, _, rfl, Walks.list hh s₁.heap.objs.size a (hlt _ _ hoa) (strValues ts).toArray, by rw [hsize]; exact hsz, ⟨⟨_, Heap.get?_push_size _ rfl, rfl, rfl⟩, hl.push _⟩, ?_, ⟨?_, ?_⟩, ?_⟩
  · intro b hb
    show b < (s₁.heap.push _).objs.size
    rw [Heap.size_push]
    simp at hb
    rcases hb with rfl | rfl
    · exact Nat.lt_succ_self _
    · exact Nat.lt_succ_of_lt (Heap.lt_size hoa)
  · rintro C i v s₃ m₃ E' hv hn hm hk _
    obtain ⟨y, u, hmem, rfl, _⟩ := hget i v hv
    have := ht C y u s₃ m₃ E' hmem hn hm fun b o' e => hk b o' (hnew b o' e) (Heap.get?_push_of_some _ e)
    exact wpAny_mono this (fun ok s₄ q => by rw [htxt]; exact q) fun _ _ e => e
  · rintro C i v s₃ m₃ E' hv hp hn hm hk _
    obtain ⟨y, u, hmem, rfl, _⟩ := hget i v hv
    rw [htxt] at hp
    have := he C y u s₃ m₃ E' hmem hp hn hm fun b o' e => hk b o' (hnew b o' e) (Heap.get?_push_of_some _ e)
    exact wpAny_mono this (fun ok s₄ q => by rw [htxt]; exact q) fun _ _ e => e
  · intro D h' tk ys vs hD hl' _ hlen hP hF hk
    obtain ⟨l, hl1, hl2⟩ := paired_strs (k := txt) (g := F) (fun v y h => h) hF
    have hvs : vs.map txt = ts.map (·.1) := by
      apply List.ext_getElem?
      intro i
      by_cases hi : i < vs.length
      · obtain ⟨y, u, _, hv, hi'⟩ := hget i vs[i] (hP i vs[i] (List.getElem?_eq_getElem hi))
        rw [List.getElem?_map, List.getElem?_eq_getElem hi, List.getElem?_map, hi']
        show some (txt vs[i]) = some y
        rw [hv, htxt]
      · rw [List.getElem?_eq_none (by simpa using hi), List.getElem?_eq_none (by rw [List.length_map]; rw [hsize] at hlen; omega)]
    refine hq D _ l ⟨h', tk, rfl, fun b o' e => hk b o' (hnew b o' e) (Heap.get?_push_of_some _ e)⟩ ?_ ?_ ?_
    · cases e : s₁.heap.get? D with
      | none => rfl
      | some o' => rw [Heap.get?_push_of_some _ e] at hD; cases hD
    · rw [hl1]; exact hl'
    · rw [hl2, ← hvs, List.filter_map]; rfl
end

section
variable {w : World} {A : Around} {E : Value → Shared → Prop} {s : Shared} {env : Env}
/-- TEXT.join(arg) -/
theorem m_join {o arg : Expr} {ap pos : Pos} {pl : Sem Bool} {Q : Value → Shared → Prop}
    (h : wpAny (model prog w) A (eval o env) (fun ov s₁ => ∃ x t, ov = .str x t ∧ wpAny (model prog w) A (eval arg env) (fun v s₂ => wpAny (model prog w) A (call (.builtin "str.join") [.str x t, v]) Q E s₂) E s₁) E s)
    (he : starEach [arg] env = (false, eval arg env) :: starEach [] env := by rfl)
    (hm : eval (.Call (.Attribute o "join" ap) [arg] [] pos) env = (do
      let ov ← eval o env
      standAt ap.atName
      let (f', first) ← holding [ov] (getMethod ov "join" pl)
      callWith pos f' first (backTo pos (starEach [arg] env)) []) := by rfl) :
    wpAny (model prog w) A (eval (.Call (.Attribute o "join" ap) [arg] [] pos) env) Q E s := by
  refine MethodCall_ (wpAny_mono h ?_ ?_) hm
  · rintro ov s₁ ⟨x, t, rfl, h₁⟩
    with_reducible refine GM.join ?_
    refine callWith_method1 (wpAny_items_cons (wpAny_mono h₁ ?_ ?_) he) he
    · intro v s₂ h₂; exact wpAny_items_nil h₂
    · intro _ _ e; exact e
  · intro _ _ e; exact e
/-- TEXT.replace(a, b) -/
theorem m_replace {o e1 e2 : Expr} {ap pos : Pos} {pl : Sem Bool} {Q : Value → Shared → Prop}
    (h : wpAny (model prog w) A (eval o env) (fun ov s₁ => ∃ x t, ov = .str x t ∧ wpAny (model prog w) A (eval e1 env) (fun v s₂ => wpAny (model prog w) A (eval e2 env) (fun u s₃ => wpAny (model prog w) A (call (.builtin "str.replace") [.str x t, v, u]) Q E s₃) E s₂) E s₁) E s)
    (he : starEach [e1, e2] env = (false, eval e1 env) :: starEach [e2] env := by rfl) (he2 : starEach [e2] env = (false, eval e2 env) :: starEach [] env := by rfl)
    (hm : eval (.Call (.Attribute o "replace" ap) [e1, e2] [] pos) env = (do
      let ov ← eval o env
      standAt ap.atName
      let (f', first) ← holding [ov] (getMethod ov "replace" pl)
      callWith pos f' first (backTo pos (starEach [e1, e2] env)) []) := by rfl) (hp : (backTo pos (starEach [e2] env)).any (·.1) = false := by rfl) :
    wpAny (model prog w) A (eval (.Call (.Attribute o "replace" ap) [e1, e2] [] pos) env) Q E s := by
  refine MethodCall_ (wpAny_mono h ?_ ?_) hm
  · rintro ov s₁ ⟨x, t, rfl, h₁⟩
    with_reducible refine GM.replace ?_
    refine callWith_method1 (wpAny_items_cons (wpAny_mono h₁ ?_ ?_) he) he hp
    · intro v s₂ h₂
      refine wpAny_items_cons (wpAny_mono h₂ ?_ ?_) he2
      · intro u s₃ h₃; exact wpAny_items_nil h₃
      · intro _ _ e; exact e
    · intro _ _ e; exact e
  · intro _ _ e; exact e
/-- TEXT.strip() -/
theorem m_strip {o : Expr} {ap pos : Pos} {pl : Sem Bool} {Q : Value → Shared → Prop}
    (h : wpAny (model prog w) A (eval o env) (fun ov s₁ => ∃ x t, ov = .str x t ∧ wpAny (model prog w) A (call (.builtin "str.strip") [.str x t]) Q E s₁) E s)
    (hm : eval (.Call (.Attribute o "strip" ap) [] [] pos) env = (do
      let ov ← eval o env
      standAt ap.atName
      let (f', first) ← holding [ov] (getMethod ov "strip" pl)
      callWith pos f' first (backTo pos (starEach [] env)) []) := by rfl) :
    wpAny (model prog w) A (eval (.Call (.Attribute o "strip" ap) [] [] pos) env) Q E s := by
  refine MethodCall_ (wpAny_mono h ?_ ?_) hm
  · rintro ov s₁ ⟨x, t, rfl, h₁⟩
    with_reducible refine GM.strip ?_
    exact callWith_method0 h₁
  · intro _ _ e; exact e
theorem m_lower {o : Expr} {ap pos : Pos} {pl : Sem Bool} {Q : Value → Shared → Prop}
    (h : wpAny (model prog w) A (eval o env) (fun ov s₁ => ∃ x t, ov = .str x t ∧ wpAny (model prog w) A (call (.builtin "str.lower") [.str x t]) Q E s₁) E s)
    (hm : eval (.Call (.Attribute o "lower" ap) [] [] pos) env = (do
      let ov ← eval o env
      standAt ap.atName
      let (f', first) ← holding [ov] (getMethod ov "lower" pl)
      callWith pos f' first (backTo pos (starEach [] env)) []) := by rfl) :
    wpAny (model prog w) A (eval (.Call (.Attribute o "lower" ap) [] [] pos) env) Q E s := by
  refine MethodCall_ (wpAny_mono h ?_ ?_) hm
  · rintro ov s₁ ⟨x, t, rfl, h₁⟩
    with_reducible refine GM.lower ?_
    exact callWith_method0 h₁
  · intro _ _ e; exact e
end
end Mine
end

section
open PySem PySem.W PySem.Calls PyProof.Rows
set_option maxRecDepth 100000
namespace Mine
section
variable {w : World} {P : Addr} {fa : Str → Addr} {b1a b3a : Addr} {mg mb : Str → Option Value}
variable {A : Around} {E : Value → Shared → Prop} {s₀ s : Shared} {name : Str} {scope : Scope} {L f : Addr} {cd : Value} {l : List (Str × Value)} {N : List (Addr × Obj)} {env : Env}

theorem boot_ord' : bootBuiltins "ord" = some (.builtin "ord") := by decide +kernel
theorem boot_chr' : bootBuiltins "chr" = some (.builtin "chr") := by decide +kernel
theorem boot_len' : bootBuiltins "len" = some (.builtin "len") := by decide +kernel

/-- ord(x) of a local that holds one sign -/
theorem r_ord {x : Str} {c : Nat} {t : Tok} {p p' pos : Pos} {Q : Value → Shared → Prop} (T : TopF w P fa b1a b3a mg mb s₀.heap) (a : At s₀ L l N s) (h : ∀ t' s', Keeps s s' → Q (.int (c : Int) t') s')
    (hv : l.lookup x = some (.str ⟨#[c]⟩ t) := by with_unfolding_all rfl)
    (hk : scope.kind = .function := by rfl) (hx : (envOf name scope L f cd).kindOf x = some .local := by rfl) (hd : (x == ("__debug__" : Str)) = false := by decide)
    (hl : (envOf name scope L f cd).kindOf "ord" = some .globalImplicit := by rfl) :
    wpAny (model prog w) A (eval (.Call (.Name "ord" p) [.Name x p'] [] pos) (envOf name scope L f cd)) Q E s := by
  refine r_callb T a (x := "ord") (by decide) boot_ord' ?_ hk hl
  refine wpAny_items_cons (r_name a (wpAny_items_nil (PySem.P.ord_of_char ?_)) hv hk hx hd)
  exact h _ _ (kpTok _ _)
end
section
variable {w : World} {A : Around} {E : Value → Shared → Prop} {s : Shared} {env : Env}
/-- d.get(arg), d a dict keyed by ints -/
theorem m_dget {o arg : Expr} {ap pos : Pos} {pl : Sem Bool} {Q : Value → Shared → Prop}
    (h : wpAny (model prog w) A (eval o env) (fun ov s₁ => ∃ d g, ov = .ref d ∧ s₁.heap.MapOf (intKind prog w) d g ∧ (d == sysModules) = false ∧
      wpAny (model prog w) A (eval arg env) (fun v s₂ => ∃ k t g, v = .int k t ∧ s₂.heap.MapOf (intKind prog w) d g ∧ ∀ s₃, Keeps s₂ s₃ → Q ((g k).getD .none) s₃) E s₁) E s)
    (he : starEach [arg] env = (false, eval arg env) :: starEach [] env := by rfl)
    (hm : eval (.Call (.Attribute o "get" ap) [arg] [] pos) env = (do
      let ov ← eval o env
      standAt ap.atName
      let (f', first) ← holding [ov] (getMethod ov "get" pl)
      callWith pos f' first (backTo pos (starEach [arg] env)) []) := by rfl) :
    wpAny (model prog w) A (eval (.Call (.Attribute o "get" ap) [arg] [] pos) env) Q E s := by
  refine MethodCall_ (wpAny_mono h ?_ ?_) hm
  · rintro ov s₁ ⟨d, g, rfl, hM, hd, h₁⟩
    with_reducible refine getMethod_builtin hM.typeIs PySem.F.plainAttrs_dict PySem.F.slot_dict_get PySem.F.type_dict_get hM.noDict ?_
    refine callWith_method1 (wpAny_items_cons (wpAny_mono h₁ ?_ ?_) he) he
    · rintro v s₂ ⟨k, t, g, rfl, hM, h₂⟩
      refine wpAny_items_nil ?_
      exact call_meetsIn PySem.F.slot_dict_get hM.typeIs PySem.F.entry_dict_get (PySem.F.args_dict_get_2 _ _) (meets_dict_get (intKind prog w) d (intKind_is prog w _ _) hd) ⟨_, hM, h₂ _ (kpTok _ _)⟩
    · intro _ _ e; exact e
  · intro _ _ e; exact e
end
section
variable {w : World} {P : Addr} {fa : Str → Addr} {b1a b3a : Addr} {mg mb : Str → Option Value} {A : Around} {E : Value → Shared → Prop} {s : Shared}
theorem inb1_spec {c : Nat} {t : Tok} {Q : Value → Shared → Prop} (T : TopF w P fa b1a b3a mg mb s.heap) (hroom : A.depth < 1000)
    (h : ∀ s', Keeps s s' → Q (.bool (b1L.contains (c : Int))) s') : wpAny (model prog w) A (call (.ref (fa "in_table_b1")) [.str ⟨#[c]⟩ t]) Q E s := by
  refine r_enter T (by rfl) hroom (binds := [("code", .str ⟨#[c]⟩ t)]) (fun _ _ _ => rfl) (locs rfl) (fun cd s' a => ?_)
  refine wpAny_execs_cons (wpAny_Return_some (wpAny_Compare1 ?_))
  refine r_ord T a fun t₁ s₁ k => ?_
  replace a := a.go k
  refine r_glob T a T.b1n.1 ?_
  obtain ⟨n, hS⟩ := (T.keeps a.keep).b1
  refine wpAny_inSet_of (intKind_is prog w _ _) rfl hS ?_
  exact h _ (a.tok _).keeps

def mapC (c : Nat) : List Nat := match b3F (c : Int) with | some x => tl x | none => tl (Txt.lower ⟨#[c]⟩)

theorem mapb3_spec {c : Nat} {t : Tok} {Q : Value → Shared → Prop} (T : TopF w P fa b1a b3a mg mb s.heap) (hroom : A.depth < 1000) (hlow : (mapC c).length ≤ 3)
    (h : ∀ t' s', Keeps s s' → Q (.str (ms (mapC c)) t') s') : wpAny (model prog w) A (call (.ref (fa "map_table_b3")) [.str ⟨#[c]⟩ t]) Q E s := by
  refine r_enter T (by rfl) hroom (binds := [("code", .str ⟨#[c]⟩ t)]) (fun _ _ _ => rfl) (locs rfl) (fun cd s' a => ?_)
  refine wpAny_execs_cons (wpAny_Assign_Name (m_dget ?_))
  refine r_glob T a T.b3n.1 ?_
  obtain ⟨g, hM, hg⟩ := (T.keeps a.keep).b3
  refine ⟨_, g, rfl, hM, T.b3n.2.2, ?_⟩
  refine r_ord T a fun t₁ s₁ k => ?_
  replace a := a.go k
  obtain ⟨g, hM, hg⟩ := (T.keeps a.keep).b3
  refine ⟨_, _, g, rfl, hM, fun s₃ k => ?_⟩
  replace a := a.go k
  have hgc := hg (c : Int)
  unfold mapC at h hlow
  refine r_store a fun s₂ a => ?_
  refine wpAny_execs_cons (wpAny_If (wpAny_isTrue_Compare1 ?_))
  refine r_name a (wpAny_Constant_none (isNot_none (wpAny_truthy_bool ?_)))
  cases hb : b3F (c : Int) with
  | some x =>
    rw [hb] at hgc h
    obtain ⟨u, hu⟩ := hgc
    rw [hu]
    simp only [Option.getD_some, show (!(Value.str x u == Value.none)) = true from rfl, if_true]
    refine wpAny_execs_cons (wpAny_Return_some (r_name a ?_ (by with_unfolding_all rw [hu]; rfl)))
    rw [ms_tl] at h
    exact h _ _ a.keeps
  | none =>
    rw [hb] at hgc h hlow
    replace hgc : g (c : Int) = none := hgc
    rw [hgc]
    simp only [Option.getD_none, show (!(Value.none == Value.none)) = false from rfl, Bool.false_eq_true, if_false]
    refine wpAny_execs_nil (wpAny_execs_cons (wpAny_Return_some (m_lower (r_name a ⟨_, _, rfl, ?_⟩))))
    refine SC.lower ?_ ?_
    · have e := tl_length (Txt.lower ⟨#[c]⟩)
      have h3 : (Txt.lower ⟨#[c]⟩).length ≤ 3 := by rw [← e]; exact hlow
      have h4 : sizeLine = 16777216 := rfl
      unfold PySem.Builtin.Str.tooLong
      simp only [decide_eq_false_iff_not]; omega
    · rw [ms_tl] at h
      exact h _ _ (a.tok _).keeps

def prepT (l : List Nat) : List Nat := (l.filter fun (c : Nat) => !(b1L.contains (c : Int))).flatMap mapC

theorem prep_len {l : List Nat} (h : ∀ c ∈ l, (mapC c).length ≤ 3) : (prepT l).length ≤ 3 * l.length := by
  unfold prepT
  rw [List.length_flatMap]
  induction l with
  | nil => simp
  | cons c r ih =>
    have h1 := h c (List.mem_cons_self ..)
    have h2 := ih fun c hc => h c (List.mem_cons_of_mem _ hc)
    rw [List.filter_cons]
    split
    · rw [List.map_cons, List.sum_cons, List.length_cons]; omega
    · rw [List.length_cons]; omega

theorem prepared_spec {x : Str} {t : Tok} {Q : Value → Shared → Prop} (T : TopF w P fa b1a b3a mg mb s.heap) (hh : A.handled = none) (hroom : A.depth < 900) (hx : x.length ≤ 1000000) (hlow : ∀ c ∈ tl x, (mapC c).length ≤ 3)
    (h : ∀ t' s', Keeps s s' → Q (.str (ms (prepT (tl x))) t') s') : wpAny (model prog w) A (call (.ref (fa "_law_prepared")) [.str x t]) Q E s := by
  have hsl : sizeLine = 16777216 := rfl
  refine r_enter T (by rfl) (by omega) (binds := [("text", .str x t)]) (fun _ _ _ => rfl) (locs rfl) (fun cd s' a => ?_)
  refine wpAny_execs_cons (wpAny_Return_some (m_join (r_str a fun t₁ s₁ a => ⟨_, _, rfl, ?_⟩)))
  refine r_compS (fun c => !(b1L.contains (c : Int))) mapC hh (r_name a ⟨x, t, rfl, by omega, ?_, ?_, ?_⟩)
  · intro C c u s₃ m₃ E' hc hn hm hk
    have T₃ := (T.keeps a.keep).keeps hk
    refine wpAny_tests_one (wpAny_isTrue_Not (wpAny_isTrue_value ?_))
    refine c_call1 (m := m₃) T₃ (by rfl) hn hm ?_
    refine inb1_spec T₃ (by show A.depth + 1 < 1000; omega) fun s₄ k => ?_
    exact wpAny_truthy_bool ⟨rfl, k⟩
  · intro C c u s₃ m₃ E' hc hp hn hm hk
    have T₃ := (T.keeps a.keep).keeps hk
    refine c_call1 (m := m₃) T₃ (by rfl) hn hm ?_
    refine mapb3_spec T₃ (by show A.depth + 1 < 1000; omega) (hlow c hc) fun t₄ s₄ k => ?_
    exact ⟨⟨_, rfl⟩, k⟩
  · intro D s₂ l k hD hl hlm
    have hlen : ((l.map (·.1)).map (·.length)).sum ≤ 3 * x.length := by
      rw [hlm, List.map_map]
      have e : (((tl x).filter fun (c : Nat) => !(b1L.contains (c : Int))).map ((·.length) ∘ fun c => ms (mapC c))).sum = (prepT (tl x)).length := by
        unfold prepT
        rw [List.length_flatMap]
        congr 1
      rw [e]
      have := prep_len hlow
      rw [tl_length] at this; exact this
    refine SC.join hl rfl (joinOk_of (by rw [show (PySem.Str.ofString "").length = 0 by decide +kernel]; omega)) fun t' k' => ?_
    have e : Txt.join "" (l.map (·.1)) = ms (prepT (tl x)) := by
      apply tl_inj
      rw [tl_join, show tl "" = [] by decide +kernel, intercalate_nil, hlm, List.map_map, tl_ms]
      unfold prepT
      rw [List.flatMap_def]; rfl
    rw [e]
    exact h _ _ ((a.go k).tok k').keeps
end
end Mine
end

section
open PySem PySem.W PySem.Calls PyProof.Rows
set_option maxRecDepth 100000
namespace Mine
section
variable {s₀ s s' : Shared} {L : Addr} {l l' : List (Str × Value)} {N N' : List (Addr × Obj)}
theorem At.less (a : At s₀ L l N s) (h : ∀ p ∈ N', p ∈ N) : At s₀ L l N' s := ⟨a.fr, fun p hp => a.news p (h p hp), a.same⟩
/-- a new object -/
theorem At.push (a : At s₀ L l N s) (o : Obj) (hf : o.isFreed = false := by rfl) : At s₀ L l ((s.heap.objs.size, o) :: N) { s with heap := s.heap.push o } := by
  obtain ⟨m, F, hm⟩ := a.fr
  obtain ⟨h, tk, e⟩ := a.same
  exact ⟨⟨m, F.push o, hm⟩, News.push F a.news o hf, ⟨_, s.toks, by rw [e]⟩⟩
/-- one of the new objects turns -/
theorem At.touch {b : Addr} {o o' : Obj} {h' : Heap} {tk : Nat} (a : At s₀ L l ((b, o) :: N) s) (hs : Heap.SameBut b s.heap h') (ho : h'.get? b = some o') (hb : ∀ p ∈ N, p.1 ≠ b) :
    At s₀ L l ((b, o') :: N) { s with heap := h', toks := tk } := by
  obtain ⟨m, F, hm⟩ := a.fr
  obtain ⟨h, tk', e⟩ := a.same
  have hn := a.news (b, o) (List.mem_cons_self ..)
  have hold : ∀ c o₁, c ≠ b → s.heap.get? c = some o₁ → h'.get? c = some o₁ := fun c o₁ hc e => (hs.2 c hc).trans e
  refine ⟨⟨m, ⟨F.ns.extBut hold (Ne.symm hn.2.1), fun c o₁ e => ?_, F.above⟩, hm⟩, fun p hp => ?_, ⟨h', tk, by rw [e]⟩⟩
  · refine hold c o₁ (fun q => ?_) (F.keep c o₁ e)
    have := hn.2.2
    rw [← q, e] at this; cases this
  · rcases List.mem_cons.mp hp with rfl | hp
    · exact ⟨ho, hn.2⟩
    · have q := a.news p (List.mem_cons_of_mem _ hp)
      exact ⟨hold _ _ (hb p hp) q.1, q.2⟩
/-- one of the new objects turns and is let go -/
theorem At.drop {b : Addr} {o : Obj} {h' : Heap} {tk : Nat} (a : At s₀ L l ((b, o) :: N) s) (hs : Heap.ExtBut b s.heap h') (hb : ∀ p ∈ N, p.1 ≠ b) : At s₀ L l N { s with heap := h', toks := tk } := by
  obtain ⟨m, F, hm⟩ := a.fr
  obtain ⟨h, tk', e⟩ := a.same
  have hn := a.news (b, o) (List.mem_cons_self ..)
  refine ⟨⟨m, ⟨F.ns.extBut hs (Ne.symm hn.2.1), fun c o₁ e => ?_, F.above⟩, hm⟩, fun p hp => ?_, ⟨h', tk, by rw [e]⟩⟩
  · refine hs c o₁ (fun q => ?_) (F.keep c o₁ e)
    have := hn.2.2
    rw [← q, e] at this; cases this
  · have q := a.news p (List.mem_cons_of_mem _ hp)
    exact ⟨hs _ _ (hb p hp) q.1, q.2⟩
/-- two new objects of unlike classes lie apart -/
theorem At.apart {b c : Addr} {o o' : Obj} (a : At s₀ L l N s) (h : (b, o) ∈ N) (h' : (c, o') ∈ N) (hc : o.cls ≠ o'.cls) : b ≠ c := fun e => by
  subst e
  have h1 := a.obj h
  rw [a.obj h'] at h1
  cases h1; exact hc rfl
end

def strIt (ty : String) : Prop := ty = "str_ascii_iterator" ∨ ty = "str_iterator"
def strItObj (ty : String) (x : Str) (t : Tok) (i : Nat) : Obj := { cls := .type ty, data := .fields #[.str x t, .int i 0] }
section
variable {w : World} {A : Around} {E : Value → Shared → Prop} {s₀ s : Shared} {L : Addr} {l : List (Str × Value)} {N : List (Addr × Obj)} {env : Env}

theorem iter_str {x : Str} {t : Tok} {Q : Value → Shared → Prop} (h : ∀ ty, strIt ty → Q (.ref s.heap.objs.size) { s with heap := s.heap.push (strItObj ty x t 0) }) : wpAny (model prog w) A (pyIter (.str x t)) Q E s := by
  cases ha : x.cps.all (· < 128)
  · exact wpAny_pyIter_wide ha (h _ (.inr rfl))
  · exact wpAny_pyIter_ascii ha (h _ (.inl rfl))
theorem next_str {it : Addr} {ty : String} {x : Str} {t : Tok} {i c : Nat} {Q : Option Value → Shared → Prop} (hty : strIt ty) (hit : s.heap.IsStrIter it ty x t i) (hx : x.cps[i]? = some c)
    (h : ∀ h', h'.IsStrIter it ty x t (i + 1) → Heap.SameBut it s.heap h' → Q (some (.str ⟨#[c]⟩ s.toks)) { s with heap := h', toks := s.toks + 1 }) : wpAny (model prog w) A (pyNext (.ref it)) Q E s := by
  rcases hty with rfl | rfl
  · exact wpAny_pyNext_ascii_item hit hx h
  · exact wpAny_pyNext_wide_item hit hx h
theorem end_str {it : Addr} {ty : String} {x : Str} {t : Tok} {i : Nat} {Q : Option Value → Shared → Prop} (hty : strIt ty) (hh : A.handled = none) (hit : s.heap.IsStrIter it ty x t i) (hx : x.cps[i]? = none)
    (h : ∀ h', Heap.ExtBut it s.heap h' → Q none { s with heap := h' }) : wpAny (model prog w) A (pyNext (.ref it)) Q E s := by
  rcases hty with rfl | rfl
  · exact wpAny_pyNext_ascii_end hh hit hx h
  · exact wpAny_pyNext_wide_end hh hit hx h

/-- for v in TEXT: the names and new objects after each turn as J says; the iterator is one more new object -/
theorem r_forS {name : Str} {scope : Scope} {f : Addr} {cd : Value} {v : Str} {px pos : Pos} {iter : Expr} {body : List Stmt} {Q : Flow → Shared → Prop} (hh : A.handled = none)
    (J : List Nat → List (Str × Value) → List (Addr × Obj) → Prop) {y : Str}
    (h : ∀ Q' : Value → Shared → Prop, (∀ t s', At s₀ L l N s' → Q' (.str y t) s') → wpAny (model prog w) A (eval iter (envOf name scope L f cd)) Q' E s)
    (h0 : J [] l N) (hJN : ∀ pre l N, J pre l N → ∀ p ∈ N, ∀ ty, strIt ty → p.2.cls ≠ .type ty)
    (step : ∀ pre c rest l₁ N₁ u s₁ it o E', tl y = pre ++ c :: rest → J pre l₁ N₁ → (∀ p ∈ N₁, p.1 ≠ it) → At s₀ L ((v, .str ⟨#[c]⟩ u) :: l₁) ((it, o) :: N₁) s₁ →
      wpAny (model prog w) A (execs body (envOf name scope L f cd)) (fun f s₂ => (f = .next ∨ f = .cont) ∧ ∃ l₂ N₂, J (pre ++ [c]) l₂ N₂ ∧ At s₀ L l₂ ((it, o) :: N₂) s₂) E' s₁)
    (done : ∀ l' N' s', J (tl y) l' N' → At s₀ L l' N' s' → Q .next s')
    (hk : scope.kind = .function := by rfl) (hl : (envOf name scope L f cd).kindOf v = some .local := by rfl)
    (hs : ∀ y, foldedSetIterable iter (envOf name scope L f cd) y = pure y := by intro _; rfl)
    (ho : ∀ it u, letOwnedTupleGo (.Name v px) it u = pure () := by intro _ _; rfl) :
    wpAny (model prog w) A (exec (.For (.Name v px) iter body [] pos) (envOf name scope L f cd)) Q E s := by
  refine wpAny_For (h _ fun t s₁ a => iter_str fun ty hty => ?_) hs
  have a := a.push (strItObj ty y t 0)
  refine codeAny_forLoop_any (fun n s' => ∃ pre rest l' N' o, n = rest.length + 1 ∧ tl y = pre ++ rest ∧ J pre l' N' ∧ At s₀ L l' ((s₁.heap.objs.size, o) :: N') s' ∧ s'.heap.IsStrIter s₁.heap.objs.size ty y t pre.length ∧ o.cls = .type ty) ?_ ((tl y).length + 1)
    ⟨[], tl y, l, N, _, rfl, rfl, h0, a, ⟨_, a.obj (List.mem_cons_self ..), rfl, rfl⟩, rfl⟩
  rintro n s' ⟨pre, rest, l', N', o, rfl, hy, hJ, a, hit, hoc⟩
  have hap : ∀ p ∈ N', p.1 ≠ s₁.heap.objs.size := fun p hp => a.apart (b := p.1) (o := p.2) (List.mem_cons_of_mem _ hp) (List.mem_cons_self ..) (by rw [hoc]; exact hJN pre l' N' hJ p hp ty hty)
  cases rest with
  | nil =>
    have hx : y.cps[pre.length]? = none := by
      have : y.cps.toList = pre := by simpa [tl] using hy
      rw [← Array.getElem?_toList, this]; simp
    refine end_str hty hh hit hx fun h' hs' => ?_
    simp only [List.append_nil] at hy
    exact wpAny_execs_nil (done l' N' _ (hy ▸ hJ) (a.drop (tk := s'.toks) hs' hap))
  | cons c r =>
    have hx : y.cps[pre.length]? = some c := by
      have : y.cps.toList = pre ++ c :: r := hy
      rw [← Array.getElem?_toList, this]; simp
    refine next_str hty hit hx fun h' hit' hs' => ?_
    obtain ⟨o', ho', hc', hd'⟩ := id hit'
    have a := a.touch (tk := s'.toks + 1) hs' ho' hap
    refine wpAny_of_eq (ho _ _) (wpAny_assign_Name (r_store a (fun s₂ a => ?_) hk hl))
    refine wpAny_mono (step pre c r l' N' _ s₂ _ o' _ hy hJ hap a) (fun f s₃ q => ?_) fun _ _ e => e
    obtain ⟨hf, l₂, N₂, hJ₂, a₂⟩ := q
    have fin : ∃ m, m < (c :: r).length + 1 ∧ ∃ pre rest l' N' o, m = rest.length + 1 ∧ tl y = pre ++ rest ∧ J pre l' N' ∧ At s₀ L l' ((s₁.heap.objs.size, o) :: N') s₃ ∧ s₃.heap.IsStrIter s₁.heap.objs.size ty y t pre.length ∧ o.cls = .type ty :=
      ⟨r.length + 1, by simp, pre ++ [c], r, l₂, N₂, o', rfl, by rw [hy]; simp, hJ₂, a₂, ⟨o', a₂.obj (List.mem_cons_self ..), hc', by rw [hd']; simp⟩, hc'⟩
    rcases hf with rfl | rfl <;> exact fin
end
end Mine
end

section
open PySem PySem.W PySem.Calls PyProof.Rows
set_option maxRecDepth 100000
set_option maxHeartbeats 4000000
namespace Mine
abbrev look (l : List (Str × Value)) (x : Str) (v : Value) : Prop := l.lookup x = some v
theorem look_head {l : List (Str × Value)} {x : Str} {v : Value} : look ((x, v) :: l) x v := by
  show List.lookup x ((x, v) :: l) = _
  rw [List.lookup_cons, beq_self_eq_true]
theorem look_tail {l : List (Str × Value)} {x y : Str} {u v : Value} (hn : (y == x) = false) (h : look l y v) : look ((x, u) :: l) y v := by
  show List.lookup y ((x, u) :: l) = _
  rw [List.lookup_cons, hn]; exact h
theorem le_sum_of_mem : ∀ {l : List Nat} {n : Nat}, n ∈ l → n ≤ l.sum
  | a :: r, n, h => by
    rw [List.sum_cons]
    rcases List.mem_cons.mp h with rfl | h
    · omega
    · have := le_sum_of_mem h; omega
def lobj (its : List Value) (n : Nat) : Obj := { cls := .type "list", data := .seq its.toArray n }
section
variable {w : World} {A : Around} {E : Value → Shared → Prop} {s₀ s : Shared} {L : Addr} {l : List (Str × Value)} {N : List (Addr × Obj)} {name : Str} {scope : Scope} {f : Addr} {cd : Value}

/-- x.append(e) -/
theorem r_append {x : Str} {e : Expr} {p1 p2 p3 pos : Pos} {pl : Sem Bool} {D : Addr} {its : List Value} {n : Nat} {Q : Flow → Shared → Prop} (a : At s₀ L l ((D, lobj its n) :: N) s) (hx : l.lookup x = some (.ref D))
    (hD : ∀ p ∈ N, p.1 ≠ D) (hsz : its.length ≤ sizeLine)
    (h : wpAny (model prog w) A (eval e (envOf name scope L f cd)) (fun v s₁ => At s₀ L l ((D, lobj its n) :: N) s₁ ∧ ∀ s', At s₀ L l ((D, lobj (its ++ [v]) (n + 1)) :: N) s' → Q .next s') E s)
    (hk : scope.kind = .function := by rfl) (hl : (envOf name scope L f cd).kindOf x = some .local := by rfl) (hd : (x == ("__debug__" : Str)) = false := by decide)
    (hi : interactive (envOf name scope L f cd) = false := by rfl)
    (hs : swapsWith (.Call (.Attribute (.Name x p1) "append" p2) [e] [] p3) none pos.line (envOf name scope L f cd) = pure false := by rfl)
    (he : starEach [e] (envOf name scope L f cd) = (false, eval e (envOf name scope L f cd)) :: starEach [] (envOf name scope L f cd) := by rfl)
    (hm : eval (.Call (.Attribute (.Name x p1) "append" p2) [e] [] p3) (envOf name scope L f cd) = (do
      let ov ← eval (.Name x p1) (envOf name scope L f cd)
      standAt p2.atName
      let (f', first) ← holding [ov] (getMethod ov "append" pl)
      callWith p3 f' first (backTo p3 (starEach [e] (envOf name scope L f cd))) []) := by rfl) :
    wpAny (model prog w) A (exec (.Expr (.Call (.Attribute (.Name x p1) "append" p2) [e] [] p3) pos) (envOf name scope L f cd)) Q E s := by
  refine wpAny_Expr (MethodCall_ (r_name a ?_ hx hk hl hd) hm) hi hs
  have ho := a.obj (b := D) (List.mem_cons_self ..)
  refine getMethod_list_append ho rfl rfl (callWith_method1 (wpAny_items_cons (wpAny_mono h (fun v s₁ q => wpAny_items_nil ?_) fun _ _ e => e) he) he)
  obtain ⟨a, hQ⟩ := q
  have ho := a.obj (b := D) (List.mem_cons_self ..)
  refine append_at ho (fun h' hs' ho' => ?_) (by simpa using hsz)
  exact hQ _ (a.touch (o' := lobj (its ++ [v]) (n + 1)) (tk := s₁.toks) hs' (by rw [ho']; simp [lobj]) hD)

/-- x = [] -/
theorem r_newlist {env : Env} {pos : Pos} {Q : Value → Shared → Prop} (a : At s₀ L l N s) (h : ∀ D s', (∀ p ∈ N, p.1 ≠ D) → At s₀ L l ((D, lobj [] 0) :: N) s' → Q (.ref D) s') :
    wpAny (model prog w) A (eval (.List [] pos) env) Q E s := by
  refine wpAny_List (wpAny_items_nil ⟨Nat.zero_le _, h _ _ (fun p hp e => ?_) (a.push (lobj [] 0))⟩)
  have := Heap.lt_size (a.news p hp).1
  rw [e] at this
  exact Nat.lt_irrefl _ this
end

def seven : List Nat := [47, 92, 58, 59, 34, 40, 41]
def signC (c : Nat) : Nat := if c = 32 then 95 else if c ∈ seven then 45 else c
def signsT (ts : List (List Nat)) : List Nat := (List.intercalate [45] ((ts.filter fun t => decide (t ≠ [])).map trimT)).map signC

theorem trim_le (l : List Nat) : (trimT l).length ≤ l.length := by
  unfold trimT rstripT lstripT
  rw [List.length_reverse]
  refine Nat.le_trans (List.dropWhile_suffix _).length_le ?_
  rw [List.length_reverse]
  exact (List.dropWhile_suffix _).length_le
theorem inter_len (ts : List (List Nat)) : (List.intercalate [45] ts).length ≤ (ts.map List.length).sum + ts.length := by
  match ts with
  | [] => simp [List.intercalate]
  | [x] => simp [List.intercalate]
  | x :: y :: r =>
    have ih := inter_len (y :: r)
    simp [List.intercalate] at ih ⊢
    omega

section
variable {w : World} {P : Addr} {fa : Str → Addr} {b1a b3a : Addr} {mg mb : Str → Option Value} {A : Around} {E : Value → Shared → Prop} {s : Shared}

/-- the sum of the lengths -/
def tot (ts : List Str) : Nat := (ts.map (·.length)).sum + ts.length
theorem tot_filter {p : Str → Bool} {F : Str → Str} (hF : ∀ y, (F y).length ≤ y.length) : ∀ ts : List Str, tot ((ts.filter p).map F) ≤ tot ts
  | [] => Nat.le_refl _
  | y :: r => by
    have ih := tot_filter (p := p) hF r
    have hy := hF y
    unfold tot at ih ⊢
    rw [List.filter_cons]
    split
    · simp only [List.map_cons, List.sum_cons, List.length_cons]; omega
    · simp only [List.map_cons, List.sum_cons, List.length_cons]; omega
theorem trimS_le (y : Str) : (ms (trimT (tl y))).length ≤ y.length := by
  rw [← tl_length, ← tl_length, tl_ms]; exact trim_le _
theorem join_len (ts : List Str) : (Txt.join "-" ts).length ≤ tot ts := by
  rw [← tl_length, tl_join, show tl "-" = [45] by decide +kernel]
  have := inter_len (ts.map tl)
  unfold tot
  simp only [List.length_map, List.map_map] at this
  have e : (ts.map (List.length ∘ tl)).sum = (ts.map (·.length)).sum := rfl
  rw [e] at this; exact this
theorem one_sum {l : List Nat} {g : Nat → Nat} : ((l.map fun c => ms [g c]).map (·.length)).sum = l.length := by
  induction l with
  | nil => rfl
  | cons c r ih => rw [List.map_cons, List.map_cons, List.sum_cons, ih, List.length_cons]; show 1 + r.length = _; omega
theorem flat_one {l : List Nat} {g : Nat → Nat} : ((l.map fun c => ms [g c]).map tl).flatten = l.map g := by
  induction l with
  | nil => rfl
  | cons c r ih => rw [List.map_cons, List.map_cons, List.flatten_cons, ih]; rfl

theorem signs_spec {D : Addr} {ts : List (Str × Tok)} {Q : Value → Shared → Prop} (T : TopF w P fa b1a b3a mg mb s.heap) (hh : A.handled = none) (hroom : A.depth < 900) (hl : s.heap.IsList D (strValues ts).toArray) (htot : tot (ts.map (·.1)) ≤ 1000000)
    (h : ∀ t' s', Keeps s s' → Q (.str (ms (signsT (ts.map fun p => tl p.1))) t') s') : wpAny (model prog w) A (call (.ref (fa "_law_signs")) [.ref D]) Q E s := by
  have hsl : sizeLine = 16777216 := rfl
  refine r_enter T (by rfl) (by omega) (binds := [("row", .ref D)]) (fun _ _ _ => rfl) (locs rfl) (fun cd s' a => ?_)
  refine wpAny_execs_cons (wpAny_Assign_Name (r_newlist a fun S s₁ _ a => r_store a fun s₂ a => ?_))
  refine wpAny_execs_cons ?_
  have hJ0 : ∀ c, strIt c → (Value.type "list" : Value) ≠ .type c := by
    rintro c (rfl | rfl) e <;> exact absurd (Value.type.inj e) (by decide)
  replace a : At s s.heap.objs.size [("signs", .ref S), ("row", .ref D)] [(S, lobj [] 0)] s₂ := a
  refine r_forS (s₀ := s) (L := s.heap.objs.size) (l := [("signs", .ref S), ("row", .ref D)]) (N := [(S, lobj [] 0)]) hh (y := Txt.join "-" (((ts.map (·.1)).filter fun y => decide (tl y ≠ [])).map fun y => ms (trimT (tl y))))
    (J := fun pre l N => ∃ its n, N = [(S, lobj (strValues its) n)] ∧ look l "signs" (.ref S) ∧ its.map (·.1) = pre.map fun c => ms [signC c]) ?_ ⟨[], 0, rfl, rfl, rfl⟩ ?_ ?_ ?_
  · intro Q' hQ'
    refine m_join (r_str a fun t₁ s₁ a => ⟨_, _, rfl, ?_⟩)
    refine r_compL (fun y => decide (tl y ≠ [])) (fun y => ms (trimT (tl y))) hh (r_name a ⟨D, ts, rfl, ?_, ?_, ?_, ?_, ?_⟩)
    · exact hl.at fun o e => a.keep _ _ e
    · unfold tot at htot; rw [List.length_map] at htot; omega
    · intro C y u s₃ m₃ E' hy hn hm hk
      refine wpAny_tests_one (wpAny_isTrue_Compare1 (ldG hn hm (wpAny_Constant_str (ne_str (wpAny_truthy_bool ⟨?_, kpTok _ _⟩)))))
      rw [bne, beq_tl, show tl "" = [] by decide +kernel]; simp
    · intro C y u s₃ m₃ E' hy hp hn hm hk
      have T₃ := (T.keeps a.keep).keeps hk
      refine c_call1 (m := m₃) T₃ (by rfl) hn hm ?_
      refine trimmed_spec T₃ (by show A.depth + 1 < 1000; omega) ?_ fun t' s₄ k => ⟨⟨_, rfl⟩, k⟩
      have := le_sum_of_mem (l := ((ts.map (·.1)).map (·.length))) (n := y.length) (List.mem_map.mpr ⟨y, List.mem_map.mpr ⟨(y, u), hy, rfl⟩, rfl⟩)
      unfold tot at htot; omega
    · intro D' s₂ lj k _ hl' hlm
      refine SC.join hl' hlm (joinOk_of ?_) fun t' k' => hQ' _ _ ((a.go k).tok k')
      rw [show (PySem.Str.ofString "-").length = 1 by decide +kernel]
      have := tot_filter (p := fun y => decide (tl y ≠ [])) trimS_le (ts.map (·.1))
      unfold tot at this htot; omega
  · rintro pre l N ⟨its, n, rfl, _⟩ p hp ty hty
    simp at hp
    subst hp
    exact hJ0 ty hty
  · rintro pre c rest l₁ N₁ u s₁ it o E' hy ⟨its, n, rfl, hlk, hits⟩ hap a
    have hlk' : look (("sign", .str ⟨#[c]⟩ u) :: l₁) "signs" (.ref S) := look_tail (by decide +kernel) hlk
    have hSit : ∀ p ∈ [(it, o)], p.1 ≠ S := by
      intro p hp; simp at hp; subst hp; exact fun e => hap (S, lobj (strValues its) n) (by simp) e.symm
    have sw : ∀ {s₂ l₂ o₂}, At s s.heap.objs.size l₂ [(S, o₂), (it, o)] s₂ → At s s.heap.objs.size l₂ [(it, o), (S, o₂)] s₂ := fun a => a.less (by simp [or_comm])
    replace a : At s s.heap.objs.size (("sign", .str ⟨#[c]⟩ u) :: l₁) [(S, lobj (strValues its) n), (it, o)] s₁ := a.less (by simp [or_comm])
    have hsz : (strValues its).length ≤ sizeLine := by
      have := congrArg List.length hits
      simp at this
      have h1 : (tl (Txt.join "-" (((ts.map (·.1)).filter fun y => decide (tl y ≠ [])).map fun y => ms (trimT (tl y))))).length ≤ tot (ts.map (·.1)) := by
        rw [tl_length]
        exact Nat.le_trans (join_len _) (tot_filter trimS_le _)
      rw [hy, List.length_append, List.length_cons] at h1
      simp only [strValues, List.length_map, this]; omega
    have fin : ∀ d u' s₂, signC c = d → At s s.heap.objs.size (("sign", .str ⟨#[c]⟩ u) :: l₁) [(S, lobj (strValues its ++ [.str (ms [d]) u']) (n + 1)), (it, o)] s₂ →
        (Flow.next = .next ∨ Flow.next = .cont) ∧ ∃ l₂ N₂, (∃ its n, N₂ = [(S, lobj (strValues its) n)] ∧ look l₂ "signs" (.ref S) ∧ its.map (·.1) = (pre ++ [c]).map fun c => ms [signC c]) ∧ At s s.heap.objs.size l₂ ((it, o) :: N₂) s₂ := by
      intro d u' s₂ hd a
      exact ⟨.inl rfl, _, _, ⟨its ++ [(ms [d], u')], n + 1, rfl, hlk', by simp [hits, hd]⟩, sw (by simpa [strValues] using a)⟩
    refine wpAny_execs_cons (wpAny_If (wpAny_isTrue_Compare1 (r_name a (r_str a fun t₁ s₂ a => eq_str (wpAny_truthy_bool ?_)) look_head)))
    rw [beq_tl, show tl " " = [32] by decide +kernel, show tl ⟨#[c]⟩ = [c] from rfl]
    by_cases h32 : c = 32
    · rw [if_pos (by simp [h32])]
      refine wpAny_execs_cons (r_append a hlk' hSit hsz (r_str a fun t₂ s₃ a => ⟨a, fun s₄ a => wpAny_execs_nil (wpAny_execs_nil ?_)⟩))
      exact fin 95 _ _ (by simp [signC, h32]) a
    · rw [if_neg (by simp [h32])]
      refine wpAny_execs_cons (wpAny_If (wpAny_isTrue_Compare1 (r_name a (r_str a fun t₁ s₂ a => in_str (wpAny_truthy_bool ?_)) look_head)))
      rw [StrLaws.found_one, show ("/\\:;\"()" : Str).cps.toList = seven by decide +kernel]
      by_cases h7 : c ∈ seven
      · rw [if_pos (by simp [h7])]
        refine wpAny_execs_cons (r_append a hlk' hSit hsz (r_str a fun t₂ s₃ a => ⟨a, fun s₄ a => wpAny_execs_nil (wpAny_execs_nil (wpAny_execs_nil ?_))⟩))
        exact fin 45 _ _ (by simp [signC, h32, h7]) a
      · rw [if_neg (by simp [h7])]
        refine wpAny_execs_cons (r_append a hlk' hSit hsz (r_name a ⟨a, fun s₄ a => wpAny_execs_nil (wpAny_execs_nil (wpAny_execs_nil ?_))⟩ look_head))
        exact fin c _ _ (by simp [signC, h32, h7]) a
  · rintro l' N' s' ⟨its, n, rfl, hlk, hits⟩ a
    refine wpAny_execs_cons (wpAny_Return_some (m_join (r_str a fun t₁ s₁ a => ⟨_, _, rfl, r_name a ?_ hlk⟩)))
    refine SC.join ⟨_, a.obj (List.mem_cons_self ..), rfl, n, rfl⟩ rfl (joinOk_of ?_) fun t' k' => ?_
    · rw [show (PySem.Str.ofString "").length = 0 by decide +kernel, hits, one_sum, tl_length]
      have := Nat.le_trans (join_len _) (tot_filter (p := fun y => decide (tl y ≠ [])) trimS_le (ts.map (·.1)))
      omega
    · have e : Txt.join "" (its.map (·.1)) = ms (signsT (ts.map fun p => tl p.1)) := by
        apply tl_inj
        rw [tl_join, show tl "" = [] by decide +kernel, intercalate_nil, hits, tl_ms, flat_one, tl_join, show tl "-" = [45] by decide +kernel]
        unfold signsT
        congr 2
        rw [List.map_map, List.filter_map, List.filter_map, List.map_map, List.map_map]
        rfl
      rw [e]
      exact h _ _ (a.tok k').keeps
end
end Mine
end

section
open PySem PySem.W PySem.Calls PyProof.Rows
set_option maxRecDepth 100000
set_option maxHeartbeats 4000000
namespace Mine
def unk : List Nat := [117, 110, 107, 110, 111, 119, 110]
theorem tl_unk : tl "unknown" = unk := by decide +kernel
/-- a text without its «unknown»s, read from the left -/
def dels (l : List Nat) : List Nat :=
  if h : l.take 7 = unk then dels (l.drop 7) else match l with
    | [] => []
    | c :: r => c :: dels r
termination_by l.length
decreasing_by
  · rw [List.length_drop]
    have := congrArg List.length h
    rw [List.length_take] at this
    simp [unk] at this
    omega
  · simp
theorem dels_unk {l : List Nat} (h : l.take 7 = unk) : dels l = dels (l.drop 7) := by rw [dels, dif_pos h]
theorem dels_cons {c : Nat} {r : List Nat} (h : (c :: r).take 7 ≠ unk) : dels (c :: r) = c :: dels r := by rw [dels, dif_neg h]
theorem dels_nil : dels [] = [] := by rw [dels, dif_neg (by decide)]
/-- one more sign, but no hyphen behind a hyphen -/
def pushH (told : List Nat) (c : Nat) : List Nat := if c = 45 ∧ told.getLast? = some 45 then told else told ++ [c]
def chopH (told : List Nat) : List Nat := if told.getLast? = some 45 then told.dropLast else told
def labelT (l : List Nat) : List Nat := chopH ((dels l).foldl pushH [])

theorem signs_len (ts : List (Str × Tok)) : (signsT (ts.map fun p => tl p.1)).length ≤ tot (ts.map (·.1)) := by
  unfold signsT
  rw [List.length_map]
  have h1 := Nat.le_trans (join_len (((ts.map (·.1)).filter fun y => decide (tl y ≠ [])).map fun y => ms (trimT (tl y)))) (tot_filter trimS_le _)
  rw [← tl_length, tl_join, show tl "-" = [45] by decide +kernel] at h1
  refine Nat.le_trans (Nat.le_of_eq ?_) h1
  congr 2
  rw [List.map_map, List.filter_map, List.filter_map, List.map_map, List.map_map]
  rfl
theorem item_at {x : Str} {n c : Nat} (h : (tl x)[n]? = some c) : Txt.item x (n : Int) = ⟨#[c]⟩ := by
  have hn : n < x.length := by
    rw [← tl_length]; exact (List.getElem?_eq_some_iff.mp h).1
  have h' : x.cps[n]? = some c := by rw [← Array.getElem?_toList]; exact h
  unfold Txt.item
  have : PySem.Txt.charAt x (n : Int) = some c := by
    unfold PySem.Txt.charAt
    have e : PySem.seqIndex? (n : Int) x.length = some n := by
      unfold PySem.seqIndex?
      simp only [Option.ite_none_right_eq_some, Bool.and_eq_true, decide_eq_true_eq, Option.some.injEq]
      rw [if_neg (by omega)]
      omega
    rw [e]; exact h'
  rw [this]; rfl

section
variable {w : World} {P : Addr} {fa : Str → Addr} {b1a b3a : Addr} {mg mb : Str → Option Value}
variable {A : Around} {E : Value → Shared → Prop} {s₀ s : Shared} {name : Str} {scope : Scope} {L f : Addr} {cd : Value} {l : List (Str × Value)} {N : List (Addr × Obj)} {env : Env}

/-- x[i], x a text, i in it -/
theorem r_item {value slice : Expr} {pos : Pos} {Q : Value → Shared → Prop}
    (h : wpAny (model prog w) A (eval value env) (fun o s₁ => wpAny (model prog w) A (eval slice env) (fun i s₂ => ∃ x t n u c, o = .str x t ∧ i = .int (n : Nat) u ∧ (tl x)[n]? = some c ∧ x.length ≤ sizeLine ∧
      (∀ t' s', Keeps s₂ s' → Q (.str ⟨#[c]⟩ t') s') ∧ subscripted slice false (.str x t) (.int (n : Nat) u) = operate [.str x t, .int (n : Nat) u] (getItem (.str x t) (.int (n : Nat) u)) ∧ ∀ r, letTemporaryGo value (.str x t) r = pure ()) E s₁) E s) :
    wpAny (model prog w) A (eval (.Subscript value slice pos) env) Q E s := by
  refine Subscript_ (wpAny_mono h (fun o s₁ h₁ => wpAny_mono h₁ ?_ fun _ _ e => e) fun _ _ e => e)
  rintro i s₂ ⟨x, t, n, u, c, rfl, rfl, hc, hsz, hQ, hs, ht⟩
  have hn : n < x.length := by rw [← tl_length]; exact (List.getElem?_eq_some_iff.mp hc).1
  have hsl : sizeLine = 16777216 := rfl
  refine item_str (fitsSsize_of (N := 9223372036854775808) (by omega) (by omega) (by omega)) (by omega) (by omega) (fun _ => ?_) hs ht
  rw [item_at hc]
  exact hQ _ _ (kpTok _ _)

/-- len(x) of a local text -/
theorem r_len {x y : Str} {t : Tok} {p p' pos : Pos} {Q : Value → Shared → Prop} (T : TopF w P fa b1a b3a mg mb s₀.heap) (a : At s₀ L l N s) (h : ∀ t' s', Keeps s s' → Q (.int (y.length : Nat) t') s') (hsz : y.length ≤ sizeLine)
    (hv : l.lookup x = some (.str y t) := by with_unfolding_all rfl)
    (hk : scope.kind = .function := by rfl) (hx : (envOf name scope L f cd).kindOf x = some .local := by rfl) (hd : (x == ("__debug__" : Str)) = false := by decide)
    (hl : (envOf name scope L f cd).kindOf "len" = some .globalImplicit := by rfl) :
    wpAny (model prog w) A (eval (.Call (.Name "len" p) [.Name x p'] [] pos) (envOf name scope L f cd)) Q E s := by
  have hsl : sizeLine = 16777216 := rfl
  refine r_callb T a (x := "len") (by decide) (by decide +kernel : bootBuiltins "len" = some (.builtin "len")) ?_ hk hl
  refine wpAny_items_cons (r_name a (wpAny_items_nil (PySem.P.len_str (by omega) ?_)) hv hk hx hd)
  exact h _ _ (kpTok _ _)
end

section
variable {w : World} {P : Addr} {fa : Str → Addr} {b1a b3a : Addr} {mg mb : Str → Option Value} {A : Around} {E : Value → Shared → Prop} {s : Shared}
theorem label_spec {D : Addr} {ts : List (Str × Tok)} {Q : Value → Shared → Prop} (T : TopF w P fa b1a b3a mg mb s.heap) (hh : A.handled = none) (hroom : A.depth < 800) (hl : s.heap.IsList D (strValues ts).toArray) (htot : tot (ts.map (·.1)) ≤ 1000000)
    (h : ∀ t' s', Keeps s s' → Q (.str (ms (labelT (signsT (ts.map fun p => tl p.1)))) t') s') : wpAny (model prog w) A (call (.ref (fa "_law_label")) [.ref D]) Q E s := by
  have hsl : sizeLine = 16777216 := rfl
  refine r_enter T (by rfl) (by omega) (binds := [("row", .ref D)]) (fun _ _ _ => rfl) (locs rfl) (fun cd s' a => ?_)
  generalize hsg : signsT (ts.map fun p => tl p.1) = sg at h
  have hsgl : sg.length ≤ 1000000 := by
    rw [← hsg]
    exact Nat.le_trans (signs_len ts) htot
  refine wpAny_execs_cons (wpAny_Assign_Name (r_call T a (by rfl) (wpAny_items_cons (r_name a (wpAny_items_nil ⟨a, ?_⟩)))))
  refine signs_spec (T.keeps a.keep) hh (by show A.depth + 1 < 900; omega) (hl.at fun o e => a.keep _ _ e) htot fun t₁ s₁ k => r_store (a.go k) fun s₂ a => ?_
  rw [hsg] at a
  refine wpAny_execs_cons (wpAny_Assign_Name (r_str a fun t₂ s₃ a => r_store a fun s₄ a => ?_))
  refine wpAny_execs_cons (wpAny_Assign_Name (r_int a fun t₃ s₅ a => r_store a fun s₆ a => ?_))
  refine wpAny_execs_cons ?_
  refine r_while (fun n s' => ∃ told place tt tp, n = sg.length - place ∧ place ≤ sg.length ∧ told.length ≤ place ∧ At s s.heap.objs.size [("told", .str (ms told) tt), ("place", .int (place : Nat) tp), ("signs", .str (ms sg) t₁)] [] s' ∧
    (dels (sg.drop place)).foldl pushH told = (dels sg).foldl pushH []) sg.length ⟨[], 0, t₂, t₃, rfl, Nat.zero_le _, Nat.zero_le _, a.only ⟨rfl, rfl, rfl, trivial⟩, rfl⟩ ?_
  rintro n s' E' ⟨told, place, tt, tp, rfl, hpl, htp, a, hf⟩
  have hlen : (ms sg).length = sg.length := by rw [← tl_length, tl_ms]
  refine wpAny_isTrue_Compare1 (r_name a (r_len (y := ms sg) T a (fun t₄ s₇ k => lt_int (wpAny_truthy_bool ?_)) (by omega)))
  replace a := a.go k
  rw [hlen]
  by_cases hlt : place < sg.length
  · rw [if_pos (by simpa using hlt)]
    obtain ⟨c, hc⟩ : ∃ c, sg[place]? = some c := ⟨_, List.getElem?_eq_getElem hlt⟩
    have hdrop : sg.drop place = c :: sg.drop (place + 1) := by
      rw [List.drop_eq_getElem_cons hlt]
      rw [List.getElem?_eq_getElem hlt] at hc; cases hc; rfl
    refine wpAny_execs_cons (wpAny_If (wpAny_isTrue_Compare1 (r_slice (r_name a (r_part (r_name a (r_part (wpAny_BinOp (r_name a (r_int a fun t₅ s₈ a => add_int ?_))))))))))
    refine ⟨ms sg, t₁, some (place, tp), some ((place : Int) + 7, _), rfl, rfl, rfl, by omega, fun t₆ s₉ k => ?_⟩
    replace a := (a.tok _).go k
    refine r_str a fun t₇ s₁₀ a => eq_str (wpAny_truthy_bool ?_)
    have e7 : tl (Txt.slice (ms sg) (some (place : Int)) (some ((place : Int) + 7))) = (sg.drop place).take 7 := by
      have := tl_between (ms sg) place (place + 7)
      rw [tl_ms, List.drop_take, Nat.add_sub_cancel_left] at this
      exact this
    rw [show (Option.map (fun x => x.1) (some ((place : Int), tp))) = some (place : Int) from rfl, show (Option.map (fun x => x.1) (some ((place : Int) + 7, s₈.toks))) = some ((place : Int) + 7) from rfl, beq_tl, e7, tl_unk]
    by_cases hu : (sg.drop place).take 7 = unk
    · rw [if_pos (by simpa using hu)]
      refine wpAny_execs_cons (wpAny_Assign_Name (wpAny_BinOp (r_name a (r_int a fun t₈ s₁₁ a => add_int (r_store (a.tok _) fun s₁₂ a => ?_)))))
      refine wpAny_execs_cons (wpAny_Continue ?_)
      have h7 : place + 7 ≤ sg.length := by
        have := congrArg List.length hu
        rw [List.length_take, List.length_drop] at this
        simp [unk] at this; omega
      refine ⟨sg.length - (place + 7), by omega, told, place + 7, _, _, rfl, h7, by omega, a.only ⟨rfl, rfl, rfl, trivial⟩, ?_⟩
      rw [dels_unk hu, List.drop_drop] at hf
      exact hf
    · rw [if_neg (by simpa using hu)]
      refine wpAny_execs_nil ?_
      rw [hdrop] at hu hf
      rw [dels_cons hu, List.foldl_cons] at hf
      refine wpAny_execs_cons (wpAny_mono (Q := fun fl s' => fl = .next ∧ ∃ tt', At s s.heap.objs.size [("told", .str (ms (pushH told c)) tt'), ("place", .int (place : Nat) tp), ("signs", .str (ms sg) t₁)] [] s') ?_ ?_ fun _ _ e => e)
      · refine wpAny_If (wpAny_mono (Q := fun b s' => b = decide (c ≠ 45 ∨ told.getLast? ≠ some 45) ∧ At s s.heap.objs.size [("told", .str (ms told) tt), ("place", .int (place : Nat) tp), ("signs", .str (ms sg) t₁)] [] s') ?_ ?_ fun _ _ e => e)
        · refine wpAny_isTrue_BoolOp (wpAny_allTrue_Or_cons (wpAny_isTrue_Compare1 (r_item (r_name a (r_name a ⟨ms sg, t₁, place, tp, c, rfl, rfl, by rw [tl_ms]; exact hc, by omega, fun t₈ s₁₁ k => ?_, rfl, fun _ => rfl⟩)))))
          replace a := a.go k
          refine r_str a fun t₉ s₁₂ a => ne_str (wpAny_truthy_bool ?_)
          rw [bne, beq_tl, show tl "-" = [45] by decide +kernel, show tl ⟨#[c]⟩ = [c] from rfl]
          by_cases h45 : c = 45
          · rw [if_neg (by simp [h45])]
            refine wpAny_allTrue_Or_cons (wpAny_isTrue_Compare1 (r_slice (r_name a (r_part (r_negint a fun t₁₀ s₁₃ a => r_part_none ⟨ms told, tt, some (-1, t₁₀), none, rfl, rfl, rfl, ?_, fun t₁₁ s₁₄ k => ?_⟩)))))
            · have hto : (ms told).length = told.length := by rw [← tl_length, tl_ms]
              omega
            replace a := a.go k
            refine r_str a fun t₁₂ s₁₅ a => ne_str (wpAny_truthy_bool ?_)
            have e1 := tl_fromN (ms told) 1 (Nat.le_refl _)
            rw [show -((1 : Nat) : Int) = -1 from rfl, tl_ms] at e1
            rw [show (Option.map (fun x => x.1) (some ((-1 : Int), t₁₀))) = some (-1) from rfl, show (Option.map (fun x => x.1) (none : Option (Int × Tok))) = none from rfl, bne, beq_tl, e1, show tl "-" = [45] by decide +kernel]
            have e2 : (told.drop (told.length - 1) = [45]) ↔ told.getLast? = some 45 := by
              rcases List.eq_nil_or_concat told with rfl | ⟨r, d, rfl⟩
              · simp
              · simp
            by_cases hlast : told.getLast? = some 45
            · rw [if_neg (by simp [e2.mpr hlast])]
              exact wpAny_allTrue_Or_nil ⟨by simp [h45, hlast], a⟩
            · rw [if_pos (by simp [e2, hlast])]
              exact ⟨by simp [hlast], a⟩
          · rw [if_pos (by simp [h45])]
            exact ⟨by simp [h45], a⟩
        · rintro b s' ⟨rfl, a⟩
          by_cases hp : c ≠ 45 ∨ told.getLast? ≠ some 45
          · rw [if_pos (by simpa using hp)]
            refine wpAny_execs_cons (wpAny_Assign_Name (wpAny_BinOp (r_name a (r_item (r_name a (r_name a ⟨ms sg, t₁, place, tp, c, rfl, rfl, by rw [tl_ms]; exact hc, by omega, fun t' s' k => ?_, rfl, fun _ => rfl⟩))))))
            have hto : (ms told).length = told.length := by rw [← tl_length, tl_ms]
            refine add_str (fun t'' tk => r_store ((a.go k).tok tk) fun s₁₃ a => wpAny_execs_nil ⟨rfl, t'', ?_⟩) (by show (ms told).length + 1 ≤ sizeLine; omega)
            have e : ms told ++ ⟨#[c]⟩ = ms (pushH told c) := by
              apply tl_inj
              rw [tl_append, tl_ms, tl_ms]
              unfold pushH
              rw [if_neg (by rintro ⟨h1, h2⟩; rcases hp with h | h; exact h h1; exact h h2)]; rfl
            rw [e] at a
            exact a.only ⟨rfl, rfl, rfl, trivial⟩
          · rw [if_neg (by simpa using hp)]
            have : pushH told c = told := by
              unfold pushH
              rw [if_pos]
              by_cases h1 : c = 45
              · exact ⟨h1, Classical.byContradiction fun h2 => hp (.inr h2)⟩
              · exact absurd (.inl h1) hp
            exact wpAny_execs_nil ⟨rfl, tt, by rw [this]; exact a⟩
      · rintro fl s' ⟨rfl, tt', a⟩
        refine wpAny_execs_cons (wpAny_Assign_Name (wpAny_BinOp (r_name a (r_int a fun t₈ s₁₁ a => add_int (r_store (a.tok _) fun s₁₂ a => wpAny_execs_nil ?_)))))
        refine ⟨sg.length - (place + 1), by omega, pushH told c, place + 1, _, _, rfl, hlt, ?_, a.only ⟨rfl, rfl, rfl, trivial⟩, hf⟩
        unfold pushH
        split
        · omega
        · rw [List.length_append]; simp; omega
  · rw [if_neg (by simpa using hlt)]
    have hpe : place = sg.length := by omega
    rw [hpe, List.drop_length, dels_nil, List.foldl_nil] at hf
    refine wpAny_execs_cons (wpAny_If (wpAny_isTrue_Compare1 (r_slice (r_name a (r_part (r_negint a fun t₁₀ s₁₃ a => r_part_none ⟨ms told, tt, some (-1, t₁₀), none, rfl, rfl, rfl, ?_, fun t₁₁ s₁₄ k => ?_⟩))))))
    · have hto : (ms told).length = told.length := by rw [← tl_length, tl_ms]
      omega
    replace a := a.go k
    refine r_str a fun t₁₂ s₁₅ a => eq_str (wpAny_truthy_bool ?_)
    have e1 := tl_fromN (ms told) 1 (Nat.le_refl _)
    rw [show -((1 : Nat) : Int) = -1 from rfl, tl_ms] at e1
    rw [show (Option.map (fun x => x.1) (some ((-1 : Int), t₁₀))) = some (-1) from rfl, show (Option.map (fun x => x.1) (none : Option (Int × Tok))) = none from rfl, beq_tl, e1, show tl "-" = [45] by decide +kernel]
    have e2 : (told.drop (told.length - 1) = [45]) ↔ told.getLast? = some 45 := by
      rcases List.eq_nil_or_concat told with rfl | ⟨r, d, rfl⟩
      · simp
      · simp
    have hfin : labelT sg = chopH told := by unfold labelT; rw [← hf]
    rw [hfin] at h
    by_cases hlast : told.getLast? = some 45
    · rw [if_pos (by simp [e2, hlast])]
      refine wpAny_execs_cons (wpAny_Assign_Name (r_slice (r_name a (r_part_none (r_part (r_negint a fun t₁₃ s₁₆ a => ⟨ms told, tt, none, some (-1, t₁₃), rfl, rfl, rfl, ?_, fun t₁₄ s₁₇ k => ?_⟩))))))
      · have hto : (ms told).length = told.length := by rw [← tl_length, tl_ms]
        omega
      refine r_store (a.go k) fun s₁₈ a => wpAny_execs_nil (wpAny_execs_cons (wpAny_Return_some (r_name a ?_)))
      have e3 : Txt.slice (ms told) none (some (-1)) = ms (chopH told) := by
        apply tl_inj
        have := tl_toN (ms told) 1 (Nat.le_refl _)
        rw [show -((1 : Nat) : Int) = -1 from rfl, tl_ms] at this
        rw [this, tl_ms]
        unfold chopH
        rw [if_pos hlast, List.dropLast_eq_take]
      rw [show (Option.map (fun x => x.1) (some ((-1 : Int), t₁₃))) = some (-1) from rfl, show (Option.map (fun x => x.1) (none : Option (Int × Tok))) = none from rfl, e3]
      exact h _ _ a.keeps
    · rw [if_neg (by simp [e2, hlast])]
      refine wpAny_execs_nil (wpAny_execs_cons (wpAny_Return_some (r_name a ?_)))
      have e3 : chopH told = told := by unfold chopH; rw [if_neg hlast]
      rw [e3] at h
      exact h _ _ a.keeps
end
end Mine
end

section
open PySem PySem.W PySem.Calls PyProof.Rows
set_option maxRecDepth 100000
set_option maxHeartbeats 4000000
namespace Mine
/-- one more sign, a second hyphen or a whole «unknown» taken off at once -/
def pushR (told : List Nat) (c : Nat) : List Nat :=
  if (told ++ [c]).drop ((told ++ [c]).length - 2) = [45, 45] then told
  else if (told ++ [c]).drop ((told ++ [c]).length - 7) = unk then (told ++ [c]).take ((told ++ [c]).length - 7) else told ++ [c]
def lstripR (l : List Nat) : List Nat := l.dropWhile (· == 9)
def isTH (c : Nat) : Bool := c == 9 || c == 45
def rstripR (l : List Nat) : List Nat := (l.reverse.dropWhile isTH).reverse
def restT (l : List Nat) : List Nat := rstripR (lstripR (l.foldl pushR []))

theorem pushR_len (told : List Nat) (c : Nat) : (pushR told c).length ≤ told.length + 1 := by
  unfold pushR
  split
  · omega
  · split
    · rw [List.length_take, List.length_append]; simp; omega
    · simp
theorem foldR_len : ∀ (l told : List Nat), (l.foldl pushR told).length ≤ told.length + l.length
  | [], told => by simp
  | c :: r, told => by
    have := foldR_len r (pushR told c)
    have h1 := pushR_len told c
    rw [List.foldl_cons, List.length_cons]; omega

theorem test_lastR (x : Str) : (([ "\t", "-"] : List Str).any (· == Txt.slice x (some (-1)) none)) = (tl x).getLast?.any isTH := by
  have e := tl_fromN x 1 (Nat.le_refl _)
  rw [show -((1 : Nat) : Int) = -1 from rfl] at e
  simp only [List.any_cons, List.any_nil, Bool.or_false, beq_tl, e, show tl "-" = [45] by decide +kernel, show tl "\t" = [9] by decide +kernel]
  rcases List.eq_nil_or_concat (tl x) with h | ⟨r, c, h⟩
  · rw [h]; simp
  · rw [h]; simp [isTH, eq_comm]; rfl
theorem lstripR_step {r : List Nat} : lstripR (9 :: r) = lstripR r := by simp [lstripR]
theorem lstripR_id {l : List Nat} (h : l.take 1 ≠ [9]) : lstripR l = l := by
  cases l with
  | nil => rfl
  | cons c r => simp at h; simp [lstripR, h]
theorem rstripR_step {c : Nat} {r : List Nat} (h : isTH c = true) : rstripR (r ++ [c]) = rstripR r := by simp [rstripR, h]
theorem rstripR_id {l : List Nat} (h : l.getLast?.any isTH = false) : rstripR l = l := by
  rcases List.eq_nil_or_concat l with rfl | ⟨r, c, rfl⟩
  · rfl
  · simp at h; simp [rstripR, h]

section
variable {w : World} {P : Addr} {fa : Str → Addr} {b1a b3a : Addr} {mg mb : Str → Option Value} {A : Around} {E : Value → Shared → Prop} {s : Shared}
theorem rest_spec {D : Addr} {ts : List (Str × Tok)} {Q : Value → Shared → Prop} (T : TopF w P fa b1a b3a mg mb s.heap) (hh : A.handled = none) (hroom : A.depth < 800) (hl : s.heap.IsList D (strValues ts).toArray) (htot : tot (ts.map (·.1)) ≤ 1000000)
    (h : ∀ t' s', Keeps s s' → Q (.str (ms (restT (signsT (ts.map fun p => tl p.1)))) t') s') : wpAny (model prog w) A (call (.ref (fa "_law_rest")) [.ref D]) Q E s := by
  have hsl : sizeLine = 16777216 := rfl
  refine r_enter T (by rfl) (by omega) (binds := [("row", .ref D)]) (fun _ _ _ => rfl) (locs rfl) (fun cd s' a => ?_)
  generalize hsg : signsT (ts.map fun p => tl p.1) = sg at h
  have hsgl : sg.length ≤ 1000000 := by
    rw [← hsg]
    exact Nat.le_trans (signs_len ts) htot
  refine wpAny_execs_cons (wpAny_Assign_Name (r_str a fun t₂ s₃ a => r_store a fun s₄ a => ?_))
  replace a : At s s.heap.objs.size [("told", .str (ms []) t₂), ("row", .ref D)] [] s₄ := a
  refine wpAny_execs_cons ?_
  refine r_forS (s₀ := s) (L := s.heap.objs.size) (l := [("told", .str (ms []) t₂), ("row", .ref D)]) (N := []) hh (y := ms sg)
    (J := fun pre l N => N = [] ∧ ∃ tt, look l "told" (.str (ms (pre.foldl pushR [])) tt)) ?_ ⟨rfl, t₂, look_head⟩ ?_ ?_ ?_
  · intro Q' hQ'
    refine r_call T a (by rfl) (wpAny_items_cons (r_name a (wpAny_items_nil ⟨a, ?_⟩)))
    refine signs_spec (T.keeps a.keep) hh (by show A.depth + 1 < 900; omega) (hl.at fun o e => a.keep _ _ e) htot fun t₁ s₁ k => ?_
    rw [hsg]
    exact hQ' _ _ (a.go k)
  · rintro pre l N ⟨rfl, _⟩ p hp
    cases hp
  · rintro pre c rest l₁ N₁ u s₁ it o E' hy ⟨rfl, tt, hlk⟩ hap a
    rw [tl_ms] at hy
    have hpl : (pre.foldl pushR []).length ≤ 1000000 := by
      have := foldR_len pre []
      have h2 := congrArg List.length hy
      rw [List.length_append] at h2
      simp at this; omega
    generalize htold : pre.foldl pushR [] = told at hlk hpl
    have hfin : (pre ++ [c]).foldl pushR [] = pushR told c := by rw [List.foldl_append, htold]; rfl
    rw [hfin]
    have hto : (ms told).length = told.length := by rw [← tl_length, tl_ms]
    have hlk' : look (("sign", .str ⟨#[c]⟩ u) :: l₁) "told" (.str (ms told) tt) := look_tail (by decide +kernel) hlk
    refine wpAny_execs_cons (wpAny_Assign_Name (wpAny_BinOp (r_name a (r_name a (add_str (fun t₁ tk => r_store (a.tok tk) fun s₂ a => ?_) (by show (ms told).length + 1 ≤ sizeLine; omega)) look_head) hlk')))
    have e0 : ms told ++ ⟨#[c]⟩ = ms (told ++ [c]) := by
      apply tl_inj; rw [tl_append, tl_ms, tl_ms]; rfl
    rw [e0] at a
    have hto' : (ms (told ++ [c])).length = told.length + 1 := by rw [← tl_length, tl_ms, List.length_append]; rfl
    refine wpAny_execs_cons (wpAny_If (wpAny_isTrue_Compare1 (r_slice (r_name a (r_part (r_negint a fun t₃ s₃ a => r_part_none ⟨_, _, some (-2, t₃), none, rfl, rfl, rfl, by omega, fun t₄ s₄ k => ?_⟩)) look_head))))
    replace a := a.go k
    refine r_str a fun t₅ s₅ a => eq_str (wpAny_truthy_bool ?_)
    have e1 := tl_fromN (ms (told ++ [c])) 2 (by omega)
    rw [show -((2 : Nat) : Int) = -2 from rfl, tl_ms] at e1
    rw [show (Option.map (fun x => x.1) (some ((-2 : Int), t₃))) = some (-2) from rfl, show (Option.map (fun x => x.1) (none : Option (Int × Tok))) = none from rfl, beq_tl, e1, show tl "--" = [45, 45] by decide +kernel]
    by_cases h2 : (told ++ [c]).drop ((told ++ [c]).length - 2) = [45, 45]
    · rw [if_pos (by simpa using h2)]
      refine wpAny_execs_cons (wpAny_Assign_Name (r_slice (r_name a (r_part_none (r_part (r_negint a fun t₆ s₆ a => ⟨_, _, none, some (-1, t₆), rfl, rfl, rfl, by omega, fun t₇ s₇ k => ?_⟩))) look_head)))
      refine r_store (a.go k) fun s₈ a => wpAny_execs_nil (wpAny_execs_nil ⟨.inl rfl, _, [], ⟨rfl, t₇, ?_⟩, a⟩)
      have e3 : Txt.slice (ms (told ++ [c])) none (some (-1)) = ms (pushR told c) := by
        apply tl_inj
        have := tl_toN (ms (told ++ [c])) 1 (Nat.le_refl _)
        rw [show -((1 : Nat) : Int) = -1 from rfl, tl_ms] at this
        rw [this, tl_ms]
        unfold pushR
        rw [if_pos h2]; simp
      rw [show (Option.map (fun x => x.1) (some ((-1 : Int), t₆))) = some (-1) from rfl, show (Option.map (fun x => x.1) (none : Option (Int × Tok))) = none from rfl, e3]
      exact look_head
    · rw [if_neg (by simpa using h2)]
      refine wpAny_execs_cons (wpAny_If (wpAny_isTrue_Compare1 (r_slice (r_name a (r_part (r_negint a fun t₃ s₃ a => r_part_none ⟨_, _, some (-7, t₃), none, rfl, rfl, rfl, by omega, fun t₄ s₄ k => ?_⟩)) look_head))))
      replace a := a.go k
      refine r_str a fun t₅ s₅ a => eq_str (wpAny_truthy_bool ?_)
      have e1 := tl_fromN (ms (told ++ [c])) 7 (by omega)
      rw [show -((7 : Nat) : Int) = -7 from rfl, tl_ms] at e1
      rw [show (Option.map (fun x => x.1) (some ((-7 : Int), t₃))) = some (-7) from rfl, show (Option.map (fun x => x.1) (none : Option (Int × Tok))) = none from rfl, beq_tl, e1, tl_unk]
      by_cases h7 : (told ++ [c]).drop ((told ++ [c]).length - 7) = unk
      · rw [if_pos (by simpa using h7)]
        refine wpAny_execs_cons (wpAny_Assign_Name (r_slice (r_name a (r_part_none (r_part (r_negint a fun t₆ s₆ a => ⟨_, _, none, some (-7, t₆), rfl, rfl, rfl, by omega, fun t₇ s₇ k => ?_⟩))) look_head)))
        refine r_store (a.go k) fun s₈ a => wpAny_execs_nil (wpAny_execs_nil (wpAny_execs_nil ⟨.inl rfl, _, [], ⟨rfl, t₇, ?_⟩, a⟩))
        have e3 : Txt.slice (ms (told ++ [c])) none (some (-7)) = ms (pushR told c) := by
          apply tl_inj
          have := tl_toN (ms (told ++ [c])) 7 (by omega)
          rw [show -((7 : Nat) : Int) = -7 from rfl, tl_ms] at this
          rw [this, tl_ms]
          unfold pushR
          rw [if_neg h2, if_pos h7]
        rw [show (Option.map (fun x => x.1) (some ((-7 : Int), t₆))) = some (-7) from rfl, show (Option.map (fun x => x.1) (none : Option (Int × Tok))) = none from rfl, e3]
        exact look_head
      · rw [if_neg (by simpa using h7)]
        have e3 : told ++ [c] = pushR told c := by
          unfold pushR
          rw [if_neg h2, if_neg h7]
        rw [e3] at a
        exact wpAny_execs_nil (wpAny_execs_nil (wpAny_execs_nil ⟨.inl rfl, _, [], ⟨rfl, _, look_head⟩, a⟩))
  · rintro l' N' s' ⟨rfl, tt, hlk⟩ a
    rw [tl_ms] at hlk
    have hpl : (sg.foldl pushR []).length ≤ 1000000 := by
      have := foldR_len sg []
      simp at this; omega
    refine wpAny_execs_cons ?_
    refine r_while (fun n s' => ∃ y t, n = (tl y).length ∧ At s s.heap.objs.size [("told", .str y t)] [] s' ∧ lstripR (tl y) = lstripR (sg.foldl pushR []) ∧ y.length ≤ 1000000) (sg.foldl pushR []).length
      ⟨ms (sg.foldl pushR []), tt, by rw [tl_ms], a.only ⟨hlk, trivial⟩, by rw [tl_ms], by rw [← tl_length, tl_ms]; exact hpl⟩ ?_
    rintro n s' E' ⟨y, t, rfl, a, hy, hyl⟩
    refine wpAny_isTrue_Compare1 (r_slice (r_name a (r_part_none (r_part (r_int a fun t₁ s₁ a => ⟨y, t, none, some (1, t₁), rfl, rfl, rfl, by omega, fun t₂ s₂ k => ?_⟩)))))
    replace a := a.go k
    refine r_str a fun t₃ s₃ a => eq_str (wpAny_truthy_bool ?_)
    have e1 := tl_to y 1
    rw [show ((1 : Nat) : Int) = 1 from rfl] at e1
    rw [show (Option.map (fun x => x.1) (some ((1 : Int), t₁))) = some 1 from rfl, show (Option.map (fun x => x.1) (none : Option (Int × Tok))) = none from rfl, beq_tl, e1, show tl "\t" = [9] by decide +kernel]
    by_cases h9 : (tl y).take 1 = [9]
    · rw [if_pos (by simpa using h9)]
      refine wpAny_execs_cons (wpAny_Assign_Name (r_slice (r_name a (r_part (r_int a fun t₁ s₁ a => r_part_none ⟨y, t, some (1, t₁), none, rfl, rfl, rfl, by omega, fun t₂ s₂ k => ?_⟩)))))
      refine r_store (a.go k) fun s₃ a => wpAny_execs_nil ?_
      have e := tl_from y 1
      rw [show ((1 : Nat) : Int) = 1 from rfl] at e
      cases hc : tl y with
      | nil => rw [hc] at h9; cases h9
      | cons c r =>
        rw [hc] at h9 e hy
        obtain rfl : c = 9 := by simpa using h9
        refine ⟨r.length, by simp, _, _, ?_, a.only ⟨rfl, trivial⟩, ?_, Nat.le_trans (Txt.slice_le _ _ _) hyl⟩
        · show _ = (tl (Txt.slice y (some 1) none)).length
          rw [e]; rfl
        · show lstripR (tl (Txt.slice y (some 1) none)) = _
          rw [e, ← hy, lstripR_step]; rfl
    · rw [if_neg (by simpa using h9)]
      rw [lstripR_id h9] at hy
      refine wpAny_execs_cons ?_
      refine r_while (fun n s' => ∃ y t, n = (tl y).length ∧ At s s.heap.objs.size [("told", .str y t)] [] s' ∧ rstripR (tl y) = restT sg ∧ y.length ≤ 1000000) (tl y).length ⟨y, t, rfl, a, by rw [hy]; rfl, hyl⟩ ?_
      rintro n s' E' ⟨y, t, rfl, a, hy, hyl⟩
      refine wpAny_isTrue_Compare1 ?_
      refine r_slice (r_name a ?_)
      refine r_part (r_negint a fun t₁ s₁ a => r_part_none ⟨y, t, some (-1, t₁), none, rfl, rfl, rfl, by omega, fun t₂ s₂ k => ?_⟩)
      replace a := a.go k
      refine r_in2 fun s₃ k => wpAny_truthy_bool ?_
      replace a := a.go k
      rw [show ((some ((-1 : Int), t₁)).map (·.1)) = some (-1) from rfl, show ((none : Option (Int × Tok)).map (·.1)) = none from rfl, test_lastR]
      cases hb : (tl y).getLast?.any isTH with
      | true =>
        simp only [if_true]
        refine wpAny_execs_cons (wpAny_Assign_Name (r_slice (r_name a ?_)))
        refine r_part_none (r_part (r_negint a fun t₁ s₁ a => ⟨y, t, none, some (-1, t₁), rfl, rfl, rfl, by omega, fun t₂ s₂ k => ?_⟩))
        refine r_store (a.go k) fun s₃ a => wpAny_execs_nil ?_
        have e := tl_toN y 1 (Nat.le_refl _)
        rw [show -((1 : Nat) : Int) = -1 from rfl] at e
        rcases List.eq_nil_or_concat (tl y) with hc | ⟨r, c, hc⟩
        · rw [hc] at hb; cases hb
        · rw [List.concat_eq_append] at hc
          rw [hc] at hb e hy
          simp at e
          refine ⟨r.length, by rw [hc]; simp, _, _, ?_, a.only ⟨rfl, trivial⟩, ?_, Nat.le_trans (Txt.slice_le _ _ _) hyl⟩
          · show _ = (tl (Txt.slice y none (some (-1)))).length
            rw [e]
          · show rstripR (tl (Txt.slice y none (some (-1)))) = _
            rw [e, ← hy, rstripR_step (by simpa using hb)]
      | false =>
        simp only [Bool.false_eq_true, if_false]
        rw [rstripR_id hb] at hy
        refine wpAny_execs_cons (wpAny_Return_some (r_name a ?_))
        have : y = ms (restT sg) := tl_inj (by rw [hy]; rfl)
        rw [this]
        exact h _ _ a.keeps
end
end Mine
end

section
open PySem PySem.W PySem.Calls PyProof.Rows
set_option maxRecDepth 100000
set_option maxHeartbeats 4000000
namespace Mine
/-- a list of ints at a -/
def IL (h : Heap) (a : Addr) (ns : List Int) : Prop := ∃ vs, h.IsList a vs.toArray ∧ IntsAre vs ns
theorem IL.keeps {h h' : Heap} {a : Addr} {ns : List Int} (x : IL h a ns) (hk : ∀ b o, h.get? b = some o → h'.get? b = some o) : IL h' a ns :=
  let ⟨vs, h1, h2⟩ := x; ⟨vs, h1.at fun o e => hk _ _ e, h2⟩
theorem intsAre_items {P : Nat → Value → Prop} {a : Int} (hP : ∀ i v, P i v → ∃ t, v = .int (a + (i : Nat) * 1) t) : ∀ {n : Nat} {acc : Array Value}, ItemsOf P acc n → IntsAre acc.toList (rangeInts a 1 n) := by
  intro n acc h
  obtain ⟨hsz, hg⟩ := h
  have key : ∀ (vs : List Value) (k : Nat), (∀ (j : Nat) (v : Value), vs[j]? = some v → ∃ t, v = Value.int (a + ((k + j : Nat) : Int) * 1) t) → IntsAre vs ((List.range' k vs.length).map fun i => a + (i : Nat) * 1) := by
    intro vs
    induction vs with
    | nil => intro k _; exact .nil
    | cons v r ih =>
      intro k hk
      obtain ⟨t, rfl⟩ := hk 0 v rfl
      rw [List.length_cons, List.range'_succ, List.map_cons]
      refine .cons _ _ (ih (k + 1) fun j v hj => ?_)
      obtain ⟨t, ht⟩ := hk (j + 1) v (by simpa using hj)
      exact ⟨t, by rw [ht]; congr 2; push_cast; omega⟩
  have := key acc.toList 0 fun j v hj => by
    obtain ⟨t, ht⟩ := hP j v (hg j v (by simpa using hj))
    exact ⟨t, by rw [ht]; simp⟩
  unfold rangeInts
  rw [List.range_eq_range', ← hsz]
  simpa using this

section
variable {w : World} {A : Around} {E : Value → Shared → Prop} {s : Shared} {env : Env}
/-- list(range(a, b)) -/
theorem c_listrange {a b : Int} {k1 k2 : Nat} {p1 p2 p3 p4 p5 p6 : Pos} {Q : Value → Shared → Prop} (hh : A.handled = none) (ha : -(2 ^ 62) ≤ a) (ha' : a < 2 ^ 62) (hb : -(2 ^ 62) ≤ b) (hb' : b < 2 ^ 62) (hn : (b - a).toNat ≤ 2 ^ 24)
    (hL : ∀ Q' : Value → Shared → Prop, Q' (.type "list") s → wpAny (model prog w) A (eval (.Name "list" p1) env) Q' E s)
    (hR : ∀ Q' : Value → Shared → Prop, Q' (.type "range") s → wpAny (model prog w) A (eval (.Name "range" p2) env) Q' E s)
    (h : ∀ D s', Keeps s s' → IL s'.heap D (rangeInts a 1 (b - a).toNat) → Q (.ref D) s')
    (e1 : starEach [.Call (.Name "range" p2) [.Constant (.int a) k1 p3, .Constant (.int b) k2 p4] [] p5] env = (false, eval (.Call (.Name "range" p2) [.Constant (.int a) k1 p3, .Constant (.int b) k2 p4] [] p5) env) :: starEach [] env := by rfl)
    (c1 : eval (.Call (.Name "list" p1) [.Call (.Name "range" p2) [.Constant (.int a) k1 p3, .Constant (.int b) k2 p4] [] p5] [] p6) env = (do callWith p6 (← eval (.Name "list" p1) env) [] (backTo p6 (starEach [.Call (.Name "range" p2) [.Constant (.int a) k1 p3, .Constant (.int b) k2 p4] [] p5] env)) (backToKw p6 (keywordEach [] env))) := by rfl)
    (e2 : starEach [.Constant (.int a) k1 p3, .Constant (.int b) k2 p4] env = (false, eval (.Constant (.int a) k1 p3) env) :: starEach [.Constant (.int b) k2 p4] env := by rfl)
    (e3 : starEach [.Constant (.int b) k2 p4] env = (false, eval (.Constant (.int b) k2 p4) env) :: starEach [] env := by rfl)
    (c2 : eval (.Call (.Name "range" p2) [.Constant (.int a) k1 p3, .Constant (.int b) k2 p4] [] p5) env = (do callWith p5 (← eval (.Name "range" p2) env) [] (backTo p5 (starEach [.Constant (.int a) k1 p3, .Constant (.int b) k2 p4] env)) (backToKw p5 (keywordEach [] env))) := by rfl)
    (hp1 : (backTo p6 (starEach [] env)).any (·.1) = false := by rfl) (hp2 : (backTo p5 (starEach [.Constant (.int b) k2 p4] env)).any (·.1) = false := by rfl) :
    wpAny (model prog w) A (eval (.Call (.Name "list" p1) [.Call (.Name "range" p2) [.Constant (.int a) k1 p3, .Constant (.int b) k2 p4] [] p5] [] p6) env) Q E s := by
  refine Call_ (hL _ (PyProof.Rows.callWith_type1 (wpAny_items_cons (Call_ (hR _ (PyProof.Rows.callWith_type1 (wpAny_items_cons (wpAny_Constant_int (wpAny_items_cons (wpAny_Constant_int (wpAny_items_nil ?_)) e3)) e2) e2 hp2)) c2) e1) e1 hp1)) c1
  refine call_range_2 (wpAny_items_nil ?_)
  refine call_list_range hh (IsRange.new ..) (small_one ha ha' hb hb') (rangeSize_nat a b) hn fun h' tk acc c' hk ho hacc => ?_
  refine h _ _ ⟨h', tk, rfl, fun b o e => hk b o (Heap.get?_push_of_some _ e)⟩ ⟨acc.toList, ⟨_, ho, rfl, c', by simp⟩, intsAre_items (fun i v q => q) hacc⟩

theorem get_size (h : Heap) : h.get? h.objs.size = none := by
  cases e : h.get? h.objs.size with
  | none => rfl
  | some o => exact absurd (Heap.lt_size e) (Nat.lt_irrefl _)
theorem c_addlistsF {l b : Addr} {ns ms : List Int} {Q : Value → Shared → Prop} (hl : IL s.heap l ns) (hb : IL s.heap b ms) (hsz : ns.length + ms.length ≤ sizeLine)
    (h : ∀ D s', Keeps s s' → s.heap.get? D = none → IL s'.heap D (ns ++ ms) → Q (.ref D) s') : wpAny (model prog w) A (binaryOp .Add (.ref l) (.ref b)) Q E s := by
  obtain ⟨vs, hl, hi⟩ := hl
  obtain ⟨ws, hb, hj⟩ := hb
  obtain ⟨⟨cls, dd, data, sl⟩, ho, hc, n, hd⟩ := id hl
  obtain ⟨⟨cls2, dd2, data2, sl2⟩, ho2, hc2, n2, hd2⟩ := id hb
  simp only at hc hd hc2 hd2
  subst hc hd hc2 hd2
  have e : vs.toArray ++ ws.toArray = (vs ++ ws).toArray := by simp
  refine concat_meets ⟨_, ho, rfl⟩ ⟨_, ho2, rfl⟩ noFill_list_add seq_list_add PySem.F.slot_list_add PySem.F.entry_list_add (PySem.F.args_list_add_2 _ _) (list_addW l b vs.toArray ws.toArray n n2 dd dd2 sl sl2 (by
    simp only [List.size_toArray]; rw [hi.length, hj.length]; exact hsz)) ⟨ho, ho2, ?_⟩
  rw [e]
  exact h _ _ ⟨_, _, rfl, fun b o e => Heap.get?_push_of_some _ e⟩ (get_size _) ⟨vs ++ ws, ⟨_, Heap.get?_push_size _ rfl, rfl, _, rfl⟩, hi.append hj⟩
theorem c_addlists {l b : Addr} {ns ms : List Int} {Q : Value → Shared → Prop} (hl : IL s.heap l ns) (hb : IL s.heap b ms) (hsz : ns.length + ms.length ≤ sizeLine)
    (h : ∀ D s', Keeps s s' → IL s'.heap D (ns ++ ms) → Q (.ref D) s') : wpAny (model prog w) A (binaryOp .Add (.ref l) (.ref b)) Q E s :=
  c_addlistsF hl hb hsz fun D s' k _ i => h D s' k i
theorem none_of_keeps {h h' : Heap} {D : Addr} (hk : ∀ b o, h.get? b = some o → h'.get? b = some o) (e : h'.get? D = none) : h.get? D = none := by
  cases e' : h.get? D with
  | none => rfl
  | some o => rw [hk _ _ e'] at e; cases e

/-- a display of written ints -/
def intConsts : List Expr → Option (List Int)
  | [] => some []
  | .Constant (.int i) _ _ :: r => (intConsts r).map (i :: ·)
  | _ => none
theorem c_intlist_items {pos : Pos} : ∀ {es : List Expr} {ns : List Int} {s : Shared} {Q : List Value → Shared → Prop}, intConsts es = some ns → (∀ vs s', Keeps s s' → IntsAre vs ns → Q vs s') → wpAny (model prog w) A (spliced (backTo pos (starEach es env))) Q E s
  | [], _, s, Q, hc, h => by cases hc; exact wpAny_items_nil (h [] s (kpRefl s) .nil)
  | e :: r, ns, s, Q, hc, h => by
    unfold intConsts at hc
    split at hc
    · rename_i heq; cases heq
    · rename_i i k p r' heq
      cases heq
      obtain ⟨ns', hr, rfl⟩ := Option.map_eq_some_iff.mp hc
      refine wpAny_items_cons (wpAny_Constant_int ?_)
      exact c_intlist_items hr fun vs s' k hi => h _ _ (kpTrans (kpTok _ _) k) (.cons _ _ hi)
    · cases hc
theorem c_intlist {es : List Expr} {ns : List Int} {pos : Pos} {Q : Value → Shared → Prop} (hc : intConsts es = some ns) (hsz : ns.length ≤ sizeLine) (h : ∀ D s', Keeps s s' → IL s'.heap D ns → Q (.ref D) s') : wpAny (model prog w) A (eval (.List es pos) env) Q E s := by
  refine wpAny_List (c_intlist_items hc fun vs s' k hi => ⟨by rw [hi.length]; exact hsz, ?_⟩)
  exact h _ _ (kpTrans k (kpPush _ _)) ⟨vs, ⟨_, Heap.get?_push_size _ rfl, rfl, 0, rfl⟩, hi⟩
end

def nothL : List Int := [173, 847, 6150, 8288, 65279] ++ rangeInts 6155 1 3 ++ rangeInts 8203 1 3 ++ rangeInts 65024 1 16
section
variable {w : World} {P : Addr} {fa : Str → Addr} {b1a b3a : Addr} {mg mb : Str → Option Value} {A : Around} {E : Value → Shared → Prop} {s : Shared}
/-- f(), f a def of the text -/
theorem c_call0 {env : Env} {x : Str} {p pos : Pos} {Q : Value → Shared → Prop} {d : Arguments × List Stmt × Scope} (T : TopF w P fa b1a b3a mg mb s.heap) (hd : prog.theDef x = some d)
    (h : wpAny (model prog w) A (call (.ref (fa x)) []) Q E s)
    (hk : env.scope.kind = .function := by rfl) (hl : env.kindOf x = some .globalImplicit := by rfl) (hg : env.globals = mainGlobals := by rfl)
    (hdb : (x == ("__debug__" : Str)) = false := by decide)
    (hc : eval (.Call (.Name x p) [] [] pos) env = (do callWith pos (← eval (.Name x p) env) [] (backTo pos (starEach [] env)) (backToKw pos (keywordEach [] env))) := by rfl) :
    wpAny (model prog w) A (eval (.Call (.Name x p) [] [] pos) env) Q E s := by
  refine Call_ (c_fun T hd ?_ hk hl hg hdb) hc
  obtain ⟨_, _, o, pm, c, doc, h3, h4, h5, h6⟩ := T.fn x d.1 d.2.1 d.2.2 hd
  exact callWith_function (o := o) (args := []) (PyProof.Rows.evalArgs_none ⟨⟨h3, h4⟩, h⟩)

theorem nothing_specF {Q : Value → Shared → Prop} (T : TopF w P fa b1a b3a mg mb s.heap) (hh : A.handled = none) (hroom : A.depth < 1000)
    (h : ∀ D s', Keeps s s' → s.heap.get? D = none → IL s'.heap D nothL → Q (.ref D) s') : wpAny (model prog w) A (call (.ref (fa "_law_nothing")) []) Q E s := by
  refine r_enter T (by rfl) hroom (binds := []) (fun _ _ _ => rfl) (fun _ hb => nomatch hb) (fun cd s' a => ?_)
  refine wpAny_execs_cons (wpAny_Return_some (wpAny_BinOp (wpAny_BinOp (wpAny_BinOp (c_intlist (by rfl) (by decide) fun D₀ s₀ k₀ i₀ => ?_)))))
  replace a := a.go k₀
  have hsl : sizeLine = 16777216 := rfl
  refine c_listrange hh (by decide) (by decide) (by decide) (by decide) (by decide) (fun Q' q => r_bi T a (by decide) boot_list q) (fun Q' q => r_bi T a (by decide) boot_range q) fun D₁ s₁ k₁ i₁ => ?_
  replace a := a.go k₁
  refine c_addlists (i₀.keeps (kpHeap k₁)) i₁ (by rw [rangeInts_length, hsl]; decide) fun D₂ s₂ k₂ i₂ => ?_
  replace a := a.go k₂
  refine c_listrange hh (by decide) (by decide) (by decide) (by decide) (by decide) (fun Q' q => r_bi T a (by decide) boot_list q) (fun Q' q => r_bi T a (by decide) boot_range q) fun D₃ s₃ k₃ i₃ => ?_
  replace a := a.go k₃
  refine c_addlists (i₂.keeps (kpHeap k₃)) i₃ (by rw [List.length_append, rangeInts_length, rangeInts_length, hsl]; decide) fun D₄ s₄ k₄ i₄ => ?_
  replace a := a.go k₄
  refine c_listrange hh (by decide) (by decide) (by decide) (by decide) (by decide) (fun Q' q => r_bi T a (by decide) boot_list q) (fun Q' q => r_bi T a (by decide) boot_range q) fun D₅ s₅ k₅ i₅ => ?_
  replace a := a.go k₅
  refine c_addlistsF (i₄.keeps (kpHeap k₅)) i₅ (by rw [List.length_append, List.length_append, rangeInts_length, rangeInts_length, rangeInts_length, hsl]; decide) fun D₆ s₆ k₆ hf i₆ => ?_
  exact h _ _ (a.go k₆).keeps (none_of_keeps a.keep hf) i₆
theorem nothing_spec {Q : Value → Shared → Prop} (T : TopF w P fa b1a b3a mg mb s.heap) (hh : A.handled = none) (hroom : A.depth < 1000)
    (h : ∀ D s', Keeps s s' → IL s'.heap D nothL → Q (.ref D) s') : wpAny (model prog w) A (call (.ref (fa "_law_nothing")) []) Q E s :=
  nothing_specF T hh hroom fun D s' k _ i => h D s' k i
end
end Mine
end

section
open PySem PySem.W PySem.Calls PyProof.Rows
set_option maxRecDepth 100000
set_option maxHeartbeats 400000
namespace Mine
section
variable {w : World} {A : Around} {E : Value → Shared → Prop} {s : Shared} {env : Env}
/-- as r_compS, over a block whose names are cells -/
theorem r_compSF {elt iter : Expr} {x : Str} {px : Pos} {scope : Scope} {cl : List (Str × Addr)} {pos : Pos} {Q : Value → Shared → Prop} (F : Nat → List Nat) (hh : A.handled = none)
    (h : wpAny (model prog w) A (eval iter env) (fun xv s₁ => ∃ y t, xv = .str y t ∧ y.length ≤ sizeLine ∧
      (∀ C c u s₃ m₃ E', c ∈ tl y → s₃.heap.Ns C m₃ → m₃ x = some (.str ⟨#[c]⟩ u) → (∀ b o, s₁.heap.get? b = some o → s₃.heap.get? b = some o) →
        wpAny (model prog w) A (eval elt (compEnvC scope cl C env)) (fun v s₄ => (∃ u, v = .str (ms (F c)) u) ∧ Keeps s₃ s₄) E' s₃) ∧
      (∀ D s' l, Keeps s₁ s' → s'.heap.IsList D (strValues l).toArray → l.map (·.1) = (tl y).map (fun c => ms (F c)) → Q (.ref D) s')) E s)
    (hclos : closureFor scope env = pure cl) (hcell : ∀ y ∈ scope.names, y.2 ≠ .cell := by decide +kernel) (hkind : scope.kind = .function := by rfl)
    (hnames : ∀ y ∈ scope.names, y.2 = .local → scope.names.lookup y.1 = some .local := by decide +kernel) (hx : scope.names.lookup x = some .local := by rfl)
    (hs : ∀ x, foldedSetIterable iter env x = pure x := by intro _; rfl) :
    wpAny (model prog w) A (eval (.ListComp elt [⟨.Name x px, iter, [], 0⟩] scope pos) env) Q E s := by
  refine wpAny_ListComp_free (fun _ => true) (fun v y => ∃ u, y = .str (ms (F (signOf v))) u) hclos hcell hkind hnames hx (wpAny_mono h (fun xv s₁ h₁ => ?_) fun _ _ e => e) hs
  obtain ⟨y, t, rfl, hsz, he, hq⟩ := h₁
  refine wpAny_pyIter_str fun o St W st => ?_
  have hnew : ∀ b o', s₁.heap.get? b = some o' → b ∉ [s₁.heap.objs.size] := fun b o' e hm => by
    simp at hm; exact Nat.lt_irrefl _ (hm ▸ Heap.lt_size e)
  have hkeep : ∀ b o', s₁.heap.get? b = some o' → (s₁.heap.push o).get? b = some o' := fun b o' e => Heap.get?_push_of_some o e
  refine ⟨_, _, _, _, _, _, rfl, W A hh, hsz, st, (by intro b hb; simp at hb; subst hb; show _ < (s₁.heap.push o).objs.size; rw [Heap.size_push]; exact Nat.lt_succ_self _), ⟨?_, ?_⟩, ?_⟩
  · rintro C i v s₃ m₃ E' _ _ _ _ _ _
    exact wpAny_tests_nil ⟨rfl, kpRefl _⟩
  · rintro C i v s₃ m₃ E' _ ⟨c, u, hc, rfl⟩ hp hn hm hk _
    have hmem : c ∈ tl y := Array.mem_toList_iff.mpr (Array.mem_of_getElem? hc)
    exact wpAny_mono (he C c u s₃ m₃ E' hmem hn hm fun b o' e => hk b o' (hnew b o' e) (hkeep b o' e)) (fun ok s₄ q => q) fun _ _ e => e
  · intro D h' tk ys vs hD hl _ hlen hP hF hk
    obtain ⟨l, hl1, hl2⟩ := paired_strs (k := signOf) (g := fun c => ms (F c)) (fun v y h => h) hF
    have hvs : vs.map signOf = tl y := by
      apply List.ext_getElem?
      intro i
      by_cases hi : i < vs.length
      · obtain ⟨c, u, hc, hv⟩ := hP i vs[i] (List.getElem?_eq_getElem hi)
        rw [List.getElem?_map, List.getElem?_eq_getElem hi]
        show some (signOf vs[i]) = _
        rw [hv]
        show some c = _
        rw [← hc]; simp [tl]
      · rw [List.getElem?_eq_none (by simpa using hi), List.getElem?_eq_none (by rw [tl_length]; show y.cps.size ≤ i; omega)]
    refine hq D _ l ⟨h', tk, rfl, fun b o' e => hk b o' (hnew b o' e) (hkeep b o' e)⟩ ?_ ?_
    · rw [hl1]; exact hl
    · rw [hl2, ← hvs, List.filter_eq_self.mpr fun _ _ => rfl]

/-- an item of a list of ints -/
theorem c_item {value slice : Expr} {pos : Pos} {Q : Value → Shared → Prop}
    (h : wpAny (model prog w) A (eval value env) (fun o s₁ => wpAny (model prog w) A (eval slice env) (fun i s₂ => ∃ l k u ns, o = .ref l ∧ i = .int k u ∧ IL s₂.heap l ns ∧ 0 ≤ k ∧ k < ns.length ∧ k < 2 ^ 63 ∧ (∀ t, Q (.int (ns.getD k.toNat 0) t) s₂) ∧
      subscripted slice false (.ref l) (.int k u) = operate [.ref l, .int k u] (getItem (.ref l) (.int k u)) ∧ ∀ r, letTemporaryGo value (.ref l) r = pure ()) E s₁) E s) :
    wpAny (model prog w) A (eval (.Subscript value slice pos) env) Q E s := by
  refine Subscript_ (wpAny_mono h (fun o s₁ h₁ => wpAny_mono h₁ ?_ fun _ _ e => e) fun _ _ e => e)
  rintro i s₂ ⟨l, k, u, ns, rfl, rfl, ⟨vs, hl, hi⟩, h0, h1, h2, hQ, hs, ht⟩
  exact item_list_ints hl hi h0 h1 h2 hQ hs ht
end

def startsL : List Int := [97, 65, 119808, 119860, 119912, 120016, 120172, 120224, 120276, 120328, 120380, 120432]
def stC' (form : Int) (c : Nat) : Nat := (startsL.getD (form.fmod 12).toNat 0 + c - 97).toNat

section
variable {w : World} {P : Addr} {fa : Str → Addr} {b1a b3a : Addr} {mg mb : Str → Option Value} {A : Around} {E : Value → Shared → Prop} {s : Shared}
/-- a def whose block has cells is entered -/
theorem r_enterC {x : Str} {params : Arguments} {body : List Stmt} {sc : Scope} {args : List Value} {binds : List (Str × Value)} {Q : Value → Shared → Prop}
    (T : TopF w P fa b1a b3a mg mb s.heap) (hd : prog.theDef x = some (params, body, sc)) (hroom : A.depth < 1000)
    (hbind : ∀ pm cd doc, bindArgs (docDef x params body sc pm cd doc) ⟨args, []⟩ = pure binds)
    (hkind : ∀ b ∈ binds, sc.names.lookup b.1 = some .local ∨ (sc.names.lookup b.1 = some .cell ∧ ((cellsFrom (s.heap.objs.size + 1) sc.names []).lookup b.1).isSome = true))
    (h : ∀ cd h₁ tk, Fr s.heap s.heap.objs.size h₁ (bindL (envOfC x sc s.heap.objs.size (fa x) cd).kindOf binds fun _ => none) →
      Cl s.heap.objs.size (cellsFrom (s.heap.objs.size + 1) sc.names []) h₁ (bindC (envOfC x sc s.heap.objs.size (fa x) cd).kindOf binds fun _ => none) →
      wpAny (model prog w) (A.deeper (envOfC x sc s.heap.objs.size (fa x) cd)) (execs body (envOfC x sc s.heap.objs.size (fa x) cd)) (fun fl s' => Q (match fl with | .ret v => v | _ => .none) s') (fun _ _ => False) { s with heap := h₁, toks := tk })
    (hco : sc.isCoroutine = false := by rfl) (hgen : sc.isGenerator = false := by rfl) (hk : sc.kind = .function := by rfl) :
    wpAny (model prog w) A (call (.ref (fa x)) args) Q E s := by
  obtain ⟨_, _, o, pm, c, doc, h3, h4, h5, h6⟩ := T.fn x params body sc hd
  exact wpAny_call (call_cells_ret hroom h3 h4 T.nolimit h5 (hbind _ _ _) hkind (fun h₁ tk F X => wpAny_mono (h (.ref c) h₁ tk F X) (fun _ _ q => q) fun _ _ q => q) hco hgen hk)

theorem fmod12 (n : Int) : 0 ≤ n.fmod 12 ∧ n.fmod 12 < 12 := ⟨Int.fmod_nonneg_of_pos _ (by decide), Int.fmod_lt_of_pos _ (by decide)⟩
theorem starts_range (i : Nat) (hi : i < 12) : 65 ≤ startsL.getD i 0 ∧ startsL.getD i 0 ≤ 120432 := by
  have : ∀ j : Fin 12, 65 ≤ startsL.getD j.val 0 ∧ startsL.getD j.val 0 ≤ 120432 := by decide
  exact this ⟨i, hi⟩
theorem ne12 (L : Nat) : L + 1 ≠ L + 2 := by omega
theorem ne02 (L : Nat) : L ≠ L + 2 := by omega
theorem ne_lt2 {L b n : Nat} (h : b < n) (h' : n ≤ L) : b ≠ L + 2 := by omega
theorem spelt_spec {x : Str} {t : Tok} {form : Int} {tf : Tok} {Q : Value → Shared → Prop} (T : TopF w P fa b1a b3a mg mb s.heap) (hh : A.handled = none) (hroom : A.depth < 900) (hx : x.length ≤ 1000000) (hlow : ∀ c ∈ tl x, 97 ≤ c ∧ c ≤ 122)
    (h : ∀ t' s', Keeps s s' → Q (.str (ms ((tl x).map (stC' form))) t') s') : wpAny (model prog w) A (call (.ref (fa "_law_spelt")) [.str x t, .int form tf]) Q E s := by
  have hsl : sizeLine = 16777216 := rfl
  refine r_enterC T (by rfl) (by omega) (binds := [("word", .str x t), ("form", .int form tf)]) (fun _ _ _ => rfl) ?_ (fun cd h₁ tk F X => ?_)
  · intro b hb
    simp at hb
    rcases hb with rfl | rfl
    · exact .inl rfl
    · exact .inr ⟨rfl, rfl⟩
  generalize hL : s.heap.objs.size = L at F X ⊢
  have hform : h₁.IsCell (L + 1) (some (.int form tf)) := X.cell "form" (L + 1) (by rfl)
  have hstarts : h₁.IsCell (L + 2) none := X.cell "starts" (L + 2) (by rfl)
  clear X
  obtain ⟨m, F, hw⟩ : ∃ m, Fr s.heap L h₁ m ∧ m "word" = some (.str x t) := ⟨_, F, by with_unfolding_all rfl⟩
  refine wpAny_execs_cons ?_
  refine wpAny_Assign_Name ?_ ?_
  rotate_left
  · rfl
  with_reducible refine c_intlist (ns := startsL) ?_ ?_ ?_
  · rfl
  · show 12 ≤ 16777216; decide
  intro D s₁ k i₁
  obtain ⟨h₂, tk₂, rfl, hk₂⟩ := k
  replace hform := hform.keeps hk₂
  replace hstarts := hstarts.keeps hk₂
  replace F := F.keeps hk₂
  refine wpAny_storeName_cell (c := L + 2) (v₀ := none) rfl rfl rfl hstarts fun h₃ hst hs₃ => ?_
  have hDne : ∀ vs, h₂.IsList D vs → D ≠ L + 2 := by
    rintro vs ⟨o, ho, _, n, hd⟩ rfl
    obtain ⟨o', ho', hd'⟩ := hstarts
    rw [ho] at ho'; cases ho'; rw [hd] at hd'; cases hd'
  have i₃ : IL h₃ D startsL := by
    obtain ⟨vs, hl, hi⟩ := i₁
    exact ⟨vs, hl.extBut hs₃.extBut (hDne _ hl), hi⟩
  have hform₃ : h₃.IsCell (L + 1) (some (.int form tf)) := hform.sameBut hs₃ (ne12 L)
  have F₃ : Fr s.heap L h₃ m := ⟨F.ns.sameBut hs₃ (ne02 L), fun b o e => hs₃.extBut b o (ne_lt2 (Heap.lt_size e) F.above) (F.keep b o e), F.above⟩
  have T₃ : TopF w P fa b1a b3a mg mb h₃ := T.keeps F₃.keep
  clear i₁ hform hstarts hDne F
  refine wpAny_execs_cons (wpAny_Return_some (m_join (wpAny_Constant_str ⟨_, _, rfl, ?_⟩)))
  refine r_compSF (cl := [("starts", L + 2), ("form", L + 1)]) (fun c => [stC' form c]) hh (ldLoc F₃ hw ⟨x, t, rfl, by omega, ?_, ?_⟩) ?_
  · intro C c u s₃ m₃ E' hc hn hm hk
    have T₄ := T₃.keeps hk
    have hf₄ := hform₃.keeps hk
    have hs₄ := hst.keeps hk
    have i₄ := i₃.keeps hk
    have hmod := fmod12 form
    refine c_callb T₄ (x := "chr") (by decide) (by decide +kernel : bootBuiltins "chr" = some (.builtin "chr")) ?_
    refine wpAny_items_cons ?_
    refine wpAny_BinOp ?_
    refine wpAny_BinOp ?_
    refine c_item ?_
    refine wpAny_Name (wpAny_loadName_cell (c := L + 2) rfl rfl rfl hs₄ ?_)
    refine wpAny_BinOp ?_
    refine wpAny_Name (wpAny_loadName_cell (c := L + 1) rfl rfl rfl hf₄ ?_)
    refine wpAny_Constant_int (mod_int' (by decide) ?_)
    refine ⟨D, form.fmod 12, _, startsL, rfl, rfl, i₄.keeps fun b o e => e, hmod.1, by show form.fmod 12 < 12; omega, by omega, fun t₁ => ?_, rfl, fun _ => rfl⟩
    refine c_callb (T₄.keeps fun b o e => e) (x := "ord") (by decide) (by decide +kernel : bootBuiltins "ord" = some (.builtin "ord")) ?_
    refine wpAny_items_cons ?_
    refine ldG (m := m₃) hn hm ?_
    refine wpAny_items_nil (PySem.P.ord_of_char ?_)
    refine add_int ?_
    refine wpAny_Constant_int (sub_int ?_)
    refine wpAny_items_nil ?_
    obtain ⟨hg1, hg2⟩ := starts_range (form.fmod 12).toNat (by omega)
    have hc' := hlow c hc
    refine chr_of_range (by omega) (by omega) ⟨⟨_, rfl⟩, ?_⟩
    exact ⟨_, _, rfl, fun b o e => e⟩
  · intro D' s₂ l k hl hlm
    have e1 : l.map (·.1) = (tl x).map fun c => ms [stC' form c] := hlm
    have hn : l.length = x.length := by have := congrArg List.length hlm; simpa [tl_length] using this
    refine SC.join hl rfl (joinOk_of ?_) fun t' k' => ?_
    · rw [show (PySem.Str.ofString "").length = 0 by decide +kernel, e1, one_sum, tl_length]; omega
    · have e : Txt.join "" (l.map (·.1)) = ms ((tl x).map (stC' form)) := by
        apply tl_inj
        rw [tl_join, show tl "" = [] by decide +kernel, intercalate_nil, e1, tl_ms, flat_one]
      rw [e]
      refine h _ _ ?_
      obtain ⟨h₄, tk₄, rfl, hk₄⟩ := k
      exact ⟨h₄, k', rfl, fun b o e => hk₄ b o (F₃.keep b o e)⟩
  · rfl
end
end Mine
end

section
open PySem PySem.W PySem.Calls PyProof.Rows
set_option maxRecDepth 100000
set_option maxHeartbeats 400000
namespace Mine
section
variable {w : World} {A : Around} {E : Value → Shared → Prop} {s : Shared}
theorem mapSeq_lobj (its : List Value) (n : Nat) (f : Array Value → Array Value) : ∃ n', (lobj its n).mapSeq f = { cls := .type "list", data := .seq (f its.toArray) n' } := ⟨_, rfl⟩
/-- x[-1] = v -/
theorem c_setlast {D : Addr} {pre : List Value} {x v : Value} {n : Nat} {t : Tok} {Q : Unit → Shared → Prop} (ho : s.heap.get? D = some (lobj (pre ++ [x]) n))
    (h : ∀ h' n', Heap.SameBut D s.heap h' → h'.get? D = some (lobj (pre ++ [v]) n') → Q () { s with heap := h' }) :
    wpAny (model prog w) A (setItem (.ref D) (.int (-1) t) v) Q E s := by
  have hl : s.heap.IsList D (pre ++ [x]).toArray := ⟨_, ho, rfl, n, rfl⟩
  have hd : (lobj (pre ++ [x]) n).data = .seq (pre ++ [x]).toArray n := rfl
  unfold setItem
  try with_reducible refine wpAny_holding ?_
  first | refine wpAny_bind (wpAny_pure ?_) | skip
  refine wpAny_bind (wpAny_sequenceKey hl.typeIs (by decide) ?_)
  refine wpAny_bind (wpAny_callSpecial?_slot (name := Str.ofString "__setitem__") hl.typeIs slot_list_setitem
    (wpAny_call_entry slot_list_setitem hl.typeIs entry_list_setitem ?_ (args_list_setitem _ _ _)))
  show wpAny _ _ (Builtin.List.listSubscript? (.int (-1) t) >>= _) _ _ s
  refine wpAny_bind (wpAny_listSubscript_int (fitsIndex_neg (by decide) (by decide)) ?_)
  have hidx : seqIndex? (-1) (pre ++ [x]).toArray.size = some pre.length := by
    rw [seqIndex_neg (by decide) (by simp; omega)]; simp; omega
  show wpAny _ _ ((Builtin.List.listItems (.ref D) >>= fun xs => pure ((seqIndex? (Int.negSucc 0) xs.size).bind fun i => xs[i]?.map (i, ·))) >>= _) _ _ s
  refine wpAny_bind (wpAny_bind ?_)
  show wpAny _ _ (seqItems? (.ref D) >>= _) _ _ s
  refine wpAny_bind (wpAny_seqItems ho hd (wpAny_pure (wpAny_pure ?_)))
  rw [show (Int.negSucc 0) = -1 from rfl, hidx]
  have hx : (pre ++ [x]).toArray[pre.length]? = some x := by simp
  simp only [Option.bind_some, hx, Option.map_some]
  obtain ⟨n', hm⟩ := mapSeq_lobj (pre ++ [x]) n (·.setIfInBounds pre.length v)
  have e : ((pre ++ [x]).toArray.setIfInBounds pre.length v) = (pre ++ [v]).toArray := by simp
  show wpAny _ _ (setSeqItemAt D pre.length v >>= _) _ _ s
  have hfin : (s.heap.update D (Obj.mapSeq (·.setIfInBounds pre.length v))).get? D = some (lobj (pre ++ [v]) n') := by
    rw [Heap.get?_update_self _ ho (by rw [hm]; rfl), hm, e]; rfl
  refine wpAny_bind (wpAny_setSeqItemAt ho hd ?_)
  first
    | exact wpAny_bind (wpAny_pure (wpAny_pure ⟨.none, rfl, wpAny_pure (h _ _ (Heap.SameBut.update ..) hfin)⟩))
    | exact wpAny_pure ⟨.none, rfl, wpAny_pure (h _ _ (Heap.SameBut.update ..) hfin)⟩
end
section
variable {w : World} {A : Around} {E : Value → Shared → Prop} {s₀ s : Shared} {L : Addr} {l : List (Str × Value)} {N : List (Addr × Obj)} {env : Env}
theorem intsAre_get : ∀ {vs : List Value} {ns : List Int}, IntsAre vs ns → ∀ {i : Nat} {k : Int}, ns[i]? = some k → ∃ t, vs[i]? = some (.int k t)
  | _, _, .cons m t _, 0, n, e => by simp at e; subst e; exact ⟨t, rfl⟩
  | _, _, .cons _ _ h, i + 1, n, e => by simpa using intsAre_get h (by simpa using e)

/-- for v in LIST OF INTS -/
theorem r_forL {name : Str} {scope : Scope} {f : Addr} {cd : Value} {v : Str} {px pos : Pos} {iter : Expr} {body : List Stmt} {Q : Flow → Shared → Prop} (hh : A.handled = none)
    (J : List Int → List (Str × Value) → List (Addr × Obj) → Prop) {ns : List Int}
    (h : ∀ Q' : Value → Shared → Prop, (∀ S vs n s', (∀ p ∈ N, p.1 ≠ S) → IntsAre vs ns → At s₀ L l ((S, lobj vs n) :: N) s' → Q' (.ref S) s') → wpAny (model prog w) A (eval iter (envOf name scope L f cd)) Q' E s)
    (h0 : J [] l N) (hJN : ∀ pre l N, J pre l N → ∀ p ∈ N, p.2.cls ≠ .type "list_iterator")
    (step : ∀ pre c rest l₁ N₁ u s₁ it o S oS E', ns = pre ++ c :: rest → J pre l₁ N₁ → (∀ p ∈ N₁, p.1 ≠ it ∧ p.1 ≠ S) → At s₀ L ((v, .int c u) :: l₁) ((it, o) :: (S, oS) :: N₁) s₁ →
      wpAny (model prog w) A (execs body (envOf name scope L f cd)) (fun f s₂ => (f = .next ∨ f = .cont) ∧ ∃ l₂ N₂, J (pre ++ [c]) l₂ N₂ ∧ (∀ p ∈ N₂, p.1 ≠ S) ∧ At s₀ L l₂ ((it, o) :: (S, oS) :: N₂) s₂) E' s₁)
    (done : ∀ l' N' s', J ns l' N' → At s₀ L l' N' s' → Q .next s')
    (hk : scope.kind = .function := by rfl) (hl : (envOf name scope L f cd).kindOf v = some .local := by rfl)
    (hs : ∀ y, foldedSetIterable iter (envOf name scope L f cd) y = pure y := by intro _; rfl)
    (ho : ∀ it u, letOwnedTupleGo (.Name v px) it u = pure () := by intro _ _; rfl) :
    wpAny (model prog w) A (exec (.For (.Name v px) iter body [] pos) (envOf name scope L f cd)) Q E s := by
  refine wpAny_For (h _ fun S vs nS s₁ hS hi a => wpAny_pyIter_list ⟨_, a.obj (List.mem_cons_self ..), rfl, nS, rfl⟩ ?_) hs
  have a := a.push { cls := .type "list_iterator", data := .fields #[.ref S, .int 0 0] }
  refine codeAny_forLoop_any (fun n s' => ∃ pre rest l' N' o, n = rest.length + 1 ∧ ns = pre ++ rest ∧ J pre l' N' ∧ (∀ p ∈ N', p.1 ≠ S) ∧ At s₀ L l' ((s₁.heap.objs.size, o) :: (S, lobj vs nS) :: N') s' ∧ s'.heap.IsListIter s₁.heap.objs.size S pre.length ∧ o.cls = .type "list_iterator") ?_ (ns.length + 1)
    ⟨[], ns, l, N, _, rfl, rfl, h0, hS, a, ⟨_, a.obj (List.mem_cons_self ..), rfl, rfl⟩, rfl⟩
  rintro n s' ⟨pre, rest, l', N', o, rfl, hy, hJ, hSN, a, hit, hoc⟩
  have hap : ∀ p ∈ (S, lobj vs nS) :: N', p.1 ≠ s₁.heap.objs.size := fun p hp => a.apart (b := p.1) (o := p.2) (List.mem_cons_of_mem _ hp) (List.mem_cons_self ..) (by
    rw [hoc]
    rcases List.mem_cons.mp hp with rfl | hp
    · exact fun e => absurd (Value.type.inj e) (by decide)
    · exact hJN pre l' N' hJ p hp)
  have hlist : s'.heap.IsList S vs.toArray := ⟨_, a.obj (List.mem_cons_of_mem _ (List.mem_cons_self ..)), rfl, nS, rfl⟩
  cases rest with
  | nil =>
    simp only [List.append_nil] at hy
    have hx : vs.toArray[pre.length]? = none := by
      have := hi.length
      simp [this, hy]
    refine wpAny_pyNext_list_end hh hit hlist hx fun h' hs' => ?_
    exact wpAny_execs_nil (done l' N' _ (hy ▸ hJ) ((a.drop (tk := s'.toks) hs' hap).less fun p hp => List.mem_cons_of_mem _ hp))
  | cons c r =>
    obtain ⟨u, hu⟩ := intsAre_get hi (i := pre.length) (k := c) (by rw [hy]; simp)
    refine wpAny_pyNext_list_item hit hlist (x := .int c u) (by simpa using hu) fun h' hit' hs' => ?_
    obtain ⟨o', ho', hc', hd'⟩ := id hit'
    have a := a.touch (tk := s'.toks) hs' ho' hap
    refine wpAny_of_eq (ho _ _) (wpAny_assign_Name (r_store a (fun s₂ a => ?_) hk hl))
    refine wpAny_mono (step pre c r l' N' _ s₂ _ o' S _ _ hy hJ (fun p hp => ⟨hap p (List.mem_cons_of_mem _ hp), hSN p hp⟩) a) (fun f s₃ q => ?_) fun _ _ e => e
    obtain ⟨hf, l₂, N₂, hJ₂, hSN₂, a₂⟩ := q
    have fin : ∃ m, m < (c :: r).length + 1 ∧ ∃ pre rest l' N' o, m = rest.length + 1 ∧ ns = pre ++ rest ∧ J pre l' N' ∧ (∀ p ∈ N', p.1 ≠ S) ∧ At s₀ L l' ((s₁.heap.objs.size, o) :: (S, lobj vs nS) :: N') s₃ ∧ s₃.heap.IsListIter s₁.heap.objs.size S pre.length ∧ o.cls = .type "list_iterator" :=
      ⟨r.length + 1, by simp, pre ++ [c], r, l₂, N₂, o', rfl, by rw [hy]; simp, hJ₂, hSN₂, a₂, ⟨o', a₂.obj (List.mem_cons_self ..), hc', by rw [hd']; simp⟩, hc'⟩
    rcases hf with rfl | rfl <;> exact fin
end
end Mine
end

section
open PySem PySem.W PySem.Calls PyProof.Rows
set_option maxRecDepth 100000
set_option maxHeartbeats 4000000
namespace Mine
def eightL : List Int := [8481, 8482, 64256, 64257, 64258, 64259, 64260, 64262]
def spl (w : List Nat) (which : Int) : List Nat := w.map (stC' which)
def pieceT (kind which : Int) : List Nat :=
  if kind < 2 then spl [117, 110] which
  else if kind < 4 then spl [107, 110, 111, 119, 110] which
  else if kind = 4 then spl unk which
  else if kind = 5 then spl [117, 110, 107] which ++ [8470] ++ spl [119, 110] which
  else if kind = 6 then List.replicate (1 + which.fmod 2).toNat 45
  else if kind = 7 then [32]
  else if kind = 8 then [9]
  else if kind = 9 then [seven.getD (which.fmod 7).toNat 0]
  else if kind = 10 then [(nothL.getD (which.fmod 27).toNat 0).toNat]
  else if kind = 11 then [(eightL.getD (which.fmod 8).toNat 0).toNat]
  else if kind = 12 then spl [(97 + which.fmod 26).toNat] (which.fdiv 26)
  else if kind = 13 then [(48 + which.fmod 10).toNat]
  else []
def kindOf' (n : Int) : Int := (n.fmod 4992).fmod 16
def whichOf (n : Int) : Int := (n.fmod 4992).fdiv 16
def rowStep (rows : List (List Nat)) (n : Int) : List (List Nat) :=
  if kindOf' n < 14 then rows.dropLast ++ [rows.getLastD [] ++ pieceT (kindOf' n) (whichOf n)] else rows ++ [[]]
def rowT (ns : List Int) : List (List Nat) := (ns.take 12).foldl rowStep [[]]

theorem spl_len (w : List Nat) (k : Int) : (spl w k).length = w.length := by simp [spl]
theorem ite_len {c : Prop} [Decidable c] {a b : List Nat} (ha : a.length ≤ 7) (hb : b.length ≤ 7) : (if c then a else b).length ≤ 7 := by
  by_cases h : c
  · rw [if_pos h]; exact ha
  · rw [if_neg h]; exact hb
theorem piece_len (k n : Int) : (pieceT k n).length ≤ 7 := by
  unfold pieceT
  have : (1 + n.fmod 2).toNat ≤ 2 := by
    have := Int.fmod_lt_of_pos n (b := 2) (by decide); omega
  have s1 : ∀ (w : List Nat) (k : Int), w.length ≤ 7 → (spl w k).length ≤ 7 := fun w k h => by rw [spl_len]; exact h
  refine ite_len (s1 _ _ (by decide)) (ite_len (s1 _ _ (by decide)) (ite_len (s1 _ _ (by decide)) (ite_len ?_ (ite_len ?_ (ite_len ?_ (ite_len ?_ (ite_len ?_ (ite_len ?_ (ite_len ?_ (ite_len (s1 _ _ ?_) (ite_len ?_ ?_)))))))))))
  · rw [List.length_append, List.length_append, spl_len, spl_len]; decide
  · rw [List.length_replicate]; omega
  · show 1 ≤ 7; decide
  · show 1 ≤ 7; decide
  · show 1 ≤ 7; decide
  · show 1 ≤ 7; decide
  · show 1 ≤ 7; decide
  · show 1 ≤ 7; decide
  · show 1 ≤ 7; decide
  · show 0 ≤ 7; decide
def lenSum (rows : List (List Nat)) : Nat := (rows.map List.length).sum
theorem rowStep_ne {rows : List (List Nat)} {n : Int} : rowStep rows n ≠ [] := by
  unfold rowStep; split <;> simp
theorem rowStep_sum {rows : List (List Nat)} {n : Int} (h : rows ≠ []) : lenSum (rowStep rows n) ≤ lenSum rows + 7 := by
  unfold rowStep lenSum
  obtain ⟨r, x, rfl⟩ : ∃ r x, rows = r ++ [x] := ⟨rows.dropLast, rows.getLast h, (List.dropLast_concat_getLast h).symm⟩
  have := piece_len (kindOf' n) (whichOf n)
  split
  · simp; omega
  · simp
theorem rowStep_len {rows : List (List Nat)} {n : Int} (h : rows ≠ []) : (rowStep rows n).length ≤ rows.length + 1 := by
  unfold rowStep
  split
  · simp only [List.length_append, List.length_dropLast, List.length_cons, List.length_nil]; omega
  · simp
theorem rows_facts : ∀ (ns : List Int) (rows : List (List Nat)), rows ≠ [] → ns.foldl rowStep rows ≠ [] ∧ lenSum (ns.foldl rowStep rows) ≤ lenSum rows + 7 * ns.length ∧ (ns.foldl rowStep rows).length ≤ rows.length + ns.length
  | [], rows, h => ⟨h, by simp, by simp⟩
  | n :: r, rows, h => by
    obtain ⟨h1, h2, h3⟩ := rows_facts r (rowStep rows n) rowStep_ne
    have := rowStep_sum (n := n) h
    have h4 := rowStep_len (n := n) h
    rw [List.foldl_cons, List.length_cons]
    exact ⟨h1, by omega, by omega⟩

section
variable {w : World} {P : Addr} {fa : Str → Addr} {b1a b3a : Addr} {mg mb : Str → Option Value} {A : Around} {E : Value → Shared → Prop} {s : Shared}

theorem fm_facts (n : Int) {b : Int} (hb : 0 < b) : 0 ≤ n.fmod b ∧ n.fmod b < b := ⟨Int.fmod_nonneg_of_pos _ hb, Int.fmod_lt_of_pos _ hb⟩

theorem bchr : bootBuiltins "chr" = some (.builtin "chr") := by decide +kernel
/-- an item of a list of ints, the list a value of the moment -/
theorem c_itemR {env : Env} {value slice : Expr} {pos : Pos} {Q : Value → Shared → Prop}
    (h : wpAny (model prog w) A (eval value env) (fun o s₁ => wpAny (model prog w) A (eval slice env) (fun i s₂ => ∃ l k u ns, o = .ref l ∧ i = .int k u ∧ IL s₂.heap l ns ∧ 0 ≤ k ∧ k < ns.length ∧ k < 2 ^ 63 ∧ (∀ t, Q (.int (ns.getD k.toNat 0) t) s₂) ∧
      subscripted slice false (.ref l) (.int k u) = operate [.ref l, .int k u] (getItem (.ref l) (.int k u))) E s₁) E s) :
    wpAny (model prog w) A (eval (.Subscript value slice pos) env) Q E s := by
  refine Subscript_ (wpAny_mono h (fun o s₁ h₁ => wpAny_mono h₁ ?_ fun _ _ e => e) fun _ _ e => e)
  rintro i s₂ ⟨l, k, u, ns, rfl, rfl, ⟨vs, hl, hi⟩, h0, h1, h2, hQ, hs⟩
  exact item_list_intsR hl hi h0 h1 h2 hQ hs
theorem mul_dash {n : Int} (h1 : 1 ≤ n) (h2 : n ≤ 2) : MulOk "-" n ∧ Txt.mul "-" n = ms (List.replicate n.toNat 45) := by
  have : n = 1 ∨ n = 2 := by omega
  rcases this with rfl | rfl
  · exact ⟨⟨by decide, fun _ h => by simp at h, fun _ h => by simp at h⟩, by decide +kernel⟩
  · exact ⟨⟨by decide, fun _ _ => by decide +kernel, fun _ _ => by decide +kernel⟩, by decide +kernel⟩

theorem spelt_lit {x : Str} {t : Tok} {form : Int} {tf : Tok} {l : List Nat} {Q : Value → Shared → Prop} (T : TopF w P fa b1a b3a mg mb s.heap) (hh : A.handled = none) (hroom : A.depth < 900) (hx : tl x = l) (hlow : ∀ c ∈ l, 97 ≤ c ∧ c ≤ 122) (hlen : l.length ≤ 10)
    (h : ∀ t' s', Keeps s s' → Q (.str (ms (spl l form)) t') s') : wpAny (model prog w) A (call (.ref (fa "_law_spelt")) [.str x t, .int form tf]) Q E s := by
  subst hx
  exact spelt_spec T hh hroom (by rw [← tl_length]; omega) hlow h

theorem row_spec {S : Addr} {ns : List Int} {Q : Value → Shared → Prop} (T : TopF w P fa b1a b3a mg mb s.heap) (hh : A.handled = none) (hroom : A.depth < 800) (hS : IL s.heap S ns) (hns : ns.length ≤ sizeLine)
    (h : ∀ D ts s', Keeps s s' → s.heap.get? D = none → s'.heap.IsList D (strValues ts).toArray → ts.map (fun p => tl p.1) = rowT ns → Q (.ref D) s') : wpAny (model prog w) A (call (.ref (fa "_law_row")) [.ref S]) Q E s := by
  have hsl : sizeLine = 16777216 := rfl
  refine r_enter T (by rfl) (by omega) (binds := [("script", .ref S)]) (fun _ _ _ => rfl) (locs rfl) (fun cd s' a => ?_)
  refine wpAny_execs_cons (wpAny_Assign_Name (wpAny_List (wpAny_items_cons (wpAny_Constant_str (wpAny_items_nil ⟨by show 1 ≤ 16777216; decide, ?_⟩)))))
  have a := (a.tok (s'.toks + 1)).push (lobj [.str "" s'.toks] 0)
  generalize hR : ({ s' with toks := s'.toks + 1 } : Shared).heap.objs.size = R at a ⊢
  refine r_store a fun s₁ a => ?_
  refine wpAny_execs_cons ?_
  replace a : At s s.heap.objs.size [("row", .ref R), ("script", .ref S)] [(R, lobj (strValues [("", s'.toks)]) 0)] s₁ := a
  refine r_forL (s₀ := s) (L := s.heap.objs.size) (l := [("row", .ref R), ("script", .ref S)]) (N := [(R, lobj (strValues [("", s'.toks)]) 0)]) hh (ns := ns.take 12)
    (J := fun pre l N => ∃ its n, N = [(R, lobj (strValues its) n)] ∧ look l "row" (.ref R) ∧ its.map (fun p => tl p.1) = pre.foldl rowStep [[]]) ?_ ⟨[("", s'.toks)], 0, rfl, rfl, by show [tl ""] = [[]]; rw [show tl "" = [] by decide +kernel]⟩ ?_ ?_ ?_
  · intro Q' hQ'
    refine wpAny_Subscript_list_slice (r_name a (r_part_none (r_part (r_int a fun t₁ s₂ a => ?_))))
    obtain ⟨vs, hl, hi⟩ := hS.keeps a.keep
    refine ⟨S, vs.toArray, none, some 12, rfl, hl, by simp [hi.length]; exact hns, .none, .int 12 t₁, ?_⟩
    have a₀ := a
    have a := (a.push { cls := .type "slice", data := .fields #[.none, .int 12 t₁, .none] }).push (lobj (slicePick vs.toArray none (some 12) none).toList 0)
    have hsz : (s₂.heap.push { cls := .type "slice", data := .fields #[.none, .int 12 t₁, .none] }).objs.size = s₂.heap.objs.size + 1 := Heap.size_push ..
    refine hQ' _ (slicePick vs.toArray none (some 12) none).toList 0 _ ?_ (slice_ints_uptoW hi (by decide)) ?_
    · intro p hp e
      have h1 := Heap.lt_size (a₀.news p hp).1
      rw [e] at h1
      exact Nat.not_succ_le_self _ (Nat.le_of_lt h1)
    · rw [hsz] at a
      exact a.less (by intro p hp; rcases List.mem_cons.mp hp with rfl | hp; exact List.mem_cons_self ..; exact List.mem_cons_of_mem _ (List.mem_cons_of_mem _ hp))
  · rintro pre l N ⟨its, n, rfl, _⟩ p hp
    simp at hp
    subst hp
    exact fun e => absurd (Value.type.inj e) (by decide)
  · rintro pre c rest l₁ N₁ u s₂ it o S' oS E' hy ⟨its, n, rfl, hlk, hits⟩ hap a
    obtain ⟨hne, hsum, hlen⟩ := rows_facts pre [[]] (by simp)
    rw [← hits] at hne hsum hlen
    have hpre : pre.length < 12 := by
      have := congrArg List.length hy
      simp at this; omega
    rw [show lenSum [[]] = 0 from rfl, List.length_map] at *
    have hk := fm_facts (c.fmod 4992) (b := 16) (by decide)
    have hw := fm_facts c (b := 4992) (by decide)
    have hwh : 0 ≤ whichOf c ∧ whichOf c < 312 := by
      unfold whichOf
      rw [Int.fdiv_eq_ediv_of_nonneg _ (by decide)]; omega
    -- kind, which, piece
    refine wpAny_execs_cons ?_
    refine wpAny_Assign_Name (wpAny_BinOp (wpAny_BinOp (r_name a (r_int a fun t₁ s₃ a => mod_int' (by decide) ?_) look_head)))
    refine r_int (a.tok _) fun t₂ s₄ a => mod_int' (by decide) ?_
    refine r_store (a.tok _) fun s₅ a => ?_
    refine wpAny_execs_cons ?_
    refine wpAny_Assign_Name (wpAny_BinOp (wpAny_BinOp (r_name a (r_int a fun t₁ s₃ a => mod_int' (by decide) ?_) (look_tail (by decide +kernel) look_head))))
    refine r_int (a.tok _) fun t₃ s₆ a => floordiv_int (by decide) ?_ (Or.inl (PyProof.noPylong_small (by decide)))
    refine r_store (a.tok _) fun s₇ a => ?_
    refine wpAny_execs_cons (wpAny_Assign_Name (r_str a fun t₄ s₈ a => r_store a fun s₉ a => ?_))
    obtain ⟨tkk, tww, a⟩ : ∃ tkk tww, At s s.heap.objs.size [("piece", .str (ms []) t₄), ("which", .int (whichOf c) tww), ("kind", .int (kindOf' c) tkk), ("row", .ref R)] [(it, o), (S', oS), (R, lobj (strValues its) n)] s₉ :=
      ⟨_, _, a.only ⟨look_head, look_tail (by decide +kernel) look_head, look_tail (by decide +kernel) (look_tail (by decide +kernel) look_head), look_tail (by decide +kernel) (look_tail (by decide +kernel) (look_tail (by decide +kernel) (look_tail (by decide +kernel) hlk))), trivial⟩⟩
    have T₉ := T.keeps a.keep
    change 0 ≤ kindOf' c ∧ kindOf' c < 16 at hk
    generalize hkd : kindOf' c = kd at a hk
    generalize hwd : whichOf c = wh at a hwh
    refine wpAny_execs_cons (wpAny_mono (Q := fun fl s' => fl = .next ∧ ∃ tp its' n', At s s.heap.objs.size [("piece", .str (ms (pieceT kd wh)) tp), ("row", .ref R)] [(it, o), (S', oS), (R, lobj (strValues its') n')] s' ∧
      its'.map (fun p => tl p.1) = if kd < 14 then its.map (fun p => tl p.1) else its.map (fun p => tl p.1) ++ [[]]) ?_ ?_ fun _ _ e => e)
    · have fin : ∀ pc tp s' l', pieceT kd wh = pc → kd < 14 → look l' "piece" (.str (ms pc) tp) → look l' "row" (.ref R) → At s s.heap.objs.size l' [(it, o), (S', oS), (R, lobj (strValues its) n)] s' →
          Flow.next = .next ∧ ∃ tp its' n', At s s.heap.objs.size [("piece", .str (ms (pieceT kd wh)) tp), ("row", .ref R)] [(it, o), (S', oS), (R, lobj (strValues its') n')] s' ∧
          its'.map (fun p => tl p.1) = if kd < 14 then its.map (fun p => tl p.1) else its.map (fun p => tl p.1) ++ [[]] := by
        intro pc tp s' l' hpc hlt h1 h2 a
        rw [hpc]
        exact ⟨rfl, tp, its, n, a.only ⟨h1, h2, trivial⟩, by rw [if_pos hlt]⟩
      have hd : ∀ env, (A.deeper env).depth < 900 := fun env => by show A.depth + 1 < 900; omega
      -- kind < 2
      refine wpAny_If (wpAny_isTrue_Compare1 (r_name a (r_int a fun t₅ s₁₀ a => lt_int (wpAny_truthy_bool ?_))))
      by_cases h2 : kd < 2
      · rw [if_pos (by simpa using h2)]
        refine wpAny_execs_cons (wpAny_Assign_Name ?_)
        refine r_call T a (by rfl) (wpAny_items_cons (r_str a fun t s a => wpAny_items_cons (r_name a (wpAny_items_nil ⟨a, ?_⟩))))
        refine spelt_lit (T.keeps a.keep) hh (hd _) (show tl "un" = [117, 110] by decide +kernel) (by decide) (by decide) ?_
        intro t' s' k
        refine r_store (a.go k) fun s' a => wpAny_execs_nil ?_
        exact fin _ _ _ _ (by unfold pieceT; rw [if_pos h2]) (by omega) look_head (look_tail (by decide +kernel) rfl) a
      rw [if_neg (by simpa using h2)]
      refine wpAny_execs_cons ?_
      refine wpAny_If (wpAny_isTrue_Compare1 (r_name a (r_int a fun t₅ s₁₀ a => lt_int (wpAny_truthy_bool ?_))))
      by_cases h4 : kd < 4
      · rw [if_pos (by simpa using h4)]
        refine wpAny_execs_cons (wpAny_Assign_Name ?_)
        refine r_call T a (by rfl) (wpAny_items_cons (r_str a fun t s a => wpAny_items_cons (r_name a (wpAny_items_nil ⟨a, ?_⟩))))
        refine spelt_lit (T.keeps a.keep) hh (hd _) (show tl "known" = [107, 110, 111, 119, 110] by decide +kernel) (by decide) (by decide) ?_
        intro t' s' k
        refine r_store (a.go k) fun s' a => wpAny_execs_nil (wpAny_execs_nil ?_)
        exact fin _ _ _ _ (by unfold pieceT; rw [if_neg h2, if_pos h4]) (by omega) look_head (look_tail (by decide +kernel) rfl) a
      rw [if_neg (by simpa using h4)]
      refine wpAny_execs_cons ?_
      refine wpAny_If (wpAny_isTrue_Compare1 (r_name a (r_int a fun t₅ s₁₀ a => PyProof.Rows.eq_int (wpAny_truthy_bool ?_))))
      by_cases e4 : kd = 4
      · rw [if_pos (by simpa using e4)]
        refine wpAny_execs_cons (wpAny_Assign_Name ?_)
        refine r_call T a (by rfl) (wpAny_items_cons (r_str a fun t s a => wpAny_items_cons (r_name a (wpAny_items_nil ⟨a, ?_⟩))))
        refine spelt_lit (T.keeps a.keep) hh (hd _) tl_unk (by decide) (by decide) ?_
        intro t' s' k
        refine r_store (a.go k) fun s' a => wpAny_execs_nil (wpAny_execs_nil (wpAny_execs_nil ?_))
        exact fin _ _ _ _ (by unfold pieceT; rw [if_neg h2, if_neg h4, if_pos e4]) (by omega) look_head (look_tail (by decide +kernel) rfl) a
      rw [if_neg (by simpa using e4)]
      refine wpAny_execs_cons ?_
      refine wpAny_If (wpAny_isTrue_Compare1 (r_name a (r_int a fun t₅ s₁₀ a => PyProof.Rows.eq_int (wpAny_truthy_bool ?_))))
      by_cases e5 : kd = 5
      · rw [if_pos (by simpa using e5)]
        refine wpAny_execs_cons (wpAny_Assign_Name ?_)
        refine wpAny_BinOp ?_
        refine wpAny_BinOp ?_
        refine r_call T a (by rfl) (wpAny_items_cons (r_str a fun t s a => wpAny_items_cons (r_name a (wpAny_items_nil ⟨a, ?_⟩))))
        refine spelt_lit (T.keeps a.keep) hh (hd _) (show tl "unk" = [117, 110, 107] by decide +kernel) (by decide) (by decide) ?_
        intro t' s' k
        replace a := a.go k
        refine r_callb T a (x := "chr") (by decide) bchr (wpAny_items_cons (r_int a fun t s a => wpAny_items_nil ?_))
        refine chr_of_range (by decide) (by decide) ?_
        have l1 : (ms (spl [117, 110, 107] wh)).length = 3 := by rw [← tl_length, tl_ms, spl_len]; rfl
        refine add_str ?_ (by rw [l1]; show 3 + 1 ≤ 16777216; decide)
        intro t₆ tk₆
        replace a := (a.tok (t₆ + 0)).tok tk₆
        refine r_call T a (by rfl) (wpAny_items_cons (r_str a fun t s a => wpAny_items_cons (r_name a (wpAny_items_nil ⟨a, ?_⟩))))
        refine spelt_lit (T.keeps a.keep) hh (hd _) (show tl "wn" = [119, 110] by decide +kernel) (by decide) (by decide) ?_
        intro t' s' k
        replace a := a.go k
        have l2 : (ms (spl [119, 110] wh)).length = 2 := by rw [← tl_length, tl_ms, spl_len]; rfl
        have e0 : ms (spl [117, 110, 107] wh) ++ ⟨#[(8470 : Int).toNat]⟩ = ms (spl [117, 110, 107] wh ++ [8470]) := by
          apply tl_inj; rw [tl_append, tl_ms, tl_ms]; rfl
        rw [e0]
        refine add_str ?_ (by rw [← tl_length, tl_ms, List.length_append, spl_len, l2]; show 3 + 1 + 2 ≤ 16777216; decide)
        intro t₇ tk₇
        replace a := a.tok tk₇
        have e1 : ms (spl [117, 110, 107] wh ++ [8470]) ++ ms (spl [119, 110] wh) = ms (spl [117, 110, 107] wh ++ [8470] ++ spl [119, 110] wh) := by
          apply tl_inj; rw [tl_append, tl_ms, tl_ms, tl_ms]
        rw [e1]
        refine r_store a fun s' a => wpAny_execs_nil (wpAny_execs_nil (wpAny_execs_nil (wpAny_execs_nil (?_))))
        exact fin _ _ _ _ (by unfold pieceT; rw [if_neg h2, if_neg h4, if_neg e4, if_pos e5]) (by omega) look_head (look_tail (by decide +kernel) rfl) a
      rw [if_neg (by simpa using e5)]
      refine wpAny_execs_cons ?_
      refine wpAny_If (wpAny_isTrue_Compare1 (r_name a (r_int a fun t₅ s₁₀ a => PyProof.Rows.eq_int (wpAny_truthy_bool ?_))))
      by_cases e6 : kd = 6
      · rw [if_pos (by simpa using e6)]
        refine wpAny_execs_cons (wpAny_Assign_Name ?_)
        refine wpAny_BinOp (r_str a fun t s a => wpAny_BinOp (r_int a fun t s a => wpAny_BinOp (r_name a (r_int a fun t s a => mod_int' (by decide) ?_))))
        replace a := a.tok (s.toks + 1)
        have hm2 := fm_facts wh (b := 2) (by decide)
        obtain ⟨hok, hval⟩ := mul_dash (n := 1 + wh.fmod 2) (by omega) (by omega)
        refine add_int (SB.mul hok ?_)
        intro t₆ tk₆
        rw [hval]
        replace a := a.tok tk₆
        refine r_store a fun s' a => wpAny_execs_nil (wpAny_execs_nil (wpAny_execs_nil (wpAny_execs_nil (wpAny_execs_nil (?_)))))
        exact fin _ _ _ _ (by unfold pieceT; rw [if_neg h2, if_neg h4, if_neg e4, if_neg e5, if_pos e6]) (by omega) look_head (look_tail (by decide +kernel) rfl) a
      rw [if_neg (by simpa using e6)]
      refine wpAny_execs_cons ?_
      refine wpAny_If (wpAny_isTrue_Compare1 (r_name a (r_int a fun t₅ s₁₀ a => PyProof.Rows.eq_int (wpAny_truthy_bool ?_))))
      by_cases e7 : kd = 7
      · rw [if_pos (by simpa using e7)]
        refine wpAny_execs_cons (wpAny_Assign_Name (r_str a fun t s a => ?_))
        rw [show (" " : Str) = ms [32] by decide +kernel]
        refine r_store a fun s' a => wpAny_execs_nil (wpAny_execs_nil (wpAny_execs_nil (wpAny_execs_nil (wpAny_execs_nil (wpAny_execs_nil (?_))))))
        exact fin _ _ _ _ (by unfold pieceT; rw [if_neg h2, if_neg h4, if_neg e4, if_neg e5, if_neg e6, if_pos e7]) (by omega) look_head (look_tail (by decide +kernel) rfl) a
      rw [if_neg (by simpa using e7)]
      refine wpAny_execs_cons ?_
      refine wpAny_If (wpAny_isTrue_Compare1 (r_name a (r_int a fun t₅ s₁₀ a => PyProof.Rows.eq_int (wpAny_truthy_bool ?_))))
      by_cases e8 : kd = 8
      · rw [if_pos (by simpa using e8)]
        refine wpAny_execs_cons (wpAny_Assign_Name (r_str a fun t s a => ?_))
        rw [show ("\t" : Str) = ms [9] by decide +kernel]
        refine r_store a fun s' a => wpAny_execs_nil (wpAny_execs_nil (wpAny_execs_nil (wpAny_execs_nil (wpAny_execs_nil (wpAny_execs_nil (wpAny_execs_nil (?_)))))))
        exact fin _ _ _ _ (by unfold pieceT; rw [if_neg h2, if_neg h4, if_neg e4, if_neg e5, if_neg e6, if_neg e7, if_pos e8]) (by omega) look_head (look_tail (by decide +kernel) rfl) a
      rw [if_neg (by simpa using e8)]
      refine wpAny_execs_cons ?_
      refine wpAny_If (wpAny_isTrue_Compare1 (r_name a (r_int a fun t₅ s₁₀ a => PyProof.Rows.eq_int (wpAny_truthy_bool ?_))))
      by_cases e9 : kd = 9
      · rw [if_pos (by simpa using e9)]
        have hm7 := fm_facts wh (b := 7) (by decide)
        obtain ⟨i7, hi7⟩ : ∃ i : Nat, wh.fmod 7 = (i : Int) := ⟨(wh.fmod 7).toNat, by omega⟩
        refine wpAny_execs_cons (wpAny_Assign_Name ?_)
        refine r_item (r_str a fun t s a => wpAny_BinOp (r_name a (r_int a fun t s a => mod_int' (by decide) ?_)))
        rw [hi7] at hm7 ⊢
        have hs7 : tl ("/\\:;\"()" : Str) = seven := by decide +kernel
        refine ⟨_, _, i7, _, seven.getD i7 0, rfl, rfl, ?_, by show 7 ≤ 16777216; decide, ?_, rfl, fun _ => rfl⟩
        · rw [hs7]
          have : i7 < 7 := by omega
          have : ∀ j : Fin 7, seven[j.val]? = some (seven.getD j.val 0) := by decide
          exact this ⟨i7, by omega⟩
        intro t₆ s₆ k
        replace a := (a.tok _).go k
        have hpc : pieceT kd wh = [seven.getD i7 0] := by unfold pieceT; rw [if_neg h2, if_neg h4, if_neg e4, if_neg e5, if_neg e6, if_neg e7, if_neg e8, if_pos e9, hi7]; rfl
        refine r_store a fun s' a => wpAny_execs_nil (wpAny_execs_nil (wpAny_execs_nil (wpAny_execs_nil (wpAny_execs_nil (wpAny_execs_nil (wpAny_execs_nil (wpAny_execs_nil (?_))))))))
        exact fin _ _ _ _ hpc (by omega) look_head (look_tail (by decide +kernel) rfl) a
      rw [if_neg (by simpa using e9)]
      refine wpAny_execs_cons ?_
      refine wpAny_If (wpAny_isTrue_Compare1 (r_name a (r_int a fun t₅ s₁₀ a => PyProof.Rows.eq_int (wpAny_truthy_bool ?_))))
      by_cases e10 : kd = 10
      · rw [if_pos (by simpa using e10)]
        have hm := fm_facts wh (b := 27) (by decide)
        refine wpAny_execs_cons (wpAny_Assign_Name ?_)
        refine r_callb T a (x := "chr") (by decide) bchr (wpAny_items_cons ?_)
        refine c_itemR ?_
        refine c_call0 (T.keeps a.keep) (by rfl) ?_
        refine nothing_spec (T.keeps a.keep) hh (by show A.depth + 1 < 1000; omega) ?_
        intro D s' k hIL
        replace a := a.go k
        refine wpAny_BinOp (r_name a (wpAny_Constant_int (mod_int' (by decide) ?_)))
        refine ⟨D, wh.fmod 27, _, nothL, rfl, rfl, hIL.keeps fun b o e => e, hm.1, by show wh.fmod 27 < 27; omega, by omega, fun t₆ => wpAny_items_nil ?_, rfl⟩
        have hr : ∀ j : Fin 27, 0 ≤ nothL.getD j.val 0 ∧ nothL.getD j.val 0 ≤ 1114111 := by decide
        have hr := hr ⟨(wh.fmod 27).toNat, by omega⟩
        refine chr_of_range hr.1 hr.2 ?_
        replace a := a.tok (s'.toks + 1 + 1 + 1)
        refine r_store a fun s' a => wpAny_execs_nil (wpAny_execs_nil (wpAny_execs_nil (wpAny_execs_nil (wpAny_execs_nil (wpAny_execs_nil (wpAny_execs_nil (wpAny_execs_nil (wpAny_execs_nil (?_)))))))))
        exact fin _ _ _ _ (by unfold pieceT; rw [if_neg h2, if_neg h4, if_neg e4, if_neg e5, if_neg e6, if_neg e7, if_neg e8, if_neg e9, if_pos e10]) (by omega) look_head (look_tail (by decide +kernel) rfl) a
      rw [if_neg (by simpa using e10)]
      refine wpAny_execs_cons ?_
      refine wpAny_If (wpAny_isTrue_Compare1 (r_name a (r_int a fun t₅ s₁₀ a => PyProof.Rows.eq_int (wpAny_truthy_bool ?_))))
      by_cases e11 : kd = 11
      · rw [if_pos (by simpa using e11)]
        have hm := fm_facts wh (b := 8) (by decide)
        refine wpAny_execs_cons (wpAny_Assign_Name ?_)
        refine r_callb T a (x := "chr") (by decide) bchr (wpAny_items_cons ?_)
        refine c_itemR ?_
        refine c_intlist (ns := eightL) (by rfl) (by show 8 ≤ 16777216; decide) ?_
        intro D s' k hIL
        replace a := a.go k
        refine wpAny_BinOp (r_name a (wpAny_Constant_int (mod_int' (by decide) ?_)))
        refine ⟨D, wh.fmod 8, _, eightL, rfl, rfl, hIL.keeps fun b o e => e, hm.1, by show wh.fmod 8 < 8; omega, by omega, fun t₆ => wpAny_items_nil ?_, rfl⟩
        have hr : ∀ j : Fin 8, 0 ≤ eightL.getD j.val 0 ∧ eightL.getD j.val 0 ≤ 1114111 := by decide
        have hr := hr ⟨(wh.fmod 8).toNat, by omega⟩
        refine chr_of_range hr.1 hr.2 ?_
        replace a := a.tok (s'.toks + 1 + 1 + 1)
        refine r_store a fun s' a => wpAny_execs_nil (wpAny_execs_nil (wpAny_execs_nil (wpAny_execs_nil (wpAny_execs_nil (wpAny_execs_nil (wpAny_execs_nil (wpAny_execs_nil (wpAny_execs_nil (wpAny_execs_nil (?_))))))))))
        exact fin _ _ _ _ (by unfold pieceT; rw [if_neg h2, if_neg h4, if_neg e4, if_neg e5, if_neg e6, if_neg e7, if_neg e8, if_neg e9, if_neg e10, if_pos e11]) (by omega) look_head (look_tail (by decide +kernel) rfl) a
      rw [if_neg (by simpa using e11)]
      refine wpAny_execs_cons ?_
      refine wpAny_If (wpAny_isTrue_Compare1 (r_name a (r_int a fun t₅ s₁₀ a => PyProof.Rows.eq_int (wpAny_truthy_bool ?_))))
      by_cases e12 : kd = 12
      · rw [if_pos (by simpa using e12)]
        have hm := fm_facts wh (b := 26) (by decide)
        refine wpAny_execs_cons (wpAny_Assign_Name ?_)
        refine r_call T a (by rfl) (wpAny_items_cons ?_)
        refine r_callb T a (x := "chr") (by decide) bchr (wpAny_items_cons ?_)
        refine wpAny_BinOp (r_int a fun t s a => wpAny_BinOp (r_name a (r_int a fun t s a => mod_int' (by decide) ?_)))
        replace a := a.tok (s.toks + 1)
        refine add_int (wpAny_items_nil ?_)
        replace a := a.tok (s.toks + 1 + 1)
        refine chr_of_range (by omega) (by omega) ?_
        replace a := a.tok (s.toks + 1 + 1 + 1)
        refine wpAny_items_cons (wpAny_BinOp (r_name a (r_int a fun t s a => floordiv_int (by decide) ?_ (Or.inl (PyProof.noPylong_small (by decide))))))
        replace a := a.tok (s.toks + 1)
        refine wpAny_items_nil ⟨a, ?_⟩
        refine spelt_lit (T.keeps a.keep) hh (hd _) (l := [(97 + wh.fmod 26).toNat]) rfl (by intro c hc; simp at hc; omega) (by show 1 ≤ 10; decide) ?_
        intro t' s' k
        replace a := a.go k
        refine r_store a fun s' a => wpAny_execs_nil (wpAny_execs_nil (wpAny_execs_nil (wpAny_execs_nil (wpAny_execs_nil (wpAny_execs_nil (wpAny_execs_nil (wpAny_execs_nil (wpAny_execs_nil (wpAny_execs_nil (wpAny_execs_nil (?_)))))))))))
        exact fin _ _ _ _ (by unfold pieceT; rw [if_neg h2, if_neg h4, if_neg e4, if_neg e5, if_neg e6, if_neg e7, if_neg e8, if_neg e9, if_neg e10, if_neg e11, if_pos e12]) (by omega) look_head (look_tail (by decide +kernel) rfl) a
      rw [if_neg (by simpa using e12)]
      refine wpAny_execs_cons ?_
      refine wpAny_If (wpAny_isTrue_Compare1 (r_name a (r_int a fun t₅ s₁₀ a => PyProof.Rows.eq_int (wpAny_truthy_bool ?_))))
      by_cases e13 : kd = 13
      · rw [if_pos (by simpa using e13)]
        have hm := fm_facts wh (b := 10) (by decide)
        refine wpAny_execs_cons (wpAny_Assign_Name ?_)
        refine r_callb T a (x := "chr") (by decide) bchr (wpAny_items_cons ?_)
        refine wpAny_BinOp (r_int a fun t s a => wpAny_BinOp (r_name a (r_int a fun t s a => mod_int' (by decide) ?_)))
        replace a := a.tok (s.toks + 1)
        refine add_int (wpAny_items_nil ?_)
        replace a := a.tok (s.toks + 1 + 1)
        refine chr_of_range (by omega) (by omega) ?_
        replace a := a.tok (s.toks + 1 + 1 + 1)
        refine r_store a fun s' a => wpAny_execs_nil (wpAny_execs_nil (wpAny_execs_nil (wpAny_execs_nil (wpAny_execs_nil (wpAny_execs_nil (wpAny_execs_nil (wpAny_execs_nil (wpAny_execs_nil (wpAny_execs_nil (wpAny_execs_nil (wpAny_execs_nil (?_))))))))))))
        exact fin _ _ _ _ (by unfold pieceT; rw [if_neg h2, if_neg h4, if_neg e4, if_neg e5, if_neg e6, if_neg e7, if_neg e8, if_neg e9, if_neg e10, if_neg e11, if_neg e12, if_pos e13]) (by omega) look_head (look_tail (by decide +kernel) rfl) a
      rw [if_neg (by simpa using e13)]
      have hRN : ∀ p ∈ [(it, o), (S', oS)], p.1 ≠ R := by
        intro p hp
        have h1 := hap (R, lobj (strValues its) n) (by simp)
        simp at hp
        rcases hp with rfl | rfl
        · exact fun e => h1.1 e.symm
        · exact fun e => h1.2 e.symm
      replace a := a.less (N' := [(R, lobj (strValues its) n), (it, o), (S', oS)]) (by intro p hp; simp at hp ⊢; rcases hp with h | h | h <;> simp [h])
      refine wpAny_execs_cons (r_append a rfl hRN (by rw [strValues, List.length_map]; have h1 : its.length ≤ 1 + pre.length := hlen; omega) (r_str a fun t s a => ⟨a, fun s' a => ?_⟩))
      refine wpAny_execs_nil (wpAny_execs_nil (wpAny_execs_nil (wpAny_execs_nil (wpAny_execs_nil (wpAny_execs_nil (wpAny_execs_nil (wpAny_execs_nil (wpAny_execs_nil (wpAny_execs_nil (wpAny_execs_nil (wpAny_execs_nil (?_))))))))))))
      have hpc : pieceT kd wh = [] := by unfold pieceT; rw [if_neg h2, if_neg h4, if_neg e4, if_neg e5, if_neg e6, if_neg e7, if_neg e8, if_neg e9, if_neg e10, if_neg e11, if_neg e12, if_neg e13]
      rw [hpc]
      refine ⟨rfl, t₄, its ++ [(("" : Str), t)], n + 1, ?_, ?_⟩
      · rw [show strValues (its ++ [(("" : Str), t)]) = strValues its ++ [Value.str "" t] by simp [strValues]]
        exact (a.less (N' := [(it, o), (S', oS), (R, lobj (strValues its ++ [Value.str "" t]) (n + 1))]) (by intro p hp; simp at hp ⊢; rcases hp with h | h | h <;> simp [h])).only ⟨rfl, rfl, trivial⟩
      · rw [if_neg (by omega), List.map_append]
        rw [show [(("" : Str), t)].map (fun p => tl p.1) = [[]] by show [tl ""] = [[]]; rw [show tl "" = [] by decide +kernel]]
    · rintro fl s₁₀ ⟨rfl, tp, its', n', a, hits'⟩
      have hne' : its' ≠ [] := by
        rintro rfl
        by_cases h14 : kd < 14
        · rw [if_pos h14] at hits'; exact hne hits'.symm
        · rw [if_neg h14] at hits'; simp at hits'
      obtain ⟨pr, x, rfl⟩ : ∃ r x, its' = r ++ [x] := ⟨its'.dropLast, its'.getLast hne', (List.dropLast_concat_getLast hne').symm⟩
      obtain ⟨x, ux⟩ := x
      have hxl : x.length ≤ 84 := by
        have h1 := congrArg lenSum hits'
        have h2 : lenSum (if kd < 14 then its.map (fun p => tl p.1) else its.map (fun p => tl p.1) ++ [[]]) ≤ 7 * pre.length := by
          split
          · omega
          · unfold lenSum at hsum ⊢; rw [List.map_append, List.sum_append]; simp at hsum ⊢; omega
        rw [← h1] at h2
        unfold lenSum at h2
        rw [List.map_append, List.map_append, List.sum_append] at h2
        simp at h2
        rw [tl_length] at h2; omega
      have hpl : (ms (pieceT kd wh)).length ≤ 7 := by rw [← tl_length, tl_ms]; exact piece_len _ _
      have hsv : strValues (pr ++ [(x, ux)]) = strValues pr ++ [Value.str x ux] := by simp [strValues]
      rw [hsv] at a
      refine wpAny_execs_cons (wpAny_Assign_Subscript ?_)
      refine wpAny_BinOp ?_
      refine Subscript_ (r_name a (r_negint a fun t₅ s₁₁ a => ?_))
      refine subscriptTail_builtinR (x := .str x ux) (Heap.IsList.typeIs (items := (strValues pr ++ [Value.str x ux]).toArray) ⟨_, a.obj (List.mem_cons_of_mem _ (List.mem_cons_of_mem _ (List.mem_cons_self ..))), rfl, n', rfl⟩) slot_list_getitem.lookup ?_ rfl
      refine wpAny_getItem_list_neg (items := (strValues pr ++ [Value.str x ux]).toArray) (x := .str x ux) ⟨_, a.obj (List.mem_cons_of_mem _ (List.mem_cons_of_mem _ (List.mem_cons_self ..))), rfl, n', rfl⟩ (by decide) (by simp; omega) (by decide) ?_ ⟨rfl, ?_⟩
      · have : (-1 + ((strValues pr ++ [Value.str x ux]).toArray.size : Int)).toNat = (strValues pr).length := by simp; omega
        rw [this]; simp
      refine r_name a ?_
      refine add_str ?_ (by omega)
      intro t₆ tk₆
      replace a := a.tok tk₆
      refine r_name a ?_
      refine r_negint a fun t₇ s₁₂ a => ?_
      have hRN : ∀ p ∈ [(it, o), (S', oS)], p.1 ≠ R := by
        intro p hp
        have h1 := hap (R, lobj (strValues its) n) (by simp)
        simp at hp
        rcases hp with rfl | rfl
        · exact fun e => h1.1 e.symm
        · exact fun e => h1.2 e.symm
      replace a := a.less (N' := [(R, lobj (strValues pr ++ [Value.str x ux]) n'), (it, o), (S', oS)]) (by intro p hp; simp at hp ⊢; rcases hp with h | h | h <;> simp [h])
      refine c_setlast (a.obj (List.mem_cons_self ..)) fun h' n'' hs' ho' => ?_
      replace a := a.touch (tk := s₁₂.toks) hs' ho' hRN
      refine wpAny_execs_nil ⟨.inl rfl, [("row", .ref R)], [(R, lobj (strValues (pr ++ [(x ++ ms (pieceT kd wh), t₆)])) n'')], ⟨_, _, rfl, rfl, ?_⟩, ?_, ?_⟩
      · rw [List.foldl_append, ← hits]
        show _ = rowStep _ c
        unfold rowStep
        rw [hkd, hwd]
        by_cases h14 : kd < 14
        · rw [if_pos h14] at hits' ⊢
          rw [← hits']
          simp [tl_append, tl_ms]
        · rw [if_neg h14] at hits' ⊢
          have hp0 : pieceT kd wh = [] := by
            unfold pieceT
            rw [if_neg (by omega), if_neg (by omega), if_neg (by omega), if_neg (by omega), if_neg (by omega), if_neg (by omega), if_neg (by omega), if_neg (by omega), if_neg (by omega), if_neg (by omega), if_neg (by omega), if_neg (by omega)]
          rw [← hits']
          simp [tl_append, tl_ms, hp0]
      · intro p hp
        simp at hp
        subst hp
        exact (hap (R, lobj (strValues its) n) (by simp)).2
      · rw [show strValues (pr ++ [(x ++ ms (pieceT kd wh), t₆)]) = strValues pr ++ [Value.str (x ++ ms (pieceT kd wh)) t₆] by simp [strValues]]
        exact (a.less (N' := [(it, o), (S', oS), (R, lobj (strValues pr ++ [Value.str (x ++ ms (pieceT kd wh)) t₆]) n'')]) (by intro p hp; simp at hp ⊢; rcases hp with h | h | h <;> simp [h])).only ⟨rfl, trivial⟩
  · rintro l' N' s' ⟨its, n, rfl, hlk, hits⟩ a
    refine wpAny_execs_cons (wpAny_Return_some (r_name a ?_ hlk))
    exact h R its _ a.keeps (a.news _ (List.mem_cons_self ..)).2.2 ⟨_, a.obj (List.mem_cons_self ..), rfl, n, rfl⟩ hits
end
end Mine
end

section
open PySem PySem.W PySem.Calls PyProof.Rows
set_option maxRecDepth 100000
set_option maxHeartbeats 400000
namespace Mine
/-- values that are texts, by their int keys -/
inductive TK : List (Int × Value) → List (Int × Str) → Prop
  | nil : TK [] []
  | cons {k : Int} {x : Str} {t : Tok} {kvs : List (Int × Value)} {l : List (Int × Str)} : TK kvs l → TK ((k, .str x t) :: kvs) ((k, x) :: l)
theorem TK.keys {kvs : List (Int × Value)} {l : List (Int × Str)} (x : TK kvs l) : kvs.map (·.1) = l.map (·.1) := by
  induction x with
  | nil => rfl
  | cons _ ih => simp [ih]
theorem TK.append {a c : List (Int × Value)} {b d : List (Int × Str)} (x : TK a b) (y : TK c d) : TK (a ++ c) (b ++ d) := by
  induction x with
  | nil => exact y
  | cons _ ih => exact .cons ih
def LookOk (f : Int → Option Value) (l : List (Int × Str)) : Prop := ∀ k, match l.lookup k with | some x => ∃ t, f k = some (.str x t) | none => f k = none
theorem TK.look {kvs : List (Int × Value)} {l : List (Int × Str)} (x : TK kvs l) : LookOk (valueAt kvs) l := by
  induction x with
  | nil => intro k; rfl
  | @cons k x t kvs l _ ih =>
    intro j
    rw [List.lookup_cons]
    by_cases e : j = k
    · subst e
      rw [beq_self_eq_true]
      exact ⟨t, by simp [valueAt]⟩
    · rw [show (j == k) = false by simpa using e]
      have : valueAt ((k, Value.str x t) :: kvs) j = valueAt kvs j := by
        have e' : ¬ k = j := fun q => e q.symm
        simp [valueAt, List.find?_cons, e']
      rw [this]; exact ih j
def constPairs : List (Option Expr) → List Expr → Option (List (Int × Str))
  | [], [] => some []
  | some (.Constant (.int k) _ _) :: ks, .Constant (.str x) _ _ :: vs => (constPairs ks vs).map ((k, x) :: ·)
  | _, _ => none
section
variable {w : World} {A : Around} {E : Value → Shared → Prop} {env : Env} {pos : Pos}
theorem constPairs_cons {k : Expr} {ks : List (Option Expr)} {vs : List Expr} {l : List (Int × Str)} (hc : constPairs (some k :: ks) vs = some l) :
    ∃ i n1 p1 x n2 p2 vs' l', k = .Constant (.int i) n1 p1 ∧ vs = .Constant (.str x) n2 p2 :: vs' ∧ constPairs ks vs' = some l' ∧ l = (i, x) :: l' := by
  unfold constPairs at hc
  split at hc
  · rename_i heq; cases heq
  · rename_i heq
    cases heq
    obtain ⟨l', hl', rfl⟩ := Option.map_eq_some_iff.mp hc
    exact ⟨_, _, _, _, _, _, _, _, rfl, rfl, hl', rfl⟩
  · cases hc
theorem c_pairs : ∀ {ks : List (Option Expr)} {vs : List Expr} {l : List (Int × Str)} {s : Shared} {Q : List (Value × Value) → Shared → Prop}, constPairs ks vs = some l →
    (∀ ps tk kvs, Carries (intKind prog w) ps kvs → TK kvs l → Q ps { s with toks := tk }) → wpAny (model prog w) A (evalPairs (pairTrees ks vs env pos)) Q E s
  | [], vs, l, s, Q, hc, h => by
    cases vs with
    | nil => cases hc; exact pairTrees_nil_walk (h [] s.toks [] trivial .nil)
    | cons _ _ => cases hc
  | none :: _, vs, l, s, Q, hc, h => by cases vs <;> cases hc
  | some k :: ks, vs, l, s, Q, hc, h => by
    obtain ⟨i, n1, p1, x, n2, p2, vs', l', rfl, rfl, hl', rfl⟩ := constPairs_cons hc
    refine pairTrees_cons_walk (wpAny_Constant_int (wpAny_Constant_str ?_))
    refine c_pairs hl' fun ps tk kvs c t => ?_
    exact h _ tk ((i, .str x _) :: kvs) ⟨by simp [intKind, Value.isInt], rfl, c⟩ (.cons t)
theorem constPairs_all : ∀ {ks : List (Option Expr)} {vs : List Expr} {l : List (Int × Str)}, constPairs ks vs = some l → ks.all (·.isSome) = true ∧ ks.length = vs.length ∧ ks.length = l.length
  | [], vs, l, hc => by
    cases vs with
    | nil => cases hc; exact ⟨rfl, rfl, rfl⟩
    | cons _ _ => cases hc
  | none :: _, vs, l, hc => by cases vs <;> cases hc
  | some k :: ks, vs, l, hc => by
    obtain ⟨i, n1, p1, x, n2, p2, vs', l', rfl, rfl, hl', rfl⟩ := constPairs_cons hc
    obtain ⟨h1, h2, h3⟩ := constPairs_all hl'
    exact ⟨by simpa using h1, by simpa using h2, by simpa using h3⟩
/-- a short display of ints and texts -/
theorem c_dict {ks : List (Option Expr)} {vs : List Expr} {l : List (Int × Str)} {s : Shared} {Q : Value → Shared → Prop} (hc : constPairs ks vs = some l) (h0 : ks ≠ []) (hlen : ks.length ≤ 15) (hn : (l.map (·.1)).Nodup)
    (h : ∀ h' tk kvs, h'.DictOf (intKind prog w) s.heap.objs.size kvs → TK kvs l → Heap.SameBut s.heap.objs.size (s.heap.push { cls := .type "dict", data := .dict #[] }) h' → Q (.ref s.heap.objs.size) { s with heap := h', toks := tk }) :
    wpAny (model prog w) A (eval (.Dict ks vs pos) env) Q E s := by
  obtain ⟨h1, h2, h3⟩ := constPairs_all hc
  refine wpAny_Dict_walk (knd := intKind prog w) h1 h2 h0 hlen (c_pairs hc fun ps tk kvs c t => ⟨kvs, c, Heap.DictOf.new _, fun h' hd hs => ?_⟩)
  rw [merged_nil_of_nodup kvs (by rw [t.keys]; exact hn)] at hd
  exact h h' _ kvs hd t hs
end
end Mine
end

section
open PySem PySem.W PySem.Calls PyProof.Rows
set_option maxRecDepth 100000
set_option maxHeartbeats 4000000
namespace Mine
def sevL : List (Int × Str) := [(8470, "no"), (8481, "tel"), (8482, "tm"), (64256, "ff"), (64257, "fi"), (64258, "fl"), (64259, "ffi"), (64260, "ffl"), (64262, "st")]
def readC (c : Nat) : List Nat :=
  if 65 ≤ c ∧ c ≤ 90 then [c + 32] else if c < 128 then [c] else match sevL.lookup (c : Int) with
    | some x => tl x
    | none => if 119808 ≤ c ∧ c ≤ 120483 then [97 + (c - 119808) % 52] else if nothL.any (· == (c : Int)) then [] else [c]
def readT (x : List Nat) : List Nat := x.flatMap readC
theorem m52 {c : Nat} (h : 119808 ≤ c) : 97 + (c - 119808) % 52 = (97 + ((c : Int) - 119808).fmod 52).toNat := by
  obtain ⟨d, rfl⟩ : ∃ d, c = 119808 + d := ⟨c - 119808, by omega⟩
  have e : (((119808 + d : Nat) : Int) - 119808) = (d : Int) := by omega
  rw [e, Int.fmod_eq_emod_of_nonneg _ (by decide)]
  omega
theorem sev_len {k : Int} {x : Str} (h : sevL.lookup k = some x) : x.length ≤ 3 := by
  have : (k, x) ∈ sevL := by
    have := List.lookup_eq_some_iff.mp h
    obtain ⟨a, b, e, _⟩ := this
    rw [e]; simp
  have h2 : ∀ p ∈ sevL, p.2.length ≤ 3 := by decide +kernel
  exact h2 _ this
theorem readC_len (c : Nat) : (readC c).length ≤ 3 := by
  unfold readC
  split
  · simp
  split
  · simp
  split
  · rename_i x h
    rw [tl_length]; exact sev_len h
  split
  · simp
  split
  · simp
  · simp
theorem readT_len : ∀ (x : List Nat), (readT x).length ≤ 3 * x.length
  | [] => by simp [readT]
  | c :: r => by
    have h1 := readT_len r
    have h2 := readC_len c
    unfold readT at *
    rw [List.flatMap_cons, List.length_append, List.length_cons]; omega
theorem readT_snoc (x : List Nat) (c : Nat) : readT (x ++ [c]) = readT x ++ readC c := by simp [readT]

section
variable {s₀ s : Shared} {L : Addr} {l : List (Str × Value)} {N : List (Addr × Obj)}
theorem At.add {b : Addr} {o : Obj} (a : At s₀ L l N s) (h : s.heap.get? b = some o) (hb : s₀.heap.get? b = none) (hL : b ≠ L) : At s₀ L l ((b, o) :: N) s :=
  ⟨a.fr, fun p hp => by
    rcases List.mem_cons.mp hp with rfl | hp
    · exact ⟨h, hL, hb⟩
    · exact a.news p hp, a.same⟩
theorem At.notL {b : Addr} (a : At s₀ L l N s) (h : s.heap.get? b = none) : b ≠ L := by
  obtain ⟨m, F, _⟩ := a.fr
  obtain ⟨o, _, _, ho, _⟩ := F.ns
  rintro rfl
  rw [h] at ho; cases ho
end
theorem ne_sys {n m : Nat} (h : n < m) : (m == n) = false := by simp; omega

section
variable {w : World} {P : Addr} {fa : Str → Addr} {b1a b3a : Addr} {mg mb : Str → Option Value} {A : Around} {E : Value → Shared → Prop} {s : Shared}
theorem bchr' : bootBuiltins "chr" = some (.builtin "chr") := by decide +kernel
/-- lo <= x <= hi -/
theorem r_chain {name : Str} {scope : Scope} {L f : Addr} {cd : Value} {l : List (Str × Value)} {N : List (Addr × Obj)} {s₀ : Shared} {x : Str} {lo hi c : Int} {t : Tok} {n1 n2 : Nat} {p1 p2 p3 pos : Pos} {whole : Sem Value} {Q : Bool → Shared → Prop} (a : At s₀ L l N s)
    (hv : l.lookup x = some (.int c t)) (h : ∀ s', At s₀ L l N s' → Q (decide (lo ≤ c ∧ c ≤ hi)) s')
    (hk : scope.kind = .function := by rfl) (hl : (envOf name scope L f cd).kindOf x = some .local := by rfl) (hd : (x == ("__debug__" : Str)) = false := by decide) :
    wpAny (model prog w) A (isTrue (.Compare (.Constant (.int lo) n1 p1) [.LtE, .LtE] [.Name x p2, .Constant (.int hi) n2 p3] pos) (envOf name scope L f cd) whole) Q E s := by
  refine isTrue_chain (r_int a fun t₉ s₉ a => test_link (r_name a (le_int (wpAny_truthy_bool ?_)) hv hk hl hd))
  by_cases h1 : lo ≤ c
  · rw [if_pos (by simpa using h1)]
    refine PyProof.Rows.test_last (r_int a fun t s a => le_int (wpAny_truthy_bool ?_))
    have := h s a
    rwa [show decide (lo ≤ c ∧ c ≤ hi) = decide (c ≤ hi) by simp [h1]] at this
  · rw [if_neg (by simpa using h1)]
    have := h s₉ a
    rwa [show decide (lo ≤ c ∧ c ≤ hi) = false by simp [h1]] at this
theorem read_spec {x : Str} {t : Tok} {Q : Value → Shared → Prop} (T : TopF w P fa b1a b3a mg mb s.heap) (hh : A.handled = none) (hroom : A.depth < 900) (hx : x.length ≤ 1000000) (hch : ∀ c ∈ tl x, c ≤ 1114111)
    (h : ∀ t' s', Keeps s s' → Q (.str (ms (readT (tl x))) t') s') : wpAny (model prog w) A (call (.ref (fa "_law_read")) [.str x t]) Q E s := by
  have hsl : sizeLine = 16777216 := rfl
  refine r_enter T (by rfl) (by omega) (binds := [("text", .str x t)]) (fun _ _ _ => rfl) (locs rfl) (fun cd s' a => ?_)
  refine wpAny_execs_cons ?_
  refine wpAny_Assign_Name ?_ ?_
  rotate_left
  · rfl
  with_reducible refine c_dict (l := sevL) ?_ ?_ ?_ ?_ ?_
  · rfl
  · simp
  · decide
  · decide
  intro h₁ tk kvs hd ht hs
  have hsys : (s'.heap.objs.size == sysModules) = false := by
    obtain ⟨o, _, _, ho, _⟩ := (T.keeps a.keep).g
    exact ne_sys (Nat.lt_of_le_of_lt (by decide : sysModules ≤ mainGlobals) (Heap.lt_size ho))
  obtain ⟨oD, es, ep, hoD, hcl, hdat, hrest⟩ := id hd
  have a := (a.push { cls := .type "dict", data := .dict #[] }).touch (tk := tk) hs hoD (fun p hp => nomatch hp)
  have hDL := (a.news _ (List.mem_cons_self ..)).2
  generalize s'.heap.objs.size = D at a hsys hd hDL hoD hs
  have hmap : ∀ h : Heap, h.get? D = some oD → h.MapOf (intKind prog w) D (valueAt kvs) := by
    intro h e
    obtain ⟨o, es, ep, ho, r⟩ := hd.mapOf
    rw [hoD] at ho; cases ho
    exact ⟨oD, es, ep, e, r⟩
  have hlook := ht.look
  refine r_store a fun s₂ a => ?_
  refine wpAny_execs_cons (wpAny_Assign_Name ?_)
  refine c_call0 (T.keeps a.keep) (by rfl) ?_
  refine nothing_specF (T.keeps a.keep) hh (by show A.depth + 1 < 1000; omega) ?_
  intro I s₃ k hf hIL
  have hIL' := a.notL hf
  have hI0 := none_of_keeps a.keep hf
  replace a := a.go k
  obtain ⟨vs, hl, hi⟩ := hIL
  obtain ⟨oI, hoI, hcI, nI, hdI⟩ := id hl
  replace a := a.add hoI hI0 hIL'
  have hlist : ∀ h : Heap, h.get? I = some oI → h.IsList I vs.toArray := fun h e => ⟨oI, e, hcI, nI, hdI⟩
  refine r_store a fun s₄ a => ?_
  refine wpAny_execs_cons (wpAny_Assign_Name (r_str a fun t₅ s₅ a => r_store a fun s₆ a => ?_))
  refine wpAny_execs_cons ?_
  replace a : At s s.heap.objs.size [("told", .str (ms (readT [])) t₅), ("nothing", .ref I), ("several", .ref D), ("text", .str x t)] [(I, oI), (D, oD)] s₆ := a
  refine r_forS (y := x) hh (fun pre l N => N = [(I, oI), (D, oD)] ∧ ∃ t, look l "told" (.str (ms (readT pre)) t) ∧ look l "nothing" (.ref I) ∧ look l "several" (.ref D)) (fun Q' q => r_name a (q t _ a)) ⟨rfl, t₅, rfl, rfl, rfl⟩ ?_ ?_ ?_
  · rintro pre l N ⟨rfl, _⟩ p hp ty hty
    simp at hp
    rcases hp with rfl | rfl
    · rw [hcI]; rcases hty with rfl | rfl <;> decide
    · rw [hcl.1]; rcases hty with rfl | rfl <;> decide
  · rintro pre c rest l₁ _ u s₁ it o E' hy ⟨rfl, t₆, hl1, hl2, hl3⟩ hap a
    have hpre : pre.length < x.length := by
      rw [← tl_length, hy]; simp
    have hrl := readT_len pre
    have hcm : c ≤ 1114111 := hch c (by rw [hy]; simp)
    have hml : (ms (readT pre)).length ≤ 3 * x.length := by rw [← tl_length, tl_ms]; omega
    replace a : At s s.heap.objs.size [("sign", .str ⟨#[c]⟩ u), ("told", .str (ms (readT pre)) t₆), ("nothing", .ref I), ("several", .ref D)] [(it, o), (I, oI), (D, oD)] s₁ :=
      a.only ⟨look_head, look_tail (by decide +kernel) hl1, look_tail (by decide +kernel) hl2, look_tail (by decide +kernel) hl3, trivial⟩
    refine wpAny_execs_cons (wpAny_Assign_Name (r_ord T a fun t₇ s₇ k => ?_))
    refine r_store (a.go k) fun s₈ a => ?_
    have fin : ∀ t s' l', look l' "told" (.str (ms (readT pre ++ readC c)) t) → look l' "nothing" (.ref I) → look l' "several" (.ref D) → At s s.heap.objs.size l' [(it, o), (I, oI), (D, oD)] s' →
        (Flow.next = .next ∨ Flow.next = .cont) ∧ ∃ l₂ N₂, (N₂ = [(I, oI), (D, oD)] ∧ ∃ t, look l₂ "told" (.str (ms (readT (pre ++ [c]))) t) ∧ look l₂ "nothing" (.ref I) ∧ look l₂ "several" (.ref D)) ∧ At s s.heap.objs.size l₂ ((it, o) :: N₂) s' := by
      intro t s' l' h1 h2 h3 a
      exact ⟨.inl rfl, l', _, ⟨rfl, t, by rw [readT_snoc]; exact h1, h2, h3⟩, a⟩
    have one : ∀ c : Nat, ms (readT pre) ++ ⟨#[c]⟩ = ms (readT pre ++ [c]) := fun c => by apply tl_inj; rw [tl_append, tl_ms, tl_ms]; rfl
    -- 65 <= code <= 90
    refine wpAny_execs_cons ?_
    refine wpAny_If (r_chain a look_head fun s₉ a => ?_)
    by_cases h65 : 65 ≤ c ∧ c ≤ 90
    · rw [if_pos (by simp; omega)]
      refine wpAny_execs_cons (wpAny_Assign_Name (wpAny_BinOp (r_name a ?_)))
      refine r_callb T a (x := "chr") (by decide) bchr' (wpAny_items_cons ?_)
      refine wpAny_BinOp (r_name a (r_int a fun t s a => add_int (wpAny_items_nil ?_)))
      refine chr_of_range (by omega) (by omega) ?_
      refine add_str ?_ (by show _ + 1 ≤ _; omega)
      intro t₁ tk₁
      rw [one]
      replace a := (a.tok (s.toks + 1 + 1)).tok tk₁
      refine r_store a fun s' a => wpAny_execs_nil (wpAny_execs_nil ?_)
      refine fin t₁ _ _ ?_ (look_tail (by decide +kernel) rfl) (look_tail (by decide +kernel) rfl) a
      rw [show readC c = [((c : Int) + 32).toNat] by unfold readC; rw [if_pos h65]; congr 1]
      exact look_head
    rw [if_neg (by simp; omega)]
    refine wpAny_execs_cons ?_
    refine wpAny_If (wpAny_isTrue_Compare1 (r_name a (r_int a fun t₅ s₁₀ a => lt_int (wpAny_truthy_bool ?_))))
    by_cases h128 : c < 128
    · rw [if_pos (by simp; omega)]
      refine wpAny_execs_cons (wpAny_Assign_Name (wpAny_BinOp (r_name a ?_)))
      refine r_name a ?_
      refine add_str ?_ (by show _ + 1 ≤ _; omega)
      intro t₁ tk₁
      rw [one]
      refine r_store (a.tok tk₁) fun s' a => wpAny_execs_nil (wpAny_execs_nil (wpAny_execs_nil ?_))
      refine fin t₁ _ _ ?_ (look_tail (by decide +kernel) rfl) (look_tail (by decide +kernel) rfl) a
      rw [show readC c = [c] by unfold readC; rw [if_neg h65, if_pos h128]]
      exact look_head
    rw [if_neg (by simp; omega)]
    refine wpAny_execs_cons ?_
    refine wpAny_If (wpAny_isTrue_Compare1 (r_name a (r_name a ?_)))
    refine wpAny_in_of (knd := intKind prog w) (k := (c : Int)) (by simp [intKind, Value.isInt]) hsys (hmap _ (a.obj (by simp))) (wpAny_truthy_bool ?_)
    replace a := a.tok (s₁₀.toks + 1)
    have hlc := hlook (c : Int)
    cases hsv : sevL.lookup (c : Int) with
    | some y =>
      rw [hsv] at hlc
      obtain ⟨ty, hty⟩ := hlc
      rw [if_pos (by rw [hty]; rfl)]
      refine wpAny_execs_cons (wpAny_Assign_Name (wpAny_BinOp (r_name a ?_)))
      refine Subscript_ (r_name a (r_name a ?_))
      refine subscriptTail_builtinR (x := .str y ty) (hmap _ (a.obj (by simp))).typeIs slot_dict_getitem.lookup ?_ rfl
      refine wpAny_getItem_of (knd := intKind prog w) (k := (c : Int)) (by simp [intKind, Value.isInt]) (hmap _ (a.obj (by simp))) hty ⟨rfl, ?_⟩
      have hyl := sev_len hsv
      refine add_str ?_ (by omega)
      intro t₁ tk₁
      rw [show ms (readT pre) ++ y = ms (readT pre ++ tl y) by apply tl_inj; rw [tl_append, tl_ms, tl_ms]]
      refine r_store (a.tok tk₁) fun s' a => wpAny_execs_nil (wpAny_execs_nil (wpAny_execs_nil (wpAny_execs_nil ?_)))
      refine fin t₁ _ _ ?_ (look_tail (by decide +kernel) rfl) (look_tail (by decide +kernel) rfl) a
      rw [show readC c = tl y by unfold readC; rw [if_neg h65, if_neg h128, hsv]]
      exact look_head
    | none =>
      rw [hsv] at hlc
      rw [if_neg (by rw [hlc]; decide)]
      refine wpAny_execs_cons ?_
      refine wpAny_If (r_chain a look_head fun s₉ a => ?_)
      by_cases hm : 119808 ≤ c ∧ c ≤ 120483
      · rw [if_pos (by simp; omega)]
        refine wpAny_execs_cons (wpAny_Assign_Name (wpAny_BinOp (r_name a ?_)))
        refine r_callb T a (x := "chr") (by decide) bchr' (wpAny_items_cons ?_)
        refine wpAny_BinOp (r_int a fun t s a => ?_)
        refine wpAny_BinOp ?_
        refine wpAny_BinOp (r_name a (r_int a fun t s a => sub_int ?_))
        replace a := a.tok (s.toks + 1)
        refine r_int a fun t s a => mod_int' (by decide) (add_int (wpAny_items_nil ?_))
        have hfm := fm_facts ((c : Int) - 119808) (b := 52) (by decide)
        refine chr_of_range (by omega) (by omega) ?_
        refine add_str ?_ (by show _ + 1 ≤ _; omega)
        intro t₁ tk₁
        rw [one]
        replace a := a.tok tk₁
        refine r_store a fun s' a => wpAny_execs_nil (wpAny_execs_nil (wpAny_execs_nil (wpAny_execs_nil (wpAny_execs_nil ?_))))
        refine fin t₁ _ _ ?_ (look_tail (by decide +kernel) rfl) (look_tail (by decide +kernel) rfl) a
        rw [show readC c = [(97 + ((c : Int) - 119808).fmod 52).toNat] by
          unfold readC; rw [if_neg h65, if_neg h128, hsv]; show (if _ then _ else _) = _; rw [if_pos hm, m52 hm.1]]
        exact look_head
      rw [if_neg (by simp; omega)]
      refine wpAny_execs_cons ?_
      refine wpAny_If (wpAny_isTrue_Compare1 (r_name a (r_name a ?_)))
      refine notin_list_ints (hlist _ (a.obj (by simp))) hi (wpAny_truthy_bool ?_)
      by_cases hn : nothL.any (· == (c : Int)) = true
      · rw [if_neg (by rw [hn]; decide)]
        refine wpAny_execs_nil (wpAny_execs_nil (wpAny_execs_nil (wpAny_execs_nil (wpAny_execs_nil (wpAny_execs_nil ?_)))))
        refine fin t₆ _ _ ?_ (look_tail (by decide +kernel) rfl) (look_tail (by decide +kernel) rfl) a
        rw [show readC c = [] by
          unfold readC; rw [if_neg h65, if_neg h128, hsv]; show (if _ then _ else _) = _; rw [if_neg hm, if_pos hn], List.append_nil]
        exact look_tail (by decide +kernel) (look_tail (by decide +kernel) look_head)
      · rw [if_pos (by rw [Bool.eq_false_iff.mpr hn]; rfl)]
        refine wpAny_execs_cons (wpAny_Assign_Name (wpAny_BinOp (r_name a ?_)))
        refine r_name a ?_
        refine add_str ?_ (by show _ + 1 ≤ _; omega)
        intro t₁ tk₁
        rw [one]
        refine r_store (a.tok tk₁) fun s' a => wpAny_execs_nil (wpAny_execs_nil (wpAny_execs_nil (wpAny_execs_nil (wpAny_execs_nil (wpAny_execs_nil ?_)))))
        refine fin t₁ _ _ ?_ (look_tail (by decide +kernel) rfl) (look_tail (by decide +kernel) rfl) a
        rw [show readC c = [c] by
          unfold readC; rw [if_neg h65, if_neg h128, hsv]; show (if _ then _ else _) = _; rw [if_neg hm, if_neg hn]]
        exact look_head
  · rintro l' N' s' ⟨rfl, t₆, hl1, _, _⟩ a
    refine wpAny_execs_cons (wpAny_Return_some (r_name a ?_ hl1))
    exact h _ _ a.keeps
end
end Mine
end

section
open PySem PySem.W PySem.Calls PyProof.Rows
set_option maxRecDepth 100000
set_option maxHeartbeats 1000000
namespace Mine
theorem slot_filter_next : Slot "filter" "__next__" "filter.__next__" :=
  .of (owner := "filter") (n := "__next__") (by rw [typeLookup_type, builtinLookup_eq_fast]; kernel_rfl) (by decide +kernel) (by decide +kernel) (by decide +kernel)
    (by first | exact .inl (by decide +kernel) | exact .inr (by decide +kernel)) (by rw [isSubtype_type]; kernel_rfl)
theorem slot_filter_iter : Slot "filter" "__iter__" "filter.__iter__" :=
  .of (owner := "filter") (n := "__iter__") (by rw [typeLookup_type, builtinLookup_eq_fast]; kernel_rfl) (by decide +kernel) (by decide +kernel) (by decide +kernel)
    (by first | exact .inl (by decide +kernel) | exact .inr (by decide +kernel)) (by rw [isSubtype_type]; kernel_rfl)
theorem slot_filter_init : Slot "filter" "__init__" "object.__init__" :=
  .of (owner := "object") (n := "__init__") (by rw [typeLookup_type, builtinLookup_eq_fast]; kernel_rfl) (by decide +kernel) (by decide +kernel) (by decide +kernel)
    (by first | exact .inl (by decide +kernel) | exact .inr (by decide +kernel)) (by rw [isSubtype_type]; kernel_rfl)
theorem entry_filter_next : entryFor table "filter.__next__" = some Builtin.«filter.__next__» := entryFor_of_tree (by kernel_rfl)
theorem entry_filter_new : entryFor table "filter.__new__" = some Builtin.«filter.__new__» := entryFor_of_tree (by kernel_rfl)
theorem entry_filter_iter : entryFor table "filter.__iter__" = some Builtin.«dict_keyiterator.__iter__» :=
  entryFor_alias (id' := "dict_keyiterator.__iter__") (by kernel_rfl) (by first | rfl | decide +kernel | (unfold String.splitOn; simp +decide [String.splitOnAux])) (by decide +kernel) (by kernel_rfl)
theorem owner_filter : Manifest.owners.lookup (String.ofList ['r', 'e', 't', 'l', 'i', 'f'].reverse) = some Manifest.sig_filter := by kernel_rfl
theorem args_filter_next (a : Value) : argsOk "filter.__next__" ⟨[a], []⟩ := by
  unfold argsOk; rw [signature?_of (id := "filter.__next__") (n := ['_', '_', 't', 'x', 'e', 'n', '_', '_']) (o := ['r', 'e', 't', 'l', 'i', 'f']) (by kernel_rfl) owner_filter]; kernel_rfl
theorem args_filter_iter (a : Value) : argsOk "filter.__iter__" ⟨[a], []⟩ := by
  unfold argsOk; rw [signature?_of (id := "filter.__iter__") (n := ['_', '_', 'r', 'e', 't', 'i', '_', '_']) (o := ['r', 'e', 't', 'l', 'i', 'f']) (by kernel_rfl) owner_filter]; kernel_rfl
theorem mro_filter : mroOf (.type "filter") = pure [.type "filter", .type "object"] := by rw [mroOf_type]; kernel_rfl
theorem lookup_filter_new : typeLookup (.type "filter") "__new__" = pure (some (.builtin "filter.__new__")) := by rw [typeLookup_type, builtinLookup_eq_fast]; kernel_rfl
theorem called_filter : TypeCalled "filter" "filter.__new__" "object.__init__" :=
  ⟨by decide +kernel, by decide +kernel, ⟨_, _, mro_filter⟩, madeBy_type mro_filter lookup_filter_new (by decide +kernel), by decide +kernel, by rw [isSubtype_type]; kernel_rfl, slot_filter_init⟩
theorem typeCall_filter (a b : Value) : checkTypeCall "filter" ⟨[a, b], []⟩ = pure () := by kernel_rfl
theorem newCall_filter (a b : Value) : checkBuiltinCall "filter.__new__" ⟨[.type "filter", a, b], []⟩ = pure () := by kernel_rfl
theorem sub_filter : isSubtype (.type "filter") (.type "filter") = pure true := by rw [isSubtype_type]; kernel_rfl
theorem boot_filter : bootBuiltins "filter" = some (.type "filter") := by decide +kernel

def filtObj (it : Addr) : Obj := { cls := .type "filter", dict := none, data := .fields #[.builtin "len", .ref it], slots := #[] }
abbrev IsFilt (h : Heap) (F it : Addr) : Prop := h.get? F = some (filtObj it)

theorem meets_filter_new (t : Addr) (items : Array Value) :
    Meets (Builtin.«filter.__new__» ⟨[.type "filter", .builtin "len", .ref t], []⟩) (fun _ R s => s.heap.IsTuple t items ∧
      R (.ok (.ret (.ref (s.heap.push { cls := .type "tuple_iterator", data := .fields #[.ref t, .int 0 0] }).objs.size)))
        { s with heap := (s.heap.push { cls := .type "tuple_iterator", data := .fields #[.ref t, .int 0 0] }).push (filtObj s.heap.objs.size) }) :=
  .of_wp fun prog w A R s h => by
    obtain ⟨hp, g, d, tk, os⟩ := s; obtain ⟨hl, h⟩ := h
    have hsub := sub_filter
    have hL : Heap.IsTuple (Shared.heap ⟨hp, g, d, tk, os⟩) t items := hl
    wp_walk using wpAny_pyIter_tuple hL
    exact ⟨_, rfl, h⟩
end Mine
end

section
open PySem PySem.W PySem.Calls PyProof.Rows
set_option maxRecDepth 100000
set_option maxHeartbeats 1000000
namespace Mine
section
variable {w : World} {A : Around} {E : Value → Shared → Prop} {s : Shared}
theorem call_filter {t : Addr} {items : Array Value} {Q : Value → Shared → Prop} (ht : s.heap.IsTuple t items)
    (h : ∀ h', IsFilt h' (s.heap.objs.size + 1) s.heap.objs.size → h'.IsTupleIter s.heap.objs.size t 0 → (∀ c o, s.heap.get? c = some o → h'.get? c = some o) → h'.objs.size = s.heap.objs.size + 2 →
      Q (.ref (s.heap.objs.size + 1)) { s with heap := h' }) :
    wpAny (model prog w) A (call (.type "filter") [.builtin "len", .ref t]) Q E s := by
  refine callType_new called_filter (by decide) (typeCall_filter _ _) (newCall_filter _ _) (fun obj => F.args_object_init_3 obj _ _) entry_filter_new (meets_filter_new t items) ⟨ht, ?_⟩
  have z1 : (s.heap.push { cls := .type "tuple_iterator", data := .fields #[.ref t, .int 0 0] }).objs.size = s.heap.objs.size + 1 := Heap.size_push ..
  have g2 : ((s.heap.push { cls := .type "tuple_iterator", data := .fields #[.ref t, .int 0 0] }).push (filtObj s.heap.objs.size)).get? (s.heap.push { cls := .type "tuple_iterator", data := .fields #[.ref t, .int 0 0] }).objs.size = some (filtObj s.heap.objs.size) := Heap.get?_push_size _ rfl
  have g1 : ((s.heap.push { cls := .type "tuple_iterator", data := .fields #[.ref t, .int 0 0] }).push (filtObj s.heap.objs.size)).get? s.heap.objs.size = some { cls := .type "tuple_iterator", data := .fields #[.ref t, .int 0 0] } := Heap.get?_push_of_some _ (Heap.get?_push_size _ rfl)
  show _ ∧ _
  rw [z1] at g2
  rw [z1]
  exact ⟨⟨_, g2, rfl⟩, h _ g2 ⟨_, g1, rfl, rfl⟩ (fun c o x => Heap.get?_push_of_some _ (Heap.get?_push_of_some _ x)) (by rw [Heap.size_push, z1])⟩

theorem special_tuple_item {it t : Addr} {i : Nat} {items : Array Value} {x : Value} {Q : Option Value → Shared → Prop} (hit : s.heap.IsTupleIter it t i) (ht : s.heap.IsTuple t items) (hx : items[i]? = some x)
    (hQ : ∀ h', h'.IsTupleIter it t (i + 1) → Heap.SameBut it s.heap h' → Q (some x) { s with heap := h' }) :
    wpAny (model prog w) A (callSpecial? (.ref it) "__next__") Q E s := by
  obtain ⟨o, ho, hc, hd⟩ := id hit
  obtain ⟨ol, hol, _, nl, hdl⟩ := ht
  refine wpAny_callSpecial?_slot (name := Str.ofString "__next__") hit.typeIs F.slot_tuple_iterator_next
    (wpAny_call_entry F.slot_tuple_iterator_next hit.typeIs F.entry_tuple_iterator_next ?_ (F.args_tuple_iterator_next_1 _))
  show wpAny _ _ (field (.ref it) 0 >>= _) _ _ s
  refine wpAny_bind (wpAny_field ho hd (x := .ref t) rfl ?_)
  show wpAny _ _ (if (Value.ref t == Value.none) = true then _ else _) _ _ s
  rw [if_neg (show ¬ ((Value.ref t == Value.none) = true) from Bool.false_ne_true)]
  show wpAny _ _ (field (.ref it) 1 >>= _) _ _ s
  refine wpAny_bind (wpAny_field ho hd (x := .int i 0) rfl ?_)
  show wpAny _ _ (seqItems? (.ref t) >>= _) _ _ s
  refine wpAny_bind (wpAny_seqItems hol hdl ?_)
  simp only [Int.toNat_natCast, hx]
  refine wpAny_bind (wpAny_setField ho hd (by simp) (wpAny_pure ⟨x, rfl, hQ _ ?_ (Heap.SameBut.update ..)⟩))
  exact ⟨_, Heap.get?_update_self _ ho (Obj.isFreed_of_fields (Obj.data_mapFields hd _)), (Obj.cls_mapFields ..).trans hc, by
    rw [Obj.data_mapFields hd]; simp [rawInt]⟩
theorem special_tuple_end {it t : Addr} {i : Nat} {items : Array Value} {Q : Option Value → Shared → Prop} (hh : A.handled = none)
    (hit : s.heap.IsTupleIter it t i) (ht : s.heap.IsTuple t items) (hx : items[i]? = none)
    (hE : ∀ h' e, Heap.ExtBut it s.heap h' → (∃ o, h'.get? e = some o ∧ o.cls = .type "StopIteration") → E (.ref e) { s with heap := h' }) :
    wpAny (model prog w) A (callSpecial? (.ref it) "__next__") Q E s := by
  obtain ⟨o, ho, hc, hd⟩ := id hit
  obtain ⟨ol, hol, _, nl, hdl⟩ := ht
  refine wpAny_callSpecial?_slot (name := Str.ofString "__next__") hit.typeIs F.slot_tuple_iterator_next
    (wpAny_call_entry F.slot_tuple_iterator_next hit.typeIs F.entry_tuple_iterator_next ?_ (F.args_tuple_iterator_next_1 _))
  show wpAny _ _ (field (.ref it) 0 >>= _) _ _ s
  refine wpAny_bind (wpAny_field ho hd (x := .ref t) rfl ?_)
  show wpAny _ _ (if (Value.ref t == Value.none) = true then _ else _) _ _ s
  rw [if_neg (show ¬ ((Value.ref t == Value.none) = true) from Bool.false_ne_true)]
  show wpAny _ _ (field (.ref it) 1 >>= _) _ _ s
  refine wpAny_bind (wpAny_field ho hd (x := .int i 0) rfl ?_)
  show wpAny _ _ (seqItems? (.ref t) >>= _) _ _ s
  refine wpAny_bind (wpAny_seqItems hol hdl ?_)
  simp only [Int.toNat_natCast, hx]
  refine wpAny_bind (wpAny_rule (wpAny_bind (wpAny_setField ho hd (by simp) ?_)))
  show wpAny _ _ (newExc (.type "StopIteration") [] >>= _) _ _ _
  refine wpAny_bind ?_
  simp only [newExc, newTuple]
  refine wpAny_bind (wpAny_newObj_type ?_ (by size_fits))
  refine wpAny_bind (m := firstArgMember _ _) (wpAny_of_eq (a := Value.none) (by first | rfl | (simp only [firstArgMember]; rfl)) ?_)
  refine wpAny_newObj_type ?_ (by size_fits)
  simp only [raiseNew]
  refine wpAny_bind (wpAny_handled ?_)
  first | rw [show A.in1.handled = none from hh] | rw [hh]
  refine wpAny_bind (wpAny_pure (wpAny_throw ?_))
  exact hE _ _ (((Heap.SameBut.update ..).extBut.push _).push _) ⟨_, Heap.get?_push_size _ rfl, rfl⟩

theorem strv_get {ts pre rest : List (Str × Tok)} (h : ts = pre ++ rest) : (strValues ts).toArray[pre.length]? = rest.head?.map fun p => Value.str p.1 p.2 := by
  subst h
  cases rest with
  | nil => simp [strValues]
  | cons p r => simp [strValues]

/-- the walk to the next text that isn't empty -/
theorem filt_code {R : Result → Shared → Prop} {F it t : Addr} {ts : List (Str × Tok)} (hh : A.handled = none) (hne : F ≠ it) (hti : t ≠ it) (hsz : ∀ p ∈ ts, p.1.length ≤ sizeLine) : ∀ (rest pre : List (Str × Tok)) (s : Shared), ts = pre ++ rest → IsFilt s.heap F it → s.heap.IsTupleIter it t pre.length → s.heap.IsTuple t (strValues ts).toArray →
    (∀ mid y u post h' tk, rest = mid ++ (y, u) :: post → (∀ p ∈ mid, p.1.length = 0) → y.length ≠ 0 → h'.IsTupleIter it t ((pre ++ mid).length + 1) → Heap.SameBut it s.heap h' → R (.ok (.ret (.str y u))) { s with heap := h', toks := tk }) →
    ((∀ p ∈ rest, p.1.length = 0) → ∀ h' e tk, Heap.ExtBut it s.heap h' → (∃ o, h'.get? e = some o ∧ o.cls = .type "StopIteration") → R (.error (.ref e)) { s with heap := h', toks := tk }) →
    codeAny (model prog w) A (.builtin "filter.__next__" ⟨[.ref F], []⟩) R s
  | [], pre, s, hts, hF, hit, ht, _, hE => by
    refine codeAny_builtin entry_filter_next ?_
    rw [Around.under_plainId slot_filter_next.plain]
    show wpAny _ _ (field (.ref F) 0 >>= _) _ _ s
    refine wpAny_bind (wpAny_field hF rfl (x := .builtin "len") rfl ?_)
    show wpAny _ _ (field (.ref F) 1 >>= _) _ _ s
    refine wpAny_bind (wpAny_field hF rfl (x := .ref it) rfl ?_)
    refine wpAny_bind (special_tuple_end (A := A.in1) hh hit ht (by rw [strv_get hts]; rfl) fun h' e he hx => ?_)
    exact hE (fun p hp => nomatch hp) h' e s.toks he hx
  | (y, u) :: r, pre, s, hts, hF, hit, ht, hI, hE => by
    have hys : y.length ≤ sizeLine := hsz (y, u) (by rw [hts]; simp)
    have hsl : sizeLine = 16777216 := rfl
    refine codeAny_builtin entry_filter_next ?_
    rw [Around.under_plainId slot_filter_next.plain]
    show wpAny _ _ (field (.ref F) 0 >>= _) _ _ s
    refine wpAny_bind (wpAny_field hF rfl (x := .builtin "len") rfl ?_)
    show wpAny _ _ (field (.ref F) 1 >>= _) _ _ s
    refine wpAny_bind (wpAny_field hF rfl (x := .ref it) rfl ?_)
    refine wpAny_bind (special_tuple_item (x := .str y u) hit ht (by rw [strv_get hts]; rfl) fun h' hit' hs' => ?_)
    show wpAny _ _ (holding [.str y u] _ >>= _) _ _ _
    refine wpAny_bind (wpAny_holding ?_)
    show wpAny _ _ (call (.builtin "len") [.str y u] >>= _) _ _ _
    refine wpAny_bind (PySem.P.len_str (by omega) ?_)
    refine wpAny_holding (PyProof.Rows.truthy_int ?_)
    by_cases h0 : y.length = 0
    · rw [show ((y.length : Int) != 0) = false by simp [h0]]
      refine wpAny_pure ⟨plainId_quiet slot_filter_next.plain _, ?_⟩
      refine filt_code hh hne hti hsz r (pre ++ [(y, u)]) _ (by rw [hts]; simp) ((hs'.2 F hne).trans hF) (by simpa using hit') (ht.extBut hs'.extBut hti) ?_ ?_
      · intro mid y' u' post h₂ tk hr hm hy' hit₂ hs₂
        refine hI ((y, u) :: mid) y' u' post h₂ tk (by rw [hr]; rfl) ?_ hy' (by simpa using hit₂) (hs'.trans hs₂)
        intro p hp
        rcases List.mem_cons.mp hp with rfl | hp
        · exact h0
        · exact hm p hp
      · intro hm h₂ e tk he hx
        refine hE ?_ h₂ e tk (fun b o hb e => he b o hb (hs'.extBut b o hb e)) hx
        intro p hp
        rcases List.mem_cons.mp hp with rfl | hp
        · exact h0
        · exact hm p hp
    · rw [show ((y.length : Int) != 0) = true by simp; omega]
      exact wpAny_pure (hI [] y u r h' _ rfl (fun p hp => nomatch hp) h0 (by simpa using hit') hs')
end
end Mine
end

section
open PySem PySem.W PySem.Calls PyProof.Rows
set_option maxRecDepth 100000
set_option maxHeartbeats 1000000
namespace Mine
def neT (p : Str × Tok) : Bool := p.1.length != 0
theorem filt_none {l : List (Str × Tok)} (h : ∀ p ∈ l, p.1.length = 0) : l.filter neT = [] := List.filter_eq_nil_iff.mpr fun p hp => by simp [neT, h p hp]
section
variable {w : World} {A : Around} {E : Value → Shared → Prop} {s : Shared}
theorem call_filt {F it : Addr} {Q : Value → Shared → Prop} (hF : IsFilt s.heap F it)
    (hc : codeAny (model prog w) A (.builtin "filter.__next__" ⟨[.ref F], []⟩) (fun r s' => match r with | .ok (.ret v) => Q v s' | .ok _ => False | .error e => E e s') s) :
    wpAny (model prog w) A (call (.builtin "filter.__next__") [.ref F]) Q E s := by
  have hT : s.TypeIs (.ref F) "filter" := ⟨_, hF, rfl⟩
  refine wpAny_call (codeAny_of_tree ?_)
  show wpAny _ A.in1 (do checkBuiltinCall "filter.__next__" ⟨[.ref F], []⟩; again (.builtin "filter.__next__" ⟨[.ref F], []⟩)) _ _ s
  exact wpAny_bind (slot_filter_next.check _ _ _ _ _ _ _ _ hT (args_filter_next _) (wpAny_pure ⟨plainId_quiet slot_filter_next.plain _, hc⟩))
theorem iter_filt {F it : Addr} {Q : Value → Shared → Prop} (hF : IsFilt s.heap F it) (h : Q (.ref F) s) : wpAny (model prog w) A (pyIter (.ref F)) Q E s := by
  have hT : s.TypeIs (.ref F) "filter" := ⟨_, hF, rfl⟩
  refine wpAny_pyIter_slot hT slot_filter_iter (wpAny_call_entry slot_filter_iter hT entry_filter_iter ?_ (args_filter_iter _))
  show wpAny _ _ (ret (.ref F)) _ _ s
  exact wpAny_pure ⟨_, rfl, "filter", _, hT, slot_filter_next.lookup, h⟩

def FiltSt (F it t : Addr) (ts : List (Str × Tok)) (k : Nat) (h : Heap) : Prop :=
  IsFilt h F it ∧ h.IsTuple t (strValues ts).toArray ∧ ∃ pre rest, ts = pre ++ rest ∧ h.IsTupleIter it t pre.length ∧ (pre.filter neT).length = k
theorem walks_filt (hh : A.handled = none) {F it t : Addr} {ts : List (Str × Tok)} (hne : F ≠ it) (hti : t ≠ it) (hsz : ∀ p ∈ ts, p.1.length ≤ sizeLine) :
    Walks prog w A F [F, it, t] [it] (ts.filter neT).length (fun k v => ∃ y u, v = .str y u ∧ (ts.filter neT)[k]? = some (y, u)) (FiltSt F it t ts) where
  sub := fun b hb => by simp at hb; simp [hb]
  frame := fun k h h' st hk => by
    obtain ⟨hF, ht, pre, rest, hts, hit, hk'⟩ := st
    exact ⟨hk F (by simp) _ hF, ht.at fun o e => hk t (by simp) o e, pre, rest, hts, hit.at fun o e => hk it (by simp) o e, hk'⟩
  item := fun k s Q E hi st hQ => by
    obtain ⟨hF, ht, pre, rest, hts, hit, hk⟩ := st
    have hT : s.TypeIs (.ref F) "filter" := ⟨_, hF, rfl⟩
    unfold pyNext
    refine wpAny_bind (wpAny_attempt (wpAny_callSpecial?_slot (name := Str.ofString "__next__") hT slot_filter_next ?_))
    refine call_filt hF (filt_code hh hne hti hsz rest pre s hts hF hit ht ?_ ?_)
    · intro mid y u post h' tk hr hm hy hit' hs'
      refine wpAny_pure (hQ _ h' tk ⟨y, u, rfl, ?_⟩ ⟨(hs'.2 F hne).trans hF, ht.extBut hs'.extBut hti, pre ++ mid ++ [(y, u)], post, by rw [hts, hr]; simp, by rw [List.length_append]; exact hit', ?_⟩ fun b o hb e => hs'.extBut b o (fun q => hb (by simp [q])) e)
      · rw [hts, hr, List.filter_append, List.filter_append, filt_none hm, List.nil_append, List.filter_cons_of_pos (by simpa [neT] using hy), List.getElem?_append_right (by omega), hk, Nat.sub_self]; rfl
      · rw [List.filter_append, List.filter_append, filt_none hm, List.append_nil, List.length_append, hk, List.filter_cons_of_pos (by simpa [neT] using hy)]; rfl
    · intro hm
      rw [hts, List.filter_append, filt_none hm, List.append_nil] at hi
      omega
  done := fun s Q E st hQ => by
    obtain ⟨hF, ht, pre, rest, hts, hit, hk⟩ := st
    have hT : s.TypeIs (.ref F) "filter" := ⟨_, hF, rfl⟩
    unfold pyNext
    refine wpAny_bind (wpAny_attempt (wpAny_callSpecial?_slot (name := Str.ofString "__next__") hT slot_filter_next ?_))
    refine call_filt hF (filt_code hh hne hti hsz rest pre s hts hF hit ht ?_ ?_)
    · intro mid y u post h' tk hr hm hy hit' hs'
      exfalso
      rw [hts, hr, List.filter_append, List.filter_append, filt_none hm, List.nil_append, List.filter_cons_of_pos (by simpa [neT] using hy)] at hk
      simp at hk
    · intro hm h' e tk he hx
      obtain ⟨o, ho, hc⟩ := hx
      refine wpAny_bind (wpAny_isInstance (T := "StopIteration") (b := true) ⟨o, ho, hc⟩ isSubtype_stop ?_)
      exact wpAny_pure (hQ h' tk fun b o hb e => he b o (fun q => hb (by simp [q])) e)
  self := fun k s Q E st hQ => iter_filt st.1 hQ
end
end Mine
end

section
open PySem PySem.W PySem.Calls PyProof.Rows
set_option maxRecDepth 100000
set_option maxHeartbeats 1000000
namespace Mine
/-- the code table of the one def with a generator expression -/
def Tab (c P : Addr) (h : Heap) : Prop := P ≠ cStatics ∧ ∃ ps, h.IsCode c P ps ∧ h.TableAt c P ps
theorem Tab.ps {c P : Addr} {h : Heap} (t : Tab c P h) : ∃ ps, h.IsCode c P ps ∧ h.TableAt c P ps := t.2
/-- what a call of that def may do to the state -/
structure Gr (c P : Addr) (s s' : Shared) : Prop where
  ext : Heap.ExtBut P s.heap s'.heap
  tab : P ≠ cStatics ∧ ∃ ps more, s.heap.IsCode c P ps ∧ s.heap.TableAt c P ps ∧ s'.heap.IsCode c P (ps ++ more) ∧ s'.heap.TableAt c P (ps ++ more)
  bare : AllBare s.gens → AllBare s'.gens
  os : s'.os = s.os
  drawn : s'.drawn = s.drawn
theorem Tab.keeps {c P : Addr} {h h' : Heap} (t : Tab c P h) (hk : ∀ b o, h.get? b = some o → h'.get? b = some o) : Tab c P h' :=
  let ⟨h1, ps, a, b⟩ := t; ⟨h1, ps, a.keeps hk, b.keeps hk⟩
theorem Gr.right {c P : Addr} {s s' : Shared} (g : Gr c P s s') : Tab c P s'.heap := let ⟨h1, _, _, _, _, a, b⟩ := g.tab; ⟨h1, _, a, b⟩
theorem Gr.left {c P : Addr} {s s' : Shared} (g : Gr c P s s') : Tab c P s.heap := let ⟨h1, _, _, a, b, _, _⟩ := g.tab; ⟨h1, _, a, b⟩
theorem Gr.trans {c P : Addr} {s s' s'' : Shared} (g : Gr c P s s') (g' : Gr c P s' s'') : Gr c P s s'' where
  ext := fun b o hb e => g'.ext b o hb (g.ext b o hb e)
  tab := by
    obtain ⟨h1, ps, more, a, b, a', b'⟩ := g.tab
    obtain ⟨_, ps', more', _, d, d', e'⟩ := g'.tab
    have : ps' = ps ++ more := by
      have := Option.some.inj (d.2.symm.trans b'.2)
      injection this with _ _ h3
      injection h3
    subst this
    exact ⟨h1, ps, more ++ more', a, b, by rw [← Array.append_assoc]; exact d', by rw [← Array.append_assoc]; exact e'⟩
  bare := fun x => g'.bare (g.bare x)
  os := g'.os.trans g.os
  drawn := g'.drawn.trans g.drawn
theorem Gr.of {c P : Addr} {s s' : Shared} (t : Tab c P s.heap) (k : Keeps s s') : Gr c P s s' := by
  obtain ⟨h, tk, rfl, hk⟩ := k
  obtain ⟨h1, ps, a, b⟩ := t
  exact ⟨fun b o _ e => hk b o e, ⟨h1, ps, #[], a, b, by rw [Array.append_empty]; exact a.keeps hk, by rw [Array.append_empty]; exact b.keeps hk⟩, id, rfl, rfl⟩
theorem Gr.old {c P : Addr} {s s' : Shared} (g : Gr c P s s') : OldK s.heap s'.heap := by
  obtain ⟨h1, ps, more, a, b, a', b'⟩ := g.tab
  exact (OldK.refl _).step_table b b b' g.ext h1
theorem codeNe {h : Heap} {c P : Addr} {ps : Array Value} (x : h.IsCode c P ps) : c ≠ P := by
  obtain ⟨_, _, _, _, _, _, _, _, _, _, _, _, _, _, _, _, _, _, _, _, x⟩ := x; exact x
/-- the frame goes on over the grown table -/
theorem At.grow {c P : Addr} {s₀ s₁ s' : Shared} {L : Addr} {l : List (Str × Value)} {N : List (Addr × Obj)} (a : At s₀ L l N s₁) (t : Tab c P s₀.heap) (g : Gr c P s₁ s') :
    ∃ s₀', Gr c P s₀ s₀' ∧ At s₀' L l N s' := by
  obtain ⟨hPs, ps, ic, ta⟩ := id t
  obtain ⟨_, ps₁, more, ic₁, ta₁, ic', ta'⟩ := g.tab
  have hps : ps₁ = ps := by
    have := Option.some.inj (ta₁.2.symm.trans (a.keep _ _ ta.2))
    injection this with _ _ h3
    injection h3
  subst hps
  have hself : (regrown s₀.heap P (ps₁ ++ more)).get? P = some { cls := .none, data := .fields (ps₁ ++ more) } := Heap.get?_update_self _ ta.2 rfl
  have hoth : ∀ b, b ≠ P → (regrown s₀.heap P (ps₁ ++ more)).get? b = s₀.heap.get? b := fun b hb => Heap.get?_update_other _ _ (Ne.symm hb)
  have hsize : (regrown s₀.heap P (ps₁ ++ more)).objs.size = s₀.heap.objs.size := (Heap.SameBut.update s₀.heap P _).1
  obtain ⟨h₁, tk₁, hs₁⟩ := a.same
  have hcP := codeNe ic
  refine ⟨{ s' with heap := regrown s₀.heap P (ps₁ ++ more) }, ⟨?_, ⟨hPs, ps₁, more, ic, ta, ?_, ?_⟩, ?_, ?_, ?_⟩, ⟨?_, ?_, ?_⟩⟩
  · intro b o hb e; exact (hoth b hb).trans e
  · obtain ⟨o, vs, file, tf, flags, tg, inF, text, tt, op, ho, r1, r2, r3, r4, r5, r6, _, _, _, r9⟩ := ic
    obtain ⟨o', vs', file', tf', flags', tg', inF', text', tt', op', ho', _, _, _, _, _, _, hop', hpd', htr', _⟩ := ic'
    exact ⟨o, vs, file, tf, flags, tg, inF, text, tt, _, (hoth c hcP).trans ho, r1, r2, r3, r4, r5, r6, hself, rfl, htr', r9⟩
  · obtain ⟨⟨o, vs, e, r⟩, _⟩ := ta
    exact ⟨⟨o, vs, (hoth c hcP).trans e, r⟩, hself⟩
  · intro x
    exact g.bare (by rw [hs₁]; exact x)
  · show s'.os = s₀.os
    rw [g.os, hs₁]
  · show s'.drawn = s₀.drawn
    rw [g.drawn, hs₁]
  · obtain ⟨m, F, hm⟩ := a.fr
    have hLP : L ≠ P := Nat.ne_of_gt (Nat.lt_of_lt_of_le (Heap.lt_size ta.2) F.above)
    refine ⟨m, ⟨F.ns.extBut g.ext hLP, ?_, Nat.le_trans (Nat.le_of_eq hsize) F.above⟩, hm⟩
    intro b o e
    by_cases hb : b = P
    · subst hb; rw [hself] at e; cases e; exact ta'.2
    · rw [hoth b hb] at e; exact g.ext b o hb (F.keep b o e)
  · intro p hp
    have h := a.news p hp
    have hp' : p.1 ≠ P := fun e => by
      have h2 := h.2.2
      rw [e, ta.2] at h2; cases h2
    exact ⟨g.ext _ _ hp' h.1, h.2.1, (hoth _ hp').trans h.2.2⟩
  · exact ⟨s'.heap, s'.toks, rfl⟩

/-- the facts that the def with the generator expression needs besides -/
structure PF (c P : Addr) (fa : Str → Addr) (mg : Str → Option Value) (h : Heap) : Prop where
  code : ∀ params body scope, prog.theDef "_platform" = some (params, body, scope) → ∃ o pm doc, h.get? (fa "_platform") = some o ∧ o.data = .func (docDef "_platform" params body scope pm (.ref c) doc)
  faP : fa "_platform" ≠ P
  bm : ∃ bm o, mg "__builtins__" = some (.ref bm) ∧ bm ≠ builtinsNs ∧ bm ≠ P ∧ h.get? bm = some o ∧ o.cls = .type "module" ∧ o.dict = some builtinsNs ∧ o.data = .plain
theorem PF.ext {c P : Addr} {fa : Str → Addr} {mg : Str → Option Value} {h h' : Heap} (x : PF c P fa mg h) (K : Heap.ExtBut P h h') : PF c P fa mg h' where
  code := fun params body scope hd => let ⟨o, pm, doc, h1, h2⟩ := x.code params body scope hd; ⟨o, pm, doc, K _ _ x.faP h1, h2⟩
  faP := x.faP
  bm := let ⟨bm, o, h1, h2, h3, h4, r⟩ := x.bm; ⟨bm, o, h1, h2, h3, K _ _ h3 h4, r⟩
theorem PF.keeps {c P : Addr} {fa : Str → Addr} {mg : Str → Option Value} {h h' : Heap} (x : PF c P fa mg h) (K : ∀ b o, h.get? b = some o → h'.get? b = some o) : PF c P fa mg h' := x.ext fun b o _ e => K b o e
end Mine
end

section
open PySem PySem.W PySem.Calls PyProof.Rows
set_option maxRecDepth 100000
set_option maxHeartbeats 1000000
namespace Mine
section
variable {w : World} {P c : Addr} {fa : Str → Addr} {b1a b3a : Addr} {mg mb : Str → Option Value} {A : Around} {E : Value → Shared → Prop} {s : Shared}
theorem c_gencode {env : Env} {pos : Pos} {qualname : Str} {scope : Scope} {Q : Value → Shared → Prop} (hc : env.code = .ref c) (t : Tab c P s.heap)
    (h : ∀ code s', Gr c P s s' → s'.gens = s.gens → s.heap.objs.size ≤ s'.heap.objs.size → Q code s') : wpAny (model prog w) A (genexprCode env pos qualname scope) Q E s := by
  obtain ⟨hP, ps, ic, ta⟩ := id t
  cases hca : codeAmong pos ps.toList with
  | some cv => exact wpAny_genexprCode_hit hc ic hca (h _ _ (Gr.of t (kpRefl s)) rfl (Nat.le_refl _))
  | none =>
    refine wpAny_genexprCodeX hc ic ta hca fun c' h' tk hx h1 h2 ic' _ ta' _ => ?_
    exact h _ _ ⟨hx, ⟨hP, ps, _, ic, ta, ic', ta'⟩, id, rfl, rfl⟩ rfl (by show _ ≤ h'.objs.size; omega)
theorem c_builtinsFor {Q : Addr → Shared → Prop} {run : Addr} (T : TopF w P fa b1a b3a mg mb s.heap) (X : PF c P fa mg s.heap) (h : Q builtinsNs s) : wpAny (model prog w) A (builtinsFor mainGlobals run) Q E s := by
  obtain ⟨bm, o, h1, h2, _, h4, h5, h6, h7⟩ := X.bm
  exact wpAny_builtinsFor T.g h1 h2 h4 h5 h6 h7 h
theorem passing_all (n : Nat) : passing (fun _ => true) n 0 = List.range n := by unfold passing; simp
theorem c_strip {env : Env} {m : Str → Option Value} {x : Str} {px ap pos : Pos} {y : Str} {u : Tok} {Q : Value → Shared → Prop} (hn : s.heap.Ns env.locals m) (hv : m x = some (.str y u)) (hsz : y.length ≤ sizeLine)
    (h : ∀ t' k, Q (.str (Txt.strip y) t') { s with toks := k })
    (hk : env.scope.kind = .function) (hx : env.scope.names.lookup x = some .local) (hd : (x == ("__debug__" : Str)) = false) {pl : Sem Bool}
    (hm : eval (.Call (.Attribute (.Name x px) "strip" ap) [] [] pos) env = (do
      let ov ← eval (.Name x px) env
      standAt ap.atName
      let (f', first) ← holding [ov] (getMethod ov "strip" pl)
      callWith pos f' first (backTo pos (starEach [] env)) [])) :
    wpAny (model prog w) A (eval (.Call (.Attribute (.Name x px) "strip" ap) [] [] pos) env) Q E s := by
  refine m_strip (ldG hn hv ⟨y, u, rfl, ?_⟩ hk hx hd) hm
  exact PyProof.Rows.SCL.strip (fun t' k _ => h t' k) hsz

theorem c_join {env : Env} {iter : Expr} {x : Str} {px px2 ap2 pos2 gpos : Pos} {scope : Scope} {sep : Str} {tsep : Tok} {tp : Addr} {ts : List (Str × Tok)} {Q : Value → Shared → Prop}
    (hh : A.handled = none) (hroom : A.depth < recursionLimit) (T : TopF w P fa b1a b3a mg mb s.heap) (X : PF c P fa mg s.heap) (t : Tab c P s.heap) (hcode : env.code = .ref c) (hg : env.globals = mainGlobals)
    (htp : s.heap.IsTuple tp (strValues ts).toArray) (hsz : ∀ p ∈ ts, p.1.length ≤ sizeLine) (hn : ts.length ≤ sizeLine)
    (hok : JoinOk sep ((ts.filter neT).map fun p => Txt.strip p.1) = true)
    (hiter : ∀ Q' : Value → Shared → Prop, (∀ h', IsFilt h' (s.heap.objs.size + 1) s.heap.objs.size → h'.IsTupleIter s.heap.objs.size tp 0 → (∀ c o, s.heap.get? c = some o → h'.get? c = some o) → h'.objs.size = s.heap.objs.size + 2 →
      Q' (.ref (s.heap.objs.size + 1)) { s with heap := h' }) → wpAny (model prog w) A (eval iter env) Q' E s)
    (hQ : ∀ t' s', Gr c P s s' → Q (.str (Txt.join sep ((ts.filter neT).map fun p => Txt.strip p.1)) t') s')
    (hco : scope.isCoroutine = false) (hclos : closureFor scope env = pure []) (hcell : ∀ y ∈ scope.names, y.2 ≠ .cell) (h0 : scope.names.lookup (".0" : Str) = some NameKind.local)
    (hx : scope.names.lookup x = some .local) (hkind : scope.kind = .function) (hxd : (x == ("__debug__" : Str)) = false)
    (hm : ∀ C code bi, ∃ pl : Sem Bool, eval (.Call (.Attribute (.Name x px2) "strip" ap2) [] [] pos2) (genEnv scope [] C code bi env) = (do
      let ov ← eval (.Name x px2) (genEnv scope [] C code bi env)
      standAt ap2.atName
      let (f', first) ← holding [ov] (getMethod ov "strip" pl)
      callWith pos2 f' first (backTo pos2 (starEach [] (genEnv scope [] C code bi env))) []))
    (hs : ∀ x, genFold iter env x = pure x) :
    wpAny (model prog w) A (eval (.GeneratorExp (.Call (.Attribute (.Name x px2) "strip" ap2) [] [] pos2) [⟨.Name x px, iter, [], 0⟩] scope gpos) env)
      (fun v s₂ => wpAny (model prog w) A (call (.builtin "str.join") [.str sep tsep, v]) Q E s₂) E s := by
  obtain ⟨otp, hotp, _⟩ := id htp
  have htplt := Heap.lt_size hotp
  obtain ⟨hPs, ps, ic, ta⟩ := id t
  have hPlt : P < s.heap.objs.size := Heap.lt_size ta.2
  have hclt : c < s.heap.objs.size := ic.lt.1
  have hcst : cStatics < s.heap.objs.size := by obtain ⟨_, hns, _⟩ := T.nolimit; exact hns.lt
  refine wpAny_GeneratorExp_walksQ (cl := []) hh hco hclos hcell h0 hx hkind hroom (hiter _ fun h' hF hit hk hsize => ?_) hs
  refine iter_filt hF ⟨(T.keeps hk).nolimit, ?_⟩
  refine c_gencode hcode (t.keeps hk) fun code s₃ g hgens hle => ?_
  rw [hg]
  refine c_builtinsFor ((T.keeps hk).ext g.ext) ((X.keeps hk).ext g.ext) ?_
  have hle' : s.heap.objs.size + 2 ≤ s₃.heap.objs.size := by rw [← hsize]; exact hle
  have e₃ : ∀ b o, b ≠ P → h'.get? b = some o → s₃.heap.get? b = some o := fun b o hb e => g.ext b o hb e
  have n1 : ∀ {b n : Nat}, b < n → n ≠ b := fun h => Nat.ne_of_gt h
  have n2 : ∀ {b n : Nat}, b < n → n + 1 ≠ b := fun h => by omega
  have n3 : ∀ {b n : Nat}, b < n → b ≠ n := fun h => Nat.ne_of_lt h
  have n4 : ∀ {n : Nat}, n + 1 ≠ n := fun {n} => by omega
  have hst : FiltSt (s.heap.objs.size + 1) s.heap.objs.size tp ts 0 s₃.heap := by
    have hP' : tp ≠ P := fun e => by
      subst e
      rw [ta.2] at hotp; cases hotp
      obtain ⟨_, h1, h2, _⟩ := id htp
      rw [ta.2] at h1; cases h1; cases h2
    refine ⟨e₃ _ _ (n2 hPlt) hF, (htp.at fun o e => e₃ _ _ hP' (hk _ _ e)), [], ts, rfl, hit.at fun o e => e₃ _ _ (n1 hPlt) e, rfl⟩
  refine ⟨s.heap.objs.size + 1, [s.heap.objs.size + 1, s.heap.objs.size, tp], [s.heap.objs.size], _, _, _, fun _ => true, fun k v => ∃ p u, v = .str (Txt.strip p.1) u ∧ (ts.filter neT)[k]? = some p, rfl,
    (fun A' hA => walks_filt hA n4 (n3 htplt) hsz), hst, ?_, ((T.keeps hk).ext g.ext).nolimit, ?_, ?_, fun a h₅ tk gs hb hlt hsz₅ hk₅ W hat => ?_⟩
  · intro b hb
    have m1 : ∀ {a b n : Nat}, n + 2 ≤ a → b < n → b < a := by omega
    have m2 : ∀ {a n : Nat}, n + 2 ≤ a → n + 1 < a := by omega
    have m3 : ∀ {a n : Nat}, n + 2 ≤ a → n < a := by omega
    simp at hb
    rcases hb with rfl | rfl | rfl
    · exact m2 hle'
    · exact m3 hle'
    · exact m1 hle' htplt
  · intro hb
    simp at hb
    exact absurd hb (n3 hcst)
  · intro href hhref
    refine ⟨fun A' E' i v s₂ m₂ _ _ _ _ _ => wpAny_tests_nil ⟨rfl, kpRefl _⟩, fun A' E' i v s₂ m₂ _ hP _ hn₂ hm₂ _ => ?_⟩
    obtain ⟨y, u, rfl, hy⟩ := hP
    have hy' : (y, u) ∈ ts := (List.mem_filter.mp (List.mem_of_getElem? hy)).1
    obtain ⟨pl, hpl⟩ := hm s₃.heap.objs.size code builtinsNs
    exact c_strip hn₂ hm₂ (hsz _ hy') (fun t' k => ⟨⟨(y, u), t', rfl, hy⟩, kpTok _ _⟩) hkind hx hxd hpl
  · rw [passing_all, List.length_range] at W
    refine SC.joinGen W.in4_2 (fun i s' st => st.1.typeIs) hat ?_ List.mem_cons_self ?_ ?_ (Nat.le_trans (List.length_filter_le ..) hn)
    · intro b hb
      show b < h₅.objs.size
      rw [hsz₅]
      rcases List.mem_cons.mp hb with rfl | hb
      · exact Nat.lt_succ_self _
      · rcases List.mem_cons.mp hb with rfl | hb
        · exact Nat.lt_succ_of_lt hlt
        · exact Nat.lt_succ_of_lt (Nat.lt_trans (List.mem_range.mp hb) hlt)
    · rintro j v ⟨i, _, p, u, rfl, _⟩
      exact ⟨_, u, rfl⟩
    · intro s' l hmv hacc
      have hl : l.map (·.1) = (ts.filter neT).map fun p => Txt.strip p.1 := by
        apply List.ext_getElem?
        intro j
        have hlen : l.length = (ts.filter neT).length := by simpa [strValues] using hacc.1
        by_cases hj : j < l.length
        · obtain ⟨i, hi, p, u, hv, hp⟩ := hacc.2 j (.str l[j].1 l[j].2) (by simp [strValues, List.getElem?_eq_getElem hj])
          have hi' : i = j := by
            rw [List.getElem?_range (by omega)] at hi
            exact (Option.some.inj hi).symm
          subst hi'
          injection hv with h1 _
          rw [List.getElem?_map, List.getElem?_map, hp, List.getElem?_eq_getElem hj]
          simp [h1]
        · rw [List.getElem?_eq_none (by simpa using hj), List.getElem?_eq_none (by rw [List.length_map]; omega)]
      rw [hl]
      refine ⟨hok, fun t' k => hQ t' _ ?_⟩
      have keep : ∀ b o, b < s.heap.objs.size → s₃.heap.get? b = some o → s'.heap.get? b = some o := by
        intro b o hb e
        refine hmv.heap b o ?_ (hk₅ b o e)
        have k1 : ∀ {a b n : Nat}, n + 2 ≤ a → b < n → b ≠ a := by omega
        intro hmem
        rcases List.mem_cons.mp hmem with h | h
        · exact k1 hle' hb h
        · simp at h; exact n3 hb h
      have hcP := codeNe ic
      refine ⟨?_, ?_, ?_, ?_, ?_⟩
      · intro b o hb e
        exact keep b o (Heap.lt_size e) (e₃ b o hb (hk b o e))
      · obtain ⟨_, ps₁, more, ic₁, ta₁, ic', ta'⟩ := g.tab
        have hps : ps₁ = ps := by
          have := Option.some.inj (ta₁.2.symm.trans (hk _ _ ta.2))
          injection this with _ _ h3
          injection h3
        subst hps
        refine ⟨hPs, ps₁, more, ic, ta, ?_, ?_⟩
        · obtain ⟨o', vs', file', tf', flags', tg', inF', text', tt', op', ho', r1, r2, r3, r4, r5, r6, hop', r7⟩ := ic'
          exact ⟨o', vs', file', tf', flags', tg', inF', text', tt', op', keep _ _ hclt ho', r1, r2, r3, r4, r5, r6, keep _ _ hPlt hop', r7⟩
        · obtain ⟨⟨o, vs, e, r⟩, e'⟩ := ta'
          exact ⟨⟨o, vs, keep _ _ hclt e, r⟩, keep _ _ hPlt e'⟩
      · intro hbare
        have : AllBare s₃.gens := by rw [hgens]; exact hbare
        show AllBare s'.gens
        exact (this.push hb).moved hmv.gens
      · exact hmv.os.trans g.os
      · exact hmv.drawn.trans g.drawn
end
end Mine
end

section
open PySem PySem.W PySem.Calls PyProof.Rows
open PySem.Builtin PySem.Builtin.Str
set_option maxRecDepth 100000
set_option maxHeartbeats 1000000
namespace Mine
/-- y by z, from the left; the number: signs still to pass over -/
def scan (y z : List Nat) : Nat → List Nat → List Nat
  | _, [] => []
  | k + 1, _ :: r => scan y z k r
  | 0, c :: r => if (c :: r).take y.length = y then z ++ scan y z (y.length - 1) r else c :: scan y z 0 r
def occL (y : List Nat) : Nat → Nat → List Nat → List Nat
  | _, _, [] => []
  | i, k + 1, _ :: r => occL y (i + 1) k r
  | i, 0, c :: r => if (c :: r).take y.length = y then i :: occL y (i + 1) (y.length - 1) r else occL y (i + 1) 0 r

theorem occ_list {x y : Str} (hy : 0 < y.length) {limit : Nat} : ∀ (l : List Nat) (i skip free : Nat) (found : Array Nat), free - i = skip → l = (tl x).drop i → i + l.length = x.length → found.size ≤ i → x.length < limit →
    (forIn (List.range' i (l.length + 1)) (found, free) (StrLaws.occBody x y x.length limit)).run.fst.toList = found.toList ++ occL (tl y) i skip l
  | [], i, skip, free, found, hfr, hl, hi, hf, hlim => by
    show (forIn (i :: []) (found, free) (StrLaws.occBody x y x.length limit)).run.fst.toList = _
    rw [List.forIn_cons]
    unfold StrLaws.occBody
    rw [if_neg (by simp at hi ⊢; omega)]
    simp [occL]
  | c :: r, i, skip, free, found, hfr, hl, hi, hf, hlim => by
    have hr : r = (tl x).drop (i + 1) := by
      rw [← List.drop_drop, ← hl]; rfl
    have hi' : i + 1 + r.length = x.length := by simp at hi; omega
    rw [show List.range' i ((c :: r).length + 1) = i :: List.range' (i + 1) (r.length + 1) by rw [List.length_cons, List.range'_succ]]
    rw [List.forIn_cons]
    cases skip with
    | succ k =>
      rw [show StrLaws.occBody x y x.length limit i (found, free) = pure (ForInStep.yield (found, free)) from if_neg (by rintro ⟨⟨⟨_, h⟩, _⟩, _⟩; change free ≤ i at h; omega)]
      exact occ_list hy r (i + 1) k free found (by omega) hr hi' (by omega) hlim (limit := limit)
    | zero =>
      have hsub : subAt x y i = ((c :: r).take y.length == tl y) := by rw [StrLaws.subAt_eq, hl]; rfl
      by_cases hm : (c :: r).take (tl y).length = tl y
      · have hlen : y.length ≤ (c :: r).length := by
          have := congrArg List.length hm
          rw [List.length_take, tl_length] at this; omega
        rw [show StrLaws.occBody x y x.length limit i (found, free) = pure (ForInStep.yield (found.push i, i + y.length)) from
          if_pos ⟨⟨⟨by show found.size < limit; omega, by show free ≤ i; omega⟩, by omega⟩, by rw [hsub]; rw [tl_length] at hm; simpa using hm⟩]
        have := occ_list hy r (i + 1) (y.length - 1) (i + y.length) (found.push i) (by omega) hr hi' (by simp; omega) hlim (limit := limit)
        rw [occL, if_pos hm, tl_length]
        rw [Array.toList_push, List.append_assoc] at this
        exact this
      · rw [show StrLaws.occBody x y x.length limit i (found, free) = pure (ForInStep.yield (found, free)) from
          if_neg (by rintro ⟨_, h⟩; rw [hsub] at h; rw [tl_length] at hm; exact hm (by simpa using h))]
        rw [occL, if_neg hm]
        exact occ_list hy r (i + 1) 0 free found (by omega) hr hi' (by omega) hlim (limit := limit)

theorem occs {x y : Str} (hy : 0 < y.length) : occurrences x y 0 x.length (x.length + 1) = occL (tl y) 0 0 (tl x) := by
  rw [StrLaws.occ_eq]
  have := occ_list hy (tl x) 0 0 0 #[] rfl rfl (by rw [tl_length]; omega) (Nat.le_refl _) (Nat.lt_succ_self x.length)
  rw [tl_length] at this
  simpa using this

theorem glue_tl (z p : Str) (r : List Str) : tl (glued z (p :: r)) = tl p ++ r.flatMap fun q => tl z ++ tl q := by
  have key : ∀ (r : List Str) (acc : Array Nat), (r.foldl (fun acc p => acc ++ z.cps ++ p.cps) acc).toList = acc.toList ++ r.flatMap fun q => tl z ++ tl q := by
    intro r
    induction r with
    | nil => simp
    | cons q r ih => intro acc; rw [List.foldl_cons, ih]; simp [tl]
  show ((((p :: r).drop 1).foldl (fun acc p => acc ++ z.cps ++ p.cps) ((p :: r).headD Str.empty).cps).toList) = _
  rw [key]; rfl

theorem sub_tl (x : Str) (i j : Nat) : tl (strSub x i j) = ((tl x).drop i).take (j - i) := StrLaws.strSub_toList x i j
theorem parts_scan {x y z : Str} (hy : 0 < y.length) : ∀ (l : List Nat) (i skip a : Nat), l = (tl x).drop i → i + l.length = x.length → (skip = 0 → a ≤ i) → (0 < skip → a = i + skip) → i + skip ≤ x.length →
    tl (glued z (StrLaws.partsFrom x y.length a (occL (tl y) i skip l))) = ((tl x).drop a).take (i - a) ++ scan (tl y) (tl z) skip l
  | [], i, skip, a, hl, hi, h0, h1, hs => by
    simp only [occL, scan, StrLaws.partsFrom, List.append_nil]
    rw [glue_tl, sub_tl]
    simp at hi
    by_cases hk : skip = 0
    · simp [hi]
    · have := h1 (by omega)
      simp [List.take_eq_nil_iff]; omega
  | c :: r, i, skip, a, hl, hi, h0, h1, hs => by
    have hr : r = (tl x).drop (i + 1) := by
      rw [← List.drop_drop, ← hl]; rfl
    have hi' : i + 1 + r.length = x.length := by simp at hi; omega
    cases skip with
    | succ k =>
      have ha := h1 (by omega)
      rw [occL, scan]
      have ih := parts_scan (z := z) hy r (i + 1) k a hr hi' (by omega) (by omega) (by omega)
      rw [ih]
      congr 1
      rw [show i - a = 0 by omega, show i + 1 - a = 0 by omega]
    | zero =>
      have ha := h0 rfl
      rw [occL, scan]
      by_cases hm : (c :: r).take (tl y).length = tl y
      · have hlen : y.length ≤ (c :: r).length := by
          have := congrArg List.length hm
          rw [List.length_take, tl_length] at this; omega
        rw [if_pos hm, if_pos hm, tl_length]
        have ih := parts_scan (z := z) hy r (i + 1) (y.length - 1) (i + y.length) hr hi' (by omega) (by omega) (by simp at hlen; omega)
        show tl (glued z (strSub x a i :: StrLaws.partsFrom x y.length (i + y.length) (occL (tl y) (i + 1) (y.length - 1) r))) = _
        obtain ⟨p, q, hpq⟩ := StrLaws.partsFrom_ne x y.length (i + y.length) (occL (tl y) (i + 1) (y.length - 1) r)
        rw [hpq] at ih ⊢
        rw [glue_tl] at ih ⊢
        rw [List.flatMap_cons, sub_tl, List.append_assoc, ih, show i + 1 - (i + y.length) = 0 by omega]
        simp
      · rw [if_neg hm, if_neg hm]
        have ih := parts_scan (z := z) hy r (i + 1) 0 a hr hi' (by omega) (by omega) (by omega)
        rw [ih]
        rw [show i + 1 - a = (i - a) + 1 by omega, List.take_add_one, List.append_assoc]
        congr 1
        rw [List.getElem?_drop, show a + (i - a) = i by omega]
        have : (tl x)[i]? = some c := by
          have := congrArg (·[0]?) hl
          simp at this; exact this.symm
        rw [this]; rfl
theorem repl_tl {x y z : Str} (hy : 0 < y.length) : tl (Txt.replace x y z) = scan (tl y) (tl z) 0 (tl x) := by
  unfold Txt.replace
  have e : tl (glued z (partsBetween x (occurrences x y 0 x.length (x.length + 1)) y.length)) = scan (tl y) (tl z) 0 (tl x) := by
    rw [StrLaws.partsBetween_eq, occs hy, parts_scan hy (tl x) 0 0 0 rfl (by rw [tl_length]; omega) (fun _ => Nat.le_refl _) (fun h => absurd h (by decide)) (by omega)]
    simp
  split
  · rename_i h
    rw [← e]
    have h' : (occurrences x y 0 x.length (x.length + 1)) = [] := by
      simp at h
      rcases h with h | ⟨h, _⟩
      · exact h
      · omega
    rw [h', StrLaws.partsBetween_eq]
    show tl x = tl (glued z [strSub x 0 x.length])
    rw [glue_tl, sub_tl]
    simp [← tl_length]
  · exact e
end Mine
end

section
open PySem PySem.W PySem.Calls PyProof.Rows
set_option maxRecDepth 100000
set_option maxHeartbeats 1000000
namespace Mine
theorem scan_one (c d : Nat) : ∀ l : List Nat, scan [c] [d] 0 l = l.map fun x => if x = c then d else x
  | [] => rfl
  | x :: r => by
    rw [scan, List.map_cons]
    have e : (x :: r).take [c].length = [x] := by simp
    rw [e]
    by_cases h : x = c
    · subst h; simp [scan_one]
    · simp [h, scan_one]
theorem scan_skip (y z : List Nat) : ∀ (k : Nat) (l : List Nat), scan y z k l = scan y z 0 (l.drop k)
  | 0, l => by simp
  | k + 1, [] => by simp [scan]
  | k + 1, c :: r => by rw [scan, scan_skip y z k r]; rfl
theorem scan_unk (l : List Nat) : scan unk [] 0 l = dels l := by
  suffices H : ∀ (n : Nat) (l : List Nat), l.length ≤ n → scan unk [] 0 l = dels l from H _ _ (Nat.le_refl _)
  intro n
  induction n with
  | zero => intro l h; rw [List.length_eq_zero_iff.mp (by omega : l.length = 0), dels_nil]; rfl
  | succ n ih =>
    intro l h
    cases l with
    | nil => rw [dels_nil]; rfl
    | cons c r =>
      rw [scan]
      have e : unk.length = 7 := rfl
      rw [e]
      by_cases hm : (c :: r).take 7 = unk
      · rw [if_pos hm, dels_unk hm, List.nil_append, scan_skip, ih _ (by simp at h ⊢; omega)]
        rfl
      · rw [if_neg hm, dels_cons hm, ih r (by simp at h; omega)]
def hal (l : List Nat) : List Nat := scan [45, 45] [45] 0 l
theorem hal_two (r : List Nat) : hal (45 :: 45 :: r) = 45 :: hal r := by
  show scan [45, 45] [45] 0 (45 :: 45 :: r) = _
  rw [scan, if_pos (by simp)]
  rfl
theorem hal_cons {c : Nat} {r : List Nat} (h : ¬ (c = 45 ∧ r.head? = some 45)) : hal (c :: r) = c :: hal r := by
  show scan [45, 45] [45] 0 (c :: r) = _
  rw [scan, if_neg]
  · rfl
  · intro e
    cases r with
    | nil => simp at e
    | cons d r => simp at e; exact h ⟨e.1, by simp [e.2]⟩
def noHH : List Nat → Bool
  | a :: b :: r => !(a == 45 && b == 45) && noHH (b :: r)
  | _ => true
theorem hal_len_le : ∀ l : List Nat, (hal l).length ≤ l.length := by
  intro l
  suffices H : ∀ (n : Nat) (l : List Nat), l.length ≤ n → (hal l).length ≤ l.length from H _ _ (Nat.le_refl _)
  intro n
  induction n with
  | zero => intro l h; rw [List.length_eq_zero_iff.mp (by omega : l.length = 0)]; exact Nat.le_refl _
  | succ n ih =>
    intro l h
    cases l with
    | nil => exact Nat.le_refl _
    | cons c r =>
      by_cases hc : c = 45 ∧ r.head? = some 45
      · cases r with
        | nil => simp at hc
        | cons d r =>
          obtain ⟨rfl, hd⟩ := hc
          simp at hd; subst hd
          rw [hal_two]
          have := ih r (by simp at h; omega)
          simp; omega
      · rw [hal_cons hc]
        have := ih r (by simp at h; omega)
        simp; omega
theorem hal_id : ∀ l : List Nat, noHH l = true → hal l = l
  | [], _ => rfl
  | [c], _ => by rw [hal_cons (by simp)]; rfl
  | c :: d :: r, h => by
    simp only [noHH, Bool.and_eq_true, Bool.not_eq_true'] at h
    rw [hal_cons, hal_id (d :: r) h.2]
    rintro ⟨rfl, hd⟩
    simp at hd; subst hd
    simp at h
theorem hal_lt : ∀ l : List Nat, noHH l = false → (hal l).length < l.length
  | [], h => by cases h
  | [c], h => by cases h
  | c :: d :: r, h => by
    by_cases hc : c = 45 ∧ d = 45
    · obtain ⟨rfl, rfl⟩ := hc
      rw [hal_two]
      have := hal_len_le r
      simp; omega
    · rw [hal_cons (by simpa using hc)]
      have h' : noHH (d :: r) = false := by
        simp only [noHH] at h
        have : (c == 45 && d == 45) = false := by simpa using hc
        rw [this] at h; simpa using h
      have := hal_lt (d :: r) h'
      simp at this ⊢; omega
theorem hal_fold : ∀ (n : Nat) (l acc : List Nat), l.length ≤ n → (hal l).foldl pushH acc = l.foldl pushH acc := by
  intro n
  induction n with
  | zero => intro l acc h; rw [List.length_eq_zero_iff.mp (by omega : l.length = 0)]; rfl
  | succ n ih =>
    intro l acc h
    cases l with
    | nil => rfl
    | cons c r =>
      by_cases hc : c = 45 ∧ r.head? = some 45
      · cases r with
        | nil => simp at hc
        | cons d r =>
          obtain ⟨rfl, hd⟩ := hc
          simp at hd; subst hd
          rw [hal_two, List.foldl_cons, List.foldl_cons, List.foldl_cons, ih r _ (by simp at h; omega)]
          congr 1
          have hl : (pushH acc 45).getLast? = some 45 := by
            unfold pushH
            split
            · rename_i h; exact h.2
            · simp
          rw [pushH.eq_def (pushH acc 45), if_pos ⟨rfl, hl⟩]
      · rw [hal_cons hc, List.foldl_cons, List.foldl_cons, ih r _ (by simp at h; omega)]
theorem fold_id : ∀ (l acc : List Nat), noHH l = true → (acc.getLast? = some 45 → l.head? ≠ some 45) → l.foldl pushH acc = acc ++ l
  | [], acc, _, _ => by simp
  | [c], acc, _, h => by
    show pushH acc c = _
    unfold pushH
    rw [if_neg]
    rintro ⟨rfl, h2⟩
    exact h h2 rfl
  | c :: d :: r, acc, hn, h => by
    rw [List.foldl_cons]
    have e : pushH acc c = acc ++ [c] := by
      unfold pushH
      rw [if_neg]
      rintro ⟨rfl, h2⟩
      exact h h2 rfl
    simp only [noHH, Bool.and_eq_true, Bool.not_eq_true'] at hn
    rw [e, fold_id (d :: r) _ hn.2 ?_]
    · simp
    · intro h1 h2
      simp at h1 h2
      subst h1 h2
      simp at hn
theorem sq_id {l : List Nat} (h : noHH l = true) : l.foldl pushH [] = l := by
  rw [fold_id l [] h (by simp)]; rfl
def chopA (l : List Nat) : List Nat := (l.reverse.dropWhile (· == 45)).reverse
def stripT (x : List Nat) : List Nat := tl (Txt.strip (ms x))
def joinT (rows : List (List Nat)) : List Nat := List.intercalate [45] ((rows.filter fun t => decide (t ≠ [])).map stripT)
def platT (rows : List (List Nat)) : List Nat := chopA ((dels ((joinT rows).map signC)).foldl pushH [])
def sub8 (x : Nat) : Nat :=
  (fun x => if x = 41 then 45 else x) ((fun x => if x = 40 then 45 else x) ((fun x => if x = 34 then 45 else x) ((fun x => if x = 59 then 45 else x) ((fun x => if x = 58 then 45 else x) ((fun x => if x = 92 then 45 else x) ((fun x => if x = 47 then 45 else x) ((fun x => if x = 32 then 95 else x) x)))))))
theorem sub8_sign (x : Nat) : sub8 x = signC x := by
  unfold sub8 signC seven
  by_cases h1 : x = 32
  · subst h1; decide
  by_cases h2 : x = 47
  · subst h2; decide
  by_cases h3 : x = 92
  · subst h3; decide
  by_cases h4 : x = 58
  · subst h4; decide
  by_cases h5 : x = 59
  · subst h5; decide
  by_cases h6 : x = 34
  · subst h6; decide
  by_cases h7 : x = 40
  · subst h7; decide
  by_cases h8 : x = 41
  · subst h8; decide
  simp [h1, h2, h3, h4, h5, h6, h7, h8]
theorem dels_len (l : List Nat) : (dels l).length ≤ l.length := by
  suffices H : ∀ (n : Nat) (l : List Nat), l.length ≤ n → (dels l).length ≤ l.length from H _ _ (Nat.le_refl _)
  intro n
  induction n with
  | zero => intro l h; rw [List.length_eq_zero_iff.mp (by omega : l.length = 0), dels_nil]; exact Nat.le_refl _
  | succ n ih =>
    intro l h
    by_cases hm : l.take 7 = unk
    · have hl : 7 ≤ l.length := by
        have := congrArg List.length hm
        rw [List.length_take] at this
        simp [unk] at this; omega
      rw [dels_unk hm]
      have := ih (l.drop 7) (by rw [List.length_drop]; omega)
      rw [List.length_drop] at this; omega
    · cases l with
      | nil => rw [dels_nil]; exact Nat.le_refl _
      | cons c r =>
        rw [dels_cons hm]
        have := ih r (by simp at h; omega)
        simp; omega
end Mine
end

section
open PySem PySem.W PySem.Calls PyProof.Rows
set_option maxRecDepth 100000
set_option maxHeartbeats 1000000
namespace Mine
section
variable {w : World} {A : Around} {E : Value → Shared → Prop} {s₀ s : Shared} {name : Str} {scope : Scope} {L f : Addr} {cd : Value} {l : List (Str × Value)} {N : List (Addr × Obj)}
theorem r_store1 {x : Str} {v : Value} {Q : Unit → Shared → Prop} (a : At s₀ L l N s) (h : ∀ s', At s₀ L ((x, v) :: l) N s' → 1 ≤ s'.toks → Q () s')
    (hk : scope.kind = .function := by rfl) (hl : (envOf name scope L f cd).kindOf x = some .local := by rfl) :
    wpAny (model prog w) A (storeName (envOf name scope L f cd) x v) Q E s := by
  obtain ⟨m, F, hm⟩ := a.fr
  refine wpAny_storeName_local hl F.ns (fun h' hn hs => ?_) (by show (scope.kind == .class || (scope.kind == .module && L != mainGlobals)) = false; rw [hk]; rfl)
  obtain ⟨h₁, tk₁, e⟩ := a.same
  refine h _ ⟨⟨_, F.set hn hs, fun y u hy => ?_⟩, a.news.set hs, ⟨h', s.toks + 1, by rw [e]⟩⟩ (by show 1 ≤ s.toks + 1; omega)
  rw [List.lookup_cons] at hy
  by_cases hyx : y = x
  · subst hyx
    rw [beq_self_eq_true] at hy
    cases hy
    exact if_pos rfl
  · have hb : (y == x) = false := by simpa using hyx
    rw [hb] at hy
    show (if y = x then some v else m y) = some u
    rw [if_neg hyx]; exact hm _ _ hy
theorem tok_ne {n : Nat} (h : 1 ≤ n) : n ≠ 0 := by omega
theorem tok_ne1 (n : Nat) : n ≠ n + 1 := by omega
/-- x.replace(y, z) -/
theorem r_repl {x y z v : Str} {t : Tok} {p1 p2 p3 ap pos : Pos} {k1 k2 : Nat} {Q : Value → Shared → Prop} (a : At s₀ L l N s) (h1 : 1 ≤ s.toks) (hv : l.lookup x = some (.str v t))
    (hyz : (y == z) = false) (hz : z.length ≤ 1) (hb : v.length ≤ 4000000) (h : ∀ t s', At s₀ L l N s' → Q (.str (Txt.replace v y z) t) s')
    (hk : scope.kind = .function := by rfl) (hl : (envOf name scope L f cd).kindOf x = some .local := by rfl)
    (hd : (x == ("__debug__" : Str)) = false := by decide) {pl : Sem Bool}
    (hm : eval (.Call (.Attribute (.Name x p1) "replace" ap) [.Constant (.str y) k1 p2, .Constant (.str z) k2 p3] [] pos) (envOf name scope L f cd) = (do
      let ov ← eval (.Name x p1) (envOf name scope L f cd)
      standAt ap.atName
      let (f', first) ← holding [ov] (getMethod ov "replace" pl)
      callWith pos f' first (backTo pos (starEach [.Constant (.str y) k1 p2, .Constant (.str z) k2 p3] (envOf name scope L f cd))) []) := by rfl) :
    wpAny (model prog w) A (eval (.Call (.Attribute (.Name x p1) "replace" ap) [.Constant (.str y) k1 p2, .Constant (.str z) k2 p3] [] pos) (envOf name scope L f cd)) Q E s := by
  refine m_replace (r_name a ⟨v, t, rfl, wpAny_Constant_str (wpAny_Constant_str ?_)⟩ hv hk hl hd) rfl rfl hm rfl
  refine SC.replace (tok_ne h1) (tok_ne (Nat.le_add_left 1 _)) (tok_ne1 _) hyz ?_ fun t' k => h t' _ (a.tok k)
  have : (v.length + 1) * z.length ≤ (v.length + 1) * 1 := Nat.mul_le_mul_left _ hz
  omega
/-- x and x[-1] == '-' -/
theorem last_test (l : List Nat) (h : l ≠ []) : ∃ c, l.getLast? = some c ∧ l[l.length - 1]? = some c := by
  obtain ⟨r, c, rfl⟩ : ∃ r c, l = r ++ [c] := ⟨l.dropLast, l.getLast h, (List.dropLast_concat_getLast h).symm⟩
  exact ⟨c, by simp, by simp⟩
end
section
variable {w : World} {P c : Addr} {fa : Str → Addr} {b1a b3a : Addr} {mg mb : Str → Option Value} {A : Around} {E : Value → Shared → Prop} {s : Shared}
def tupObj (vs : List Value) : Obj := { cls := .type "tuple", data := .seq vs.toArray }
theorem tupObj_is {h : Heap} {a : Addr} {vs : List Value} (e : h.get? a = some (tupObj vs)) : h.IsTuple a vs.toArray := ⟨_, e, rfl, _, rfl⟩
/-- the def with the star parameter is entered -/
theorem enter_plat {vs : List Value} {Q : Value → Shared → Prop} {params : Arguments} {body : List Stmt} {sc : Scope} (T : TopF w P fa b1a b3a mg mb s.heap) (X : PF c P fa mg s.heap) (hd : prog.theDef "_platform" = some (params, body, sc)) (hroom : A.depth < 1000)
    (hbind : ∀ pm cd doc, bindArgs (docDef "_platform" params body sc pm cd doc) ⟨vs, []⟩ = (do let t ← newTuple vs; pure [(("args" : Str), t)])) (hloc : sc.names.lookup ("args" : Str) = some .local) (hsz : vs.length ≤ sizeLine)
    (h : ∀ s', At s (s.heap.objs.size + 1) [("args", .ref s.heap.objs.size)] [(s.heap.objs.size, tupObj vs)] s' →
      wpAny (model prog w) (A.deeper (envOf "_platform" sc (s.heap.objs.size + 1) (fa "_platform") (.ref c))) (execs body (envOf "_platform" sc (s.heap.objs.size + 1) (fa "_platform") (.ref c)))
        (fun fl s' => Q (match fl with | .ret v => v | _ => .none) s') (fun _ _ => False) s')
    (hco : sc.isCoroutine = false := by rfl) (hgen : sc.isGenerator = false := by rfl) (hk : sc.kind = .function := by rfl)
    (hcell : ∀ x ∈ sc.names, x.2 ≠ .cell := by decide) :
    wpAny (model prog w) A (call (.ref (fa "_platform")) vs) Q E s := by
  obtain ⟨_, _, o, pm, c', doc, h3, h4, h5, h6⟩ := T.fn "_platform" params body sc hd
  obtain ⟨o', pm', doc', h3', h4'⟩ := X.code params body sc hd
  have hc : c' = c := by
    rw [h3] at h3'; cases h3'
    rw [h4] at h4'
    injection h4' with h4'
    have hcc := congrArg FuncData.code h4'
    change Value.ref c' = Value.ref c at hcc
    injection hcc
  subst hc
  refine wpAny_call (codeAny_call_function hroom h3 h4 hco hgen rfl h5 ?_)
  rw [hbind]
  refine wpAny_bind (wpAny_newTuple (wpAny_pure ?_) hsz)
  refine wpAny_newFunctionEnv hcell ?_ (fun h₁ hns hsb => ⟨(T.nolimit.push _).fresh _ hsb, ?_⟩) hk
  · intro y hy; simp at hy; subst hy; exact hloc
  show codeAny _ _ (.func body (envOf "_platform" sc (s.heap.push (tupObj vs)).objs.size (fa "_platform") (.ref c'))) _ _
  have hz : (s.heap.push (tupObj vs)).objs.size = s.heap.objs.size + 1 := Heap.size_push ..
  change Heap.SameBut (s.heap.push (tupObj vs)).objs.size ((s.heap.push (tupObj vs)).push _) h₁ at hsb
  change Heap.Ns h₁ (s.heap.push (tupObj vs)).objs.size _ at hns
  have hkeep : ∀ b o, (s.heap.push (tupObj vs)).get? b = some o → h₁.get? b = some o := fun b o e => hsb.extBut b o (Nat.ne_of_lt (Heap.lt_size e)) (Heap.get?_push_of_some _ e)
  rw [hz] at hns ⊢
  have a : At s (s.heap.objs.size + 1) [("args", .ref s.heap.objs.size)] [(s.heap.objs.size, tupObj vs)] { s with heap := h₁, toks := s.toks + 1 } := by
    refine ⟨⟨_, ⟨hns, fun b o e => hkeep b o (Heap.get?_push_of_some _ e), Nat.le_succ _⟩, fun x v e => e⟩, ?_, ⟨h₁, _, rfl⟩⟩
    intro p hp
    simp at hp
    subst hp
    exact ⟨hkeep _ _ (Heap.get?_push_size _ rfl), Nat.ne_of_lt (Nat.lt_succ_self _), get_size _⟩
  exact codeAny_func (wpAny_mono (h _ a) (fun fl s' q => q) fun _ _ q => q.elim)
end
end Mine
end

section
open PySem PySem.W PySem.Calls PyProof.Rows
set_option maxRecDepth 100000
set_option maxHeartbeats 4000000
namespace Mine
theorem repl_one {l : List Nat} {y z : Str} (c d : Nat) (hy : tl y = [c]) (hz : tl z = [d]) : Txt.replace (ms l) y z = ms (l.map fun x => if x = c then d else x) := by
  apply tl_inj
  rw [repl_tl (by rw [← tl_length, hy]; exact Nat.one_pos), hy, hz, tl_ms, scan_one, tl_ms]
theorem repl_unk {l : List Nat} {y z : Str} (hy : tl y = unk) (hz : tl z = []) : Txt.replace (ms l) y z = ms (dels l) := by
  apply tl_inj
  rw [repl_tl (by rw [← tl_length, hy]; decide), hy, hz, tl_ms, scan_unk, tl_ms]
theorem repl_hh {x y z : Str} (hy : tl y = [45, 45]) (hz : tl z = [45]) : tl (Txt.replace x y z) = hal (tl x) := by
  rw [repl_tl (by rw [← tl_length, hy]; decide), hy, hz]; rfl
theorem join_tl (ts : List (Str × Tok)) : Txt.join "-" ((ts.filter neT).map fun p => Txt.strip p.1) = ms (joinT (ts.map fun p => tl p.1)) := by
  apply tl_inj
  rw [tl_join, tl_ms, show tl "-" = [45] by decide +kernel]
  unfold joinT
  congr 1
  rw [List.map_map, List.filter_map, List.map_map]
  have e : ts.filter neT = ts.filter ((fun t => decide (t ≠ [])) ∘ fun p => tl p.1) := by
    apply List.filter_congr
    intro p _
    show (p.1.length != 0) = decide (tl p.1 ≠ [])
    rw [← tl_length]
    cases tl p.1 <;> simp
  rw [e]
  apply List.map_congr_left
  intro p _
  show tl (Txt.strip p.1) = tl (Txt.strip (ms (tl p.1)))
  rw [ms_tl]
theorem strip_len (y : Str) : (Txt.strip y).length ≤ y.length := len_strip y
theorem chopA_snoc (r : List Nat) : chopA (r ++ [45]) = chopA r := by simp [chopA]
theorem chopA_id {l : List Nat} (h : l.getLast? ≠ some 45) : chopA l = l := by
  rcases List.eq_nil_or_concat l with rfl | ⟨r, c, rfl⟩
  · rfl
  · simp at h; simp [chopA, h]
theorem item_last {x : Str} {c : Nat} (h : (tl x).getLast? = some c) : Txt.item x (-1) = ⟨#[c]⟩ := by
  obtain ⟨r, hr⟩ : ∃ r, tl x = r ++ [c] := by
    rcases List.eq_nil_or_concat (tl x) with e | ⟨r, d, e⟩
    · rw [e] at h; cases h
    · rw [e] at h; simp at h; subst h; exact ⟨r, by simpa using e⟩
  have hl : x.length = r.length + 1 := by rw [← tl_length, hr]; simp
  have h' : x.cps[r.length]? = some c := by rw [← Array.getElem?_toList]; show (tl x)[r.length]? = _; rw [hr]; simp
  unfold Txt.item
  have : PySem.Txt.charAt x (-1) = some c := by
    unfold PySem.Txt.charAt
    have e : PySem.seqIndex? (-1) x.length = some r.length := by
      unfold PySem.seqIndex?
      simp only [Option.ite_none_right_eq_some, Bool.and_eq_true, decide_eq_true_eq, Option.some.injEq]
      rw [if_pos (by omega)]
      omega
    rw [e]; exact h'
  rw [this]; rfl
section
variable {w : World} {P c : Addr} {fa : Str → Addr} {b1a b3a : Addr} {mg mb : Str → Option Value} {A : Around} {E : Value → Shared → Prop} {s : Shared}
theorem plat_spec {ts : List (Str × Tok)} {Q : Value → Shared → Prop} (T : TopF w P fa b1a b3a mg mb s.heap) (X : PF c P fa mg s.heap) (t : Tab c P s.heap) (hh : A.handled = none) (hroom : A.depth < 900) (htot : tot (ts.map (·.1)) ≤ 1000000)
    (h : ∀ t' s', Gr c P s s' → Q (.str (ms (platT (ts.map fun p => tl p.1))) t') s') : wpAny (model prog w) A (call (.ref (fa "_platform")) (strValues ts)) Q E s := by
  have hsl : sizeLine = 16777216 := rfl
  have hlen : ts.length ≤ 1000000 := by unfold tot at htot; simp at htot; omega
  have hsz : ∀ p ∈ ts, p.1.length ≤ sizeLine := by
    intro p hp
    have := le_sum_of_mem (l := (ts.map (·.1)).map (·.length)) (n := p.1.length) (List.mem_map_of_mem (List.mem_map_of_mem hp))
    unfold tot at htot; omega
  refine enter_plat T X (by rfl) (by omega) (fun pm cd doc => by cases strValues ts <;> rfl) rfl (by rw [strValues, List.length_map]; omega) fun s₁ a => ?_
  refine wpAny_execs_cons ?_
  refine wpAny_Assign_Name ?_
  refine m_join (r_str a fun t₁ s₂ a => ⟨_, _, rfl, ?_⟩)
  have htp := tupObj_is (a.obj (List.mem_cons_self ..))
  have hb8 : tot ((ts.filter neT).map fun p => Txt.strip p.1) ≤ 1000000 := by
    have := tot_filter (p := fun y => y.length != 0) (F := Txt.strip) strip_len (ts.map (·.1))
    rw [List.filter_map, List.map_map] at this
    exact Nat.le_trans this htot
  refine c_join hh (by show A.depth + 1 < 1000; omega) (T.keeps a.keep) (X.keeps a.keep) (t.keeps a.keep) rfl rfl htp hsz (by omega) (joinOk_of ?_) ?_ ?_ rfl rfl (by decide) rfl rfl rfl (by decide) (fun _ _ _ => ⟨_, rfl⟩) (fun _ => rfl)
  · rw [show (PySem.Str.ofString "-").length = 1 by decide +kernel]
    unfold tot at hb8; omega
  · intro Q' q
    refine Call_ (r_bi T a (x := "filter") (by decide) boot_filter ?_)
    refine PyProof.Rows.callWith_type1 ?_
    refine wpAny_items_cons (r_bi T a (x := "len") (by decide) (by decide +kernel : bootBuiltins "len" = some (.builtin "len")) ?_)
    refine wpAny_items_cons (r_name a (wpAny_items_nil ?_))
    exact call_filter htp q
  intro t₂ s₃ g
  obtain ⟨s₀, g₀, a⟩ := a.grow t g
  clear htp
  have hjl : (joinT (ts.map fun p => tl p.1)).length ≤ 1000000 := by
    have h1 := Nat.le_trans (join_len _) hb8
    rw [join_tl, ← tl_length, tl_ms] at h1
    exact h1
  rw [join_tl]
  generalize hrows : (ts.map fun p => tl p.1) = rows at hjl h
  unfold platT at h
  generalize joinT rows = j at hjl h
  replace a := a.less (N' := []) (fun p hp => nomatch hp)
  have hGr : ∀ s', Keeps s₀ s' → Gr c P s s' := fun s' k => g₀.trans (Gr.of g₀.right k)
  clear g g₀
  generalize s.heap.objs.size + 1 = L at a ⊢
  refine r_store1 a fun s₄ a ht => ?_
  replace a := a.only (l' := [("platform", .str (ms j) t₂)]) ⟨look_head, trivial⟩
  have step : ∀ (f : Nat → Nat) (l : List Nat), l.length ≤ 1000000 → (ms (l.map f)).length ≤ 4000000 := fun f l hl => by
    rw [← tl_length, tl_ms, List.length_map]; omega
  have lj : (ms j).length ≤ 4000000 := by rw [← tl_length, tl_ms]; omega
  -- the eight signs
  refine wpAny_execs_cons (wpAny_Assign_Name (r_repl a ht rfl (by decide +kernel) (by decide +kernel) lj fun t s a => ?_))
  rw [repl_one 32 95 (by decide +kernel) (by decide +kernel)]
  refine r_store1 a fun s a ht => ?_
  obtain ⟨j1, hj1⟩ : ∃ j', j.map (fun x => if x = 32 then 95 else x) = j' := ⟨_, rfl⟩
  rw [hj1] at a
  replace a := a.only (l' := [("platform", .str (ms j1) t)]) ⟨look_head, trivial⟩
  have lj1 : (ms j1).length ≤ 4000000 := by
    have : (ms j1).length = (ms j).length := by rw [← tl_length, ← tl_length, tl_ms, tl_ms, ← hj1, List.length_map]
    omega
  refine wpAny_execs_cons (wpAny_Assign_Name (r_repl a ht rfl (by decide +kernel) (by decide +kernel) lj1 fun t s a => ?_))
  rw [repl_one 47 45 (by decide +kernel) (by decide +kernel)]
  refine r_store1 a fun s a ht => ?_
  obtain ⟨j2, hj2⟩ : ∃ j', j1.map (fun x => if x = 47 then 45 else x) = j' := ⟨_, rfl⟩
  rw [hj2] at a
  replace a := a.only (l' := [("platform", .str (ms j2) t)]) ⟨look_head, trivial⟩
  have lj2 : (ms j2).length ≤ 4000000 := by
    have : (ms j2).length = (ms j1).length := by rw [← tl_length, ← tl_length, tl_ms, tl_ms, ← hj2, List.length_map]
    omega
  refine wpAny_execs_cons (wpAny_Assign_Name (r_repl a ht rfl (by decide +kernel) (by decide +kernel) lj2 fun t s a => ?_))
  rw [repl_one 92 45 (by decide +kernel) (by decide +kernel)]
  refine r_store1 a fun s a ht => ?_
  obtain ⟨j3, hj3⟩ : ∃ j', j2.map (fun x => if x = 92 then 45 else x) = j' := ⟨_, rfl⟩
  rw [hj3] at a
  replace a := a.only (l' := [("platform", .str (ms j3) t)]) ⟨look_head, trivial⟩
  have lj3 : (ms j3).length ≤ 4000000 := by
    have : (ms j3).length = (ms j2).length := by rw [← tl_length, ← tl_length, tl_ms, tl_ms, ← hj3, List.length_map]
    omega
  refine wpAny_execs_cons (wpAny_Assign_Name (r_repl a ht rfl (by decide +kernel) (by decide +kernel) lj3 fun t s a => ?_))
  rw [repl_one 58 45 (by decide +kernel) (by decide +kernel)]
  refine r_store1 a fun s a ht => ?_
  obtain ⟨j4, hj4⟩ : ∃ j', j3.map (fun x => if x = 58 then 45 else x) = j' := ⟨_, rfl⟩
  rw [hj4] at a
  replace a := a.only (l' := [("platform", .str (ms j4) t)]) ⟨look_head, trivial⟩
  have lj4 : (ms j4).length ≤ 4000000 := by
    have : (ms j4).length = (ms j3).length := by rw [← tl_length, ← tl_length, tl_ms, tl_ms, ← hj4, List.length_map]
    omega
  refine wpAny_execs_cons (wpAny_Assign_Name (r_repl a ht rfl (by decide +kernel) (by decide +kernel) lj4 fun t s a => ?_))
  rw [repl_one 59 45 (by decide +kernel) (by decide +kernel)]
  refine r_store1 a fun s a ht => ?_
  obtain ⟨j5, hj5⟩ : ∃ j', j4.map (fun x => if x = 59 then 45 else x) = j' := ⟨_, rfl⟩
  rw [hj5] at a
  replace a := a.only (l' := [("platform", .str (ms j5) t)]) ⟨look_head, trivial⟩
  have lj5 : (ms j5).length ≤ 4000000 := by
    have : (ms j5).length = (ms j4).length := by rw [← tl_length, ← tl_length, tl_ms, tl_ms, ← hj5, List.length_map]
    omega
  refine wpAny_execs_cons (wpAny_Assign_Name (r_repl a ht rfl (by decide +kernel) (by decide +kernel) lj5 fun t s a => ?_))
  rw [repl_one 34 45 (by decide +kernel) (by decide +kernel)]
  refine r_store1 a fun s a ht => ?_
  obtain ⟨j6, hj6⟩ : ∃ j', j5.map (fun x => if x = 34 then 45 else x) = j' := ⟨_, rfl⟩
  rw [hj6] at a
  replace a := a.only (l' := [("platform", .str (ms j6) t)]) ⟨look_head, trivial⟩
  have lj6 : (ms j6).length ≤ 4000000 := by
    have : (ms j6).length = (ms j5).length := by rw [← tl_length, ← tl_length, tl_ms, tl_ms, ← hj6, List.length_map]
    omega
  refine wpAny_execs_cons (wpAny_Assign_Name (r_repl a ht rfl (by decide +kernel) (by decide +kernel) lj6 fun t s a => ?_))
  rw [repl_one 40 45 (by decide +kernel) (by decide +kernel)]
  refine r_store1 a fun s a ht => ?_
  obtain ⟨j7, hj7⟩ : ∃ j', j6.map (fun x => if x = 40 then 45 else x) = j' := ⟨_, rfl⟩
  rw [hj7] at a
  replace a := a.only (l' := [("platform", .str (ms j7) t)]) ⟨look_head, trivial⟩
  have lj7 : (ms j7).length ≤ 4000000 := by
    have : (ms j7).length = (ms j6).length := by rw [← tl_length, ← tl_length, tl_ms, tl_ms, ← hj7, List.length_map]
    omega
  refine wpAny_execs_cons (wpAny_Assign_Name (r_repl a ht rfl (by decide +kernel) (by decide +kernel) lj7 fun t s a => ?_))
  rw [repl_one 41 45 (by decide +kernel) (by decide +kernel)]
  refine r_store1 a fun s a ht => ?_
  obtain ⟨j8, hj8⟩ : ∃ j', j7.map (fun x => if x = 41 then 45 else x) = j' := ⟨_, rfl⟩
  rw [hj8] at a
  replace a := a.only (l' := [("platform", .str (ms j8) t)]) ⟨look_head, trivial⟩
  have lj8 : (ms j8).length ≤ 4000000 := by
    have : (ms j8).length = (ms j7).length := by rw [← tl_length, ← tl_length, tl_ms, tl_ms, ← hj8, List.length_map]
    omega
  have hj : j8 = j.map signC := by
    rw [← hj8, ← hj7, ← hj6, ← hj5, ← hj4, ← hj3, ← hj2, ← hj1]
    simp only [List.map_map]
    apply List.map_congr_left
    intro x _
    exact sub8_sign x
  clear hj1 hj2 hj3 hj4 hj5 hj6 hj7 hj8 lj1 lj2 lj3 lj4 lj5 lj6 lj7
  rw [← hj] at h
  -- unknown
  refine wpAny_execs_cons (wpAny_Assign_Name (r_repl a ht rfl (by decide +kernel) (by decide +kernel) lj8 fun t s a => ?_))
  rw [repl_unk (by decide +kernel) (by decide +kernel)]
  refine r_store1 a fun s a ht => ?_
  have hdl : (dels j8).length ≤ 4000000 := by
    have h1 := dels_len j8
    rw [← tl_length, tl_ms] at lj8
    omega
  generalize dels j8 = d at a h hdl
  replace a := a.only (l' := [("platform", .str (ms d) t)]) ⟨look_head, trivial⟩
  -- the hyphens
  refine wpAny_execs_cons (r_while (fun n s' => 1 ≤ s'.toks ∧ ∃ y t, n = (tl y).length ∧ At s₀ L [("platform", .str y t)] [] s' ∧ (tl y).foldl pushH [] = d.foldl pushH [] ∧ y.length ≤ 4000000) (tl (ms d)).length
    ⟨ht, ms d, t, rfl, a, by rw [tl_ms], by rw [← tl_length, tl_ms]; exact hdl⟩ ?_)
  rintro n s' E' ⟨ht, y, ty, rfl, a, hy, hyl⟩
  refine wpAny_isTrue_value (wpAny_Constant_bool (wpAny_truthy_bool ?_))
  rw [if_pos rfl]
  refine wpAny_execs_cons (wpAny_Assign_Name (r_repl a ht rfl (by decide +kernel) (by decide +kernel) hyl fun t s a => ?_))
  refine r_store1 a fun s a ht => ?_
  have hhh : tl (Txt.replace y "--" "-") = hal (tl y) := repl_hh (by decide +kernel) (by decide +kernel)
  refine wpAny_execs_cons (wpAny_If (wpAny_isTrue_Compare1 (r_name a (r_name a (eq_str (wpAny_truthy_bool ?_))))))
  cases hnh : noHH (tl y) with
  | true =>
    have heq : Txt.replace y "--" "-" = y := by apply tl_inj; rw [hhh, hal_id _ hnh]
    rw [if_pos (by rw [heq]; simp)]
    refine wpAny_execs_cons (wpAny_Break ?_)
    -- the hyphens at the end
    rw [sq_id hnh] at hy
    rw [← hy] at h
    refine wpAny_execs_cons (r_while (fun n s' => ∃ z t, n = (tl z).length ∧ At s₀ L [("platform", .str z t)] [] s' ∧ chopA (tl z) = chopA (tl y) ∧ z.length ≤ 4000000) (tl y).length
      ⟨y, ty, rfl, a.only ⟨rfl, trivial⟩, rfl, hyl⟩ ?_)
    rintro n s' E' ⟨z, tz, rfl, a, hz, hzl⟩
    have fin : ∀ s₂, chopA (tl z) = tl z → At s₀ L [("platform", .str z tz)] [] s₂ → Q (.str z tz) s₂ := by
      intro s₂ hc a
      rw [show z = ms (chopA (tl y)) by rw [← hz, hc, ms_tl]]
      exact h _ _ (hGr _ a.keeps)
    refine wpAny_isTrue_BoolOp (wpAny_allTrue_And_cons ?_)
    refine wpAny_isTrue_value (r_name a ?_)
    refine PySem.P.truthy_str (by omega) ?_
    replace a := a.tok (s'.toks + 1 + 1)
    by_cases h0 : z.length = 0
    · rw [if_neg (by simp [h0])]
      have hnil : tl z = [] := List.length_eq_zero_iff.mp (by rw [tl_length]; exact h0)
      exact wpAny_execs_cons (wpAny_Return_some (r_name a (fin _ (by rw [hnil]; rfl) a)))
    · rw [if_pos (by simp; omega)]
      have hne : tl z ≠ [] := fun e => h0 (by rw [← tl_length, e]; rfl)
      obtain ⟨cc, hlast, hat⟩ := last_test _ hne
      refine wpAny_allTrue_And_cons (wpAny_isTrue_Compare1 ?_)
      refine Subscript_ (r_name a (r_negint a fun t s₅ a => ?_))
      refine item_str (by decide) (by omega) (by omega) (fun _ => ?_) rfl (fun _ => rfl)
      rw [item_last hlast]
      replace a := a.tok (s₅.toks + 1)
      refine r_str a fun t s₆ a => eq_str (wpAny_truthy_bool ?_)
      by_cases hcc : cc = 45
      · subst hcc
        rw [if_pos (by decide +kernel)]
        refine wpAny_allTrue_And_nil ?_
        rw [if_pos rfl]
        refine wpAny_execs_cons (wpAny_Assign_Name (r_slice (r_name a ?_)))
        refine r_part_none (r_part (r_negint a fun t₁ s₁ a => ⟨z, tz, none, some (-1, t₁), rfl, rfl, rfl, by omega, fun t₂ s₂ k => ?_⟩))
        refine r_store (a.go k) fun s₃ a => wpAny_execs_nil ?_
        have e := tl_toN z 1 (Nat.le_refl _)
        rw [show -((1 : Nat) : Int) = -1 from rfl] at e
        obtain ⟨r, hr⟩ : ∃ r, tl z = r ++ [45] := by
          rcases List.eq_nil_or_concat (tl z) with h | ⟨r, c, h⟩
          · exact absurd h hne
          · rw [h] at hlast; simp at hlast; subst hlast; exact ⟨r, by simpa using h⟩
        have e' : tl (Txt.slice z none (some (-1))) = r := by rw [e, hr]; simp
        refine ⟨r.length, by rw [hr]; simp, Txt.slice z none (some (-1)), t₂, by rw [e'], a.only ⟨rfl, trivial⟩, ?_, Nat.le_trans (Txt.slice_le _ _ _) hzl⟩
        rw [e', ← hz, hr, chopA_snoc]
      · rw [if_neg]
        · rw [if_neg (by decide)]
          exact wpAny_execs_cons (wpAny_Return_some (r_name a (fin _ (chopA_id (by rw [hlast]; simpa using hcc)) a)))
        · intro e
          have := eq_of_beq e
          have := congrArg tl this
          rw [show tl "-" = [45] by decide +kernel] at this
          simp [tl] at this
          exact hcc this
  | false =>
    have hlt := hal_lt _ hnh
    have hne : Txt.replace y "--" "-" ≠ y := fun e => by
      have := congrArg (fun z => (tl z).length) e
      simp only [hhh] at this; omega
    rw [if_neg (by simpa using hne)]
    refine wpAny_execs_nil ?_
    refine wpAny_execs_cons (wpAny_Assign_Name (r_name a (r_store1 a fun s a ht => wpAny_execs_nil ?_)))
    refine ⟨_, hlt, ht, Txt.replace y "--" "-", t, by rw [hhh], a.only ⟨rfl, trivial⟩, by rw [hhh, hal_fold _ _ _ (Nat.le_refl _)]; exact hy, ?_⟩
    rw [← tl_length, hhh]
    rw [← tl_length] at hyl
    omega
end
end Mine
end

section
open PySem PySem.W PySem.Calls PyProof.Rows
set_option maxRecDepth 100000
set_option maxHeartbeats 1000000
namespace Mine
section
variable {w : World} {P : Addr} {fa : Str → Addr} {b1a b3a : Addr} {mg mb : Str → Option Value} {A : Around} {E : Value → Shared → Prop} {s₀ s : Shared} {name : Str} {scope : Scope} {L f : Addr} {cd : Value} {l : List (Str × Value)} {N : List (Addr × Obj)}
/-- a list's items as arguments -/
theorem star_list {a : Addr} {vs : List Value} {Q : List Value → Shared → Prop} (hl : s.heap.IsList a vs.toArray) (hz : vs.length ≤ sizeLine) (h : ∀ s', Keeps s s' → Q vs s') : StarOf (model prog w) A E (.ref a) Q s := by
  obtain ⟨o, ho, hc, n, hd⟩ := id hl
  have z : wpAny (model prog w) A (collect (.ref a)) Q E s :=
    wpAny_collect_seq a (.inl rfl) ho hc hd (fun h' hk => h _ ⟨h', s.toks, rfl, hk⟩) hz
  unfold StarOf notIterableAtAll
  exact wpAny_bind (wpAny_specialOf hl.typeIs PySem.F.slot_list_iter.lookup (wpAny_pure ⟨rfl, z⟩))
/-- f(*e) -/
theorem r_callS {x : Str} {p pos ps : Pos} {e : Expr} {Q : Value → Shared → Prop} {d : Arguments × List Stmt × Scope} (T : TopF w P fa b1a b3a mg mb s₀.heap) (a : At s₀ L l N s) (hd : prog.theDef x = some d)
    (h : wpAny (model prog w) A (eval e (envOf name scope L f cd)) (fun v s₁ => StarOf (model prog w) A E v (fun vs s₂ => At s₀ L l N s₂ ∧ wpAny (model prog w) A (call (.ref (fa x)) vs) Q E s₂) s₁) E s)
    (hk : scope.kind = .function := by rfl) (hl : (envOf name scope L f cd).kindOf x = some .globalImplicit := by rfl)
    (hdb : (x == ("__debug__" : Str)) = false := by decide)
    (he : starEach [.Starred e ps] (envOf name scope L f cd) = [(true, eval e (envOf name scope L f cd))] := by rfl)
    (hc : eval (.Call (.Name x p) [.Starred e ps] [] pos) (envOf name scope L f cd) = (do callWith pos (← eval (.Name x p) (envOf name scope L f cd)) [] (backTo pos (starEach [.Starred e ps] (envOf name scope L f cd))) (backToKw pos (keywordEach [] (envOf name scope L f cd)))) := by rfl) :
    wpAny (model prog w) A (eval (.Call (.Name x p) [.Starred e ps] [] pos) (envOf name scope L f cd)) Q E s := by
  refine Call_ (r_fun T a hd ?_ hk hl hdb) hc
  obtain ⟨_, _, o, pm, c, doc, h3, h4, h5, h6⟩ := T.fn x d.1 d.2.1 d.2.2 hd
  refine callWith_function_kw (o := o) (fd := docDef x d.1 d.2.1 d.2.2 pm (.ref c) doc) (first := []) ?_
  rw [he]
  refine ks_lone (wpAny_mono h (fun v s₁ h₁ => ?_) fun _ _ e => e)
  unfold StarOf at h₁ ⊢
  refine wpAny_mono h₁ (fun b s₂ h₂ => ⟨h₂.1, wpAny_mono h₂.2 (fun vs s₃ h₃ => ?_) fun _ _ e => e⟩) fun _ _ e => e
  exact ⟨⟨h₃.1.keep _ _ h3, h4⟩, h₃.2⟩
/-- [a, b, c, d] == [..], all texts -/
theorem eq_strs {a b : Addr} {xs ys : List (Str × Tok)} {Q : Value → Shared → Prop} (ha : s.heap.IsList a (strValues xs).toArray) (hb : s.heap.IsList b (strValues ys).toArray) (hsz : xs.length = ys.length) (hu : A.units + 64 < cLine)
    (he : xs.map (·.1) = ys.map (·.1)) (h : Q (.bool true) s) : wpAny (model prog w) A (compareOp .Eq (.ref a) (.ref b)) Q E s := by
  refine SeqAt.eq_listAt (e := fun _ => true) ha hb (by simpa [strValues] using hsz) (by omega) (fun j h1 h2 => ?_) ?_
  · have h1' : j < xs.length := by simpa [strValues] using h1
    have h2' : j < ys.length := by simpa [strValues] using h2
    have e1 : (strValues xs).toArray[j] = .str xs[j].1 xs[j].2 := by simp [strValues]
    have e2 : (strValues ys).toArray[j] = .str ys[j].1 ys[j].2 := by simp [strValues]
    rw [e1, e2]
    have e3 : xs[j].1 = ys[j].1 := by
      have := congrArg (·[j]?) he
      simp [h1', h2'] at this
      exact this
    have := (SeqRoads2.EqGives.str xs[j].1 ys[j].1 xs[j].2 ys[j].2).at A.in1 s
    rw [e3] at this ⊢
    simpa using this
  · rw [List.all_eq_true.mpr fun _ _ => rfl]; exact h
end
end Mine
end

section
open PySem PySem.W PySem.Calls PyProof.Rows
set_option maxRecDepth 100000
set_option maxHeartbeats 4000000
namespace Mine
/-- what the plain law says of a row -/
structure Plain (rows : List (List Nat)) (R : List Nat) (Inv : List Nat → Prop) : Prop where
  first : platT rows = labelT (signsT rows)
  late : platT [prepT (platT rows)] = labelT (signsT [readT (labelT (signsT rows))])
  rest : R = restT (signsT (rows.map readT))
  start : Inv (platT (rows.map prepT))
  step : ∀ r, Inv r → Inv (platT [r])
  fin : ∀ r, Inv r → r.length ≤ (platT [r]).length → r = R ∧ platT [r] = R
  len : ∀ r, Inv r → r.length ≤ 10000
  small : lenSum rows + rows.length ≤ 1000
  low : ∀ r ∈ rows, ∀ c ∈ r, (mapC c).length ≤ 3 ∧ c ≤ 1114111
  low1 : ∀ c ∈ platT rows, (mapC c).length ≤ 3 ∧ c ≤ 1114111
  len1 : (platT rows).length ≤ 1000

theorem tot_rows {ts : List (Str × Tok)} {rows : List (List Nat)} (h : ts.map (fun p => tl p.1) = rows) : tot (ts.map (·.1)) = lenSum rows + rows.length := by
  subst h
  unfold tot lenSum
  simp only [List.map_map, List.length_map]
  congr 2
theorem tot_map {F : List Nat → List Nat} {ts l : List (Str × Tok)} (hl : l.map (·.1) = ((ts.map (·.1)).filter fun _ => true).map fun y => ms (F (tl y))) (h3 : ∀ p ∈ ts, (F (tl p.1)).length ≤ 3 * (tl p.1).length) :
    tot (l.map (·.1)) ≤ 3 * tot (ts.map (·.1)) ∧ l.map (fun p => tl p.1) = (ts.map fun p => tl p.1).map F := by
  rw [List.filter_eq_self.mpr fun _ _ => rfl] at hl
  constructor
  · rw [hl]
    clear hl
    induction ts with
    | nil => simp [tot]
    | cons p r ih =>
      have := ih fun q hq => h3 q (List.mem_cons_of_mem _ hq)
      have h1 := h3 p (List.mem_cons_self ..)
      unfold tot at this ⊢
      simp only [List.map_cons, List.sum_cons, List.length_cons, List.map_map, List.length_map] at this ⊢
      rw [← tl_length, tl_ms]
      rw [tl_length] at h1
      simp only [Function.comp_def] at this ⊢
      omega
  · have : l.map (fun p => tl p.1) = (l.map (·.1)).map tl := by rw [List.map_map]; rfl
    rw [this, hl, List.map_map, List.map_map, List.map_map]
    apply List.map_congr_left
    intro p _
    exact tl_ms _
section
variable {w : World} {P c : Addr} {fa : Str → Addr} {b1a b3a : Addr} {mg mb : Str → Option Value} {A : Around} {E : Value → Shared → Prop} {s : Shared}
theorem law_spec {S : Addr} {ns : List Int} {R : List Nat} {Inv : List Nat → Prop} {Q : Value → Shared → Prop} (T : TopF w P fa b1a b3a mg mb s.heap) (X : PF c P fa mg s.heap) (t : Tab c P s.heap) (hh : A.handled = none) (hroom : A.depth < 700) (hu : A.units + 100 < cLine)
    (hS : IL s.heap S ns) (hns : ns.length ≤ sizeLine) (B : Plain (rowT ns) R Inv)
    (h : ∀ s', Gr c P s s' → Q (.bool true) s') : wpAny (model prog w) A (call (.ref (fa "law")) [.ref S]) Q E s := by
  have hsl : sizeLine = 16777216 := rfl
  refine r_enter T (by rfl) (by omega) (binds := [("script", .ref S)]) (fun _ _ _ => rfl) (locs rfl) (fun cd s₁ a => ?_)
  have hd : ∀ env, (A.deeper env).depth < 800 := fun env => by show A.depth + 1 < 800; omega
  have T₀ := T
  have X₀ := X
  -- row
  refine wpAny_execs_cons (wpAny_Assign_Name ?_)
  refine r_call T a (by rfl) (wpAny_items_cons (r_name a (wpAny_items_nil ⟨a, ?_⟩)))
  refine row_spec (T.keeps a.keep) hh (hd _) (hS.keeps a.keep) hns fun D ts s₂ k hf hl hrows => ?_
  have hDL := a.notL hf
  have hD0 := none_of_keeps a.keep hf
  replace a := a.go k
  obtain ⟨oD, hoD, hcD, nD, hdD⟩ := id hl
  replace a := a.add hoD hD0 hDL
  have hlist : ∀ h : Heap, h.get? D = some oD → h.IsList D (strValues ts).toArray := fun h e => ⟨oD, e, hcD, nD, hdD⟩
  have htot : tot (ts.map (·.1)) ≤ 1000 := by rw [tot_rows hrows]; exact B.small
  have htsl : (strValues ts).length ≤ sizeLine := by
    rw [strValues, List.length_map]; unfold tot at htot; simp at htot; omega
  refine r_store a fun s₃ a => ?_
  replace a := a.only (l' := [("row", .ref D)]) ⟨look_head, trivial⟩
  -- first
  refine wpAny_execs_cons (wpAny_Assign_Name ?_)
  refine r_callS T a (by rfl) (r_name a (star_list (hlist _ (a.obj (by simp))) htsl fun s₄ k => ⟨a.go k, ?_⟩))
  replace a := a.go k
  refine plat_spec (T.keeps a.keep) (X.keeps a.keep) (t.keeps a.keep) hh (Nat.lt_of_lt_of_le (hd _) (by decide)) (by omega) fun t₁ s₅ g => ?_
  rw [hrows]
  obtain ⟨s₀, g₀, a⟩ := a.grow t g
  have G := g₀
  replace T := T.ext g₀.ext
  replace X := X.ext g₀.ext
  replace t := g₀.right
  clear g g₀
  refine r_store a fun s₆ a => ?_
  replace a := a.only (l' := [("first", .str (ms (platT (rowT ns))) t₁), ("row", .ref D)]) ⟨look_head, look_tail (by decide +kernel) rfl, trivial⟩
  -- late
  refine wpAny_execs_cons (wpAny_Assign_Name ?_)
  refine r_call T a (by rfl) (wpAny_items_cons ?_)
  refine r_call T a (by rfl) (wpAny_items_cons (r_name a (wpAny_items_nil ⟨a, ?_⟩)))
  have hfl : (ms (platT (rowT ns))).length ≤ 1000 := by rw [← tl_length, tl_ms]; exact B.len1
  refine prepared_spec (T.keeps a.keep) hh (Nat.lt_of_lt_of_le (hd _) (by decide)) (by omega) (by rw [tl_ms]; exact fun c hc => (B.low1 c hc).1) fun t₂ s₇ k => ?_
  rw [tl_ms]
  replace a := a.go k
  refine wpAny_items_nil ⟨a, ?_⟩
  have hpl := prep_len (l := platT (rowT ns)) fun c hc => (B.low1 c hc).1
  have hpl1 := B.len1
  refine plat_spec (ts := [(ms (prepT (platT (rowT ns))), t₂)]) (T.keeps a.keep) (X.keeps a.keep) (t.keeps a.keep) hh (Nat.lt_of_lt_of_le (hd _) (by decide)) (by
    unfold tot
    simp only [List.map_cons, List.map_nil, List.sum_cons, List.sum_nil, List.length_cons, List.length_nil]
    rw [← tl_length, tl_ms]; omega) fun t₃ s₈ g => ?_
  obtain ⟨s₀', g₀, a⟩ := a.grow t g
  replace G := G.trans g₀
  replace T := T.ext g₀.ext
  replace X := X.ext g₀.ext
  replace t := g₀.right
  clear g g₀
  simp only [List.map_cons, List.map_nil, tl_ms] at a ⊢
  refine r_store a fun s₉ a => ?_
  replace a := a.only (l' := [("late", .str (ms (platT [prepT (platT (rowT ns))])) t₃), ("first", .str (ms (platT (rowT ns))) t₁), ("row", .ref D)]) ⟨look_head, look_tail (by decide +kernel) rfl, look_tail (by decide +kernel) rfl, trivial⟩
  have hrow : ∀ p ∈ ts, tl p.1 ∈ rowT ns := fun p hp => by rw [← hrows]; exact List.mem_map_of_mem hp
  have hpsz : ∀ p ∈ ts, p.1.length ≤ 1000 := by
    intro p hp
    have := le_sum_of_mem (l := (ts.map (·.1)).map (·.length)) (n := p.1.length) (List.mem_map_of_mem (List.mem_map_of_mem hp))
    unfold tot at htot; omega
  -- rest
  refine wpAny_execs_cons (wpAny_Assign_Name ?_)
  refine r_callS T a (by rfl) ?_
  refine r_compL (fun _ => true) (fun y => ms (prepT (tl y))) hh (r_name a ⟨D, ts, rfl, hlist _ (a.obj (by simp)), by unfold tot at htot; simp at htot; omega, ?_, ?_, ?_⟩)
  · intro C y u s₃ m₃ E' _ _ _ _
    exact wpAny_tests_nil ⟨rfl, kpRefl _⟩
  · intro C y u s₃ m₃ E' hmem _ hn hm hk
    refine c_call1 (T.keeps fun b o e => hk b o (a.keep b o e)) (by rfl) hn hm ?_
    exact prepared_spec (T.keeps fun b o e => hk b o (a.keep b o e)) hh (Nat.lt_of_lt_of_le (hd _) (by decide)) (Nat.le_trans (hpsz _ hmem) (by decide)) (fun c hc => (B.low _ (hrow _ hmem) c hc).1) fun t' s' k => ⟨⟨t', rfl⟩, k⟩
  intro D' s₁₀ lp k _ hl' hlm
  obtain ⟨htp, hmp⟩ := tot_map (F := prepT) hlm fun p hp => prep_len fun c hc => (B.low _ (hrow p hp) c hc).1
  refine star_list hl' (by rw [strValues, List.length_map]; unfold tot at htp htot; simp at htp htot; omega) fun s₁₁ k' => ⟨(a.go k).go k', ?_⟩
  replace a := (a.go k).go k'
  refine plat_spec (T.keeps a.keep) (X.keeps a.keep) (t.keeps a.keep) hh (Nat.lt_of_lt_of_le (hd _) (by decide)) (by omega) fun t₄ s₁₂ g => ?_
  rw [hmp, hrows]
  obtain ⟨s₀'', g₀, a⟩ := a.grow t g
  replace G := G.trans g₀
  replace T := T.ext g₀.ext
  replace X := X.ext g₀.ext
  replace t := g₀.right
  clear g g₀
  have hI := B.start
  generalize hr0 : platT ((rowT ns).map prepT) = r at hI
  refine r_store a fun s₁₃ a => ?_
  replace a := a.only (l' := [("rest", .str (ms r) t₄), ("late", .str (ms (platT [prepT (platT (rowT ns))])) t₃), ("first", .str (ms (platT (rowT ns))) t₁), ("row", .ref D)]) ⟨look_head, look_tail (by decide +kernel) rfl, look_tail (by decide +kernel) rfl, look_tail (by decide +kernel) rfl, trivial⟩
  clear hr0
  -- again
  have one : ∀ r (u : Tok), r.length ≤ 10000 → tot ([(ms r, u)].map (·.1)) ≤ 1000000 := by
    intro r u hr
    unfold tot
    simp only [List.map_cons, List.map_nil, List.sum_cons, List.sum_nil, List.length_cons, List.length_nil]
    rw [← tl_length, tl_ms]; omega
  refine wpAny_execs_cons (wpAny_Assign_Name ?_)
  refine r_call T a (by rfl) (wpAny_items_cons (r_name a (wpAny_items_nil ⟨a, ?_⟩)))
  refine plat_spec (ts := [(ms r, t₄)]) (T.keeps a.keep) (X.keeps a.keep) (t.keeps a.keep) hh (Nat.lt_of_lt_of_le (hd _) (by decide)) (one r t₄ (B.len r hI)) fun t₅ s₁₄ g => ?_
  obtain ⟨s₀₃, g₀, a⟩ := a.grow t g
  replace G := G.trans g₀
  replace T := T.ext g₀.ext
  replace X := X.ext g₀.ext
  replace t := g₀.right
  clear g g₀
  simp only [List.map_cons, List.map_nil, tl_ms] at a ⊢
  refine r_store a fun s₁₅ a => ?_
  replace a := a.only (l' := [("again", .str (ms (platT [r])) t₅), ("rest", .str (ms r) t₄), ("late", .str (ms (platT [prepT (platT (rowT ns))])) t₃), ("first", .str (ms (platT (rowT ns))) t₁), ("row", .ref D)])
    ⟨look_head, look_tail (by decide +kernel) rfl, look_tail (by decide +kernel) rfl, look_tail (by decide +kernel) rfl, look_tail (by decide +kernel) rfl, trivial⟩
  generalize s.heap.objs.size = L at a ⊢
  refine wpAny_execs_cons (r_while (fun n s' => ∃ r t₄ t₅ s₀, n = r.length ∧ Inv r ∧ Gr c P s s₀ ∧
    At s₀ L [("again", .str (ms (platT [r])) t₅), ("rest", .str (ms r) t₄), ("late", .str (ms (platT [prepT (platT (rowT ns))])) t₃), ("first", .str (ms (platT (rowT ns))) t₁), ("row", .ref D)] [(D, oD)] s') r.length ⟨r, t₄, t₅, s₀₃, rfl, hI, G, a⟩ ?_)
  clear T X t G a hI
  rintro n s' E' ⟨r, t₄, t₅, s₀, rfl, hI, G, a⟩
  have T := T₀.ext G.ext
  have X := X₀.ext G.ext
  have t := G.right
  have hrl := B.len r hI
  have hrl' := B.len _ (B.step r hI)
  refine wpAny_isTrue_Compare1 ?_
  refine r_len (y := ms (platT [r])) (t := t₅) T a (fun t₆ s₁ k => ?_) (by rw [← tl_length, tl_ms]; omega)
  refine r_len (y := ms r) (t := t₄) T (a.go k) (fun t₇ s₂ k' => ?_) (by rw [← tl_length, tl_ms]; omega)
  replace a := (a.go k).go k'
  rw [← tl_length, ← tl_length, tl_ms, tl_ms]
  refine lt_int (wpAny_truthy_bool ?_)
  by_cases hlt : (platT [r]).length < r.length
  · rw [if_pos (by simpa using hlt)]
    refine wpAny_execs_cons (wpAny_Assign_Name (r_name a (r_store a fun s₃ a => ?_)))
    refine wpAny_execs_cons (wpAny_Assign_Name ?_)
    refine r_call T a (by rfl) (wpAny_items_cons (r_name a (wpAny_items_nil ⟨a, ?_⟩)))
    refine plat_spec (ts := [(ms (platT [r]), t₅)]) (T.keeps a.keep) (X.keeps a.keep) (t.keeps a.keep) hh (Nat.lt_of_lt_of_le (hd _) (by decide)) (one _ t₅ hrl') fun t₈ s₄ g => ?_
    obtain ⟨s₀₄, g₀, a⟩ := a.grow t g
    simp only [List.map_cons, List.map_nil, tl_ms] at a ⊢
    refine r_store a fun s₅ a => wpAny_execs_nil ?_
    exact ⟨_, hlt, platT [r], t₅, t₈, s₀₄, rfl, B.step r hI, G.trans g₀, a.only ⟨look_head, look_tail (by decide +kernel) look_head, look_tail (by decide +kernel) rfl, look_tail (by decide +kernel) rfl, look_tail (by decide +kernel) rfl, trivial⟩⟩
  rw [if_neg (by simpa using hlt)]
  obtain ⟨e1, e2⟩ := B.fin r hI (by omega)
  rw [e2, e1] at a
  clear e1 e2 hlt hrl hrl' hI
  -- label
  refine wpAny_execs_cons (wpAny_Assign_Name ?_)
  refine r_call T a (by rfl) (wpAny_items_cons (r_name a (wpAny_items_nil ⟨a, ?_⟩)))
  refine label_spec (T.keeps a.keep) hh (hd _) (hlist _ (a.obj (by simp))) (by omega) fun t₈ s₃ k => r_store (a.go k) fun s₄ a => ?_
  rw [hrows] at a
  have hlb : (labelT (signsT (rowT ns))).length ≤ 1000 := by rw [← B.first]; exact B.len1
  have hlow : ∀ c ∈ labelT (signsT (rowT ns)), c ≤ 1114111 := by rw [← B.first]; exact fun c hc => (B.low1 c hc).2
  replace a := a.only (l' := [("label", .str (ms (labelT (signsT (rowT ns)))) t₈), ("again", .str (ms R) t₅), ("rest", .str (ms R) t₄), ("late", .str (ms (platT [prepT (platT (rowT ns))])) t₃), ("first", .str (ms (platT (rowT ns))) t₁), ("row", .ref D)])
    ⟨look_head, look_tail (by decide +kernel) rfl, look_tail (by decide +kernel) rfl, look_tail (by decide +kernel) rfl, look_tail (by decide +kernel) rfl, look_tail (by decide +kernel) rfl, trivial⟩
  -- due
  refine wpAny_execs_cons (wpAny_Assign_Name ?_)
  refine r_call T a (by rfl) (wpAny_items_cons ?_)
  refine wpAny_List (wpAny_items_cons ?_)
  refine r_call T a (by rfl) (wpAny_items_cons (r_name a (wpAny_items_nil ⟨a, ?_⟩)))
  refine read_spec (T.keeps a.keep) hh (Nat.lt_of_lt_of_le (hd _) (by decide)) (by rw [← tl_length, tl_ms]; omega) (by rw [tl_ms]; exact hlow) fun t₉ s₅ k => ?_
  rw [tl_ms]
  refine wpAny_items_nil ⟨by show 1 ≤ 16777216; decide, ?_⟩
  replace a := (a.go k).push (lobj (strValues [(ms (readT (labelT (signsT (rowT ns)))), t₉)]) 0)
  generalize s₅.heap.objs.size = D₂ at a ⊢
  refine wpAny_items_nil ⟨a.less (fun p hp => List.mem_cons_of_mem _ hp), ?_⟩
  have hrd := readT_len (labelT (signsT (rowT ns)))
  refine label_spec (ts := [(ms (readT (labelT (signsT (rowT ns)))), t₉)]) (T.keeps a.keep) hh (hd _) ⟨_, a.obj (List.mem_cons_self ..), rfl, 0, rfl⟩ (one _ t₉ (by omega)) fun t₁₀ s₆ k => r_store (a.go k) fun s₇ a => ?_
  simp only [List.map_cons, List.map_nil, tl_ms] at a
  replace a := (a.less (N' := [(D, oD)]) (fun p hp => List.mem_cons_of_mem _ hp)).only (l' := [("due", .str (ms (labelT (signsT [readT (labelT (signsT (rowT ns)))]))) t₁₀), ("label", .str (ms (labelT (signsT (rowT ns)))) t₈), ("again", .str (ms R) t₅), ("rest", .str (ms R) t₄), ("late", .str (ms (platT [prepT (platT (rowT ns))])) t₃), ("first", .str (ms (platT (rowT ns))) t₁), ("row", .ref D)])
    ⟨look_head, look_tail (by decide +kernel) rfl, look_tail (by decide +kernel) rfl, look_tail (by decide +kernel) rfl, look_tail (by decide +kernel) rfl, look_tail (by decide +kernel) rfl, look_tail (by decide +kernel) rfl, trivial⟩
  -- rested
  refine wpAny_execs_cons (wpAny_Assign_Name ?_)
  refine r_call T a (by rfl) (wpAny_items_cons ?_)
  refine r_compL (fun _ => true) (fun y => ms (readT (tl y))) hh (r_name a ⟨D, ts, rfl, hlist _ (a.obj (by simp)), by unfold tot at htot; simp at htot; omega, ?_, ?_, ?_⟩)
  · intro C y u s₃ m₃ E' _ _ _ _
    exact wpAny_tests_nil ⟨rfl, kpRefl _⟩
  · intro C y u s₃ m₃ E' hmem _ hn hm hk
    refine c_call1 (T.keeps fun b o e => hk b o (a.keep b o e)) (by rfl) hn hm ?_
    exact read_spec (T.keeps fun b o e => hk b o (a.keep b o e)) hh (Nat.lt_of_lt_of_le (hd _) (by decide)) (Nat.le_trans (hpsz _ hmem) (by decide)) (fun c hc => (B.low _ (hrow _ hmem) c hc).2) fun t' s' k => ⟨⟨t', rfl⟩, k⟩
  intro D₃ s₈ lp' k _ hl₃ hlm'
  obtain ⟨htp', hmp'⟩ := tot_map (F := readT) hlm' fun p hp => readT_len _
  refine wpAny_items_nil ⟨a.go k, ?_⟩
  replace a := a.go k
  refine rest_spec (T.keeps a.keep) hh (hd _) hl₃ (by omega) fun t₁₁ s₉ k => r_store (a.go k) fun s₁₀ a => ?_
  rw [hmp', hrows, ← B.rest] at a
  -- the end
  refine wpAny_execs_cons (wpAny_Return_some ?_)
  refine wpAny_Compare1 ?_
  refine wpAny_List (wpAny_items_cons (r_name a (wpAny_items_cons (r_name a (wpAny_items_cons (r_name a (wpAny_items_cons (r_name a (wpAny_items_nil ⟨by show 4 ≤ 16777216; decide, ?_⟩)))))))))
  have a₁ := a.push (lobj (strValues [(ms (platT (rowT ns)), t₁), (ms (platT [prepT (platT (rowT ns))]), t₃), (ms R, t₄), (ms R, t₅)]) 0)
  refine wpAny_List (wpAny_items_cons (r_name a₁ (wpAny_items_cons (r_name a₁ (wpAny_items_cons (r_name a₁ (wpAny_items_cons (r_name a₁ (wpAny_items_nil ⟨by show 4 ≤ 16777216; decide, ?_⟩)))))))))
  have a₂ := a₁.push (lobj (strValues [(ms (labelT (signsT (rowT ns))), t₈), (ms (labelT (signsT [readT (labelT (signsT (rowT ns)))])), t₁₀), (ms R, t₁₁), (ms R, t₁₁)]) 0)
  refine eq_strs (xs := [(ms (platT (rowT ns)), t₁), (ms (platT [prepT (platT (rowT ns))]), t₃), (ms R, t₄), (ms R, t₅)]) (ys := [(ms (labelT (signsT (rowT ns))), t₈), (ms (labelT (signsT [readT (labelT (signsT (rowT ns)))])), t₁₀), (ms R, t₁₁), (ms R, t₁₁)])
    ⟨_, a₂.obj (List.mem_cons_of_mem _ (List.mem_cons_self ..)), rfl, 0, rfl⟩ ⟨_, a₂.obj (List.mem_cons_self ..), rfl, 0, rfl⟩ rfl (by show A.units + 3 + 64 < cLine; omega) ?_ ?_
  · simp only [List.map_cons, List.map_nil]
    rw [B.late, B.first]
  · exact h _ (G.trans (Gr.of G.right a₂.keeps))
end
end Mine
end

section
open PySem PySem.W PySem.Calls PyProof.Rows
set_option maxRecDepth 100000
set_option maxHeartbeats 1000000
namespace Mine
def rising : Int → List Int → Bool
  | _, [] => true
  | a, b :: r => decide (a < b) && rising b r
theorem rising_lt : ∀ {l : List Int} {a : Int}, rising a l = true → (∀ x ∈ l, a < x) ∧ l.Nodup
  | [], _, _ => ⟨fun _ h => (nomatch h), List.nodup_nil⟩
  | b :: r, a, h => by
    obtain ⟨h1, h2⟩ := Bool.and_eq_true_iff.mp h
    have h1 := of_decide_eq_true h1
    obtain ⟨h3, h4⟩ := rising_lt h2
    refine ⟨fun x hx => ?_, List.nodup_cons.mpr ⟨fun q => absurd (h3 b q) (by omega), h4⟩⟩
    rcases List.mem_cons.mp hx with rfl | hx
    · exact h1
    · have := h3 x hx; omega
theorem b3_rising : rising 0 (b3L.map (·.1)) = true := by decide +kernel
/-- the look into a table whose keys rise -/
def seekUp (k : Int) : List (Int × Str) → Option Str
  | [] => none
  | (a, x) :: r => if k < a then none else if a < k then seekUp k r else some x
theorem look_none {k : Int} : ∀ {l : List (Int × Str)}, (∀ p ∈ l, k < p.1) → l.lookup k = none
  | [], _ => rfl
  | (a, x) :: r, h => by
    have h1 : k < a := h (a, x) (List.mem_cons_self ..)
    rw [List.lookup_cons]
    have : (k == a) = false := by rw [beq_eq_false_iff_ne]; omega
    rw [this]
    exact look_none fun p hp => h p (List.mem_cons_of_mem _ hp)
theorem seekUp_eq {k : Int} : ∀ {l : List (Int × Str)} {a : Int}, rising a (l.map (·.1)) = true → l.lookup k = seekUp k l
  | [], _, _ => rfl
  | (b, x) :: r, a, h => by
    have h2 : rising b (r.map (·.1)) = true := (Bool.and_eq_true_iff.mp h).2
    have h3 := (rising_lt h2).1
    unfold seekUp
    rw [List.lookup_cons]
    by_cases c1 : k < b
    · rw [if_pos c1]
      have : (k == b) = false := by rw [beq_eq_false_iff_ne]; omega
      rw [this]
      exact look_none fun p hp => by have := h3 p.1 (List.mem_map_of_mem hp); omega
    · rw [if_neg c1]
      by_cases c2 : b < k
      · rw [if_pos c2]
        have : (k == b) = false := by rw [beq_eq_false_iff_ne]; omega
        rw [this]
        exact seekUp_eq h2
      · rw [if_neg c2]
        have : (k == b) = true := by rw [beq_iff_eq]; omega
        rw [this]
theorem seekUp_drop {k s : Int} (h : s ≤ k) : ∀ (l : List (Int × Str)), seekUp k (l.dropWhile fun p => decide (p.1 < s)) = seekUp k l
  | [] => rfl
  | (b, x) :: r => by
    by_cases c : b < s
    · rw [List.dropWhile_cons_of_pos (by simpa using c), seekUp_drop h r, seekUp, if_neg (by omega), if_pos (by omega)]
    · rw [List.dropWhile_cons_of_neg (by simpa using c)]
def lets : List Nat := startsL.flatMap fun s => (List.range 26).map fun (i : Nat) => s.toNat + i
def digs : List Nat := (List.range 10).map fun i => 48 + i
def alph1 : List Nat := lets ++ [8470, 45, 32, 9, 95] ++ seven ++ nothL.map Int.toNat ++ eightL.map Int.toNat ++ digs
def lows : List Nat := (List.range 26).map fun i => 97 + i
def alph2 : List Nat := lows ++ digs ++ [45, 95, 9]
def alph3 : List Nat := alph2 ++ [32] ++ seven
/-- what preparing does to one sign -/
def prepC (c : Nat) : List Nat := if b1L.contains (c : Int) then [] else mapC c
def mapAt (s : Int) (c : Nat) : List Nat := match seekUp (c : Int) (b3L.dropWhile fun p => decide (p.1 < s)) with | some x => tl x | none => tl (Txt.lower ⟨#[c]⟩)
theorem mapAt_eq {s : Int} {c : Nat} (h : s ≤ (c : Int)) : mapAt s c = mapC c := by
  unfold mapAt mapC b3F
  (rw [seekUp_drop h, ← seekUp_eq b3_rising]) <;> rfl
def prepOk (c : Nat) : Bool := prepC c == readC c && decide ((mapC c).length ≤ 3) && decide (c ≤ 1114111)
def prepAs (c : Nat) (m : List Nat) : Bool := (if b1L.contains (c : Int) then [] else m) == readC c && decide (m.length ≤ 3) && decide (c ≤ 1114111)
def prepAt (s : Int) (c : Nat) : Bool := decide (s ≤ (c : Int)) && prepAs c (mapAt s c)
theorem prepAt_ok {s : Int} {c : Nat} (h : prepAt s c = true) : prepOk c = true := by
  obtain ⟨h1, h2⟩ := Bool.and_eq_true_iff.mp h
  rw [mapAt_eq (of_decide_eq_true h1)] at h2
  exact h2
theorem all_at {s : Int} {l : List Nat} (h : l.all (prepAt s) = true) : ∀ c ∈ l, prepOk c = true := fun c hc => prepAt_ok (List.all_eq_true.mp h c hc)
def letsOf (s : Int) : List Nat := (List.range 26).map fun (i : Nat) => s.toNat + i
theorem l0 : (letsOf 97).all (prepAt 97) = true := by decide +kernel
theorem l1 : (letsOf 65).all (prepAt 65) = true := by decide +kernel
theorem l2 : (letsOf 119808).all (prepAt 119808) = true := by decide +kernel
theorem l3 : (letsOf 119860).all (prepAt 119860) = true := by decide +kernel
theorem l4 : (letsOf 119912).all (prepAt 119912) = true := by decide +kernel
theorem l5 : (letsOf 120016).all (prepAt 120016) = true := by decide +kernel
theorem l6 : (letsOf 120172).all (prepAt 120172) = true := by decide +kernel
theorem l7 : (letsOf 120224).all (prepAt 120224) = true := by decide +kernel
theorem l8 : (letsOf 120276).all (prepAt 120276) = true := by decide +kernel
theorem l9 : (letsOf 120328).all (prepAt 120328) = true := by decide +kernel
theorem l10 : (letsOf 120380).all (prepAt 120380) = true := by decide +kernel
theorem l11 : (letsOf 120432).all (prepAt 120432) = true := by decide +kernel
theorem lets_ok : ∀ c ∈ lets, prepOk c = true := by
  intro c hc
  obtain ⟨s, hs, hc⟩ := List.mem_flatMap.mp hc
  have hc : c ∈ letsOf s := hc
  have hs : s ∈ ([97, 65, 119808, 119860, 119912, 120016, 120172, 120224, 120276, 120328, 120380, 120432] : List Int) := hs
  simp only [List.mem_cons, List.not_mem_nil, or_false] at hs
  rcases hs with rfl | rfl | rfl | rfl | rfl | rfl | rfl | rfl | rfl | rfl | rfl | rfl
  · exact all_at l0 c hc
  · exact all_at l1 c hc
  · exact all_at l2 c hc
  · exact all_at l3 c hc
  · exact all_at l4 c hc
  · exact all_at l5 c hc
  · exact all_at l6 c hc
  · exact all_at l7 c hc
  · exact all_at l8 c hc
  · exact all_at l9 c hc
  · exact all_at l10 c hc
  · exact all_at l11 c hc
theorem o1 : ([8470, 45, 32, 9, 95] ++ seven ++ digs).all (prepAt 0) = true := by decide +kernel
theorem o2 : (nothL.map Int.toNat).all (prepAt 0) = true := by decide +kernel
theorem o3 : (eightL.map Int.toNat).all (prepAt 0) = true := by decide +kernel
theorem tab_prep : alph1.all (fun c => prepC c == readC c && decide ((mapC c).length ≤ 3) && decide (c ≤ 1114111)) = true := by
  refine List.all_eq_true.mpr fun c hc => ?_
  show prepOk c = true
  unfold alph1 at hc
  simp only [List.mem_append] at hc
  rcases hc with ((((hc | hc) | hc) | hc) | hc) | hc
  · exact lets_ok c hc
  · exact all_at o1 c (List.mem_append_left _ (List.mem_append_left _ hc))
  · exact all_at o1 c (List.mem_append_left _ (List.mem_append_right _ hc))
  · exact all_at o2 c hc
  · exact all_at o3 c hc
  · exact all_at o1 c (List.mem_append_right _ hc)
theorem tab_read : alph1.all (fun c => (readC c).all fun d => alph3.contains d) = true := by decide +kernel
theorem in95 : (95 : Nat) ∈ alph1 := by decide +kernel
theorem in45 : (45 : Nat) ∈ alph1 := by decide +kernel
theorem tab_sign : alph1.all (fun c => alph1.contains (signC c)) = true := by
  refine List.all_eq_true.mpr fun c hc => ?_
  rw [List.contains_iff_mem]
  unfold signC
  split
  · exact in95
  · split
    · exact in45
    · exact hc
theorem tab_sign3 : alph3.all (fun c => alph2.contains (signC c)) = true := by decide +kernel
theorem tab_sign2 : alph2.all (fun c => signC c == c) = true := by decide +kernel
theorem tab_sub : alph3.all (fun c => alph1.contains c) = true := by decide +kernel
end Mine
end

section
open PySem PySem.W PySem.Calls PyProof.Rows
set_option maxRecDepth 100000
set_option maxHeartbeats 1000000
namespace Mine
/-- the normal form -/
def nf (l : List Nat) : List Nat := l.foldl pushR []
def sq (l : List Nat) : List Nat := l.foldl pushH []
def ends (p l : List Nat) : Prop := ∃ q, l = q ++ p
theorem drop_ends {p l : List Nat} : l.drop (l.length - p.length) = p ↔ ends p l := by
  constructor
  · intro h
    exact ⟨l.take (l.length - p.length), by conv => lhs; rw [← List.take_append_drop (l.length - p.length) l, h]⟩
  · rintro ⟨q, rfl⟩
    rw [show (q ++ p).length - p.length = q.length by simp]; simp
theorem pushR_hh {told : List Nat} (h : told.getLast? = some 45) : pushR told 45 = told := by
  unfold pushR
  rw [if_pos]
  rcases List.eq_nil_or_concat told with rfl | ⟨r, c, rfl⟩
  · cases h
  · simp at h; subst h
    exact (drop_ends (p := [45, 45])).mpr ⟨r, by simp⟩
theorem pushR_other {told : List Nat} {c : Nat} (h1 : c = 45 → told.getLast? ≠ some 45) (h2 : ¬ ends unk (told ++ [c])) : pushR told c = told ++ [c] := by
  unfold pushR
  rw [if_neg, if_neg]
  · exact fun e => h2 ((drop_ends (p := unk)).mp e)
  · intro e
    obtain ⟨q, hq⟩ := (drop_ends (p := [45, 45])).mp e
    have hq' : told ++ [c] = (q ++ [45]) ++ [45] := by rw [hq]; simp
    obtain ⟨e1, e2⟩ := List.append_inj' hq' rfl
    simp at e2
    exact h1 e2 (by rw [e1]; simp)
theorem pushR_unk {told : List Nat} : pushR (told ++ [117, 110, 107, 110, 111, 119]) 110 = told := by
  unfold pushR
  have hl : told ++ [117, 110, 107, 110, 111, 119] ++ [110] = told ++ unk := by simp [unk]
  rw [hl, if_neg, if_pos]
  · rw [show (told ++ unk).length - 7 = told.length by simp [unk]]; simp
  · exact (drop_ends (p := unk)).mpr ⟨told, rfl⟩
  · intro e
    obtain ⟨q, hq⟩ := (drop_ends (p := [45, 45])).mp e
    have h2 := congrArg List.getLast? hq
    simp [unk] at h2
theorem ends_last {l : List Nat} {c : Nat} (h : ends unk (l ++ [c])) : c = 110 ∧ l.getLast? = some 119 := by
  obtain ⟨q, hq⟩ := h
  have hq' : l ++ [c] = (q ++ [117, 110, 107, 110, 111, 119]) ++ [110] := by rw [hq]; simp [unk]
  obtain ⟨e1, e2⟩ := List.append_inj' hq' rfl
  simp at e2
  exact ⟨e2, by rw [e1]; simp⟩
theorem fold_unk (acc : List Nat) : unk.foldl pushR acc = acc := by
  have p1 : pushR acc 117 = acc ++ [117] := pushR_other (fun e => absurd e (by decide)) fun h => by have := (ends_last h).1; cases this
  have p2 : pushR (acc ++ [117]) 110 = acc ++ [117, 110] := by
    rw [pushR_other (fun e => absurd e (by decide)) fun h => by have := (ends_last h).2; simp at this]; simp
  have p3 : pushR (acc ++ [117, 110]) 107 = acc ++ [117, 110, 107] := by
    rw [pushR_other (fun e => absurd e (by decide)) fun h => by have := (ends_last h).1; cases this]; simp
  have p4 : pushR (acc ++ [117, 110, 107]) 110 = acc ++ [117, 110, 107, 110] := by
    rw [pushR_other (fun e => absurd e (by decide)) fun h => by have := (ends_last h).2; simp at this]; simp
  have p5 : pushR (acc ++ [117, 110, 107, 110]) 111 = acc ++ [117, 110, 107, 110, 111] := by
    rw [pushR_other (fun e => absurd e (by decide)) fun h => by have := (ends_last h).1; cases this]; simp
  have p6 : pushR (acc ++ [117, 110, 107, 110, 111]) 119 = acc ++ [117, 110, 107, 110, 111, 119] := by
    rw [pushR_other (fun e => absurd e (by decide)) fun h => by have := (ends_last h).1; cases this]; simp
  unfold unk
  simp only [List.foldl_cons, List.foldl_nil]
  rw [p1, p2, p3, p4, p5, p6, pushR_unk]
theorem fold_dels : ∀ (n : Nat) (l acc : List Nat), l.length ≤ n → (dels l).foldl pushR acc = l.foldl pushR acc := by
  intro n
  induction n with
  | zero => intro l acc h; rw [List.length_eq_zero_iff.mp (by omega : l.length = 0), dels_nil]
  | succ n ih =>
    intro l acc h
    by_cases hm : l.take 7 = unk
    · have hl : 7 ≤ l.length := by
        have := congrArg List.length hm
        rw [List.length_take] at this
        simp [unk] at this; omega
      rw [dels_unk hm, ih _ _ (by rw [List.length_drop]; omega)]
      conv => rhs; rw [← List.take_append_drop 7 l, hm, List.foldl_append, fold_unk]
    · cases l with
      | nil => rw [dels_nil]
      | cons c r => rw [dels_cons hm, List.foldl_cons, List.foldl_cons, ih r _ (by simp at h; omega)]
theorem nf_dels (l : List Nat) : nf (dels l) = nf l := fold_dels _ _ _ (Nat.le_refl _)
theorem nf_snoc (l : List Nat) (c : Nat) : nf (l ++ [c]) = pushR (nf l) c := by unfold nf; rw [List.foldl_append]; rfl
theorem nf_last {l : List Nat} (h : l.getLast? = some 45) : (nf l).getLast? = some 45 := by
  rcases List.eq_nil_or_concat l with rfl | ⟨r, c, rfl⟩
  · cases h
  · simp at h; subst h
    rw [List.concat_eq_append, nf_snoc]
    by_cases hl : (nf r).getLast? = some 45
    · rw [pushR_hh hl]; exact hl
    · rw [pushR_other (fun _ => hl) fun h => by have := (ends_last h).1; cases this]; simp
theorem nf_fold : ∀ (l told : List Nat), nf (l.foldl pushH told) = l.foldl pushR (nf told)
  | [], _ => rfl
  | c :: r, told => by
    rw [List.foldl_cons, List.foldl_cons, nf_fold r]
    congr 1
    unfold pushH
    split
    · rename_i h
      obtain ⟨rfl, h⟩ := h
      rw [pushR_hh (nf_last h)]
    · rw [nf_snoc]
theorem nf_sq (l : List Nat) : nf (sq l) = nf l := nf_fold l []
/-- stripped -/
def strp (l : List Nat) : List Nat := rstripR (lstripR l)
theorem lstripR_snoc {l : List Nat} {c : Nat} : lstripR (l ++ [c]) = if lstripR l = [] then lstripR [c] else lstripR l ++ [c] := by
  unfold lstripR
  induction l with
  | nil => simp
  | cons d r ih =>
    by_cases h : d = 9
    · subst h; simpa using ih
    · simp [h]
theorem strp_snoc {l : List Nat} {c : Nat} (h : isTH c = true) : strp (l ++ [c]) = strp l := by
  unfold strp
  rw [lstripR_snoc]
  split
  · rename_i e
    rw [e]
    unfold lstripR rstripR
    unfold isTH at h
    by_cases h9 : c = 9
    · subst h9; rfl
    · have : c = 45 := by simpa [h9] using h
      subst this; decide
  · rw [rstripR_step h]
theorem strp_cons (l : List Nat) : strp (9 :: l) = strp l := by unfold strp; rw [lstripR_step]
theorem fold_tab : ∀ (l acc : List Nat), l.foldl pushR (9 :: acc) = 9 :: l.foldl pushR acc
  | [], _ => rfl
  | c :: r, acc => by
    rw [List.foldl_cons, List.foldl_cons]
    have : pushR (9 :: acc) c = 9 :: pushR acc c := by
      by_cases h1 : c = 45 ∧ acc.getLast? = some 45
      · obtain ⟨rfl, h1⟩ := h1
        rw [pushR_hh h1, pushR_hh]
        cases acc with
        | nil => cases h1
        | cons a b => simpa using h1
      · by_cases h2 : ends unk (acc ++ [c])
        · obtain ⟨q, hq⟩ := h2
          have hq' : acc ++ [c] = (q ++ [117, 110, 107, 110, 111, 119]) ++ [110] := by rw [hq]; simp [unk]
          obtain ⟨e1, e2⟩ := List.append_inj' hq' rfl
          simp at e2; subst e2; subst e1
          rw [pushR_unk, show 9 :: (q ++ [117, 110, 107, 110, 111, 119]) = (9 :: q) ++ [117, 110, 107, 110, 111, 119] from rfl, pushR_unk]
        · rw [pushR_other (fun e h => h1 ⟨e, h⟩) h2, pushR_other]
          · rfl
          · rintro rfl h
            apply h1
            refine ⟨rfl, ?_⟩
            cases acc with
            | nil => simp at h
            | cons a b => simpa using h
          · rintro ⟨q, hq⟩
            cases q with
            | nil => simp [unk] at hq
            | cons a q => simp at hq; exact h2 ⟨q, hq.2⟩
    rw [this, fold_tab r]
theorem nf_tab (l : List Nat) : nf (9 :: l) = 9 :: nf l := by
  show l.foldl pushR (pushR [] 9) = _
  rw [show pushR [] 9 = 9 :: [] from rfl, fold_tab]; rfl
theorem nf_snoc_th {l : List Nat} {c : Nat} (h : isTH c = true) : strp (nf (l ++ [c])) = strp (nf l) := by
  rw [nf_snoc]
  by_cases hl : c = 45 ∧ (nf l).getLast? = some 45
  · obtain ⟨rfl, hl⟩ := hl
    rw [pushR_hh hl]
  · have hx : ¬ ends unk (nf l ++ [c]) := fun h' => by
      have := (ends_last h').1
      subst this; cases h
    rw [pushR_other (fun e h => hl ⟨e, h⟩) hx, strp_snoc h]
end Mine
end

section
open PySem PySem.W PySem.Calls PyProof.Rows
set_option maxRecDepth 100000
set_option maxHeartbeats 1000000
namespace Mine
theorem snoc_cases (l : List Nat) : l = [] ∨ ∃ r c, l = r ++ [c] := by
  rcases List.eq_nil_or_concat l with h | ⟨r, c, h⟩
  · exact .inl h
  · exact .inr ⟨r, c, by simpa using h⟩
theorem sublist_lstripT (l : List Nat) : (lstripT l).Sublist l := List.dropWhile_sublist _
theorem sublist_rstripT (l : List Nat) : (rstripT l).Sublist l := by
  unfold rstripT
  have := (List.dropWhile_sublist isBl (l := l.reverse)).reverse
  simpa using this
theorem sublist_trimT (l : List Nat) : (trimT l).Sublist l := (sublist_rstripT _).trans (sublist_lstripT _)
theorem sublist_pushH : ∀ (l acc m : List Nat), acc.Sublist m → (l.foldl pushH acc).Sublist (m ++ l)
  | [], acc, m, h => by simpa using h
  | c :: r, acc, m, h => by
    rw [List.foldl_cons, show m ++ c :: r = (m ++ [c]) ++ r by simp]
    refine sublist_pushH r _ _ ?_
    unfold pushH
    split
    · exact h.trans (List.sublist_append_left _ _)
    · exact List.Sublist.append h (List.Sublist.refl _)
theorem sublist_sq (l : List Nat) : (sq l).Sublist l := by
  unfold sq
  simpa using sublist_pushH l [] [] (List.Sublist.refl _)
theorem sublist_dels (l : List Nat) : (dels l).Sublist l := by
  suffices H : ∀ (n : Nat) (l : List Nat), l.length ≤ n → (dels l).Sublist l from H _ _ (Nat.le_refl _)
  intro n
  induction n with
  | zero => intro l h; rw [List.length_eq_zero_iff.mp (by omega : l.length = 0), dels_nil]; exact List.Sublist.refl _
  | succ n ih =>
    intro l h
    by_cases hm : l.take 7 = unk
    · have hl : 7 ≤ l.length := by
        have := congrArg List.length hm
        rw [List.length_take] at this
        simp [unk] at this; omega
      rw [dels_unk hm]
      exact (ih (l.drop 7) (by rw [List.length_drop]; omega)).trans (List.drop_sublist _ _)
    · cases l with
      | nil => rw [dels_nil]; exact List.Sublist.refl _
      | cons c r =>
        rw [dels_cons hm]
        exact (ih r (by simp at h; omega)).cons_cons c
theorem sublist_chopH (l : List Nat) : (chopH l).Sublist l := by
  unfold chopH
  split
  · exact List.dropLast_sublist _
  · exact List.Sublist.refl _
theorem sublist_label (l : List Nat) : (labelT l).Sublist l := (sublist_chopH _).trans ((sublist_sq _).trans (sublist_dels _))

theorem noHH_snoc : ∀ (l : List Nat) (c : Nat), noHH l = true → ¬ (c = 45 ∧ l.getLast? = some 45) → noHH (l ++ [c]) = true
  | [], _, _, _ => rfl
  | [a], c, _, h => by
    show (!(a == 45 && c == 45) && true) = true
    simp at h ⊢
    by_cases hc : c = 45
    · exact .inl (h hc)
    · exact .inr hc
  | a :: b :: r, c, hn, h => by
    show (!(a == 45 && b == 45) && noHH ((b :: r) ++ [c])) = true
    simp only [noHH, Bool.and_eq_true] at hn
    rw [hn.1, noHH_snoc (b :: r) c hn.2 (by simpa using h)]; rfl
theorem noHH_fold : ∀ (l acc : List Nat), noHH acc = true → noHH (l.foldl pushH acc) = true
  | [], _, h => h
  | c :: r, acc, h => by
    rw [List.foldl_cons]
    refine noHH_fold r _ ?_
    unfold pushH
    split
    · exact h
    · rename_i hc; exact noHH_snoc acc c h hc
theorem noHH_sq (l : List Nat) : noHH (sq l) = true := noHH_fold l [] rfl
theorem noHH_tail : ∀ (p q : List Nat), noHH (p ++ q) = true → noHH q = true
  | [], _, h => h
  | [a], [], _ => rfl
  | [a], b :: q, h => by
    have h' : (!(a == 45 && b == 45) && noHH (b :: q)) = true := h
    rw [Bool.and_eq_true] at h'; exact h'.2
  | a :: b :: p, q, h => by
    have h' : (!(a == 45 && b == 45) && noHH ((b :: p) ++ q)) = true := h
    rw [Bool.and_eq_true] at h'
    exact noHH_tail (b :: p) q h'.2
theorem chop_same {l : List Nat} (h : noHH l = true) : chopA l = chopH l := by
  unfold chopH
  split
  · rename_i hl
    rcases snoc_cases l with rfl | ⟨r, c, rfl⟩
    · cases hl
    · simp at hl; subst hl
      rw [chopA_snoc]
      simp
      refine chopA_id fun hr => ?_
      rcases snoc_cases r with rfl | ⟨r', d, rfl⟩
      · cases hr
      · simp at hr; subst hr
        have := noHH_tail r' [45, 45] (by simpa using h)
        cases this
  · rename_i hl; exact chopA_id hl
theorem sq_len_eq {l : List Nat} (h : (sq l).length = l.length) : sq l = l := (sublist_sq l).eq_of_length h
theorem lenlt_unk {l : List Nat} (h : l.take 7 = unk) : (dels l).length < l.length := by
  have hl : 7 ≤ l.length := by
    have := congrArg List.length h
    rw [List.length_take] at this
    simp [unk] at this; omega
  rw [dels_unk h]
  have := dels_len (l.drop 7)
  rw [List.length_drop] at this; omega
theorem noU_of : ∀ (p q : List Nat), (dels (p ++ q)).length = (p ++ q).length → q.take 7 ≠ unk
  | [], q, h, e => by have := lenlt_unk e; simp at h; omega
  | c :: p, q, h, e => by
    by_cases hm : ((c :: p) ++ q).take 7 = unk
    · have := lenlt_unk hm; omega
    · refine noU_of p q ?_ e
      rw [List.cons_append] at hm h
      rw [dels_cons hm] at h
      simpa using h
theorem not_ends {a b : List Nat} (h : (dels (a ++ b)).length = (a ++ b).length) : ¬ ends unk a := by
  rintro ⟨q, rfl⟩
  refine noU_of q (unk ++ b) (by simpa using h) ?_
  simp [unk]
theorem nf_id_aux : ∀ (l acc : List Nat), (dels (acc ++ l)).length = (acc ++ l).length → noHH (acc ++ l) = true → l.foldl pushR acc = acc ++ l
  | [], acc, _, _ => by simp
  | c :: r, acc, h1, h2 => by
    have e : acc ++ c :: r = (acc ++ [c]) ++ r := by simp
    rw [e] at h1 h2
    rw [List.foldl_cons, pushR_other ?_ (not_ends h1), nf_id_aux r _ h1 h2, e]
    rintro rfl hl
    rcases snoc_cases acc with rfl | ⟨r', d, rfl⟩
    · cases hl
    · simp at hl; subst hl
      have := noHH_tail r' (45 :: 45 :: r) (by simpa using h2)
      simp [noHH] at this
theorem nf_id {l : List Nat} (h1 : (dels l).length = l.length) (h2 : noHH l = true) : nf l = l := nf_id_aux l [] h1 h2
/-- trimming does not reach the normal form -/
theorem lst_inv : ∀ (r : List Nat), (∀ c ∈ r, isBl c = true → c = 9) → strp (nf (lstripT r)) = strp (nf r)
  | [], _ => rfl
  | c :: r, h => by
    unfold lstripT
    by_cases hc : isBl c = true
    · have h9 := h c (List.mem_cons_self ..) hc
      subst h9
      rw [List.dropWhile_cons_of_pos hc, nf_tab, strp_cons]
      exact lst_inv r fun c hc => h c (List.mem_cons_of_mem _ hc)
    · rw [List.dropWhile_cons_of_neg hc]
theorem rst_inv : ∀ (n : Nat) (r : List Nat), r.length ≤ n → (∀ c ∈ r, isBl c = true → c = 9) → strp (nf (rstripT r)) = strp (nf r) := by
  intro n
  induction n with
  | zero => intro r h _; rw [List.length_eq_zero_iff.mp (by omega : r.length = 0)]; rfl
  | succ n ih =>
    intro r h hb
    rcases snoc_cases r with rfl | ⟨r, c, rfl⟩
    · rfl
    · by_cases hc : isBl c = true
      · have h9 := hb c (by simp) hc
        subst h9
        rw [nf_snoc_th (by decide)]
        have : rstripT (r ++ [9]) = rstripT r := by unfold rstripT; simp [isBl]
        rw [this]
        exact ih r (by simp at h; omega) fun c hc => hb c (by simp [hc])
      · have : rstripT (r ++ [c]) = r ++ [c] := by unfold rstripT; simp [hc]
        rw [this]
theorem trim_inv {r : List Nat} (h : ∀ c ∈ r, isBl c = true → c = 9) : strp (nf (trimT r)) = strp (nf r) := by
  unfold trimT
  rw [rst_inv _ _ (Nat.le_refl _) fun c hc => h c ((sublist_lstripT r).subset hc), lst_inv r h]
theorem chopH_inv (l : List Nat) : strp (nf (chopH l)) = strp (nf l) := by
  unfold chopH
  split
  · rename_i hl
    rcases snoc_cases l with rfl | ⟨r, c, rfl⟩
    · rfl
    · simp at hl; subst hl
      rw [nf_snoc_th (by decide)]; simp
  · rfl
theorem label_inv (l : List Nat) : strp (nf (labelT l)) = strp (nf l) := by
  show strp (nf (chopH (sq (dels l)))) = _
  rw [chopH_inv, nf_sq, nf_dels]
/-- a label that a further one does not shorten is the rest -/
theorem fin_pure {r : List Nat} (hb : ∀ c ∈ r, isBl c = true ↔ c = 9) (h : r.length ≤ (labelT (trimT r)).length) : labelT (trimT r) = r ∧ strp (nf r) = r := by
  have l1 := (sublist_chopH (sq (dels (trimT r)))).length_le
  have l2 := (sublist_sq (dels (trimT r))).length_le
  have l3 := (sublist_dels (trimT r)).length_le
  have l4 := (sublist_rstripT (lstripT r)).length_le
  have l5 := (sublist_lstripT r).length_le
  have h' : r.length ≤ (chopH (sq (dels (trimT r)))).length := h
  have l4' : (trimT r).length ≤ (lstripT r).length := l4
  have e5 : lstripT r = r := (sublist_lstripT r).eq_of_length (by omega)
  have et : trimT r = rstripT r := by unfold trimT; rw [e5]
  have e4 : rstripT r = r := (sublist_rstripT r).eq_of_length (by rw [← et]; omega)
  rw [et, e4] at l1 l2 l3 h' ⊢
  have e3 : dels r = r := (sublist_dels r).eq_of_length (by omega)
  rw [e3] at l1 l2 h'
  have e2 : sq r = r := sq_len_eq (by omega)
  rw [e2] at l1 h'
  have e1 : chopH r = r := (sublist_chopH r).eq_of_length (by omega)
  refine ⟨?_, ?_⟩
  · show chopH (sq (dels r)) = r
    rw [e3, e2, e1]
  · rw [nf_id (by rw [e3]) (by rw [← e2]; exact noHH_sq r)]
    unfold strp
    have hl : lstripR r = r := by
      cases r with
      | nil => rfl
      | cons c q =>
        have hc : ¬ isBl c = true := by
          intro hc
          unfold lstripT at e5
          rw [List.dropWhile_cons_of_pos hc] at e5
          have := (List.dropWhile_sublist isBl (l := q)).length_le
          rw [e5] at this; simp at this; omega
        have : c ≠ 9 := fun e => hc ((hb c (List.mem_cons_self ..)).mpr e)
        unfold lstripR
        rw [List.dropWhile_cons_of_neg (by simpa using this)]
    rw [hl]
    refine rstripR_id ?_
    rcases snoc_cases r with rfl | ⟨q, c, rfl⟩
    · rfl
    · have h9 : c ≠ 9 := by
        rintro rfl
        have : rstripT (q ++ [9]) = rstripT q := by unfold rstripT; simp [isBl]
        rw [this] at e4
        have := (sublist_rstripT q).length_le
        rw [e4] at this; simp at this; omega
      have h45 : c ≠ 45 := by
        rintro rfl
        unfold chopH at e1
        rw [if_pos (by simp)] at e1
        have := congrArg List.length e1
        simp at this
      simp [isTH, h9, h45]
end Mine
end

section
open PySem PySem.W PySem.Calls PyProof.Rows
open PySem.Builtin PySem.Builtin.Str
set_option maxRecDepth 100000
set_option maxHeartbeats 1000000
namespace Mine
theorem tab_space : alph1.all (fun c => Unicode.isSpace c == isBl c) = true := by decide +kernel
theorem tab_bl : alph2.all (fun c => isBl c == (c == 9)) = true := by decide +kernel
theorem of_tab {l : List Nat} {p : Nat → Bool} (h : l.all p = true) {c : Nat} (hc : c ∈ l) : p c = true := List.all_eq_true.mp h c hc
theorem drop_tw (p : Nat → Bool) : ∀ l : List Nat, l.drop (l.takeWhile p).length = l.dropWhile p
  | [] => rfl
  | c :: r => by
    by_cases h : p c = true
    · rw [List.takeWhile_cons_of_pos h, List.dropWhile_cons_of_pos h]; exact drop_tw p r
    · rw [List.takeWhile_cons_of_neg h, List.dropWhile_cons_of_neg h]; rfl
theorem take_tw (p : Nat → Bool) (l : List Nat) : l.take (l.length - (l.reverse.takeWhile p).length) = (l.reverse.dropWhile p).reverse := by
  rw [← drop_tw, List.drop_reverse, List.reverse_reverse]
theorem dw_congr {p q : Nat → Bool} : ∀ {l : List Nat}, (∀ c ∈ l, p c = q c) → l.dropWhile p = l.dropWhile q
  | [], _ => rfl
  | c :: r, h => by
    have hc := h c (List.mem_cons_self ..)
    by_cases hp : p c = true
    · rw [List.dropWhile_cons_of_pos hp, List.dropWhile_cons_of_pos (hc ▸ hp), dw_congr fun d hd => h d (List.mem_cons_of_mem _ hd)]
    · rw [List.dropWhile_cons_of_neg hp, List.dropWhile_cons_of_neg (by rw [← hc]; exact hp)]
theorem strip_alph {x : List Nat} (h : ∀ c ∈ x, c ∈ alph1) : stripT x = trimT x := by
  unfold stripT Txt.strip
  rw [PyProof.Rows.stripBy_eq, sub_tl]
  have e0 : (ms x).cps.toList = x := tl_ms x
  have e1 : stripLo Unicode.isSpace true (ms x) = (x.takeWhile Unicode.isSpace).length := by
    show (if true = true then ((ms x).cps.toList.takeWhile Unicode.isSpace).length else 0) = _
    rw [if_pos rfl, e0]
  rw [e1, tl_ms, drop_tw]
  have e2 : stripHi Unicode.isSpace true (ms x) (x.takeWhile Unicode.isSpace).length = x.length - ((x.dropWhile Unicode.isSpace).reverse.takeWhile Unicode.isSpace).length := by
    show (if true = true then (ms x).length - (((ms x).cps.toList.drop _).reverse.takeWhile Unicode.isSpace).length else _) = _
    rw [if_pos rfl, e0, drop_tw, ← tl_length, tl_ms]
  rw [e2]
  have hl : (x.dropWhile Unicode.isSpace).length + (x.takeWhile Unicode.isSpace).length = x.length := by
    have := congrArg List.length (List.takeWhile_append_dropWhile (p := Unicode.isSpace) (l := x))
    rw [List.length_append] at this; omega
  rw [show x.length - ((x.dropWhile Unicode.isSpace).reverse.takeWhile Unicode.isSpace).length - (x.takeWhile Unicode.isSpace).length = (x.dropWhile Unicode.isSpace).length - ((x.dropWhile Unicode.isSpace).reverse.takeWhile Unicode.isSpace).length by omega]
  rw [take_tw]
  unfold trimT rstripT lstripT
  have hs : ∀ c ∈ x, Unicode.isSpace c = isBl c := fun c hc => by simpa using of_tab tab_space (h c hc)
  rw [dw_congr hs]
  rw [dw_congr (l := (x.dropWhile isBl).reverse) fun c hc => hs c ((List.dropWhile_sublist isBl).subset (List.mem_reverse.mp hc))]
theorem plat_label {rows : List (List Nat)} (h : ∀ r ∈ rows, ∀ c ∈ r, c ∈ alph1) : platT rows = labelT (signsT rows) := by
  unfold platT labelT
  rw [show List.foldl pushH [] (dels ((joinT rows).map signC)) = sq (dels ((joinT rows).map signC)) from rfl, chop_same (noHH_sq _)]
  unfold joinT signsT sq
  rw [List.map_congr_left (g := trimT) fun r hr => strip_alph (h r (List.mem_filter.mp hr).1)]
theorem in1_of3 {c : Nat} (h : c ∈ alph3) : c ∈ alph1 := by simpa using of_tab tab_sub h
theorem in3_of2 {c : Nat} (h : c ∈ alph2) : c ∈ alph3 := by unfold alph3; simp [h]
theorem let_in {k : Nat} (hk : k < 12) {c : Nat} (h1 : 97 ≤ c) (h2 : c ≤ 122) : (startsL.getD k 0 + c - 97).toNat ∈ alph1 := by
  have hs : 0 ≤ startsL.getD k 0 := by have := (starts_range k hk).1; omega
  have hm : startsL.getD k 0 ∈ startsL := by
    have : ∀ j : Fin 12, startsL.getD j.val 0 ∈ startsL := by decide
    exact this ⟨k, hk⟩
  unfold alph1 lets
  simp only [List.mem_append]
  refine .inl (.inl (.inl (.inl (.inl ?_))))
  refine List.mem_flatMap.mpr ⟨_, hm, List.mem_map.mpr ⟨c - 97, List.mem_range.mpr (by omega), by omega⟩⟩
theorem spl_in {w : List Nat} {which : Int} (hw : ∀ c ∈ w, 97 ≤ c ∧ c ≤ 122) : ∀ c ∈ spl w which, c ∈ alph1 := by
  intro c hc
  obtain ⟨d, hd, rfl⟩ := List.mem_map.mp hc
  have := fmod12 which
  exact let_in (by omega) (hw d hd).1 (hw d hd).2
theorem getD_in {l : List Nat} {n : Nat} (h : n < l.length) : l.getD n 0 ∈ l := by
  rw [List.getD_eq_getElem?_getD, List.getElem?_eq_getElem h]; exact List.getElem_mem h
theorem getDI_in {l : List Int} {n : Nat} (h : n < l.length) : l.getD n 0 ∈ l := by
  rw [List.getD_eq_getElem?_getD, List.getElem?_eq_getElem h]; exact List.getElem_mem h
theorem ite_in {p : Prop} [Decidable p] {a b : List Nat} (ha : ∀ c ∈ a, c ∈ alph1) (hb : ∀ c ∈ b, c ∈ alph1) : ∀ c ∈ (if p then a else b), c ∈ alph1 := by
  by_cases h : p
  · rw [if_pos h]; exact ha
  · rw [if_neg h]; exact hb
theorem piece_in (kd wh : Int) : ∀ c ∈ pieceT kd wh, c ∈ alph1 := by
  have m5 : ∀ c ∈ [8470, 45, 32, 9, 95], c ∈ alph1 := by decide +kernel
  have m7 : ∀ c ∈ seven, c ∈ alph1 := by decide +kernel
  have m27 : ∀ c ∈ nothL, c.toNat ∈ alph1 := by decide +kernel
  have m8 : ∀ c ∈ eightL, c.toNat ∈ alph1 := by decide +kernel
  have m10 : ∀ c ∈ digs, c ∈ alph1 := by decide +kernel
  have f2 := fm_facts wh (b := 2) (by decide)
  have f7 := fm_facts wh (b := 7) (by decide)
  have f27 := fm_facts wh (b := 27) (by decide)
  have f8 := fm_facts wh (b := 8) (by decide)
  have f26 := fm_facts wh (b := 26) (by decide)
  have f10 := fm_facts wh (b := 10) (by decide)
  unfold pieceT
  refine ite_in ?_ ?_
  · exact spl_in (by decide)
  refine ite_in ?_ ?_
  · exact spl_in (by decide)
  refine ite_in ?_ ?_
  · exact spl_in (by decide)
  refine ite_in ?_ ?_
  · intro c hc
    rcases List.mem_append.mp hc with hc | hc
    · rcases List.mem_append.mp hc with hc | hc
      · exact spl_in (by decide) c hc
      · simp at hc; subst hc; exact m5 _ (by simp)
    · exact spl_in (by decide) c hc
  refine ite_in ?_ ?_
  · intro c hc
    have := (List.mem_replicate.mp hc).2
    subst this; exact m5 _ (by simp)
  refine ite_in ?_ ?_
  · intro c hc; simp at hc; subst hc; exact m5 _ (by simp)
  refine ite_in ?_ ?_
  · intro c hc; simp at hc; subst hc; exact m5 _ (by simp)
  refine ite_in ?_ ?_
  · intro c hc
    rw [List.mem_singleton] at hc
    subst hc; exact m7 _ (getD_in (by show _ < 7; omega))
  refine ite_in ?_ ?_
  · intro c hc
    rw [List.mem_singleton] at hc
    subst hc; exact m27 _ (getDI_in (by show _ < 27; omega))
  refine ite_in ?_ ?_
  · intro c hc
    rw [List.mem_singleton] at hc
    subst hc; exact m8 _ (getDI_in (by show _ < 8; omega))
  refine ite_in ?_ ?_
  · refine spl_in fun c hc => ?_
    rw [List.mem_singleton] at hc
    omega
  refine ite_in ?_ ?_
  · intro c hc
    rw [List.mem_singleton] at hc
    subst hc
    refine m10 _ (List.mem_map.mpr ⟨(wh.fmod 10).toNat, List.mem_range.mpr (by omega), by omega⟩)
  · intro c hc; cases hc
theorem row_in (ns : List Int) : ∀ r ∈ rowT ns, ∀ c ∈ r, c ∈ alph1 := by
  have key : ∀ (ms : List Int) (rows : List (List Nat)), (∀ r ∈ rows, ∀ c ∈ r, c ∈ alph1) → ∀ r ∈ ms.foldl rowStep rows, ∀ c ∈ r, c ∈ alph1 := by
    intro ms
    induction ms with
    | nil => intro rows h; exact h
    | cons n ms ih =>
      intro rows h
      refine ih _ ?_
      unfold rowStep
      split
      · intro r hr c hc
        rcases List.mem_append.mp hr with hr | hr
        · exact h r (List.dropLast_subset _ hr) c hc
        · rw [List.mem_singleton] at hr
          subst hr
          rcases List.mem_append.mp hc with hc | hc
          · cases hl : rows.getLast? with
            | none => rw [List.getLastD_eq_getLast?, hl] at hc; cases hc
            | some q =>
              rw [List.getLastD_eq_getLast?, hl] at hc
              exact h q (List.mem_of_getLast? hl) c hc
          · exact piece_in _ _ c hc
      · intro r hr c hc
        rcases List.mem_append.mp hr with hr | hr
        · exact h r hr c hc
        · rw [List.mem_singleton] at hr
          subst hr; cases hc
  exact key _ _ (by intro r hr c hc; rw [List.mem_singleton] at hr; subst hr; cases hc)
end Mine
end

section
open PySem PySem.W PySem.Calls PyProof.Rows
set_option maxRecDepth 100000
set_option maxHeartbeats 1000000
namespace Mine
theorem prep_flat (x : List Nat) : prepT x = x.flatMap prepC := by
  unfold prepT
  induction x with
  | nil => rfl
  | cons c r ih =>
    rw [List.flatMap_cons, ← ih]
    unfold prepC
    cases h : b1L.contains (c : Int)
    · rw [List.filter_cons_of_pos (by simp only [h]; rfl), List.flatMap_cons]; simp
    · rw [List.filter_cons_of_neg (by simp only [h]; decide)]; simp
theorem prep_read {x : List Nat} (h : ∀ c ∈ x, c ∈ alph1) : prepT x = readT x := by
  rw [prep_flat]
  unfold readT
  induction x with
  | nil => rfl
  | cons c r ih =>
    rw [List.flatMap_cons, List.flatMap_cons, ih fun d hd => h d (List.mem_cons_of_mem _ hd)]
    have := of_tab tab_prep (h c (List.mem_cons_self ..))
    simp only [Bool.and_eq_true, beq_iff_eq] at this
    rw [this.1.1]
theorem low_of {c : Nat} (h : c ∈ alph1) : (mapC c).length ≤ 3 ∧ c ≤ 1114111 := by
  have := of_tab tab_prep h
  simp only [Bool.and_eq_true, decide_eq_true_eq] at this
  exact ⟨this.1.2, this.2⟩
theorem read_in {x : List Nat} (h : ∀ c ∈ x, c ∈ alph1) : ∀ c ∈ readT x, c ∈ alph3 := by
  intro c hc
  obtain ⟨d, hd, hc⟩ := List.mem_flatMap.mp hc
  have := of_tab tab_read (h d hd)
  have := List.all_eq_true.mp this c hc
  simpa using this
theorem mem_inter {sep : List Nat} : ∀ {ls : List (List Nat)} {c : Nat}, c ∈ List.intercalate sep ls → c ∈ sep ∨ ∃ l ∈ ls, c ∈ l
  | [], c, h => by simp [List.intercalate] at h
  | [a], c, h => .inr ⟨a, by simp, by simpa [List.intercalate] using h⟩
  | a :: b :: r, c, h => by
    have e : List.intercalate sep (a :: b :: r) = a ++ sep ++ List.intercalate sep (b :: r) := by simp [List.intercalate]
    rw [e] at h
    rcases List.mem_append.mp h with h | h
    · rcases List.mem_append.mp h with h | h
      · exact .inr ⟨a, by simp, h⟩
      · exact .inl h
    · rcases mem_inter h with h | ⟨l, hl, hc⟩
      · exact .inl h
      · exact .inr ⟨l, by simp at hl ⊢; exact .inr hl, hc⟩
theorem signs_mem {rows : List (List Nat)} {c : Nat} (h : c ∈ signsT rows) : ∃ d, c = signC d ∧ (d = 45 ∨ ∃ r ∈ rows, d ∈ r) := by
  unfold signsT at h
  obtain ⟨d, hd, rfl⟩ := List.mem_map.mp h
  refine ⟨d, rfl, ?_⟩
  rcases mem_inter hd with h | ⟨l, hl, hc⟩
  · exact .inl (by simpa using h)
  · obtain ⟨r, hr, rfl⟩ := List.mem_map.mp hl
    exact .inr ⟨r, (List.mem_filter.mp hr).1, (sublist_trimT r).subset hc⟩
theorem signs_in1 {rows : List (List Nat)} (h : ∀ r ∈ rows, ∀ c ∈ r, c ∈ alph1) : ∀ c ∈ signsT rows, c ∈ alph1 := by
  intro c hc
  obtain ⟨d, rfl, hd⟩ := signs_mem hc
  have : d ∈ alph1 := by
    rcases hd with rfl | ⟨r, hr, hd⟩
    · decide +kernel
    · exact h r hr d hd
  simpa using of_tab tab_sign this
theorem signs_in2 {rows : List (List Nat)} (h : ∀ r ∈ rows, ∀ c ∈ r, c ∈ alph3) : ∀ c ∈ signsT rows, c ∈ alph2 := by
  intro c hc
  obtain ⟨d, rfl, hd⟩ := signs_mem hc
  have : d ∈ alph3 := by
    rcases hd with rfl | ⟨r, hr, hd⟩
    · decide +kernel
    · exact h r hr d hd
  simpa using of_tab tab_sign3 this
theorem signs_one {r : List Nat} (h : ∀ c ∈ r, c ∈ alph2) : signsT [r] = trimT r := by
  have e : signsT [r] = (trimT r).map signC := by
    unfold signsT
    by_cases hr : r = []
    · subst hr; rfl
    · rw [List.filter_cons_of_pos (by simpa using hr)]
      simp [List.intercalate]
  rw [e]
  conv => rhs; rw [← List.map_id (trimT r)]
  apply List.map_congr_left
  intro c hc
  have := of_tab tab_sign2 (h c ((sublist_trimT r).subset hc))
  simpa using this
theorem signs_len' (rows : List (List Nat)) : (signsT rows).length ≤ lenSum rows + rows.length := by
  have h := signs_len (rows.map fun r => (ms r, 0))
  have e : (rows.map fun r => ((ms r, 0) : Str × Tok)).map (fun p => tl p.1) = rows := by
    rw [List.map_map]
    conv => rhs; rw [← List.map_id rows]
    apply List.map_congr_left
    intro r _
    exact tl_ms r
  rw [tot_rows e, e] at h
  exact h
theorem lenSum_read (rows : List (List Nat)) : lenSum (rows.map readT) ≤ 3 * lenSum rows := by
  induction rows with
  | nil => exact Nat.le_refl _
  | cons r q ih =>
    have h1 := readT_len r
    unfold lenSum at ih ⊢
    simp only [List.map_cons, List.sum_cons] at ih ⊢
    omega
def restOf (ns : List Int) : List Nat := restT (signsT ((rowT ns).map readT))
def InvOf (ns : List Int) (r : List Nat) : Prop := (∀ c ∈ r, c ∈ alph2) ∧ strp (nf r) = restOf ns ∧ r.length ≤ 10000
theorem row_small (ns : List Int) : lenSum (rowT ns) + (rowT ns).length ≤ 97 := by
  obtain ⟨_, h2, h3⟩ := rows_facts (ns.take 12) [[]] (by simp)
  have hl : (ns.take 12).length ≤ 12 := by rw [List.length_take]; omega
  have e : lenSum [[]] = 0 := rfl
  rw [e] at h2
  unfold rowT
  simp at h3
  omega
theorem plain (ns : List Int) : Plain (rowT ns) (restOf ns) (InvOf ns) := by
  have hin := row_in ns
  have hsm := row_small ns
  have hlab1 : ∀ c ∈ labelT (signsT (rowT ns)), c ∈ alph1 := fun c hc => signs_in1 hin c ((sublist_label _).subset hc)
  have hfirst := plat_label hin
  have hread : ∀ r ∈ (rowT ns).map readT, ∀ c ∈ r, c ∈ alph3 := by
    intro r hr
    obtain ⟨q, hq, rfl⟩ := List.mem_map.mp hr
    exact read_in (hin q hq)
  have hprep : (rowT ns).map prepT = (rowT ns).map readT := List.map_congr_left fun r hr => prep_read (hin r hr)
  have h21 : ∀ {c}, c ∈ alph2 → c ∈ alph1 := fun h => in1_of3 (in3_of2 h)
  have hbl : ∀ {c}, c ∈ alph2 → (isBl c = true ↔ c = 9) := fun {c} h => by
    have := of_tab tab_bl h
    simp only [beq_iff_eq] at this
    rw [this]; simp
  have hstep : ∀ r, InvOf ns r → platT [r] = labelT (trimT r) := by
    intro r hr
    rw [plat_label (by intro q hq; rw [List.mem_singleton] at hq; subst hq; exact fun c hc => h21 (hr.1 c hc)), signs_one hr.1]
  have hlen1 : (labelT (signsT (rowT ns))).length ≤ 97 := Nat.le_trans (sublist_label _).length_le (Nat.le_trans (signs_len' _) hsm)
  refine ⟨hfirst, ?_, rfl, ?_, ?_, ?_, fun r hr => hr.2.2, by omega, fun r hr c hc => low_of (hin r hr c hc), ?_, ?_⟩
  · rw [hfirst, prep_read hlab1]
    refine plat_label ?_
    intro q hq
    rw [List.mem_singleton] at hq
    subst hq
    exact fun c hc => in1_of3 (read_in hlab1 c hc)
  · rw [hprep, plat_label fun r hr c hc => in1_of3 (hread r hr c hc)]
    refine ⟨fun c hc => signs_in2 hread c ((sublist_label _).subset hc), ?_, ?_⟩
    · rw [label_inv]; rfl
    · refine Nat.le_trans (sublist_label _).length_le (Nat.le_trans (signs_len' _) ?_)
      have := lenSum_read (rowT ns)
      rw [List.length_map]; omega
  · intro r hr
    have e := hstep r hr
    rw [e]
    have hsub : (labelT (trimT r)).Sublist r := (sublist_label _).trans (sublist_trimT r)
    refine ⟨fun c hc => hr.1 c (hsub.subset hc), ?_, Nat.le_trans hsub.length_le hr.2.2⟩
    rw [label_inv, trim_inv fun c hc h => (hbl (hr.1 c hc)).mp h]
    exact hr.2.1
  · intro r hr hle
    have e := hstep r hr
    rw [e] at hle ⊢
    obtain ⟨e1, e2⟩ := fin_pure (fun c hc => hbl (hr.1 c hc)) hle
    have : r = restOf ns := by rw [← hr.2.1]; exact e2.symm
    exact ⟨this, by rw [e1]; exact this⟩
  · rw [hfirst]; exact fun c hc => low_of (hlab1 c hc)
  · rw [hfirst]; omega
end Mine
end

section
open PySem PySem.W PySem.Calls PyProof.Rows
set_option maxRecDepth 100000
set_option maxHeartbeats 1000000
namespace Mine
section
variable {w : World} {A : Around} {E : Value → Shared → Prop} {s : Shared}
theorem c_dictPut {K : Type} [DecidableEq K] {knd : KeyKind prog w K} {d : Addr} {kvs : List (K × Value)} {k : K} {key v : Value} {Q : Unit → Shared → Prop} (hkey : knd.is k key = true) (hm : s.heap.DictOf knd d kvs)
    (hQ : ∀ h', h'.DictOf knd d (stored kvs k v) → Heap.SameBut d s.heap h' → Q () { s with heap := h' }) (hsz : kvs.length ≤ sizeLine) :
    wpAny (model prog w) A (dictPut d (knd.hash k) key v) Q E s := by
  obtain ⟨o, es, ep, ho, hc, hd, hk, hp, hn⟩ := hm
  have hes : es.size ≤ sizeLine := by
    have e1 := hp.length
    have e2 : es.toList.length = es.size := by simp
    omega
  unfold dictPut
  refine wpAny_bind (wpAny_dictFind_of hkey ho hd hk ?_)
  have hidx : (es.findIdx? fun e => knd.is k e.key) = kvs.findIdx? fun kv => decide (kv.1 = k) := by
    rw [← hp.findIdx k]; obtain ⟨l⟩ := es; simp
  cases hi : es.findIdx? fun e => knd.is k e.key with
  | some i =>
    refine wpAny_updateDict ho hd (hQ _ ⟨_, _, ep, Heap.get?_update_self _ ho (Obj.isFreed_of_dict (Obj.data_mapDict hd _)),
      hc.mapDict _, Obj.data_mapDict hd _, hk.modify _ _, ?_, ?_⟩ (Heap.SameBut.update ..))
    · rw [stored, if_pos (any_of_findIdx_some (hidx ▸ hi))]
      have hl : (es.toList.findIdx? fun e => knd.is k e.key) = some i := by rw [← hi]; obtain ⟨l⟩ := es; simp
      have := hp.modify hn hl v
      obtain ⟨l⟩ := es
      simpa using this
    · rw [stored, if_pos (any_of_findIdx_some (hidx ▸ hi)), keys_map_store]; exact hn
  | none =>
    have hnot : k ∉ kvs.map (·.1) := not_mem_of_findIdx_none (hidx ▸ hi)
    have hany : ¬ (kvs.any fun kv => decide (kv.1 = k)) = true := by
      rw [List.any_eq_true]; rintro ⟨kv, hkv, he⟩
      exact hnot (List.mem_map.mpr ⟨kv, hkv, of_decide_eq_true he⟩)
    refine wpAny_updateDictKeys (hz := hes) ho hd (hQ _ ⟨_, _, ep + 1, Heap.get?_update_self _ ho (Obj.isFreed_of_dict (Obj.data_mapDictKeys hd _)),
      hc.mapDictKeys _, Obj.data_mapDictKeys hd _, hk.push hkey _, ?_, ?_⟩ (Heap.SameBut.update ..))
    · rw [stored, if_neg hany]
      have := hp.append hkey (knd.hash k) v
      obtain ⟨l⟩ := es
      simpa using this
    · rw [stored, if_neg hany, List.map_append, List.nodup_append]
      refine ⟨hn, by simp, ?_⟩
      intro a ha b hb
      simp only [List.map_cons, List.map_nil, List.mem_singleton] at hb
      subst hb
      exact fun e => hnot (e ▸ ha)
/-- a written pair: an int and a text -/
def CItem (w : World) (p : Sem Value × Sem Value) (e : Int × Str) : Prop :=
  (∀ (A : Around) (E : Value → Shared → Prop) (s : Shared) (Q : Value → Shared → Prop), (∀ t tk, Q (.int e.1 t) { s with toks := tk }) → wpAny (model prog w) A p.1 Q E s) ∧
  ∀ (A : Around) (E : Value → Shared → Prop) (s : Shared) (Q : Value → Shared → Prop), (∀ t tk, Q (.str e.2 t) { s with toks := tk }) → wpAny (model prog w) A p.2 Q E s
inductive CItems (w : World) : List (Sem Value × Sem Value) → List (Int × Str) → Prop
  | nil : CItems w [] []
  | cons {p : Sem Value × Sem Value} {e : Int × Str} {ps : List (Sem Value × Sem Value)} {es : List (Int × Str)} : CItem w p e → CItems w ps es → CItems w (p :: ps) (e :: es)
theorem CItems.length {ps : List (Sem Value × Sem Value)} {es : List (Int × Str)} (x : CItems w ps es) : ps.length = es.length := by
  induction x with
  | nil => rfl
  | cons _ _ ih => simp [ih]
theorem CItems.append {ps qs : List (Sem Value × Sem Value)} {es fs : List (Int × Str)} (x : CItems w ps es) (y : CItems w qs fs) : CItems w (ps ++ qs) (es ++ fs) := by
  induction x with
  | nil => exact y
  | cons h _ ih => exact .cons h ih
theorem citems_of {env : Env} {pos : Pos} : ∀ {ks : List (Option Expr)} {vs : List Expr} {l : List (Int × Str)}, constPairs ks vs = some l → CItems w (pairTrees ks vs env pos) l
  | [], vs, l, hc => by
    cases vs with
    | nil => cases hc; exact .nil
    | cons _ _ => cases hc
  | none :: _, vs, l, hc => by cases vs <;> cases hc
  | some k :: ks, vs, l, hc => by
    obtain ⟨i, n1, p1, x, n2, p2, vs', l', rfl, rfl, hl', rfl⟩ := constPairs_cons hc
    refine .cons ⟨fun A E s Q h => wpAny_Constant_int (env := env) (k := n1) (pos := p1) (h _ _), fun A E s Q h => ?_⟩ (citems_of hl')
    exact wpAny_bind (wpAny_Constant_str (wpAny_bind (wpAny_standAt (wpAny_pure (h _ _)))))
/-- a run of pairs, evaluated and stored one by one -/
theorem c_storeRun {d : Addr} : ∀ (ps : List (Sem Value × Sem Value)) (es : List (Int × Str)) (kvs : List (Int × Value)) (L : List (Int × Str)) (s : Shared) (Q : PUnit → Shared → Prop), CItems w ps es → s.heap.DictOf (intKind prog w) d kvs → TK kvs L → ((L ++ es).map (·.1)).Nodup → kvs.length + es.length ≤ sizeLine →
    (∀ h' tk kvs', h'.DictOf (intKind prog w) d kvs' → TK kvs' (L ++ es) → Heap.SameBut d s.heap h' → Q PUnit.unit { s with heap := h', toks := tk }) →
    wpAny (model prog w) A (forIn ps PUnit.unit fun (x : Sem Value × Sem Value) (_ : PUnit) => (do
      let kv ← x.1
      let vv ← holding [kv] x.2
      holding [kv, vv] (dictSet d kv vv)
      pure (ForInStep.yield PUnit.unit) : Sem (ForInStep PUnit))) Q E s
  | [], _, kvs, L, s, Q, hc, hd, ht, _, _, hQ => by
    cases hc
    rw [List.forIn_nil]
    exact wpAny_pure (hQ s.heap s.toks kvs hd (by simpa using ht) (Heap.SameBut.refl _ _))
  | p :: ps, _, kvs, L, s, Q, hc, hd, ht, hn, hsz, hQ => by
    cases hc with
    | @cons _ e _ es h1 h2 =>
    rw [List.forIn_cons]
    refine wpAny_bind (wpAny_bind (h1.1 A E s _ fun t tk => ?_))
    refine wpAny_bind (wpAny_holding (h1.2 A E _ _ fun t' tk' => ?_))
    refine wpAny_bind (wpAny_holding ?_)
    simp only [List.length_cons] at hsz
    refine wpAny_dictSet_pairs (knd := intKind prog w) (k := e.1) (hsz := by omega) (by simp [intKind, Value.isInt]) hd fun h₁ hd₁ hs₁ => wpAny_pure ?_
    have hnew : stored kvs e.1 (.str e.2 t') = kvs ++ [(e.1, .str e.2 t')] := by
      unfold stored
      rw [if_neg]
      rw [List.any_eq_true]
      rintro ⟨kv, hkv, he⟩
      have hk : kv.1 = e.1 := of_decide_eq_true he
      have : e.1 ∈ L.map (·.1) := by rw [← ht.keys, ← hk]; exact List.mem_map_of_mem hkv
      rw [List.map_append, List.nodup_append] at hn
      exact hn.2.2 _ this _ (by simp) rfl
    rw [hnew] at hd₁
    refine c_storeRun ps es _ (L ++ [e]) _ Q h2 hd₁ (ht.append (.cons .nil)) (by simpa using hn) (by simp; omega) fun h' tk kvs' hd' ht' hs' => ?_
    exact hQ h' tk kvs' hd' (by simpa using ht') (hs₁.trans hs')
/-- all pairs evaluated first -/
theorem c_evalRun : ∀ (ps : List (Sem Value × Sem Value)) (es : List (Int × Str)) (s : Shared) (Q : List (Value × Value) → Shared → Prop), CItems w ps es →
    (∀ vs tk kvs, Carries (intKind prog w) vs kvs → TK kvs es → Q vs { s with toks := tk }) → wpAny (model prog w) A (evalPairs ps) Q E s
  | [], _, s, Q, hc, hQ => by cases hc; exact evalPairs_nil (hQ [] s.toks [] trivial .nil)
  | p :: ps, _, s, Q, hc, hQ => by
    cases hc with
    | @cons _ e _ es h1 h2 =>
    obtain ⟨k, v⟩ := p
    refine evalPairs_cons (h1.1 A E s _ fun t tk => h1.2 A E _ _ fun t' tk' => ?_)
    refine c_evalRun ps es _ _ h2 fun vs tk₂ kvs c₂ t₂ => ?_
    exact hQ _ tk₂ ((e.1, .str e.2 t') :: kvs) ⟨by simp [intKind, Value.isInt], rfl, c₂⟩ (.cons t₂)
theorem c_subDict {ps : List (Sem Value × Sem Value)} {es : List (Int × Str)} {Q : Addr → Shared → Prop} (hc : CItems w ps es) (hn : (es.map (·.1)).Nodup) (hl : es.length ≤ 100)
    (h : ∀ h' tk kvs, h'.DictOf (intKind prog w) s.heap.objs.size kvs → TK kvs es → Heap.SameBut s.heap.objs.size (s.heap.push { cls := .type "dict", data := .dict #[] }) h' → Q s.heap.objs.size { s with heap := h', toks := tk }) :
    wpAny (model prog w) A (subDict ps) Q E s := by
  have hsl : sizeLine = 16777216 := rfl
  by_cases h15 : ps.length ≤ 15
  · refine wpAny_subDict (knd := intKind prog w) h15 (c_evalRun ps es _ _ hc fun vs tk kvs c t => ⟨kvs, c, Heap.DictOf.new _, fun h' hd hs => ?_⟩)
    rw [merged_nil_of_nodup kvs (by rw [t.keys]; exact hn)] at hd
    exact h h' _ kvs hd t hs
  · unfold subDict
    refine wpAny_bind (wpAny_alloc ?_)
    refine wpAny_bind (wpAny_holding ?_)
    rw [if_neg h15]
    refine wpAny_bind (wpAny_rule ?_)
    refine wpAny_bind (c_storeRun ps es [] [] _ _ hc (Heap.DictOf.new _) .nil (by simpa using hn) (by simp; omega) fun h' tk kvs hd t hs => wpAny_pure (wpAny_pure ?_))
    exact h h' tk kvs hd (by simpa using t) hs
theorem iter_dict_beq : (some (Value.builtin "dict.__iter__") == some (Value.builtin "dict.__iter__")) = true := by decide
/-- a dict of ints and texts into another -/
theorem c_merge {d a : Addr} {kvs more : List (Int × Value)} {Q : Unit → Shared → Prop} (hda : d ≠ a) (haS : (a == sysModules) = false) (h0 : kvs ≠ [])
    (hd : s.heap.DictOf (intKind prog w) d kvs) (ha : s.heap.DictOf (intKind prog w) a more) (hsz : kvs.length + more.length ≤ sizeLine)
    (hQ : ∀ h', h'.DictOf (intKind prog w) d (merged kvs more) → Heap.SameBut d s.heap h' → Q () { s with heap := h' }) :
    wpAny (model prog w) A (mergeMapping d (.ref a) false) Q E s := by
  obtain ⟨od, esd, epd, hod, hcd, hdd, hkd, hpd, hnd⟩ := id hd
  obtain ⟨oo, eso, epo, hoo, hco, hdo', hko, hpo, hno⟩ := id ha
  unfold mergeMapping
  refine wpAny_bind (wpAny_isInstance (T := "dict") (b := true) ha.typeIs (by rw [isSubtype_type]; kernel_rfl) ?_)
  dsimp only
  rw [if_pos rfl]
  refine wpAny_bind (wpAny_specialOf ha.typeIs PySem.F.slot_dict_iter.lookup ?_)
  rw [show (some (Value.builtin "dict.__iter__") == some (Value.builtin "dict.__iter__")) = true from by decide]
  show wpAny _ _ (if (a == sysModules) = true then _ else _) _ _ _
  rw [if_neg (by rw [haS]; exact Bool.false_ne_true)]
  refine wpAny_bind (wpAny_dictEntries hod hdd ?_)
  have hdl : kvs.length = esd.size := by rw [← hpd.length]; simp
  rw [if_neg (by
    intro e
    have : esd.size = 0 := by simpa using e
    exact h0 (List.length_eq_zero_iff.mp (by omega)))]
  refine wpAny_bind (wpAny_dictEntries hoo hdo' ?_)
  refine wpAny_bind (wpAny_dictEpoch hoo hdo' ?_)
  have hlen : more.length = eso.size := by rw [← hpo.length]; simp
  refine wpAny_bind ?_
  rw [List.range_eq_range']
  refine wpAny_forIn_list _
    (fun rest _ s' => ∃ h' i, s' = { s with heap := h' } ∧ rest = List.range' i (eso.size - i) ∧ i ≤ eso.size ∧ h'.DictOf (intKind prog w) d (merged kvs (more.take i)) ∧ h'.get? a = some oo ∧ Heap.SameBut d s.heap h')
    _ ?_ ?_ _ _ ⟨s.heap, 0, rfl, by simp, Nat.zero_le _, by simpa [merged] using hd, hoo, Heap.SameBut.refl _ _⟩
  · rintro x rest b s' ⟨h', i, rfl, hr, hi, hd', hoo', hs'⟩
    have hlt : i < eso.size := by
      rcases Nat.lt_or_ge i eso.size with h | h
      · exact h
      · rw [Nat.sub_eq_zero_of_le h] at hr; simp at hr
    obtain ⟨rfl, hrest⟩ : x = i ∧ rest = List.range' (i + 1) (eso.size - (i + 1)) := by
      have e : eso.size - i = (eso.size - (i + 1)) + 1 := by omega
      rw [e, List.range'_succ] at hr
      injection hr with h1 h2
      exact ⟨h1, h2⟩
    refine wpAny_bind (wpAny_dictEntries hoo' hdo' ?_)
    rw [Array.getElem?_eq_getElem hlt]
    obtain ⟨kv, hkv⟩ : ∃ kv, more[x]? = some kv := ⟨more[x]'(by rw [hlen]; exact hlt), List.getElem?_eq_getElem _⟩
    obtain ⟨k, v⟩ := kv
    obtain ⟨hkey, hval⟩ := hpo.get? (e := eso[x]) (by simp [hlt]) hkv
    obtain ⟨k', hkey', hhash⟩ := hko eso[x] (Array.getElem_mem hlt)
    obtain rfl : k' = k := (intKind prog w).inj _ _ _ hkey' hkey
    show wpAny _ _ (holding [eso[x].key, eso[x].val] (dictPut d eso[x].hash eso[x].key eso[x].val) >>= _) _ _ _
    rw [hhash, hval]
    have hmx : (merged kvs (more.take x)).length ≤ sizeLine := by
      have e1 := merged_length_le kvs (more.take x)
      have e2 : (more.take x).length ≤ more.length := by rw [List.length_take]; omega
      omega
    refine wpAny_bind (wpAny_holding (c_dictPut hkey hd' (fun h₂ hd₂ hs₂ => ?_) hmx))
    have hoo₂ : h₂.get? a = some oo := (hs₂.2 a (Ne.symm hda)).trans hoo'
    refine wpAny_bind (wpAny_dictEpoch hoo₂ hdo' ?_)
    rw [if_neg (by simp)]
    refine wpAny_pure ⟨h₂, x + 1, rfl, hrest, hlt, ?_, hoo₂, hs'.trans hs₂⟩
    rw [merged_take_succ kvs more x (k', v) hkv]
    exact hd₂
  · rintro b s' ⟨h', i, rfl, hr, hi, hd', hoo', hs'⟩
    have hie : i = eso.size := by
      rcases Nat.lt_or_ge i eso.size with h | h
      · have e : eso.size - i = (eso.size - (i + 1)) + 1 := by omega
        rw [e, List.range'_succ] at hr; cases hr
      · omega
    subst hie
    rw [List.take_of_length_le (by omega)] at hd'
    exact wpAny_pure (hQ h' hd' hs')
end
end Mine
end

section
open PySem PySem.W PySem.Calls PyProof.Rows
set_option maxRecDepth 100000
set_option maxHeartbeats 1000000
namespace Mine
section
variable {w : World} {A : Around} {E : Value → Shared → Prop} {s : Shared}
/-- the dict made so far -/
def MainOk (w : World) (s : Shared) (main : Option Addr) (Ld : List (Int × Str)) (s' : Shared) : Prop :=
  Keeps s s' ∧ s.heap.objs.size ≤ s'.heap.objs.size ∧ ((main = none ∧ Ld = []) ∨ ∃ d, main = some d ∧ s.heap.objs.size ≤ d ∧ Ld ≠ [] ∧ ∃ kvs, s'.heap.DictOf (intKind prog w) d kvs ∧ TK kvs Ld)
theorem big_ne {n m d : Nat} (h : n ≤ d) (h2 : d < m) : d ≠ m := by omega
theorem big_sys {n m k : Nat} (h : k < n) (h2 : n ≤ m) : (m == k) = false := by simp; omega
theorem c_flushN {run : List (Sem Value × Sem Value)} {Lr : List (Int × Str)} {s' : Shared} {Q : Option Addr → Shared → Prop} (hc : CItems w run Lr) (hne : run ≠ []) (hl : Lr.length ≤ 100) (hn : (Lr.map (·.1)).Nodup) (hM : MainOk w s none [] s')
    (h : ∀ main s'', MainOk w s main Lr s'' → Q main s'') : wpAny (model prog w) A (do let d ← subDict run; pure (some d)) Q E s' := by
  obtain ⟨k, hle, _⟩ := hM
  have hL : Lr ≠ [] := fun e => hne (List.length_eq_zero_iff.mp (by rw [hc.length, e]; rfl))
  refine wpAny_bind (c_subDict hc hn hl fun h' tk kvs hd ht hs => wpAny_pure (h _ _ ?_))
  refine ⟨kpTrans k ⟨h', tk, rfl, fun b o e => hs.extBut b o (Nat.ne_of_lt (Heap.lt_size e)) (Heap.get?_push_of_some _ e)⟩, ?_, .inr ⟨_, rfl, hle, hL, kvs, hd, ht⟩⟩
  show s.heap.objs.size ≤ h'.objs.size
  rw [hs.1, Heap.size_push]; exact Nat.le_succ_of_le hle
theorem c_flushS {run : List (Sem Value × Sem Value)} {Lr Ld : List (Int × Str)} {s' : Shared} {d : Addr} {Q : Option Addr → Shared → Prop} {kr : Addr → Value → Sem Unit} (hsys : sysModules < s.heap.objs.size) (hc : CItems w run Lr) (hl : Lr.length ≤ 100) (hl' : Ld.length ≤ 10000) (hn : ((Ld ++ Lr).map (·.1)).Nodup) (hM : MainOk w s (some d) Ld s')
    (h : ∀ main s'', MainOk w s main (Ld ++ Lr) s'' → Q main s'') :
    wpAny (model prog w) A (do let sub ← holding [Value.ref d] (subDict run); (holding [Value.ref d, Value.ref sub] (mergeMapping d (Value.ref sub) false)).onRaise (kr sub); pure (some d)) Q E s' := by
  have hsl : sizeLine = 16777216 := rfl
  obtain ⟨k, hle, hm⟩ := hM
  obtain ⟨e, _⟩ | ⟨d', e, hd0, hL, kvs, hd, ht⟩ := hm
  · cases e
  cases e
  have hn' : (Lr.map (·.1)).Nodup := by rw [List.map_append, List.nodup_append] at hn; exact hn.2.1
  obtain ⟨od, _, _, hod, _⟩ := id hd
  have hdlt := Heap.lt_size hod
  refine wpAny_bind (wpAny_holding (c_subDict hc hn' hl fun h₁ tk kvs₂ hd₂ ht₂ hs => ?_))
  have hd₁ : h₁.DictOf (intKind prog w) d kvs := let ⟨o, es, ep, e, r⟩ := hd; ⟨o, es, ep, hs.extBut _ _ (Nat.ne_of_lt hdlt) (Heap.get?_push_of_some _ e), r⟩
  have hk1 : kvs.length = Ld.length := by have := congrArg List.length ht.keys; simpa using this
  have hk2 : kvs₂.length = Lr.length := by have := congrArg List.length ht₂.keys; simpa using this
  refine wpAny_bind (wpAny_onRaise (wpAny_holding (c_merge (big_ne (Nat.le_refl d) hdlt) (big_sys hsys hle) ?_ hd₁ hd₂ (by omega) fun h₂ hd₃ hs₂ => wpAny_pure (h _ _ ?_))))
  · rintro rfl
    exact hL (List.length_eq_zero_iff.mp (by rw [← hk1]; rfl))
  rw [merged_append_of_fresh kvs kvs₂ (by rw [List.map_append, ht.keys, ht₂.keys, ← List.map_append]; exact hn)] at hd₃
  refine ⟨?_, ?_, .inr ⟨d, rfl, hd0, fun e => hL (List.append_eq_nil_iff.mp e).1, _, hd₃, ht.append ht₂⟩⟩
  · obtain ⟨h₀, tk₀, rfl, hk⟩ := k
    refine ⟨h₂, tk, rfl, fun b o e => ?_⟩
    have hb := Heap.lt_size e
    exact hs₂.extBut b o (Nat.ne_of_lt (Nat.lt_of_lt_of_le hb hd0)) (hs.extBut b o (Nat.ne_of_lt (Nat.lt_of_lt_of_le hb hle)) (Heap.get?_push_of_some _ (hk b o e)))
  · show s.heap.objs.size ≤ h₂.objs.size
    rw [hs₂.1, hs.1, Heap.size_push]; exact Nat.le_succ_of_le hle
theorem c_display {ps : List (Sem Value × Sem Value)} {L : List (Int × Str)} {Q : Value → Shared → Prop} (hc : CItems w ps L) (hsys : sysModules < s.heap.objs.size) (hn : (L.map (·.1)).Nodup) (h0 : L ≠ []) (hlen : L.length ≤ 10000)
    (h : ∀ d s', Keeps s s' → s.heap.objs.size ≤ d → (∃ kvs, s'.heap.DictOf (intKind prog w) d kvs ∧ TK kvs L) → Q (.ref d) s') :
    wpAny (model prog w) A (dictDisplay (ps.map fun p => (some p.1, p.2))) Q E s := by
  unfold dictDisplay
  dsimp only
  refine wpAny_bind (wpAny_forIn_list _ (fun rest (b : Option Addr × List (Sem Value × Sem Value)) s' => ∃ Ld Lr Le restps, L = Ld ++ Lr ++ Le ∧ CItems w b.2 Lr ∧ b.2.length < 17 ∧ rest = restps.map (fun p => (some p.1, p.2)) ∧ CItems w restps Le ∧ MainOk w s b.1 Ld s')
    _ ?_ ?_ _ _ ⟨[], [], L, ps, rfl, .nil, by decide, rfl, hc, kpRefl s, Nat.le_refl _, .inl ⟨rfl, rfl⟩⟩)
  · rintro x rest ⟨main, run⟩ s' ⟨Ld, Lr, Le, restps, hL, hr, hlt, hrest, hce, hM⟩
    cases hce with
    | nil => cases hrest
    | @cons p e ps' es' h1 h2 =>
    rw [List.map_cons] at hrest
    injection hrest with hx hrest
    subst hx
    dsimp only at hr hlt hM ⊢
    have hr' : CItems w (run ++ [(p.1, p.2)]) (Lr ++ [e]) := hr.append (.cons h1 .nil)
    have hll := hr'.length
    have hL' : L = Ld ++ (Lr ++ [e]) ++ es' := by rw [hL]; simp
    have hnn : ((Ld ++ (Lr ++ [e])).map (·.1)).Nodup := by
      rw [hL', List.map_append, List.nodup_append] at hn; exact hn.1
    have hdl : Ld.length ≤ 10000 := by
      have := congrArg List.length hL
      simp at this; omega
    by_cases h17 : (run ++ [(p.1, p.2)]).length = 17
    · rw [if_pos (by simpa using h17)]
      have hfin : ∀ main' s'', MainOk w s main' (Ld ++ (Lr ++ [e])) s'' → ∃ Ld₁ Lr₁ Le₁ restps₁, L = Ld₁ ++ Lr₁ ++ Le₁ ∧ CItems w ([] : List (Sem Value × Sem Value)) Lr₁ ∧ ([] : List (Sem Value × Sem Value)).length < 17 ∧ rest = restps₁.map (fun p => (some p.1, p.2)) ∧ CItems w restps₁ Le₁ ∧ MainOk w s main' Ld₁ s'' :=
        fun main' s'' hM' => ⟨Ld ++ (Lr ++ [e]), [], es', ps', by rw [hL']; simp, .nil, by decide, hrest, h2, hM'⟩
      rw [if_neg (by simp)]
      cases main with
      | none =>
        have hLd : Ld = [] := by
          rcases hM.2.2 with ⟨_, e⟩ | ⟨d, e, _⟩
          · exact e
          · cases e
        subst hLd
        refine wpAny_bind (c_flushN hr' (by simp) (by omega) (by simpa using hnn) hM fun main' s'' hM' => wpAny_pure ?_)
        exact hfin main' s'' (by simpa using hM')
      | some d =>
        refine wpAny_bind (c_flushS hsys hr' (by omega) hdl hnn hM fun main' s'' hM' => wpAny_pure ?_)
        exact hfin main' s'' hM'
    · rw [if_neg (by simpa using h17)]
      refine wpAny_pure ⟨Ld, Lr ++ [e], es', ps', hL', hr', ?_, hrest, h2, hM⟩
      simp at h17 ⊢; omega
  · rintro ⟨main, run⟩ s' ⟨Ld, Lr, Le, restps, hL, hr, hlt, hrest, hce, hM⟩
    dsimp only at hr hlt hM ⊢
    have : restps = [] := List.map_eq_nil_iff.mp hrest.symm
    subst this
    cases hce
    rw [List.append_nil] at hL
    have hfin : ∀ main' s'', MainOk w s main' L s'' → wpAny (model prog w) A (match main' with | some d => pure (Value.ref d) | none => newDict) Q E s'' := by
      intro main' s'' hM'
      rcases hM'.2.2 with ⟨_, e⟩ | ⟨d, rfl, hd, _, kvs, hk, ht⟩
      · exact absurd e h0
      · exact wpAny_pure (h d s'' hM'.1 hd ⟨kvs, hk, ht⟩)
    have hll := hr.length
    have hdl : Ld.length ≤ 10000 := by
      have := congrArg List.length hL
      simp at this; omega
    by_cases he : run = []
    · subst he
      have : Lr = [] := List.length_eq_zero_iff.mp (by rw [← hll]; rfl)
      subst this
      rw [List.append_nil] at hL
      subst hL
      rw [if_pos (by rfl : ([] : List (Sem Value × Sem Value)).isEmpty = true)]
      refine wpAny_bind (wpAny_pure ?_)
      have := hfin main s' hM
      cases main <;> exact this
    · rw [if_neg (by simpa using he)]
      cases main with
      | none =>
        have hLd : Ld = [] := by
          rcases hM.2.2 with ⟨_, e⟩ | ⟨d, e, _⟩
          · exact e
          · cases e
        subst hLd
        refine wpAny_bind (c_flushN hr he (by omega) (by rw [hL] at hn; simpa using hn) hM fun main' s'' hM' => ?_)
        have := hfin main' s'' (by rw [hL]; simpa using hM')
        cases main' <;> exact this
      | some d =>
        refine wpAny_bind (c_flushS hsys hr (by omega) hdl (by rw [← hL]; exact hn) hM fun main' s'' hM' => ?_)
        have := hfin main' s'' (by rw [hL]; exact hM')
        cases main' <;> exact this
/-- a display of any number of ints and texts -/
theorem c_bigDict {env : Env} {pos : Pos} {ks : List (Option Expr)} {vs : List Expr} {L : List (Int × Str)} {Q : Value → Shared → Prop} (hc : constPairs ks vs = some L) (hsys : sysModules < s.heap.objs.size) (hn : (L.map (·.1)).Nodup) (h0 : L ≠ []) (hlen : L.length ≤ 10000)
    (h : ∀ d s', Keeps s s' → s.heap.objs.size ≤ d → (∃ kvs, s'.heap.DictOf (intKind prog w) d kvs ∧ TK kvs L) → Q (.ref d) s') :
    wpAny (model prog w) A (eval (.Dict ks vs pos) env) Q E s := by
  obtain ⟨h1, h2, h3⟩ := constPairs_all hc
  rw [arm_eval_Dict, zip_pairTrees ks vs env pos h1 h2]
  exact wpAny_bind (wpAny_standAt (c_display (citems_of hc) hsys hn h0 hlen h))
end
end Mine
end

section
open PySem PySem.W PySem.Calls PyProof.Rows
set_option maxRecDepth 100000
set_option maxHeartbeats 1000000
namespace Mine
theorem b_g (P : Params) : (boot_heap P).isNs mainGlobals = true := by kernel_rfl
theorem b_b (P : Params) : (boot_heap P).isNs builtinsNs = true := by kernel_rfl
theorem b_c (P : Params) : (boot_heap P).isNs cStatics = true := by kernel_rfl
theorem b_view (P : Params) : (boot_heap P).bltView = bltViewBooted := by kernel_rfl
theorem b_keys (P : Params) : (boot_heap P).nsKeys mainGlobals = ["__name__", "__doc__", "__package__", "__loader__", "__spec__", "__annotations__", "__builtins__", "__file__", "__cached__"].map Str.ofString := by kernel_rfl

section
variable {M : Model} {A : Around} {E : Value → Shared → Prop} {s : Shared} {c Pl F : Addr} {h₀ : Heap} {mg₀ mg : Str → Option Value} {ps : Array Value}
  {defs : List DefItem} {objs : List (Str × (Obj → Prop))} {names : List Str} {Q : Flow → Shared → Prop}
/-- a name that no def and no held object bears is bound (once more) -/
theorem mod_again {h' : Heap} {x : Str} {v : Value} (X : Mod h₀ mg₀ c Pl s.heap mg ps defs [] objs names) (hd : ∀ d ∈ defs, d.name ≠ x) (ho : ∀ p ∈ objs, p.1 ≠ x)
    (hm : h'.Main (fun y => if y = x then some v else mg y) c Pl ps) (keep : ∀ b o, b ≠ mainGlobals → s.heap.get? b = some o → h'.get? b = some o) (hsz : h₀.objs.size ≤ h'.objs.size) :
    Mod h₀ mg₀ c Pl h' (fun y => if y = x then some v else mg y) ps defs [] objs (x :: names) where
  main := hm
  keep := fun b o hP hG e => keep b o hG (X.keep b o hP hG e)
  made := fun d hdm => by
    obtain ⟨a, c', o, pm, doc, dV, h1, h2, h3, h4, h5, h6, h7⟩ := X.made d hdm
    have k : ∀ b o, h₀.objs.size ≤ b → s.heap.get? b = some o → h'.get? b = some o := fun b o hb e => keep b o (Nat.ne_of_gt (Nat.lt_of_lt_of_le X.lowG hb)) e
    exact ⟨a, c', o, pm, doc, dV, h1, h2, (if_neg (hd d hdm)).trans h3, k _ _ h1 h4, h5, h6.at fun o e => k _ o h2 e, h7.above k⟩
  bound := fun p hp => nomatch hp
  others := fun y hy => (if_neg fun q => hy (by rw [q]; exact List.mem_cons_self)).trans (X.others y fun q => hy (List.mem_cons_of_mem _ q))
  dnames := fun d hdm => List.mem_cons_of_mem _ (X.dnames d hdm)
  cnames := fun p hp => nomatch hp
  held := fun p hp => by
    obtain ⟨a, o, h1, h2, h3, h4⟩ := X.held p hp
    exact ⟨a, o, h1, (if_neg (ho p hp)).trans h2, keep _ _ (Nat.ne_of_gt (Nat.lt_of_lt_of_le X.lowG h1)) h3, h4⟩
  onames := fun p hp => List.mem_cons_of_mem _ (X.onames p hp)
  grows := hsz
  lowP := X.lowP
  lowG := X.lowG
  tabs := fun d hdm => by
    obtain ⟨a, o, fd, c', P', h1, r⟩ := (X.tabs d hdm).above (h' := h') fun b o hb e => keep b o (Nat.ne_of_gt (Nat.lt_of_lt_of_le X.lowG hb)) e
    exact ⟨a, o, fd, c', P', (if_neg (hd d hdm)).trans h1, r⟩
theorem mod_str {x y : Str} {pos' pos p2 : Pos} {k2 : Nat} (X : Mod h₀ mg₀ c Pl s.heap mg ps defs [] objs names) (hloc : prog.main.scope.names.lookup x = some .local) (hd : ∀ d ∈ defs, d.name ≠ x) (ho : ∀ p ∈ objs, p.1 ≠ x)
    (k : ∀ h' mg' tk, Mod h₀ mg₀ c Pl h' mg' ps defs [] objs (x :: names) → Q .next { s with heap := h', toks := tk })
    (hnb : x ≠ "__builtins__" := by decide) :
    wpAny M A (exec (.Assign [.Name x pos'] (.Constant (.str y) k2 p2) pos) (mainEnv prog c F)) Q E s := by
  refine wpAny_Assign_Name (wpAny_Constant_str ?_)
  refine wpAny_storeName_local (env := mainEnv prog c F) hloc X.main.g (fun h' hg' hs' => ?_) (by rfl)
  obtain ⟨bm, o, hbm, hne0, hneG, hneP, hbo, hrest⟩ := X.main.bmod
  have hm : h'.Main (fun z => if z = x then some (.str y s.toks) else mg z) c Pl ps :=
    ⟨hg', X.main.code.sameBut hs' (Nat.ne_of_gt X.main.low.1) (Nat.ne_of_gt X.main.low.2), X.main.low,
      ⟨bm, o, by simp only [Ne.symm hnb, if_false]; exact hbm, hne0, hneG, hneP, (hs'.2 _ hneG).trans hbo, hrest⟩⟩
  exact k h' _ _ (mod_again X hd ho hm (fun b o hG e => (hs'.2 _ hG).trans e) (Nat.le_trans X.grows (Nat.le_of_eq hs'.1.symm)))
end
end Mine
end

section
open PySem PySem.W PySem.Calls PyProof.Rows
set_option maxRecDepth 100000
set_option maxHeartbeats 4000000
namespace Mine
def B1 (w : World) (o : Obj) : Prop := ∀ (h : Heap) (a : Addr), h.get? a = some o → ∃ n, h.SetOf (intKind prog w) a (fun k => b1L.contains k) n
def B3 (w : World) (o : Obj) : Prop := ∀ (h : Heap) (a : Addr), h.get? a = some o → ∃ f, h.MapOf (intKind prog w) a f ∧ LookOk f b3L
section
variable {w : World} {A : Around} {E : Value → Shared → Prop} {s : Shared} {env : Env}
theorem g_intitems {pos : Pos} : ∀ {es : List Expr} {ns : List Int} {s : Shared} {Q : List Value → Shared → Prop}, intConsts es = some ns → (∀ vs tk, IntsAre vs ns → Q vs { s with toks := tk }) → wpAny (model prog w) A (spliced (backTo pos (starEach es env))) Q E s
  | [], _, s, Q, hc, h => by cases hc; exact wpAny_items_nil (h [] s.toks .nil)
  | e :: r, ns, s, Q, hc, h => by
    unfold intConsts at hc
    split at hc
    · rename_i heq; cases heq
    · rename_i i k p r' heq
      cases heq
      obtain ⟨ns', hr, rfl⟩ := Option.map_eq_some_iff.mp hc
      refine wpAny_items_cons (wpAny_Constant_int ?_)
      exact g_intitems hr fun vs tk hi => h _ tk (.cons _ _ hi)
    · cases hc
theorem g_intlist {es : List Expr} {ns : List Int} {pos : Pos} {Q : Value → Shared → Prop} (hc : intConsts es = some ns) (hsz : ns.length ≤ sizeLine) (h : ∀ D s', Keeps s s' → s.heap.objs.size ≤ D → IL s'.heap D ns → Q (.ref D) s') : wpAny (model prog w) A (eval (.List es pos) env) Q E s := by
  refine wpAny_List (g_intitems hc fun vs tk hi => ⟨by rw [hi.length]; exact hsz, ?_⟩)
  exact h _ _ (kpTrans (kpTok s tk) (kpPush _ _)) (Nat.le_refl _) ⟨vs, ⟨_, Heap.get?_push_size _ rfl, rfl, 0, rfl⟩, hi⟩
theorem g_addlists {l b : Addr} {ns ms : List Int} {Q : Value → Shared → Prop} (hl : IL s.heap l ns) (hb : IL s.heap b ms) (hsz : ns.length + ms.length ≤ sizeLine)
    (h : ∀ D s', Keeps s s' → s.heap.objs.size ≤ D → IL s'.heap D (ns ++ ms) → Q (.ref D) s') : wpAny (model prog w) A (binaryOp .Add (.ref l) (.ref b)) Q E s := by
  obtain ⟨vs, hl, hi⟩ := hl
  obtain ⟨ws, hb, hj⟩ := hb
  obtain ⟨⟨cls, dd, data, sl⟩, ho, hc, n, hd⟩ := id hl
  obtain ⟨⟨cls2, dd2, data2, sl2⟩, ho2, hc2, n2, hd2⟩ := id hb
  simp only at hc hd hc2 hd2
  subst hc hd hc2 hd2
  have e : vs.toArray ++ ws.toArray = (vs ++ ws).toArray := by simp
  refine concat_meets ⟨_, ho, rfl⟩ ⟨_, ho2, rfl⟩ noFill_list_add seq_list_add PySem.F.slot_list_add PySem.F.entry_list_add (PySem.F.args_list_add_2 _ _) (list_addW l b vs.toArray ws.toArray n n2 dd dd2 sl sl2 (by
    simp only [List.size_toArray]; rw [hi.length, hj.length]; exact hsz)) ⟨ho, ho2, ?_⟩
  rw [e]
  exact h _ _ ⟨_, _, rfl, fun b o e => Heap.get?_push_of_some _ e⟩ (Nat.le_refl _) ⟨vs ++ ws, ⟨_, Heap.get?_push_size _ rfl, rfl, _, rfl⟩, hi.append hj⟩
/-- list(range(a, b)) -/
theorem g_listrange {a b : Int} {k1 k2 : Nat} {p1 p2 p3 p4 p5 p6 : Pos} {Q : Value → Shared → Prop} (hh : A.handled = none) (ha : -(2 ^ 62) ≤ a) (ha' : a < 2 ^ 62) (hb : -(2 ^ 62) ≤ b) (hb' : b < 2 ^ 62) (hn : (b - a).toNat ≤ 2 ^ 24)
    (hL : ∀ Q' : Value → Shared → Prop, Q' (.type "list") s → wpAny (model prog w) A (eval (.Name "list" p1) env) Q' E s)
    (hR : ∀ Q' : Value → Shared → Prop, Q' (.type "range") s → wpAny (model prog w) A (eval (.Name "range" p2) env) Q' E s)
    (h : ∀ D s', Keeps s s' → s.heap.objs.size ≤ D → IL s'.heap D (rangeInts a 1 (b - a).toNat) → Q (.ref D) s')
    (e1 : starEach [.Call (.Name "range" p2) [.Constant (.int a) k1 p3, .Constant (.int b) k2 p4] [] p5] env = (false, eval (.Call (.Name "range" p2) [.Constant (.int a) k1 p3, .Constant (.int b) k2 p4] [] p5) env) :: starEach [] env := by rfl)
    (c1 : eval (.Call (.Name "list" p1) [.Call (.Name "range" p2) [.Constant (.int a) k1 p3, .Constant (.int b) k2 p4] [] p5] [] p6) env = (do callWith p6 (← eval (.Name "list" p1) env) [] (backTo p6 (starEach [.Call (.Name "range" p2) [.Constant (.int a) k1 p3, .Constant (.int b) k2 p4] [] p5] env)) (backToKw p6 (keywordEach [] env))) := by rfl)
    (e2 : starEach [.Constant (.int a) k1 p3, .Constant (.int b) k2 p4] env = (false, eval (.Constant (.int a) k1 p3) env) :: starEach [.Constant (.int b) k2 p4] env := by rfl)
    (e3 : starEach [.Constant (.int b) k2 p4] env = (false, eval (.Constant (.int b) k2 p4) env) :: starEach [] env := by rfl)
    (c2 : eval (.Call (.Name "range" p2) [.Constant (.int a) k1 p3, .Constant (.int b) k2 p4] [] p5) env = (do callWith p5 (← eval (.Name "range" p2) env) [] (backTo p5 (starEach [.Constant (.int a) k1 p3, .Constant (.int b) k2 p4] env)) (backToKw p5 (keywordEach [] env))) := by rfl)
    (hp1 : (backTo p6 (starEach [] env)).any (·.1) = false := by rfl) (hp2 : (backTo p5 (starEach [.Constant (.int b) k2 p4] env)).any (·.1) = false := by rfl) :
    wpAny (model prog w) A (eval (.Call (.Name "list" p1) [.Call (.Name "range" p2) [.Constant (.int a) k1 p3, .Constant (.int b) k2 p4] [] p5] [] p6) env) Q E s := by
  refine Call_ (hL _ (PyProof.Rows.callWith_type1 (wpAny_items_cons (Call_ (hR _ (PyProof.Rows.callWith_type1 (wpAny_items_cons (wpAny_Constant_int (wpAny_items_cons (wpAny_Constant_int (wpAny_items_nil ?_)) e3)) e2) e2 hp2)) c2) e1) e1 hp1)) c1
  refine call_range_2 (wpAny_items_nil ?_)
  refine call_list_range hh (IsRange.new ..) (small_one ha ha' hb hb') (rangeSize_nat a b) hn fun h' tk acc c' hk ho hacc => ?_
  refine h _ _ ⟨h', tk, rfl, fun b o e => hk b o (Heap.get?_push_of_some _ e)⟩ (by show s.heap.objs.size ≤ (s.heap.push _).objs.size; rw [Heap.size_push]; exact Nat.le_succ _) ⟨acc.toList, ⟨_, ho, rfl, c', by simp⟩, intsAre_items (fun i v q => q) hacc⟩

theorem IL.lt {h : Heap} {a : Addr} {ns : List Int} (x : IL h a ns) : a < h.objs.size := let ⟨_, ⟨_, ho, _⟩, _⟩ := x; Heap.lt_size ho
end
section
variable {w : World} {A : Around} {E : Value → Shared → Prop} {s : Shared} {c Pl F : Addr} {h₀ : Heap} {mg₀ mg mb : Str → Option Value} {ps : Array Value}
  {defs : List DefItem} {objs : List (Str × (Obj → Prop))} {names : List Str}
theorem m_bi {x : Str} {v : Value} {pos : Pos} {Q : Value → Shared → Prop} {h₁ : Heap} {tk : Nat} (X : Mod h₀ mg₀ c Pl h₁ mg ps defs [] objs names) (hb : h₀.Ns builtinsNs mb) (hboot : ∀ x : Str, x ≠ "__name__" → mb x = bootBuiltins x) (hP : builtinsNs ≠ Pl)
    (hx : mg₀ x = none) (hn : x ∉ names) (hv : bootBuiltins x = some v) (h : Q v { s with heap := h₁, toks := tk }) (hd : (x == ("__debug__" : Str)) = false := by decide) (hnn : x ≠ "__name__" := by decide) :
    wpAny (model prog w) A (eval (.Name x pos) (mainEnv prog c F)) Q E { s with heap := h₁, toks := tk } :=
  Name_module rfl rfl (loadGlobal_builtin (env := mainEnv prog c F) (s := { s with heap := h₁, toks := tk }) X.main.g ((X.others x hn).trans hx) (hb.at fun o e => X.keep _ o hP (by decide) e) ((hboot x hnn).trans hv) h) hd
theorem b1_any (k : Int) : ((firstMet (fun i => (([173, 847, 6150, 6155, 6156, 6157, 8203, 8204, 8205, 8288, 65279] : List Int) ++ rangeInts 65024 1 16).getD i 0) 27).any (· == k)) = b1L.contains k := by
  have e : firstMet (fun i => (([173, 847, 6150, 6155, 6156, 6157, 8203, 8204, 8205, 8288, 65279] : List Int) ++ rangeInts 65024 1 16).getD i 0) 27 = b1L := by decide +kernel
  rw [e, List.contains_eq_any_beq]
  congr 1
  funext x
  exact Bool.beq_comm
theorem val_b1 {p1 p2 p3 p4 p5 p6 p7 p8 p9 p10 : Pos} {k1 k2 : Nat} {es : List Expr} {Q : Value → Shared → Prop} (hh : A.handled = none) (X : Mod h₀ mg₀ c Pl s.heap mg ps defs [] objs names) (hb : h₀.Ns builtinsNs mb) (hboot : ∀ x : Str, x ≠ "__name__" → mb x = bootBuiltins x) (hP : builtinsNs ≠ Pl)
    (hx : ∀ x ∈ biNames, mg₀ x = none) (hn : ∀ x ∈ biNames, x ∉ names) (hes : intConsts es = some [173, 847, 6150, 6155, 6156, 6157, 8203, 8204, 8205, 8288, 65279])
    (h : ∀ a o h₁ tk, s.heap.objs.size ≤ a → h₁.get? a = some o → B1 w o → (∀ b o', s.heap.get? b = some o' → h₁.get? b = some o') → Q (.ref a) { s with heap := h₁, toks := tk }) :
    wpAny (model prog w) A (eval (.Call (.Name "set" p1) [.BinOp (.List es p2) .Add (.Call (.Name "list" p3) [.Call (.Name "range" p4) [.Constant (.int 65024) k1 p5, .Constant (.int 65040) k2 p6] [] p7] [] p8) p9] [] p10) (mainEnv prog c F)) Q E s := by
  have hsl : sizeLine = 16777216 := rfl
  refine Call_ (m_bi (tk := s.toks) X hb hboot hP (hx _ (by decide)) (hn _ (by decide)) boot_set ?_)
  refine PyProof.Rows.callWith_type1 (wpAny_items_cons ?_)
  refine wpAny_BinOp ?_
  refine g_intlist hes (by show 11 ≤ 16777216; decide) fun D s₁ k le₁ i₁ => ?_
  obtain ⟨h₁, tk₁, rfl, hk₁⟩ := k
  have sz₁ : s.heap.objs.size ≤ h₁.objs.size := Nat.le_of_lt (Nat.lt_of_le_of_lt le₁ i₁.lt)
  have X₁ : Mod h₀ mg₀ c Pl h₁ mg ps defs [] objs names := X.grown hk₁ sz₁
  refine g_listrange hh (by decide) (by decide) (by decide) (by decide) (by decide) (fun Q' q => m_bi X₁ hb hboot hP (hx _ (by decide)) (hn _ (by decide)) boot_list q) (fun Q' q => m_bi X₁ hb hboot hP (hx _ (by decide)) (hn _ (by decide)) boot_range q) fun D₂ s₂ k₂ le₂ i₂ => ?_
  refine g_addlists (i₁.keeps (kpHeap k₂)) i₂ (by rw [rangeInts_length, hsl]; decide) fun D₃ s₃ k₃ le₃ i₃ => ?_
  have sz₂ : h₁.objs.size ≤ s₂.heap.objs.size := Nat.le_of_lt (Nat.lt_of_le_of_lt le₂ i₂.lt)
  have sz₃ : s₂.heap.objs.size ≤ s₃.heap.objs.size := Nat.le_of_lt (Nat.lt_of_le_of_lt le₃ i₃.lt)
  obtain ⟨vs, hl, hi⟩ := i₃
  have hlen : vs.toArray.size = 27 := by rw [List.size_toArray, hi.length]; decide
  refine wpAny_items_nil (call_set_list hh hl (by simpa using hi) (by rw [hlen]; decide) fun h' tk hset hk => ?_)
  rw [hlen] at hset
  obtain ⟨o, es', ep, tt, ho, hr1, hr2, hr3, hr4, hr5⟩ := id hset
  obtain ⟨h₂, tk₂, rfl, hk₂⟩ := k₂
  obtain ⟨h₃, tk₃, rfl, hk₃⟩ := k₃
  refine h _ o h' tk (Nat.le_trans sz₁ (Nat.le_trans sz₂ sz₃)) ho ?_ fun b o' e => hk b o' (Heap.lt_size (hk₃ b o' (hk₂ b o' (hk₁ b o' e)))) (hk₃ b o' (hk₂ b o' (hk₁ b o' e)))
  intro h a e
  refine ⟨_, o, es', ep, tt, e, hr1, hr2, hr3, ?_, hr5⟩
  intro k
  show b1L.contains k = true ↔ _
  rw [← b1_any k]
  exact hr4 k
theorem val_b3 {pos : Pos} {ks : List (Option Expr)} {vs : List Expr} {env : Env} {Q : Value → Shared → Prop} (hc : constPairs ks vs = some b3L) (hsys : sysModules < s.heap.objs.size) (hn : (b3L.map (·.1)).Nodup) (h0 : b3L ≠ []) (hlen : b3L.length ≤ 10000)
    (h : ∀ a o h₁ tk, s.heap.objs.size ≤ a → h₁.get? a = some o → B3 w o → (∀ b o', s.heap.get? b = some o' → h₁.get? b = some o') → Q (.ref a) { s with heap := h₁, toks := tk }) :
    wpAny (model prog w) A (eval (.Dict ks vs pos) env) Q E s := by
  refine c_bigDict hc hsys hn h0 hlen fun d s' k hd ⟨kvs, hk, ht⟩ => ?_
  obtain ⟨h₁, tk, rfl, hk₁⟩ := k
  obtain ⟨o, es, ep, ho, r⟩ := hk.mapOf
  refine h d o h₁ tk hd ho ?_ hk₁
  intro h' a e
  exact ⟨valueAt kvs, ⟨o, es, ep, e, r⟩, ht.look⟩
end
end Mine
end

section
open PySem PySem.W PySem.Calls PyProof.Rows
set_option maxRecDepth 100000
set_option maxHeartbeats 4000000
namespace Mine
def stm (d : DefItem) : Stmt := .FunctionDef d.name d.params d.body [] none [] d.scope none d.name d.pos
structure DefOk (d : DefItem) : Prop where
  tree : PlainDefTree d.name d.params d.body d.scope d.pos
  free : ∀ x ∈ d.scope.names, x.2 ≠ .free
  doc : docOf d.body = none
  loc : prog.main.scope.names.lookup d.name = some .local
  q : qualnameIn { scope := prog.main.scope, locals := mainGlobals, globals := mainGlobals, cells := [] } d.name d.name = d.name
  nb : d.name ≠ "__builtins__"
  nd : d.params.defaults = []
/-- the places told so far -/
def Told (l : List Pos) (ps : Array Value) : Prop := ∃ t : List (Pos × Addr), t.map (·.1) = l ∧ ps.toList = triples t
theorem Told.nil : Told [] #[] := ⟨[], rfl, rfl⟩
theorem Told.add {l : List Pos} {ps : Array Value} (x : Told l ps) (p : Pos) (c : Addr) : Told (l ++ [p]) (ps ++ #[rawInt p.line, rawInt p.col, .ref c]) := by
  obtain ⟨t, h1, h2⟩ := x
  exact ⟨t ++ [(p, c)], by simp [h1], by rw [triples_append, ← h2]; simp⟩
theorem Told.none {l : List Pos} {ps : Array Value} (x : Told l ps) (p : Pos) (h : (l.all fun q => !(q.line == p.line)) = true) : codeAmong p ps.toList = Option.none := by
  obtain ⟨t, h1, h2⟩ := x
  rw [h2]
  refine codeAmong_triples p t fun q hq e => ?_
  have := List.all_eq_true.mp h q.1 (by rw [← h1]; exact List.mem_map_of_mem hq)
  rw [e.1] at this
  simp at this
section
variable {w : World} {A : Around} {E : Value → Shared → Prop} {s : Shared} {c Pl F : Addr} {h₀ : Heap} {mg₀ mg : Str → Option Value} {ps : Array Value} {Q : Flow → Shared → Prop}
  {defs : List DefItem} {objs : List (Str × (Obj → Prop))} {names : List Str} {l : List Pos} {rest : List Stmt}
theorem w_def {d : DefItem} {h₁ : Heap} {tk₁ : Nat} (X : Mod h₀ mg₀ c Pl h₁ mg ps defs [] objs names) (hd : DefOk d) (t : Told l ps) (hl : (l.all fun q => !(q.line == d.pos.line)) = true) (hn : d.name ∉ names)
    (k : ∀ h' mg' ps' tk, Mod h₀ mg₀ c Pl h' mg' ps' (d :: defs) [] objs (d.name :: names) → Told (l ++ [d.pos]) ps' → wpAny (model prog w) A (execs rest (mainEnv prog c F)) Q E { s with heap := h', toks := tk }) :
    wpAny (model prog w) A (execs (stm d :: rest) (mainEnv prog c F)) Q E { s with heap := h₁, toks := tk₁ } := by
  refine wpAny_execs_cons ?_
  exact Mod.def_plain (prog := prog) (s := { s with heap := h₁, toks := tk₁ }) X hd.tree hd.free hd.doc hd.loc hd.q hn (fun h' mg' c' tk Y => k h' mg' _ tk Y (t.add _ _)) hd.nb (by rfl) (t.none _ hl) hd.nd
theorem w_str {x y : Str} {pos' pos p2 : Pos} {k2 : Nat} {h₁ : Heap} {tk₁ : Nat} (X : Mod h₀ mg₀ c Pl h₁ mg ps defs [] objs names) (hloc : prog.main.scope.names.lookup x = some .local) (hd : ∀ d ∈ defs, d.name ≠ x) (ho : ∀ p ∈ objs, p.1 ≠ x) (hnb : x ≠ "__builtins__")
    (k : ∀ h' mg' tk, Mod h₀ mg₀ c Pl h' mg' ps defs [] objs (x :: names) → wpAny (model prog w) A (execs rest (mainEnv prog c F)) Q E { s with heap := h', toks := tk }) :
    wpAny (model prog w) A (execs (.Assign [.Name x pos'] (.Constant (.str y) k2 p2) pos :: rest) (mainEnv prog c F)) Q E { s with heap := h₁, toks := tk₁ } := by
  refine wpAny_execs_cons ?_
  exact mod_str (s := { s with heap := h₁, toks := tk₁ }) X hloc hd ho (fun h' mg' tk Y => k h' mg' tk Y) hnb
end
end Mine
end

section
open PySem PySem.W PySem.Calls PyProof.Rows
set_option maxRecDepth 100000
set_option maxHeartbeats 4000000
namespace Mine
def defAt (i : Nat) : DefItem := match (prog.main.body[i]? : Option Stmt) with
  | some (.FunctionDef name params body _ _ _ scope _ _ pos) => ⟨name, params, body, scope, pos⟩
  | _ => ⟨"", { posonlyargs := [], args := [], vararg := none, kwonlyargs := [], kw_defaults := [], kwarg := none, defaults := [] }, [], prog.main.scope, default⟩
def b3K : List (Option Expr) := match (prog.main.body[5]? : Option Stmt) with
  | some (Stmt.Assign _ (Expr.Dict ks _ _) _) => ks
  | _ => []
def b3V : List Expr := match (prog.main.body[5]? : Option Stmt) with
  | some (Stmt.Assign _ (Expr.Dict _ vs _) _) => vs
  | _ => []
def b1E : List Expr := match (prog.main.body[3]? : Option Stmt) with
  | some (Stmt.Assign _ (.Call _ [.BinOp (.List es _) _ _ _] _ _) _) => es
  | _ => []
def stAt (i : Nat) : Stmt := match (prog.main.body[i]? : Option Stmt) with
  | some st => st
  | none => .Pass default
theorem body_eq : prog.main.body = [stAt 0, stm (defAt 1), stAt 2, stAt 3, stm (defAt 4), stAt 5, stm (defAt 6), stAt 7,
     stm (defAt 8), stm (defAt 9), stm (defAt 10), stm (defAt 11), stm (defAt 12), stm (defAt 13), stm (defAt 14), stm (defAt 15), stm (defAt 16), stm (defAt 17)] := by kernel_rfl
theorem st0 : ∃ y p1 k1 p2 p3, stAt 0 = .Assign [.Name "__name__" p1] (.Constant (.str y) k1 p2) p3 := ⟨_, _, _, _, _, rfl⟩
theorem st2 : ∃ y p1 k1 p2 p3, stAt 2 = .Assign [.Name "__name__" p1] (.Constant (.str y) k1 p2) p3 := ⟨_, _, _, _, _, rfl⟩
theorem st7 : ∃ y p1 k1 p2 p3, stAt 7 = .Assign [.Name "__name__" p1] (.Constant (.str y) k1 p2) p3 := ⟨_, _, _, _, _, rfl⟩
theorem st3 : ∃ p7 p8 p9 p10 p11 k3 p12 k4 p13 p14 p15 p16 p17 p18, stAt 3 = 
     .Assign [.Name "b1_set" p7] (.Call (.Name "set" p8) [.BinOp (.List b1E p9) .Add (.Call (.Name "list" p10) [.Call (.Name "range" p11) [.Constant (.int 65024) k3 p12, .Constant (.int 65040) k4 p13] [] p14] [] p15) p16] [] p17) p18 := ⟨_, _, _, _, _, _, _, _, _, _, _, _, _, _, rfl⟩
theorem st5 : ∃ p19 p20 p21, stAt 5 = .Assign [.Name "b3_exceptions" p19] (.Dict b3K b3V p20) p21 := ⟨_, _, _, rfl⟩
theorem b3_pairs : constPairs b3K b3V = some b3L := by kernel_rfl
theorem b1_consts : intConsts b1E = some [173, 847, 6150, 6155, 6156, 6157, 8203, 8204, 8205, 8288, 65279] := by kernel_rfl
theorem b3_nodup : (b3L.map (·.1)).Nodup := (rising_lt b3_rising).2
theorem b3_len : b3L.length = 650 := by decide +kernel
end Mine
end

section
open PySem PySem.W PySem.Calls PyProof.Rows
set_option maxRecDepth 100000
set_option maxHeartbeats 4000000
namespace Mine
def okB (d : DefItem) : Bool := d.scope.names.all (fun x => !(x.2 == .free)) && (prog.main.scope.names.lookup d.name == some .local) &&
  decide (qualnameIn { scope := prog.main.scope, locals := mainGlobals, globals := mainGlobals, cells := [] } d.name d.name = d.name) && decide (d.name ≠ "__builtins__") && d.params.defaults.isEmpty && (docOf d.body).isNone
theorem ok_of {d : DefItem} (h : okB d = true) (t : PlainDefTree d.name d.params d.body d.scope d.pos) : DefOk d := by
  unfold okB at h
  simp only [Bool.and_eq_true, decide_eq_true_eq, List.isEmpty_iff, Option.isNone_iff_eq_none, List.all_eq_true] at h
  obtain ⟨⟨⟨⟨⟨h1, h2⟩, h3⟩, h4⟩, h5⟩, h6⟩ := h
  refine ⟨t, fun x hx e => ?_, h6, by simpa using h2, h3, h4, h5⟩
  have := h1 x hx
  rw [e] at this
  exact absurd this (by decide)
theorem ok1 : DefOk (defAt 1) := ok_of (by decide +kernel) (fun _ => by kernel_rfl)
theorem ok4 : DefOk (defAt 4) := ok_of (by decide +kernel) (fun _ => by kernel_rfl)
theorem ok6 : DefOk (defAt 6) := ok_of (by decide +kernel) (fun _ => by kernel_rfl)
theorem ok8 : DefOk (defAt 8) := ok_of (by decide +kernel) (fun _ => by kernel_rfl)
theorem ok9 : DefOk (defAt 9) := ok_of (by decide +kernel) (fun _ => by kernel_rfl)
theorem ok10 : DefOk (defAt 10) := ok_of (by decide +kernel) (fun _ => by kernel_rfl)
theorem ok11 : DefOk (defAt 11) := ok_of (by decide +kernel) (fun _ => by kernel_rfl)
theorem ok12 : DefOk (defAt 12) := ok_of (by decide +kernel) (fun _ => by kernel_rfl)
theorem ok13 : DefOk (defAt 13) := ok_of (by decide +kernel) (fun _ => by kernel_rfl)
theorem ok14 : DefOk (defAt 14) := ok_of (by decide +kernel) (fun _ => by kernel_rfl)
theorem ok15 : DefOk (defAt 15) := ok_of (by decide +kernel) (fun _ => by kernel_rfl)
theorem ok16 : DefOk (defAt 16) := ok_of (by decide +kernel) (fun _ => by kernel_rfl)
theorem ok17 : DefOk (defAt 17) := ok_of (by decide +kernel) (fun _ => by kernel_rfl)
def defsL : List DefItem := [defAt 17, defAt 16, defAt 15, defAt 14, defAt 13, defAt 12, defAt 11, defAt 10, defAt 9, defAt 8, defAt 6, defAt 4, defAt 1]
def namesL : List Str := [(defAt 17).name, (defAt 16).name, (defAt 15).name, (defAt 14).name, (defAt 13).name, (defAt 12).name, (defAt 11).name, (defAt 10).name, (defAt 9).name, (defAt 8).name, "__name__", (defAt 6).name, "b3_exceptions", (defAt 4).name, "b1_set", "__name__", (defAt 1).name, "__name__"]
theorem b_o {w : World} : ∀ p ∈ ([("b3_exceptions", B3 w), ("b1_set", B1 w)] : List (Str × (Obj → Prop))), p.1 ≠ "__name__" := by
  intro p hp
  rcases List.mem_cons.mp hp with rfl | hp
  · exact (by decide : ("b3_exceptions" : Str) ≠ "__name__")
  · rcases List.mem_cons.mp hp with rfl | hp
    · exact (by decide : ("b1_set" : Str) ≠ "__name__")
    · cases hp
section
variable {w : World} {A : Around} {E : Value → Shared → Prop} {s : Shared} {c Pl F : Addr} {mg₀ mb : Str → Option Value} {Q : Flow → Shared → Prop}
theorem b3_ne : b3L ≠ [] := fun e => absurd b3_len (by rw [e]; decide)
theorem b3_le : b3L.length ≤ 10000 := by rw [b3_len]; decide
theorem w_b3 {h₀ h₁ : Heap} {mg : Str → Option Value} {ps : Array Value} {defs : List DefItem} {objs : List (Str × (Obj → Prop))} {names : List Str} {rest : List Stmt} {ks : List (Option Expr)} {vs : List Expr} {p1 p2 p3 : Pos} {tk₁ : Nat}
    (hc : constPairs ks vs = some b3L) (X : Mod h₀ mg₀ c Pl h₁ mg ps defs [] objs names) (hn : ("b3_exceptions" : Str) ∉ names)
    (k : ∀ h' mg' tk, Mod h₀ mg₀ c Pl h' mg' ps defs [] (("b3_exceptions", B3 w) :: objs) ("b3_exceptions" :: names) → wpAny (model prog w) A (execs rest (mainEnv prog c F)) Q E { s with heap := h', toks := tk }) :
    wpAny (model prog w) A (execs (.Assign [.Name "b3_exceptions" p1] (.Dict ks vs p2) p3 :: rest) (mainEnv prog c F)) Q E { s with heap := h₁, toks := tk₁ } := by
  refine wpAny_execs_cons ?_
  refine Mod.assign_obj (prog := prog) (P := B3 w) (s := { s with heap := h₁, toks := tk₁ }) X (by decide +kernel) hn (fun Q' q => ?_) fun h₁ mg₁ tk₁ X => k _ _ _ X
  exact val_b3 (s := { s with heap := h₁, toks := tk₁ }) hc (Nat.lt_trans (by decide : sysModules < mainGlobals) X.main.g.lt) b3_nodup b3_ne b3_le q
end
end Mine
end

section
open PySem PySem.W PySem.Calls PyProof.Rows
set_option maxRecDepth 100000
set_option maxHeartbeats 4000000
namespace Mine
section
variable {w : World} {A : Around} {E : Value → Shared → Prop} {s : Shared} {c Pl F : Addr} {mg₀ mb : Str → Option Value} {Q : Flow → Shared → Prop}
theorem st5' : ∃ ks vs p19 p20 p21, constPairs ks vs = some b3L ∧ stAt 5 = .Assign [.Name "b3_exceptions" p19] (.Dict ks vs p20) p21 := by
  obtain ⟨p1, p2, p3, e⟩ := st5
  exact ⟨b3K, b3V, p1, p2, p3, b3_pairs, e⟩
theorem walk_top (hh : A.handled = none) (X : Mod s.heap mg₀ c Pl s.heap mg₀ #[] [] [] [] []) (hb : s.heap.Ns builtinsNs mb) (hboot : ∀ x : Str, x ≠ "__name__" → mb x = bootBuiltins x) (hP : builtinsNs ≠ Pl) (hx : ∀ x ∈ biNames, mg₀ x = none)
    (k : ∀ h' mg' ps' tk, Mod s.heap mg₀ c Pl h' mg' ps' defsL [] [("b3_exceptions", B3 w), ("b1_set", B1 w)] namesL → Q .next { s with heap := h', toks := tk }) :
    wpAny (model prog w) A (execs prog.main.body (mainEnv prog c F)) Q E s := by
  obtain ⟨_, _, _, _, _, e0⟩ := st0
  obtain ⟨_, _, _, _, _, e2⟩ := st2
  obtain ⟨_, _, _, _, _, e7⟩ := st7
  obtain ⟨_, _, _, _, _, _, _, _, _, _, _, _, _, _, e3⟩ := st3
  obtain ⟨ks, vs, _, _, _, hc, e5⟩ := st5'
  rw [body_eq, e0, e2, e3, e5, e7]
  refine w_str (s := s) (h₁ := s.heap) (tk₁ := s.toks) X (by decide +kernel) (fun d hd => nomatch hd) (fun p hp => nomatch hp) (by decide) fun h₁ mg₁ tk₁ X => ?_
  refine w_def (s := s) X ok1 Told.nil (by decide +kernel) (by decide +kernel) fun h₁ mg₁ ps₁ tk₁ X t => ?_
  refine w_str (s := s) X (by decide +kernel) (by decide +kernel) (fun p hp => nomatch hp) (by decide) fun h₁ mg₁ tk₁ X => ?_
  have hbi : ∀ x ∈ biNames, x ∉ (["__name__", (defAt 1).name, "__name__"] : List Str) := by decide +kernel
  refine wpAny_execs_cons (Mod.assign_obj (prog := prog) (P := B1 w) (s := { s with heap := h₁, toks := tk₁ }) X (by decide +kernel) (by decide +kernel) (fun Q' q => val_b1 (s := { s with heap := h₁, toks := tk₁ }) hh X hb hboot hP hx hbi b1_consts q) fun h₁ mg₁ tk₁ X => ?_)
  refine w_def (s := s) X ok4 t (by decide +kernel) (by decide +kernel) fun h₁ mg₁ ps₁ tk₁ X t => ?_
  refine w_b3 (s := s) hc X (by decide +kernel) fun h₁ mg₁ tk₁ X => ?_
  refine w_def (s := s) X ok6 t (by decide +kernel) (by decide +kernel) fun h₁ mg₁ ps₁ tk₁ X t => ?_
  refine w_str (s := s) X (by decide +kernel) (by decide +kernel) (b_o) (by decide) fun h₁ mg₁ tk₁ X => ?_
  refine w_def (s := s) X ok8 t (by decide +kernel) (by decide +kernel) fun h₁ mg₁ ps₁ tk₁ X t => ?_
  refine w_def (s := s) X ok9 t (by decide +kernel) (by decide +kernel) fun h₁ mg₁ ps₁ tk₁ X t => ?_
  refine w_def (s := s) X ok10 t (by decide +kernel) (by decide +kernel) fun h₁ mg₁ ps₁ tk₁ X t => ?_
  refine w_def (s := s) X ok11 t (by decide +kernel) (by decide +kernel) fun h₁ mg₁ ps₁ tk₁ X t => ?_
  refine w_def (s := s) X ok12 t (by decide +kernel) (by decide +kernel) fun h₁ mg₁ ps₁ tk₁ X t => ?_
  refine w_def (s := s) X ok13 t (by decide +kernel) (by decide +kernel) fun h₁ mg₁ ps₁ tk₁ X t => ?_
  refine w_def (s := s) X ok14 t (by decide +kernel) (by decide +kernel) fun h₁ mg₁ ps₁ tk₁ X t => ?_
  refine w_def (s := s) X ok15 t (by decide +kernel) (by decide +kernel) fun h₁ mg₁ ps₁ tk₁ X t => ?_
  refine w_def (s := s) X ok16 t (by decide +kernel) (by decide +kernel) fun h₁ mg₁ ps₁ tk₁ X t => ?_
  refine w_def (s := s) X ok17 t (by decide +kernel) (by decide +kernel) fun h₁ mg₁ ps₁ tk₁ X t => ?_
  exact wpAny_execs_nil (k h₁ _ _ tk₁ X)
end
end Mine
end

section
open PySem PySem.W PySem.Calls PyProof.Rows
set_option maxRecDepth 100000
set_option maxHeartbeats 1000000
namespace Mine
theorem halt_through {den : Code → Sem Fin} {p : Program} {w : World} {s s' : Shared} {t : Thread} {f : Flow} (h : step den p w s t = .halt (.done f) s') : through t = true := by
  obtain ⟨heap, gens, drawn, toks, os⟩ := s
  obtain ⟨cur, code, pos, stack⟩ := t
  cases cur <;> simp only [step, finish] at h <;> (repeat' split at h) <;> simp_all [through]
theorem sched_back {den : Code → Sem Fin} {p : Program} {w : World} {f : Flow} : ∀ {n : Nat} {s s' : Shared} {t : Thread}, runN den p w n s t = .halted (.done f) s' →
    (∀ k s₁ t₁, runN den p w k s t = .running s₁ t₁ → t₁.calm = true) → s.asleep → ∃ m t₁, schedN den p w m (.single s t) = .running (.single s' t₁) ∧ through t₁ = true
  | 0, _, _, _, h, _, _ => by cases h
  | n + 1, s, s', t, h, hc, hz => by
    have e := sstep_single den p w s t (hc 0 s t rfl) hz
    simp only [runN] at h
    cases hs : step den p w s t with
    | go s₂ t₂ =>
      rw [hs] at h e
      rcases e with e | e
      · obtain ⟨m, t₁, h1, h2⟩ := sched_back h (fun k s₁ t₁ q => hc (k + 1) s₁ t₁ (by simp only [runN, hs]; exact q)) (Shared.asleep_of_life (step_life den p w s s₂ t t₂ hs) hz)
        exact ⟨m + 1, t₁, by simp only [schedN, e, Step.lift]; exact h1, h2⟩
      · cases e
    | halt o₂ s₂ =>
      rw [hs] at h
      cases h
      refine ⟨0, t, ?_, halt_through hs⟩
      rw [step_halt_same den p w s s' t _ hs]
      rfl
theorem thread_through {w : World} {t : Sem Fin} {s : Shared} {R : Shared → Prop} (hreg : s.asleep)
    (h : wpAny (model prog w) callerA t (fun fin s' => ∃ f, fin = .done f ∧ (R s' ∧ s'.gens = #[])) (fun _ _ => False) s) :
    ∃ m s' t₁, schedN (denote table) prog w m (.single s ⟨t, .builtin "claim.caller" {}, default, []⟩) = .running (.single s' t₁) ∧ through t₁ = true ∧ s'.heap.life = s.heap.life ∧ R s' ∧ s'.gens = #[] := by
  have h' := wp_of_wpAny_done (R := fun r s' => ((∃ f, r = .ok f) ∧ R s' ∧ s'.gens = #[]) ∧ leftWithCleanup s'.gens = false) caller_in
    (wpAny_mono h (fun _ _ ⟨f, e, a, b⟩ => ⟨f, e, ⟨⟨f, rfl⟩, a, b⟩, by rw [b]; simp [leftWithCleanup]⟩) fun _ _ q => q.elim) default
  obtain ⟨n, r, s₁, hn, ⟨f, rfl⟩, hR, hg⟩ := (wp_iff_halts (M := model prog w) (R := fun r s' => (∃ f, r = .ok f) ∧ R s' ∧ s'.gens = #[]) ..).mp h'
  obtain ⟨s₂, hr, hf, hc⟩ := runNI_real _ _ _ hn (outcomeOf_ends (.ok f))
  obtain rfl : s₂ = s₁ := Shared.eq_of_forget_eq hf hg
  obtain ⟨m, t₁, h1, h2⟩ := sched_back (f := f) hr hc hreg
  exact ⟨m, s₂, t₁, h1, h2, runN_life _ _ _ hr, hR, hg⟩
end Mine
end

section
open PySem PySem.W PySem.Calls PyProof.Rows
set_option maxRecDepth 100000
set_option maxHeartbeats 1000000
namespace Mine
theorem b_s (P : Params) : (boot_heap P).nsKeys cStatics = [] := by kernel_rfl
theorem b_bm (P : Params) : (boot_heap P).nsMap mainGlobals "__builtins__" = some (.ref 4) := by kernel_rfl
theorem b_4 (P : Params) : (boot_heap P).get? 4 = some { cls := .type "module", dict := some builtinsNs } := by kernel_rfl
theorem behind_eq : behindTheImports prog = prog.main.body := by kernel_rfl
theorem anns : hasAnns prog.main.body = false := by kernel_rfl
theorem nodoc : docOf prog.main.body = none := by kernel_rfl
theorem b_free (P : Params) : ∀ x ∈ biNames, (boot_heap P).nsMap mainGlobals x = none := by
  intro x hx
  refine Heap.nsMap_none fun hk => ?_
  rw [b_keys] at hk
  revert x
  decide +kernel
/-- what the top leaves behind -/
structure TopR (w : World) (s s' : Shared) : Prop where
  left : ∃ h₀ c Pl mg' ps', (∀ b o, s.heap.get? b = some o → h₀.get? b = some o) ∧ s.heap.objs.size ≤ Pl ∧ s.heap.objs.size ≤ h₀.objs.size ∧
    Mod h₀ (s.heap.nsMap mainGlobals) c Pl s'.heap mg' ps' defsL [] [("b3_exceptions", B3 w), ("b1_set", B1 w)] namesL
  same : ∃ h tk, s' = { s with heap := h, toks := tk }
theorem top_tree {w : World} {s : Shared} (hs : s.heap = boot_heap w.params) (hg : s.gens = #[]) :
    wpAny (model prog w) callerA (topStub prog).cur (fun fin s' => ∃ f, fin = .done f ∧ (TopR w s s' ∧ s'.gens = #[])) (fun _ _ => False) s := by
  show wpAny (model prog w) callerA (do
      let code ← moduleCode prog.main
      let frame ← newBodyFrame code mainNs mainNs
      let _ ← run (.body (behindTheImports prog) { scope := prog.main.scope, locals := mainNs, globals := mainNs, cells := [], code, frame := some frame })
      ret .none) _ _ s
  rw [behind_eq]
  have G : s.heap.Ns mainGlobals (s.heap.nsMap mainGlobals) := .of_isNs (by rw [hs]; exact b_g _)
  have B : s.heap.Ns builtinsNs (s.heap.nsMap builtinsNs) := .of_isNs (by rw [hs]; exact b_b _)
  refine wpAny_bind (wpAny_moduleCode fun c Pl h₁ tk₁ hk hc hPl hcode => ?_)
  unfold newBodyFrame
  refine wpAny_bind (wpAny_bind (wpAny_nsGet (s := { s with heap := h₁, toks := tk₁ }) (G.keeps hk) (wpAny_alloc ?_)))
  refine wpAny_bind (wpAny_run ?_)
  have hlG := G.lt
  have h4 : s.heap.get? 4 = some { cls := .type "module", dict := some builtinsNs } := by rw [hs]; exact b_4 _
  refine codeAny_body anns nodoc ?_
  refine wpAny_mono (E := fun _ _ => False) (walk_top (mg₀ := s.heap.nsMap mainGlobals) (mb := s.heap.nsMap builtinsNs) (c := c) (Pl := Pl) rfl ?_ ?_ ?_ ?_ ?_ fun h' mg' ps' tk X => ?_) (fun _ _ x => x) fun _ _ x => x.elim
  · refine ⟨⟨(G.keeps hk).push _, hcode.push _, ⟨Nat.lt_of_lt_of_le hlG hc, Nat.lt_of_lt_of_le hlG hPl⟩, 4, _, ?_, by decide, by decide, Nat.ne_of_lt (Nat.lt_of_lt_of_le (Heap.lt_size h4) hPl), Heap.get?_push_of_some _ (hk _ _ h4), rfl, rfl, rfl⟩,
      fun _ _ _ _ e => e, (fun _ hd => nomatch hd), (fun _ hp => nomatch hp), fun _ _ => rfl, (fun _ hd => nomatch hd), (fun _ hp => nomatch hp), (fun _ hp => nomatch hp), (fun _ hp => nomatch hp), Nat.le_refl _, (hcode.push _).lt.2, ((G.keeps hk).push _).lt, (fun _ hd => nomatch hd)⟩
    rw [hs]; exact b_bm _
  · exact (B.keeps hk).push _
  · intro x hx
    rw [hs]
    exact Heap.of_bltView (b_b _) (b_view _) x hx
  · exact Nat.ne_of_lt (Nat.lt_of_lt_of_le B.lt hPl)
  · rw [hs]; exact b_free _
  · refine wpAny_pure ⟨_, rfl, ⟨⟨_, c, Pl, mg', ps', fun b o e => Heap.get?_push_of_some _ (hk b o e), hPl, ?_, X⟩, _, _, rfl⟩, hg⟩
    have : s.heap.objs.size ≤ h₁.objs.size := by
      have := (Heap.Ns.lt (hn := G.keeps hk))
      exact Nat.le_of_lt (Nat.lt_of_le_of_lt hc hcode.lt.1)
    show s.heap.objs.size ≤ (h₁.push _).objs.size
    rw [Heap.size_push]; exact Nat.le_succ_of_le this
end Mine
end

section
open PySem PySem.W PySem.Calls PyProof.Rows
set_option maxRecDepth 100000
set_option maxHeartbeats 1000000
namespace Mine
def defInfo (d : DefItem) : Arguments × List Stmt × Scope := (d.params, d.body, d.scope)
theorem filter_one {α : Type} {p : α → Bool} {l : List α} {a : α} (h : l.filter p = [a]) : a ∈ l ∧ p a = true := List.mem_filter.mp (h ▸ List.mem_singleton_self a)
theorem in_defs {name : Str} {params : Arguments} {body : List Stmt} {scope : Scope} (h : prog.theDef name = some (params, body, scope)) : ∃ d ∈ defsL, d.name = name ∧ d.params = params ∧ d.body = body ∧ d.scope = scope := by
  unfold Program.theDef at h
  split at h
  · rename_i n args bd r sc ts b pos e
    obtain ⟨h1, h2⟩ := filter_one e
    cases h
    have hn : n = name := beq_iff_eq.mp h2
    rw [body_eq] at h1
    obtain ⟨_, _, _, _, _, e0⟩ := st0
    obtain ⟨_, _, _, _, _, e2⟩ := st2
    obtain ⟨_, _, _, _, _, e7⟩ := st7
    obtain ⟨_, _, _, _, _, _, _, _, _, _, _, _, _, _, e3⟩ := st3
    obtain ⟨ks, vs, _, _, _, hc, e5⟩ := st5'
    rw [e0, e2, e3, e5, e7] at h1
    simp only [List.mem_cons, List.not_mem_nil, or_false, stm, reduceCtorEq, false_or, Stmt.FunctionDef.injEq] at h1
    rcases h1 with h1 | h1 | h1 | h1 | h1 | h1 | h1 | h1 | h1 | h1 | h1 | h1 | h1 <;> 
    · obtain ⟨q1, q2, q3, _, _, _, q4, _⟩ := h1
      exact ⟨_, by simp [defsL], q1.symm.trans hn, q2.symm, q3.symm, q4.symm⟩
  · cases h
theorem def1 : (defAt 1).name = "_platform" := by kernel_rfl
theorem mem1 : defAt 1 ∈ defsL := by simp [defsL]
theorem nodef : ∀ d ∈ defsL, d.params.defaults = [] := by
  intro d hd
  simp only [defsL, List.mem_cons, List.not_mem_nil, or_false] at hd
  rcases hd with rfl | rfl | rfl | rfl | rfl | rfl | rfl | rfl | rfl | rfl | rfl | rfl | rfl
  · exact ok17.nd
  · exact ok16.nd
  · exact ok15.nd
  · exact ok14.nd
  · exact ok13.nd
  · exact ok12.nd
  · exact ok11.nd
  · exact ok10.nd
  · exact ok9.nd
  · exact ok8.nd
  · exact ok6.nd
  · exact ok4.nd
  · exact ok1.nd
def addrAt (mg : Str → Option Value) (x : Str) : Addr := match mg x with
  | some (.ref a) => a
  | _ => 0
theorem addrAt_of {mg : Str → Option Value} {x : Str} {a : Addr} (h : mg x = some (.ref a)) : addrAt mg x = a := by unfold addrAt; rw [h]
theorem bi_out : ∀ x ∈ biNames, x ∉ namesL := by decide +kernel
theorem bm_out : ("__builtins__" : Str) ∉ namesL := by decide +kernel
theorem top_facts {w : World} {s s' : Shared} (hs : s.heap = boot_heap w.params) (T : TopR w s s') :
    ∃ P c fa b1a b3a mg mb, TopF w P fa b1a b3a mg mb s'.heap ∧ PF c P fa mg s'.heap ∧ Tab c P s'.heap := by
  obtain ⟨⟨h₀, c₀, Pl, mg, ps, hk, hPl, hsz, X⟩, _⟩ := T
  have G : s.heap.Ns mainGlobals (s.heap.nsMap mainGlobals) := .of_isNs (by rw [hs]; exact b_g _)
  have B : s.heap.Ns builtinsNs (s.heap.nsMap builtinsNs) := .of_isNs (by rw [hs]; exact b_b _)
  have C : s.heap.Ns cStatics (s.heap.nsMap cStatics) := .of_isNs (by rw [hs]; exact b_c _)
  have low : ∀ {b : Addr}, b < s.heap.objs.size → b ≠ Pl := fun h => Nat.ne_of_lt (Nat.lt_of_lt_of_le h hPl)
  have B' : s'.heap.Ns builtinsNs (s.heap.nsMap builtinsNs) := B.at fun o e => X.keep _ o (low B.lt) (by decide) (hk _ _ e)
  have C' : s'.heap.Ns cStatics (s.heap.nsMap cStatics) := C.at fun o e => X.keep _ o (low C.lt) (by decide) (hk _ _ e)
  obtain ⟨a₁, o₁, fd₁, c, P, t1, t2, t3, t4, l1, l2, l3, ic, ta⟩ := X.tabs _ mem1
  have hP := ta.2
  have lowP : ∀ {b : Addr}, b < s.heap.objs.size → b ≠ P := fun h => Nat.ne_of_lt (Nat.lt_of_lt_of_le h (Nat.le_trans hsz l3))
  have neP : ∀ {b : Addr} {o : Obj}, s'.heap.get? b = some o → (∀ vs, o.data ≠ .fields vs) → b ≠ P := fun e hn q => by
    subst q; rw [hP] at e; cases e; exact hn _ rfl
  have fn : ∀ d ∈ defsL, mg d.name = some (.ref (addrAt mg d.name)) ∧ addrAt mg d.name ≠ P ∧
      ∃ o pm c doc, s'.heap.get? (addrAt mg d.name) = some o ∧ o.data = .func (docDef d.name d.params d.body d.scope pm (.ref c) doc) ∧ s'.heap.CodeRec (.ref c) d.name ∧ c ≠ P := by
    intro d hd
    obtain ⟨a, c', o, pm, doc, h1, h2, h3, h4, h5, h6⟩ := (X.made d hd).plain (nodef d hd)
    rw [addrAt_of h3]
    refine ⟨h3, neP h4 (fun vs q => by rw [h5] at q; cases q), o, pm, c', doc, h4, h5, h6, fun q => ?_⟩
    subst q
    obtain ⟨c₂, o₂, vs, t, e₂, g, d₂, v⟩ := h6
    cases e₂
    rw [hP] at g; cases g
    cases d₂
    cases v
  obtain ⟨b3a, o3, n3, m3, g3, q3⟩ := X.held _ (List.mem_cons_self ..)
  obtain ⟨b1a, o4, n4, m4, g4, q4⟩ := X.held _ (List.mem_cons_of_mem _ (List.mem_cons_self ..))
  obtain ⟨f, M3, L3⟩ := q3 _ _ g3
  obtain ⟨n, M4⟩ := q4 _ _ g4
  have ne3 : b3a ≠ P := by
    obtain ⟨o, es, ep, e, r⟩ := id M3
    exact neP e (fun vs q => by simp_all)
  have ne1 : b1a ≠ P := by
    obtain ⟨o, es, ep, t, e, r⟩ := id M4
    exact neP e (fun vs q => by simp_all)
  refine ⟨P, c, addrAt mg, b1a, b3a, mg, s.heap.nsMap builtinsNs, ?_, ?_, ?_⟩
  · exact {
      g := X.main.g
      b := B'
      boot := fun x hx => by rw [hs]; exact Heap.of_bltView (b_b _) (b_view _) x hx
      nolimit := ⟨_, C', by rw [hs]; exact Heap.nsMap_none (by rw [b_s]; exact fun h => nomatch h)⟩
      gP := lowP G.lt
      bP := lowP B.lt
      cP := lowP C.lt
      fn := fun name params body scope h => by
        obtain ⟨d, hd, rfl, rfl, rfl, rfl⟩ := in_defs h
        exact fn d hd
      bi := fun x hx => (X.others x (bi_out x hx)).trans (by rw [hs]; exact b_free _ x hx)
      b1n := ⟨m4, ne1⟩
      b3n := ⟨m3, ne3, beq_eq_false_iff_ne.mpr fun q => by
        have := Nat.le_trans hsz n3
        rw [q] at this
        exact absurd (Nat.lt_of_lt_of_le G.lt this) (by decide)⟩
      b1 := ⟨n, M4⟩
      b3 := ⟨f, M3, L3⟩ }
  · have f1 := fn _ mem1
    rw [def1] at f1
    obtain ⟨f1, f2, o, pm, c', doc, f3, f4, f5, f6⟩ := f1
    refine ⟨fun params body scope h => ?_, f2, ?_⟩
    · obtain ⟨d, hd, hn, rfl, rfl, rfl⟩ := in_defs h
      obtain ⟨g1, g2, o, pm, c', doc, g3, g4, _⟩ := fn d hd
      rw [hn] at g1 g3 g4
      refine ⟨o, pm, doc, g3, ?_⟩
      rw [def1, g1] at t1
      cases t1
      rw [g3] at t2
      cases t2
      rw [g4] at t3
      cases t3
      cases t4
      exact g4
    · obtain ⟨bm, o, r1, r2, _, _, r3, r4, r5, r6⟩ := X.main.bmod
      exact ⟨bm, o, r1, r2, neP r3 (fun vs q => by rw [r6] at q; cases q), r3, r4, r5, r6⟩
  · exact ⟨(lowP C.lt).symm, _, ic, ta⟩
end Mine
end

section
open PySem PySem.W PySem.Calls PyProof.Rows
set_option maxRecDepth 100000
set_option maxHeartbeats 1000000
namespace Mine
theorem named : ∀ x ∈ namesL, x ∈ startupNames ∨ x ∈ prog.boundNames := by decide +kernel
theorem laid_out : ∀ x ∈ laidNames, x ∉ namesL := by decide +kernel
theorem boot_names : ["__name__", "__doc__", "__package__", "__loader__", "__spec__", "__annotations__", "__builtins__", "__file__", "__cached__"].map Str.ofString = startupNames := by decide +kernel
theorem mods_nil : importedModules prog.main.body = [] := by kernel_rfl
theorem fence_nil (s : Shared) : fenceModules? prog s = some s := by
  unfold fenceModules?
  rw [mods_nil]
  have : prog.main.body.any namesNumpy = false := by kernel_rfl
  rw [this]
  rfl
theorem opening_eq : opening prog = plainProg prog.main.scope.names := by kernel_rfl
theorem law_def : ∃ params body scope, prog.theDef "law" = some (params, body, scope) ∧ params.defaults = [] ∧ kwWritten? params.kwonlyargs params.kw_defaults = some [] := ⟨_, _, _, rfl, rfl, rfl⟩
theorem top_ran {w : World} {s : Shared} (hs : s.heap = boot_heap w.params) (hg : s.gens = #[]) (hz : s.asleep) :
    ∃ s₁, TopRan prog w s s₁ ∧ s₁.asleep ∧ s₁.gens = #[] ∧ TopR w s s₁ := by
  obtain ⟨m, s₁, t₁, h1, h2, hl, T, g1⟩ := thread_through hz (top_tree hs hg)
  refine ⟨s₁, ?_, Shared.asleep_of_life hl hz, g1, T⟩
  obtain ⟨⟨h₀, c₀, Pl, mg, ps, hk, hPl, hsz, X⟩, ⟨hh, tk, hsame⟩⟩ := T
  have G : s.heap.Ns mainGlobals (s.heap.nsMap mainGlobals) := .of_isNs (by rw [hs]; exact b_g _)
  have B : s.heap.Ns builtinsNs (s.heap.nsMap builtinsNs) := .of_isNs (by rw [hs]; exact b_b _)
  have C : s.heap.Ns cStatics (s.heap.nsMap cStatics) := .of_isNs (by rw [hs]; exact b_c _)
  have low : ∀ {b : Addr}, b < s.heap.objs.size → b ≠ Pl := fun h => Nat.ne_of_lt (Nat.lt_of_lt_of_le h hPl)
  have keep : ∀ b o, b ≠ mainGlobals → s.heap.get? b = some o → s₁.heap.get? b = some o := fun b o hn e => X.keep b o (low (Heap.lt_size e)) hn (hk b o e)
  have stat : ∀ key, staticOf s₁.heap key = staticOf s.heap key := fun key => by
    obtain ⟨o, es, ep, e, _⟩ := id C
    unfold staticOf
    rw [e, keep _ o (by decide) e]
  have none : ∀ key, staticOf s.heap key = Option.none := fun key => by
    rw [Pin.staticOf_eq (by rw [hs]; exact b_c _), hs]
    exact Heap.nsMap_none (by rw [b_s]; exact fun h => nomatch h)
  have glob : ∀ x, globalOf s₁.heap x = mg x := Claim2Try.globalOf_of_ns X.main.g
  have glob0 : ∀ x, globalOf s.heap x = s.heap.nsMap mainGlobals x := Claim2Try.globalOf_of_ns G
  refine ⟨⟨m, t₁, h1, h2⟩, hl, Shared.rest_eq (by rw [hsame]), fun b o e hn => keep b o (fun q => hn (.inl q)) e, fun key v e => ?_, fun key => .inl (stat key), ?_, fun x hx => ?_, ?_, ?_, ?_, ?_⟩
  · rw [stat, none] at e; cases e
  · obtain ⟨o, es, ep, e, h, k, _⟩ := X.main.g
    exact ⟨o, es, ep, e, h, k⟩
  · obtain ⟨o, es, ep, e, _⟩ := id B
    have : builtinOf s₁.heap x = builtinOf s.heap x := by
      unfold builtinOf
      rw [e, keep _ o (by decide) e]
    rw [this, Pin.builtinOf_eq (by rw [hs]; exact b_b _), hs]
    exact Heap.of_bltView (b_b _) (b_view _) x hx
  · obtain ⟨bm, o, r1, r2, _, _, r3, r4, r5, r6⟩ := X.main.bmod
    exact ⟨bm, o, (glob _).trans r1, r3, r4, r5⟩
  · intro g hgm; rw [g1] at hgm; simp at hgm
  · intro x v hv
    by_cases hx : x ∈ namesL
    · exact named x hx
    · rw [glob, X.others x hx] at hv
      refine .inl ?_
      rw [← boot_names, ← b_keys w.params]
      by_cases hk : x ∈ (boot_heap w.params).nsKeys mainGlobals
      · exact hk
      · rw [hs, Heap.nsMap_none hk] at hv; cases hv
  · intro x hx
    rw [glob, glob0]
    exact X.others x (laid_out x hx)
/-- what stands behind the opening -/
theorem opened (w : World) : (∃ s, AfterRun (opening prog) w s) ∧ ∀ s, AfterRun (opening prog) w s → s.heap = boot_heap w.params ∧ s.gens = #[] ∧ s.asleep := by
  have h := boot_open opening_eq (N := 600) rfl fence_nil w
  rw [← table_eq_tree] at h
  obtain ⟨s₀, h2, e⟩ := Option.map_eq_some_iff.mp h
  obtain ⟨s, h4, h5⟩ := Option.bind_eq_some_iff.mp h2
  rw [fence_nil] at h5
  cases h5
  have A := AfterImport.of_importEnds h4
  refine ⟨⟨s₀, A⟩, fun s' hs' => ?_⟩
  obtain rfl : s' = s₀ := AfterImport.unique hs' A
  exact ⟨congrArg Prod.fst e, congrArg (fun x => x.2.1) e, A.life⟩
theorem law_pinned {w : World} {P : Addr} {fa : Str → Addr} {b1a b3a : Addr} {mg mb : Str → Option Value} {h : Heap} (T : TopF w P fa b1a b3a mg mb h) : isTheDefsW prog h "law" := by
  obtain ⟨params, body, scope, hd, h1, h2⟩ := law_def
  obtain ⟨m, _, o, pm, c, doc, e1, e2, _⟩ := T.fn _ _ _ _ hd
  exact ⟨_, o, _, params, body, scope, (Claim2Try.globalOf_of_ns T.g _).trans m, e1, e2, hd, rfl, rfl, rfl, rfl, rfl, rfl, rfl, rfl, .inl ⟨h1, rfl⟩, [], h2, .inl ⟨rfl, rfl⟩⟩
end Mine
end

section
open PySem PySem.W PySem.Calls PyProof.Rows
set_option maxRecDepth 100000
set_option maxHeartbeats 1000000
namespace Mine
theorem items_int : ∀ {xs : List WData}, WShape.hasItems [] xs .int = true → ∃ ns : List Int, xs = ns.map WData.int
  | [], _ => ⟨[], rfl⟩
  | x :: r, h => by
    have h' : WShape.has [] x .int = true ∧ WShape.hasItems [] r .int = true := by simpa [WShape.hasItems] using h
    obtain ⟨i, rfl⟩ := hasW_int h'.1
    obtain ⟨ns, rfl⟩ := items_int h'.2
    exact ⟨i :: ns, rfl⟩
theorem ints_read {cl : Str → Option Addr} {h : Heap} : ∀ {ns : List Int} {vs : List Value} {as : List Addr}, ReadsAllW [] cl h vs (ns.map WData.int) as → IntsAre vs ns
  | [], _, _, r => by cases r; exact .nil
  | n :: ns, _, _, r => by
    cases r with
    | cons a b =>
      cases a
      exact .cons _ _ (ints_read b)
def law0 : OpenLaw := PySem.Challenge.rw_mr0257_01
def row0 : OpenRow := law0.row
theorem pre_len {ns : List Int} (h : row0.toRowW.pre.holds [] { args := [.list (ns.map WData.int)] } = true) : ns.length ≤ 63 := by
  simp [row0, law0, OpenLaw.row, OpenLaw.pre, PySem.Challenge.rw_mr0257_01, WTm.holds, WTm.value, less_int] at h
  by_cases hl : (63 : Int) < (ns.length : Int)
  · rw [decide_eq_true hl] at h
    cases h
  · omega
theorem post_ok (args : List WData) : row0.toRowW.claim.post args (.bool true) args = true := by
  simp [row0, law0, OpenLaw.row, RowW.claim, WShape.has, WShape.arms, WTm.holds, WTm.value, same_self]
theorem bare0 : row0.toRowW.prog.bare := ⟨rfl, rfl, rfl, rfl, rfl, by decide +kernel⟩
theorem opens0 : opensWell row0.toRowW.prog = true := by decide +kernel
theorem promised0 : row0.toRowW.promised := ⟨[.list []], by decide +kernel, by decide +kernel⟩
theorem main0 : row0.toRowW.claim.HoldsOpenBy (callStub row0.name) (if row0.pinned then [row0.name] else []) row0.keeps row0.writes := by
  refine ⟨⟨bare0, opens0, rfl⟩, promised0.witness, fun w => ⟨(opened w).1, fun s hs => ?_⟩⟩
  obtain ⟨e1, e2, e3⟩ := (opened w).2 s hs
  obtain ⟨s₁, hT, hz, hg, R⟩ := top_ran e1 e2 e3
  obtain ⟨P, c, fa, b1a, b3a, mg, mb, T, X, t⟩ := top_facts e1 R
  refine ⟨s, fence_nil s, e2, s₁, hT, fun n hn => ?_, (fun x hx => nomatch hx), (fun x hx => nomatch hx), ?_⟩
  · obtain rfl : n = "law" := List.mem_singleton.mp hn
    exact law_pinned T
  refine ClaimW.callFrom_of_specG (c := row0.toRowW.claim) hz hg fun args hpre hlay ord hord => ?_
  obtain ⟨⟨vs, s₂⟩, hlaid⟩ := Option.isSome_iff_exists.mp (layAllW_isSome (R := row0.toRowW.records) (cl := classAt s₁.heap) (P := w.params) (ord := ord) (fun c hc => (by cases hc)) args row0.toRowW.args s₁ (pre_splitW hpre).1)
  have keeps := layAllW_keeps _ _ _ hlaid
  have hal := layAllW_rest _ _ _ hlaid
  obtain ⟨as, hrd, hin, hold⟩ := reads_layAllW hord _ _ _ hlaid hlay s₂.heap (fun _ _ e => e)
  have L : Laid row0.toRowW.records w s₁ s₂ args vs as := ⟨⟨ord, hord, hlaid⟩, hrd, hin, hold, keeps, hal.1.trans hg, hal.2.2.1⟩
  obtain ⟨d, r, rfl, hd, hr⟩ := hasAllW_cons (pre_splitW hpre).1
  obtain rfl := hasAllW_nil hr
  obtain ⟨xs, rfl, hxs⟩ := hasW_list hd
  obtain ⟨ns, rfl⟩ := items_int hxs
  have hlen := pre_len (pre_splitW hpre).2
  refine ⟨vs, s₂, hlaid, ?_⟩
  have hS : ∃ S, vs = [.ref S] ∧ IL s₂.heap S ns := by
    cases hrd with
    | cons a b =>
      cases b
      cases a with
      | list h1 h2 h3 h4 => exact ⟨_, rfl, _, by rw [Array.toArray_toList]; exact ⟨_, h1, h2, _, h3⟩, ints_read h4⟩
  obtain ⟨S, rfl, hS⟩ := hS
  obtain ⟨params, body, scope, hdef, _⟩ := law_def
  have hm := (T.fn _ _ _ _ hdef).1
  refine wpAny_bind (wpAny_nsGet (T.g.keeps keeps) ?_)
  show wpAny (model prog w) callerA (match mg "law" with | some f => _ | none => _) _ _ _
  rw [hm]
  refine wpAny_bind (law_spec (T.keeps keeps) (X.keeps keeps) (t.keeps keeps) rfl (by decide) (by decide) hS (by show ns.length ≤ 16777216; omega) (plain ns) fun s' g => wpAny_pure ?_)
  have good : GoodWG row0.toRowW.claim (classAt s₁.heap) (ExcName.means s₁.heap) [.list (ns.map WData.int)] s₂ (.ok (.ret (.bool true))) s' :=
    ⟨.inl ⟨_, .bool true, [], rfl, fun _ => rfl, .bool true, post_ok _, fun _ => ⟨List.nodup_nil, fun a ha => nomatch ha⟩⟩, g.old, g.os, g.bare (.of_eq L.gens)⟩
  have z := good.laid (c := row0.toRowW.claim) rfl rfl (ident_freeW rfl rfl rfl) L
  exact ⟨_, rfl, z.1, z.2.1, z.2.2, fun q => by cases q⟩
theorem holds0 : PySem.Challenge.rw_mr0257_01.Holds := by
  o_law
  exact ⟨by assumption, promised0, main0⟩
end Mine
end
theorem PySem.Challenge.cw_mr0257_01_holds : PySem.Challenge.rw_mr0257_01.Holds :=
  Mine.holds0
