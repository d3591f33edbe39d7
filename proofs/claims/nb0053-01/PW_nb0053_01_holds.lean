import PyProof.Rows.All
import Wide.All
import OpenK.AllK
import Wide.FinOn
import PySem.Challenge.RW_nb0053_01
open PySem PySem.W PyProof.Rows
set_option Elab.async false
set_option linter.unusedVariables false
set_option linter.unusedSectionVars false

-- part Hd
section
namespace Mine
set_option maxRecDepth 100000 in
set_option maxHeartbeats 8000000 in
open_top hd for PySem.Challenge.rw_nb0053_01
end Mine
end

-- part B1
section
set_option maxRecDepth 100000
set_option maxHeartbeats 4000000
namespace Mine
open PySem.Calls

noncomputable abbrev KF (w : World) : Frag := Mine.hd.heap_39 w.params

/-- what every state of the run keeps: the text's own objects, the globals, the builtins -/
structure Bs (w : World) (mg mb : Str → Option Value) (h : Heap) : Prop where
  X : (KF w).In h
  g : h.Ns mainGlobals mg
  b : h.Ns builtinsNs mb
  nolimit : h.NoLimit
  builtins : ∀ x : Str, x ≠ "__name__" → mb x = bootBuiltins x
  bmain : ∃ bm ob, mg "__builtins__" = some (.ref bm) ∧ bm ≠ builtinsNs ∧ h.get? bm = some ob ∧ ob.cls = .type "module" ∧ ob.dict = some builtinsNs ∧ ob.data = .plain

theorem Bs.keeps {w : World} {mg mb : Str → Option Value} {h h' : Heap} (B : Bs w mg mb h) (hk : ∀ b o, h.get? b = some o → h'.get? b = some o) : Bs w mg mb h' where
  X := B.X.keeps hk
  g := B.g.keeps hk
  b := B.b.keeps hk
  nolimit := B.nolimit.keeps hk
  builtins := B.builtins
  bmain := let ⟨bm, ob, h1, h2, h3, r⟩ := B.bmain; ⟨bm, ob, h1, h2, hk _ _ h3, r⟩

theorem Bs.of_top {w : World} {mg mb : Str → Option Value} {h : Heap} {p : Program} {loose : List Str} {mean : ExcName → Option Value} (X : (KF w).In h) (T : Top p loose mean mg mb h) : Bs w mg mb h :=
  ⟨X, T.g, T.b, T.nolimit, T.builtins, T.bmain⟩

theorem kp_refl (s : Shared) : Keeps s s := ⟨s.heap, s.toks, rfl, fun _ _ e => e⟩
theorem kp_trans {s s' s'' : Shared} (a : Keeps s s') (b : Keeps s' s'') : Keeps s s'' := by
  obtain ⟨h1, t1, rfl, k1⟩ := a
  obtain ⟨h2, t2, rfl, k2⟩ := b
  exact ⟨h2, t2, rfl, fun b o e => k2 b o (k1 b o e)⟩
theorem kp_heap {s s' : Shared} (a : Keeps s s') : ∀ b o, s.heap.get? b = some o → s'.heap.get? b = some o := by
  obtain ⟨h1, t1, rfl, k1⟩ := a
  exact k1
theorem kp_tok {s : Shared} (t : Nat) : Keeps s { s with toks := t } := ⟨s.heap, t, rfl, fun _ _ e => e⟩

section
variable {M : Model} {A : Around} {E : Value → Shared → Prop} {s : Shared} {w : World} {mg mb : Str → Option Value} {env : Env} {x : Str} {pos : Pos} {v : Value} {Q : Value → Shared → Prop}
/-- a name that the module binds -/
theorem nmG (B : Bs w mg mb s.heap) (e : nsIn (KF w) mainGlobals x = some (some v)) (h : Q v s) (hg : env.globals = mainGlobals := by rfl)
    (hk : env.scope.kind = .function := by rfl) (hx : env.kindOf x = some .globalImplicit := by rfl) (hd : (x == ("__debug__" : Str)) = false := by decide) : wpAny M A (eval (.Name x pos) env) Q E s :=
  Name_function_global hk hx (loadGlobal_global (by rw [hg]; exact B.g) (mg_of B.X B.g e) h) hd
/-- a built-in name -/
theorem nmB (B : Bs w mg mb s.heap) (e : nsIn (KF w) mainGlobals x = some none) (hv : bootBuiltins x = some v) (h : Q v s) (hg : env.globals = mainGlobals := by rfl) (hb : env.builtins = builtinsNs := by rfl) (hn : x ≠ "__name__" := by decide)
    (hk : env.scope.kind = .function := by rfl) (hx : env.kindOf x = some .globalImplicit := by rfl) (hd : (x == ("__debug__" : Str)) = false := by decide) : wpAny M A (eval (.Name x pos) env) Q E s :=
  Name_function_global hk hx (loadGlobal_builtin (by rw [hg]; exact B.g) (mg_none_of B.X B.g e) (by rw [hb]; exact B.b) ((B.builtins x hn).trans hv) h) hd
theorem nmL {m : Str → Option Value} (hn : s.heap.Ns env.locals m) (hv : m x = some v) (h : Q v s)
    (hk : env.scope.kind = .function := by rfl) (hx : env.kindOf x = some .local := by rfl) (hd : (x == ("__debug__" : Str)) = false := by decide) : wpAny M A (eval (.Name x pos) env) Q E s :=
  wpAny_Name (wpAny_loadName_local hk hx hn hv h) hd
theorem nmC {c : Addr} (hv : s.heap.IsCell c (some v)) (h : Q v s) (hc : env.cells.lookup x = some c := by rfl)
    (hk : env.scope.kind = .function := by rfl) (hx : env.kindOf x = some .cell := by rfl) (hd : (x == ("__debug__" : Str)) = false := by decide) : wpAny M A (eval (.Name x pos) env) Q E s :=
  wpAny_Name (wpAny_loadName_cell hk hx hc hv h) hd
theorem nmF {c : Addr} (hv : s.heap.IsCell c (some v)) (h : Q v s) (hc : env.cells.lookup x = some c := by rfl)
    (hk : env.scope.kind = .function := by rfl) (hx : env.kindOf x = some .free := by rfl) (hd : (x == ("__debug__" : Str)) = false := by decide) (hn : (x == ("__classdict__" : Str)) = false := by decide) : wpAny M A (eval (.Name x pos) env) Q E s :=
  wpAny_Name (wpAny_loadName_free hk hx hc hv h hn) hd
end

/-- what _strcoll says of two texts -/
def coll (a b : Str) : Int := b2i (decide (b.cps.toList < a.cps.toList)) - b2i (decide (a.cps.toList < b.cps.toList))

section
variable {prog : Program} {w : World} {A : Around} {E : Value → Shared → Prop} {s : Shared} {mg mb : Str → Option Value}
theorem call_strcoll {a b : Str} {t u : Tok} {Q : Value → Shared → Prop} (B : Bs w mg mb s.heap) (hd : A.depth < recursionLimit)
    (h : ∀ s' t', Keeps s s' → Q (.int (coll a b) t') s') : wpAny (model prog w) A (call (.ref 21) [.str a t, .str b u]) Q E s := by
  refine wpAny_call ?_
  refine codeAny_call_def (binds := [("a", .str a t), ("b", .str b u)]) hd (B.X 21 _ rfl) rfl B.nolimit (codeRec_of (K := KF w) B.X (by rfl)) rfl (BindsTo.of_eq rfl) (by decide) (locs rfl) (fun h₁ hn hk => ?_)
  refine wpAny_execs_cons (wpAny_Return_some (wpAny_BinOp (wpAny_Compare1 (nmL hn rfl (nmL hn rfl (P.gt_str ?_))))))
  refine wpAny_Compare1 (nmL hn rfl (nmL hn rfl (lt_str ?_)))
  refine sub_bool ?_
  exact h _ _ ⟨h₁, _, rfl, hk⟩
end
end Mine
end

-- part B2
section
set_option maxRecDepth 100000
set_option maxHeartbeats 4000000
namespace Mine
open PySem.Calls

/-- the text's statements, by their number at the top -/
def stm (i : Nat) : Stmt := (PySem.Challenge.pw_nb0053_01.main.body)[i]?.getD (.Pass ⟨0, 0, 0, 0⟩)
def fScope : Stmt → Scope
  | .FunctionDef _ _ _ _ _ _ sc _ _ _ => sc
  | .ClassDef _ _ _ _ _ _ sc _ _ _ _ => sc
  | _ => default
def fBody : Stmt → List Stmt
  | .FunctionDef _ _ b _ _ _ _ _ _ _ => b
  | .ClassDef _ _ _ b _ _ _ _ _ _ _ => b
  | _ => []
def fArgs : Stmt → Arguments
  | .FunctionDef _ a _ _ _ _ _ _ _ _ => a
  | _ => default
def nth (l : List Stmt) (i : Nat) : Stmt := l[i]?.getD (.Pass ⟨0, 0, 0, 0⟩)

section
variable {prog : Program} {w : World} {A : Around} {s : Shared} {R : Result → Shared → Prop} {name qual : Str} {params : Arguments} {body : List Stmt} {scope : Scope} {cl : List (Str × Addr)} {dV kV doc pm cdv ct : Value} {an : Option Addr} {fo : Obj} {f : Addr} {args : Args} {binds : List (Str × Value)}

/-- a def with cells of its own, no closure -/
theorem call_own (hroom : A.depth < recursionLimit) (ho : s.heap.get? f = some fo) (hd : fo.data = .func (fnX name qual params body scope [] dV kV doc pm an cdv ct)) (hlim : s.heap.NoLimit) (hcd : s.heap.CodeRec cdv qual)
    (hbind : BindsTo s (fnX name qual params body scope [] dV kV doc pm an cdv ct) args binds)
    (hkind : (binds.all fun y => scope.names.lookup y.1 == some .local || scope.names.lookup y.1 == some .cell) = true)
    (h : ∀ L s1, L = s.heap.objs.size → InCallC s L (bindL (envX qual scope L f cdv (cellsFrom (L + 1) scope.names [])).kindOf binds fun _ => none) (cellsFrom (L + 1) scope.names []) (bindC (envX qual scope L f cdv (cellsFrom (L + 1) scope.names [])).kindOf binds fun _ => none) s1 →
      wpAny (model prog w) (A.deeper (envX qual scope L f cdv (cellsFrom (L + 1) scope.names []))) (execs body (envX qual scope L f cdv (cellsFrom (L + 1) scope.names [])))
        (fun fl s' => R (.ok (.ret (match fl with | .ret v => v | _ => .none))) s') (fun _ _ => False) s1)
    (hco : scope.isCoroutine = false := by rfl) (hgen : scope.isGenerator = false := by rfl) (hk : scope.kind = .function := by rfl) : codeAny (model prog w) A (.call (.ref f) args) R s := by
  refine codeAny_call_function hroom ho hd hco hgen rfl hcd (hbind _ _ _ _ ?_)
  refine wpAny_newFunctionEnv_cells hk (kindsX hkind _) fun env' he s' x => ?_
  subst he
  refine ⟨hlim.keeps x.toInCall.keep, codeAny_func ?_⟩
  exact wpAny_mono (h s.heap.objs.size s' rfl x) (fun _ _ y => y) fun _ _ y => y.elim

/-- a def without cells of its own, with a closure or none -/
theorem call_fn (hroom : A.depth < recursionLimit) (ho : s.heap.get? f = some fo) (hd : fo.data = .func (fnX name qual params body scope cl dV kV doc pm an cdv ct)) (hlim : s.heap.NoLimit) (hcd : s.heap.CodeRec cdv qual)
    (hbind : BindsTo s (fnX name qual params body scope cl dV kV doc pm an cdv ct) args binds) (hloc : ∀ y ∈ binds, scope.names.lookup y.1 = some .local)
    (h : ∀ L s1, L = s.heap.objs.size → Keeps s s1 → s1.heap.Ns L (fun x => binds.reverse.lookup x) →
      wpAny (model prog w) (A.deeper (envX qual scope L f cdv cl)) (execs body (envX qual scope L f cdv cl))
        (fun fl s' => R (.ok (.ret (match fl with | .ret v => v | _ => .none))) s') (fun _ _ => False) s1)
    (hcell : ∀ x ∈ scope.names, x.2 ≠ .cell := by decide) (hco : scope.isCoroutine = false := by rfl) (hgen : scope.isGenerator = false := by rfl) (hk : scope.kind = .function := by rfl) : codeAny (model prog w) A (.call (.ref f) args) R s :=
  codeAny_call_def (fd := fnX name qual params body scope cl dV kV doc pm an cdv ct) (body := body) (binds := binds) hroom ho hd hlim hcd rfl hbind hcell hloc
    (fun h₁ hns hk₁ => wpAny_mono (h s.heap.objs.size _ rfl ⟨h₁, _, rfl, hk₁⟩ hns) (fun _ _ y => y) fun _ _ y => y.elim) hco hgen hk
end
end Mine
end

-- part ClsA
section
set_option maxRecDepth 100000
set_option maxHeartbeats 4000000
namespace Mine
open PySem.Calls

abbrev ctkEnv (L : Addr) : Env := envX "cmp_to_key" (fScope (stm 3)) L 28 (.ref 27) [("mycmp", L + 1)]
theorem ctk_cls : fBody (stm 3) = [nth (fBody (stm 3)) 0, nth (fBody (stm 3)) 1] := rfl
abbrev clsSt : Stmt := nth (fBody (stm 3)) 0
theorem wp_eq {α : Type} {M : Model} {A : Around} {E : Value → Shared → Prop} {s : Shared} {t t' : Sem α} {Q : α → Shared → Prop} (e : t = t') (h : wpAny M A t' Q E s) : wpAny M A t Q E s := e ▸ h

theorem wpAny_ClassDef {M : Model} {A : Around} {E : Value → Shared → Prop} {s : Shared} {name base body scope ts bind statics pos} {env : Env} {Q : Flow → Shared → Prop}
    (h : wpAny M A (buildClassGuard env) (fun _ s1 => wpAny M A (eval base env) (fun b s2 => wpAny M A (buildClass name (qualnameIn env name bind) [b] [] body scope statics pos.line env pos none) (fun c s3 => wpAny M A (bindName env bind c) (fun _ s4 => Q .next s4) E s3) E s2) E s1) E s)
    (hb : backTo pos (starEach [base] env) = [(false, eval base env)] := by rfl) :
    wpAny M A (exec (.ClassDef name [base] [] body [] [] scope ts bind statics pos) env) Q E s := by
  refine wp_eq (t' := (do
    let decos ← evalAll (evalEach [] env)
    standAt pos
    buildClassGuard env
    let c ← holding decos do
      let a ← evalArgs (.builtin "__build_class__") false (backTo pos (starEach [base] env)) (backToKw pos (keywordEach [] env))
      standAt pos
      holding (a.pos ++ a.kw.map (·.2)) (buildClass name (qualnameIn env name bind) a.pos a.kw body scope statics (firstLineOf [] pos) env pos none)
    let c ← decorate (decos.zip (([] : List Expr).map (·.pos))).reverse c
    standAt pos
    bindName env bind c
    pure Flow.next)) rfl ?_
  refine wpAny_bind (wpAny_pure (wpAny_bind (wpAny_standAt (wpAny_bind (wpAny_mono h (fun _ s1 h1 => ?_) fun _ _ e => e)))))
  refine wpAny_bind (wpAny_holding (wpAny_bind ?_))
  rw [hb]
  unfold evalArgs
  dsimp only
  refine wpAny_bind (Calls.spliced_cons (wpAny_mono h1 (fun b s2 h2 => Calls.spliced_nil ?_) fun _ _ e => e))
  refine wpAny_bind (wpAny_pure (wpAny_holding ?_))
  have e1 : backToKw pos (keywordEach [] env) = [] := rfl
  rw [e1]
  refine wpAny_bind (wpAny_pure (wpAny_bind (wpAny_pure (wpAny_pure (wpAny_bind (wpAny_standAt (wpAny_holding (wpAny_mono h2 (fun c s3 h3 => ?_) fun _ _ e => e))))))))
  exact wpAny_bind (wpAny_pure (wpAny_bind (wpAny_standAt (wpAny_bind (wpAny_mono h3 (fun _ s4 h4 => wpAny_pure h4) fun _ _ e => e)))))

/-- an object laid anew -/
structure Nw (h : Heap) (a : Addr) (o : Obj) (h' : Heap) : Prop where
  keep : ∀ b x, h.get? b = some x → h'.get? b = some x
  at_ : h'.get? a = some o
  new : ∀ b x, h.get? b = some x → b ≠ a
  le : h.objs.size ≤ a
theorem nw_push {h : Heap} {o : Obj} (ho : o.isFreed = false) : Nw h h.objs.size o (h.push o) :=
  ⟨fun _ _ e => Heap.get?_push_of_some _ e, Heap.get?_push_size _ ho, fun _ _ e => Nat.ne_of_lt (Heap.lt_size e), Nat.le_refl _⟩

section
variable {prog : Program} {w : World} {A : Around} {E : Value → Shared → Prop} {s : Shared} {mg mb : Str → Option Value}

theorem bcall {id : String} {b : Builtin} {args : List Value} {kw : List (Str × Value)} {Q : Value → Shared → Prop} (hq : plainId id = true) (hb : entryFor table id = some b)
    (hc : wpAny (model prog w) A.in1 (checkBuiltinCall id ⟨args, kw⟩) (fun _ s1 => wpAny (model prog w) A.in1 (b ⟨args, kw⟩) (fun fin s' => ∃ v, fin = .done (.ret v) ∧ Q v s') E s1) E s) :
    wpAny (model prog w) A (call (.builtin id) args kw) Q E s := by
  refine wpAny_call (codeAny_call_builtin hq hb (wpAny_mono hc (fun _ s1 h1 => wpAny_mono h1 (fun fin s' h' => ?_) fun _ _ e => e) fun _ _ e => e))
  obtain ⟨v, rfl, hv⟩ := h'
  exact hv

theorem clsq_open {c mc : Value} {name : Str} {r : CFound} {K : Frag} {Q : Option Value → Shared → Prop} {hook : Option Value} (X : K.In s.heap) (ho : Looks (model prog w) s.heap (opaqueClassAbove c) none) (ht : Looks (model prog w) s.heap (typeOf c) mc)
    (hga : findIn K mc "__getattribute__" = some (some (.builtin "type.__getattribute__"))) (hb : Looks (model prog w) s.heap (hookBefore mc) hook) (hi : subIn K mc (.type "type") = some true) (e : findCls K c mc name = some r)
    (h : wpAny (model prog w) A.in1 r.run (fun fin s' => ∃ v, fin = .done (.ret v) ∧ handedIn v = true ∧ Q (some v) s') (fun _ _ => False) { s with toks := s.toks + 1 }) :
    wpAny (model prog w) A (getAttr? c name) Q E s := by
  refine wpAny_bind (wpAny_mkText ?_)
  refine wpAny_bind (wpAny_attempt ?_)
  refine wpAny_holding (wpAny_bind (ht _ _ _ _ (fun _ _ e => e) (wpAny_bind (looks_findIn X hga _ _ _ _ (fun _ _ e => e) ?_))))
  dsimp only
  rw [show (onTheHeap mc && Value.builtin "type.__getattribute__" == Value.builtin "object.__getattribute__") = false from by rw [show (Value.builtin "type.__getattribute__" == Value.builtin "object.__getattribute__") = false from by decide +kernel, Bool.and_false], if_neg (by decide)]
  refine wpAny_bind (hb _ _ _ _ (fun _ _ e => e) (wpAny_bind (wpAny_attempt (wpAny_holding ?_))))
  unfold callGetattribute
  rw [show (false && onTheHeap (Value.builtin "type.__getattribute__")) = false from rfl, if_neg (by decide)]
  unfold boundAndCalled
  rw [PySem.W.KF.slot_tga.bind]
  refine wpAny_bind (wpAny_pure ?_)
  show wpAny _ _ (call (.builtin "type.__getattribute__") [c, .str name s.toks]) _ _ _
  refine wpAny_call ?_
  refine codeAny_call_builtin PySem.W.KF.slot_tga.plain PySem.W.KF.entry_tga ?_
  refine @check_slot (model prog w) _ _ { s with toks := s.toks + 1 } "type.__getattribute__" "type" "__getattribute__" c [.str name s.toks] [] _ (by decide +kernel) (by decide +kernel) (ht.andThen (looks_subIn X hi)) (PySem.W.KF.args_tga c (.str name s.toks)) ?_
  refine tga_run (s := { s with toks := s.toks + 1 }) X ho ht e (wpAny_mono h (fun fin s' z => ?_) fun _ _ z => z.elim)
  obtain ⟨v, rfl, hv, hq⟩ := z
  show wpAny _ _ (handedOut v) _ _ _
  rw [handedOut_of hv]
  exact wpAny_pure (wpAny_pure hq)

theorem prep_get {Q : Option Value → Shared → Prop} (B : Bs w mg mb s.heap)
    (h : ∀ a h', Nw s.heap a { cls := .type "builtin_function_or_method", data := .fields #[.builtin "type.__prepare__", .type "type"] } h' → Q (some (.ref a)) { s with heap := h', toks := s.toks + 1 }) :
    wpAny (model prog w) A (getAttr? (.type "type") "__prepare__") Q E s := by
  refine clsq_open (K := KF w) (mc := .type "type") (hook := none) (r := .get (.builtin "classmethod_descriptor.__get__") (.builtin "type.__prepare__") .none (.type "type")) B.X (Looks.of_pure (by kernel_rfl)) (Looks.of_pure (by kernel_rfl)) (by kernel_rfl) (Looks.of_pure (by kernel_rfl)) (by kernel_rfl) (by kernel_rfl) ?_
  show wpAny _ _ (do ret (← holding [.builtin "type.__prepare__"] (call (.builtin "classmethod_descriptor.__get__") [.builtin "type.__prepare__", .none, .type "type"]))) _ _ _
  refine wpAny_bind (wpAny_holding (bcall (b := Builtin.«classmethod_descriptor.__get__») (by decide +kernel) (entryFor_of_fast (by kernel_rfl)) ?_))
  refine wpAny_of_eq (a := ()) (by kernel_rfl) ?_
  refine wp_eq (t' := (newFields "builtin_function_or_method" [.builtin "type.__prepare__", .type "type"] >>= fun v => ret v)) (by kernel_rfl) ?_
  refine wpAny_bind (wpAny_newObj_type ?_)
  exact wpAny_pure ⟨_, rfl, wpAny_pure ⟨_, rfl, rfl, h _ _ (nw_push rfl)⟩⟩

theorem prep_call {Q : Value → Shared → Prop} {q : Addr} {n : Str} {t : Tok} {T : Addr} (hq : s.heap.get? q = some { cls := .type "builtin_function_or_method", data := .fields #[.builtin "type.__prepare__", .type "type"] })
    (h : ∀ a h', Nw s.heap a (dictOf [] 0) h' → Q (.ref a) { s with heap := h' }) :
    wpAny (model prog w) A (call (.ref q) [.str n t, .ref T] []) Q E s := by
  refine wpAny_call (codeAny_of_tree ?_)
  show wpAny _ _ (callAny (.ref q) _) _ _ _
  refine nd_load hq ?_
  show wpAny _ _ (do checkBoundCall "type.__prepare__" ⟨[.type "type", .str n t, .ref T], []⟩; again (.builtin "type.__prepare__" ⟨[.type "type", .str n t, .ref T], []⟩)) _ _ _
  refine wpAny_bind (wpAny_of_eq (a := ()) (by kernel_rfl) ?_)
  refine wpAny_pure (And.intro (Code.quiet_builtin _ (by decide +kernel)) ?_)
  refine codeAny_builtin (b := Builtin.«type.__prepare__») (entryFor_of_fast (by kernel_rfl)) ?_
  show wpAny _ _ (do ret (← newDict)) _ _ _
  refine wpAny_bind (wpAny_newObj_type ?_)
  exact wpAny_pure (h _ _ (nw_push rfl))

theorem newTuple_n {items : List Value} {Q : Value → Shared → Prop} (hz : items.length ≤ sizeLine) (h : ∀ a h', Nw s.heap a { cls := .type "tuple", data := .seq items.toArray } h' → Q (.ref a) { s with heap := h' }) : wpAny (model prog w) A (newTuple items) Q E s :=
  wpAny_newTuple (h _ _ (nw_push rfl)) hz
end
end Mine
end

-- part ClsB
section
set_option maxRecDepth 100000
set_option maxHeartbeats 4000000
namespace Mine
open PySem.Calls
section
variable {M : Model} {A : Around} {E : Value → Shared → Prop} {s : Shared}

theorem wp_neg {α : Type} {c : Prop} [Decidable c] {a b : Sem α} {Q : α → Shared → Prop} (hc : ¬ c) (h : wpAny M A b Q E s) : wpAny M A (if c then a else b) Q E s := by rw [if_neg hc]; exact h
theorem wp_pos {α : Type} {c : Prop} [Decidable c] {a b : Sem α} {Q : α → Shared → Prop} (hc : c) (h : wpAny M A a Q E s) : wpAny M A (if c then a else b) Q E s := by rw [if_pos hc]; exact h
theorem wp_at {α : Type} {t : Sem α} {Q : α → Shared → Prop} (s' : Shared) (e : s = s') (h : wpAny M A t Q E s') : wpAny M A t Q E s := e ▸ h

theorem code_at {env : Env} {c P : Addr} {ps : Array Value} {pos : Pos} {qual : Str} {make : CodeContext → Sem Value} {Q : Value → Shared → Prop} (hc : env.code = .ref c) (C : CodeHd s.heap c P) (hP : s.heap.get? P = some (tabObj ps)) (ht : TriplesOk ps.toList) (hnf : codeAmong pos ps.toList = none)
    (hmake : ∀ ctx (Q' : Value → Shared → Prop), (∀ c' P' h' tk, (∀ b o, s.heap.get? b = some o → h'.get? b = some o) → s.heap.objs.size ≤ c' → s.heap.objs.size ≤ P' → h'.IsCode c' P' #[] → h'.TableAt c' P' #[] → h'.CodeRec (.ref c') qual → Q' (.ref c') { s with heap := h', toks := tk }) → wpAny M A (make ctx) Q' E s)
    (hQ : ∀ c' P' h' tk, Heap.ExtBut P s.heap h' → s.heap.objs.size ≤ c' → s.heap.objs.size ≤ P' → h'.get? P = some (tabObj (ps ++ #[rawInt pos.line, rawInt pos.col, .ref c'])) → CodeHd h' c' P' → h'.get? P' = some (tabObj #[]) → Q (.ref c') { s with heap := h', toks := tk }) :
    wpAny M A (codeAt env pos make) Q E s := by
  obtain ⟨o, vs, file, tf, flags, tg, inF, text, tt, ho, hcls, hd, h11', h11, h18, h7, h9, h10, hne⟩ := id C
  unfold codeAt
  rw [hc, if_neg (show ¬ ((Value.ref c == Value.none) = true) from Bool.false_ne_true)]
  refine wpAny_bind (wpAny_fieldsOf ho hd ?_)
  rw [h11]
  refine wpAny_bind (wpAny_fieldsOf hP rfl ?_)
  rw [hnf, h18, h7, h9, h10]
  refine wpAny_bind (hmake _ _ fun c' P' h' tk hk hc' hP' hcode' htab' hrec' => ?_)
  have hop' := hk _ _ hP
  refine wpAny_bind (wpAny_updateFieldsOfTheText hop' rfl ?_)
  have hnew : (Obj.mapFields (fun vs => if (codeAmong pos vs.toList).isSome = true then vs else vs ++ #[rawInt pos.line, rawInt pos.col, .ref c']) (tabObj ps)) = tabObj (ps ++ #[rawInt pos.line, rawInt pos.col, .ref c']) := by
    show ({ cls := .none, data := .fields (if (codeAmong pos ps.toList).isSome = true then ps else ps ++ #[rawInt pos.line, rawInt pos.col, .ref c']) } : Obj) = _
    rw [hnf]; rfl
  have hget := Heap.get?_update_self (h := h') (fun o => Obj.mapFields (fun vs => if (codeAmong pos vs.toList).isSome = true then vs else vs ++ #[rawInt pos.line, rawInt pos.col, .ref c']) o) hop' (by show (Obj.mapFields _ (tabObj ps)).isFreed = false; rw [hnew]; rfl)
  rw [hnew] at hget
  refine wpAny_bind (wpAny_fieldsOf hget rfl ?_)
  have hl : (ps ++ #[rawInt pos.line, rawInt pos.col, Value.ref c']).toList = ps.toList ++ [rawInt pos.line, rawInt pos.col, .ref c'] := by simp
  rw [hl, codeAmong_snoc _ ht hnf]
  have hP'P : P' ≠ P := Nat.ne_of_gt (Nat.lt_of_lt_of_le (Heap.lt_size hP) hP')
  have hcP : c' ≠ P := Nat.ne_of_gt (Nat.lt_of_lt_of_le (Heap.lt_size hP) hc')
  obtain ⟨⟨oc, vc, hoc, hcc, hdc, h11c⟩, htP⟩ := htab'
  refine wpAny_pure (hQ _ P' _ _ (fun b o' hb e => ((Heap.SameBut.update ..).extBut b o' hb (hk b o' e))) hc' hP' hget (CodeHd.of (hcode'.extBut (Heap.SameBut.update ..).extBut hcP hP'P) ⟨⟨oc, vc, (Heap.SameBut.update ..).extBut _ _ hcP hoc, hcc, hdc, h11c⟩, (Heap.SameBut.update ..).extBut _ _ hP'P htP⟩) ((Heap.SameBut.update ..).extBut _ _ hP'P htP))

theorem class_code {env : Env} {c P : Addr} {ps : Array Value} {pos : Pos} {firstLine : Nat} {name qual : Str} {scope : Scope} {Q : Value → Shared → Prop} (hc : env.code = .ref c) (C : CodeHd s.heap c P) (hP : s.heap.get? P = some (tabObj ps)) (ht : TriplesOk ps.toList) (hnf : codeAmong pos ps.toList = none)
    (hQ : ∀ c' P' h' tk, Heap.ExtBut P s.heap h' → s.heap.objs.size ≤ c' → s.heap.objs.size ≤ P' → h'.get? P = some (tabObj (ps ++ #[rawInt pos.line, rawInt pos.col, .ref c'])) → CodeHd h' c' P' → h'.get? P' = some (tabObj #[]) → Q (.ref c') { s with heap := h', toks := tk }) :
    wpAny M A (classCode env pos firstLine name qual scope) Q E s := by
  unfold classCode
  exact code_at (qual := qual) hc C hP ht hnf (fun ctx Q' h => wpAny_newCodeX h) hQ

/-- a name stored into a namespace that is written out -/
theorem nsSet_w {w : World} {prog : Program} {ns : Addr} {name : Str} {v : Value} {es : List DictEntry} {n : Nat} {Q : Unit → Shared → Prop} (ho : s.heap.get? ns = some (dictOf es n)) (hr : aRefKeyMayBeTheName name es.toArray = false)
    (h : ∀ h', h'.get? ns = some (dictOf (putL name (PyData.keyHash w.params name) (.str name s.toks) v es) (putN name es n)) → Heap.SameBut ns s.heap h' → Q () { s with heap := h', toks := s.toks + 1 }) :
    wpAny (model prog w) A (nsSet ns name v) Q E s := by
  unfold nsSet
  refine wpAny_bind ?_
  unfold strHash
  refine wpAny_bind (wpAny_askSetting (wpAny_pure (wpAny_bind (wpAny_mkText (wpAny_bind (wpAny_loadPart ho ?_))))))
  dsimp only
  rw [hr]
  simp only [Bool.false_eq_true, if_false]
  refine wpAny_updatePart ho ?_
  have e : Obj.putName name (PyData.keyHash w.params name) (.str name s.toks) v (dictOf es n) = dictOf (putL name (PyData.keyHash w.params name) (.str name s.toks) v es) (putN name es n) := putName_dict _ _ _ _ _ _
  refine h _ ?_ (Heap.SameBut.update ..)
  have := Heap.get?_update_self (h := s.heap) (Obj.putName name (PyData.keyHash w.params name) (.str name s.toks) v) ho (by rw [e]; rfl)
  rw [e] at this
  exact this
end
end Mine
end

-- part ClsC
section
set_option maxRecDepth 100000
set_option maxHeartbeats 4000000
namespace Mine
open PySem.Calls

/-- all but the places W stays -/
def KB (W : List Addr) (h h' : Heap) : Prop := ∀ b o, b ∉ W → h.get? b = some o → h'.get? b = some o
theorem KB.refl {W : List Addr} {h : Heap} : KB W h h := fun _ _ _ e => e
theorem KB.trans {W : List Addr} {h h' h'' : Heap} (a : KB W h h') (b : KB W h' h'') : KB W h h'' := fun x o n e => b x o n (a x o n e)
theorem KB.of_keep {W : List Addr} {h h' : Heap} (k : ∀ b o, h.get? b = some o → h'.get? b = some o) : KB W h h' := fun b o _ e => k b o e
theorem KB.mono {W V : List Addr} {h h' : Heap} (a : KB W h h') (s : ∀ x ∈ W, x ∈ V) : KB V h h' := fun x o n e => a x o (fun q => n (s x q)) e

abbrev clsEnv (L N cc fr : Addr) : Env := { scope := fScope clsSt, locals := N, globals := mainGlobals, cells := [("mycmp", L + 1)], qual := "cmp_to_key.<locals>.K.", code := .ref cc, frame := some fr, builtins := builtinsNs }

/-- a function that the class body made -/
def FnK (N P : Addr) (h : Heap) (f : Addr) (name qual : Str) (params : Arguments) (body : List Stmt) (scope : Scope) (clos : List (Str × Addr)) : Prop :=
  ∃ c ctv doc pm, h.get? f = some (fnMade name qual params body scope clos doc pm c ctv) ∧ h.CodeRec (.ref c) qual ∧ f ≠ N ∧ f ≠ P ∧ c ≠ N ∧ c ≠ P
theorem FnK.kb {N P : Addr} {h h' : Heap} {f : Addr} {name qual : Str} {params : Arguments} {body : List Stmt} {scope : Scope} {clos : List (Str × Addr)} (x : FnK N P h f name qual params body scope clos) (k : KB [N, P] h h') : FnK N P h' f name qual params body scope clos := by
  obtain ⟨c, ctv, doc, pm, a, ⟨c2, o, vs, t, e1, e2, e3⟩, n1, n2, n3, n4⟩ := x
  cases e1
  exact ⟨c, ctv, doc, pm, k _ _ (by simp [n1, n2]) a, ⟨c, o, vs, t, rfl, k _ _ (by simp [n3, n4]) e2, e3⟩, n1, n2, n3, n4⟩

section
variable {prog : Program} {w : World} {A : Around} {E : Value → Shared → Prop} {s : Shared} {mg mb : Str → Option Value}

theorem store_cls {env : Env} {name : Str} {v : Value} {es : List DictEntry} {n : Nat} {Q : Unit → Shared → Prop} (hs : storeName env name v = localSet env name v) (ho : s.heap.get? env.locals = some (dictOf es n)) (hr : aRefKeyMayBeTheName name es.toArray = false)
    (h : ∀ h', h'.get? env.locals = some (dictOf (putL name (PyData.keyHash w.params name) (.str name s.toks) v es) (putN name es n)) → Heap.SameBut env.locals s.heap h' → Q () { s with heap := h', toks := s.toks + 1 }) :
    wpAny (model prog w) A (storeName env name v) Q E s := by
  rw [hs]
  unfold localSet
  exact wpAny_bind (wpAny_load ho (wp_pos (by rfl) (nsSet_w ho hr h)))

theorem def_cls {env : Env} {name qual : Str} {params : Arguments} {body : List Stmt} {scope : Scope} {pos : Pos} {clos : List (Str × Addr)} {N cc P : Addr} {es : List DictEntry} {n : Nat} {ps : Array Value} {Q : Flow → Shared → Prop} (B : Bs w mg mb s.heap)
    (hN : s.heap.get? N = some (dictOf es n)) (hP : s.heap.get? P = some (tabObj ps)) (C : CodeHd s.heap cc P) (ht : TriplesOk ps.toList) (lP : 3 < P) (bP : ∀ bm, mg "__builtins__" = some (.ref bm) → bm ≠ P)
    (el : env.locals = N) (eg : env.globals = mainGlobals) (ec : env.code = .ref cc) (hcl : closureFor scope env = pure clos) (hq : qualnameIn env name name = qual)
    (hd0 : params.defaults = []) (hk0 : params.kw_defaults = []) (ha : annTrees params none env = []) (hnf : codeAmong pos ps.toList = none)
    (hs : ∀ v, storeName env name v = localSet env name v) (hr : aRefKeyMayBeTheName name es.toArray = false)
    (h : ∀ f c' h' tk tk', KB [N, P] s.heap h' → h'.get? N = some (dictOf (putL name (PyData.keyHash w.params name) (.str name tk') (.ref f) es) (putN name es n)) → h'.get? P = some (tabObj (ps ++ #[rawInt pos.line, rawInt pos.col, .ref c'])) →
      FnK N P h' f name qual params body scope clos → Q .next { s with heap := h', toks := tk }) :
    wpAny (model prog w) A (exec (.FunctionDef name params body [] none [] scope none name pos) env) Q E s := by
  have hPN : P ≠ N := fun q => by rw [q, hN] at hP; cases hP
  refine nestDef_K hd0 hk0 ha ?_
  rw [hq]
  obtain ⟨bm, ob, b1, b2, b3, b4, b5, b6⟩ := B.bmain
  have hbG : bm ≠ mainGlobals := fun q => by
    obtain ⟨o, es, ep, e, hd, _⟩ := B.g
    rw [q, e] at b3; cases b3; rw [hd] at b6; cases b6
  refine makeFunction_K (mg := mg) hcl eg B.g ec C hP ht hnf (Nat.ne_of_lt lP) ⟨bm, ob, b1, b2, hbG, bP bm b1, b3, b4, b5, b6⟩ fun c' ctv doc h' tk hx hge hlt hrec htb => ?_
  have kf : ∀ b o, h'.get? b = some o → (h'.push (fnMade name qual params body scope clos doc ((mg "__name__").getD .none) c' ctv)).get? b = some o := fun b o e => Heap.get?_push_of_some _ e
  have gf : (h'.push (fnMade name qual params body scope clos doc ((mg "__name__").getD .none) c' ctv)).get? h'.objs.size = some (fnMade name qual params body scope clos doc ((mg "__name__").getD .none) c' ctv) := Heap.get?_push_size _ rfl
  have hN' := kf _ _ (hx _ _ hPN.symm hN)
  have nN : N < s.heap.objs.size := Heap.lt_size hN
  have nP : P < s.heap.objs.size := Heap.lt_size hP
  refine store_cls (es := es) (n := n) (hs _) (by rw [el]; exact hN') hr fun h'' g1 g2 => ?_
  rw [el] at g1 g2
  have k2 : ∀ b o, b ≠ N → (h'.push (fnMade name qual params body scope clos doc ((mg "__name__").getD .none) c' ctv)).get? b = some o → h''.get? b = some o := fun b o q e => g2.extBut b o q e
  have fN : h'.objs.size ≠ N := Nat.ne_of_gt (Nat.lt_trans (Nat.lt_of_lt_of_le nN hge) hlt)
  have fP : h'.objs.size ≠ P := Nat.ne_of_gt (Nat.lt_trans (Nat.lt_of_lt_of_le nP hge) hlt)
  have cN : c' ≠ N := Nat.ne_of_gt (Nat.lt_of_lt_of_le nN hge)
  have cP : c' ≠ P := Nat.ne_of_gt (Nat.lt_of_lt_of_le nP hge)
  obtain ⟨c2, oc, vs, t, e1, e2, e3⟩ := hrec
  cases e1
  refine h h'.objs.size c' h'' _ _ (fun b o nb e => ?_) g1 (k2 _ _ hPN (kf _ _ htb)) ⟨c', ctv, doc, _, k2 _ _ fN gf, ⟨c', oc, vs, t, rfl, k2 _ _ cN (kf _ _ e2), e3⟩, fN, fP, cN, cP⟩
  simp only [List.mem_cons, List.not_mem_nil, or_false, not_or] at nb
  exact k2 b o nb.1 (kf _ _ (hx _ _ nb.2 e))
end
end Mine
end

-- part ClsD
section
set_option maxRecDepth 100000
set_option maxHeartbeats 4000000
namespace Mine
open PySem.Calls

def kE (w : World) (name : Str) (t : Tok) (v : Value) : DictEntry := ⟨PyData.keyHash w.params name, .str name t, v⟩
abbrev mSt (i : Nat) : Stmt := nth (fBody clsSt) i
abbrev mQual (n : Str) : Str := "cmp_to_key.<locals>.K." ++ n

section
variable {prog : Program} {w : World} {A : Around} {E : Value → Shared → Prop} {s : Shared} {mg mb : Str → Option Value} {h₀ : Heap} {L N cc P fr : Addr}

theorem cls_body {Q : Flow → Shared → Prop} {t1 t2 t3 t4 t5 t6 : Tok} (B : Bs w mg mb h₀) (hk : ∀ b o, h₀.get? b = some o → s.heap.get? b = some o) (nN : h₀.get? N = none) (nP : h₀.get? P = none) (lP : 3 < P)
    (hN : s.heap.get? N = some (dictOf [kE w "__module__" t1 (.str "law_nb0053_01" t2), kE w "__qualname__" t3 (.str "cmp_to_key.<locals>.K" t4), kE w "__firstlineno__" t5 (.int 7 t6)] 3)) (hP : s.heap.get? P = some (tabObj #[])) (C : CodeHd s.heap cc P)
    (h : ∀ h' tk sl lt a1 a2 a3 a4 a5 a6 a7 a8 a9 f1 f2 f3 f4 f5 f6, KB [N, P] s.heap h' → sl ≠ N → sl ≠ P → h'.get? sl = some { cls := .type "list", data := .seq #[.str "obj" lt] } →
      h'.get? N = some (dictOf [kE w "__module__" t1 (.str "cpy313.functools" a1), kE w "__qualname__" t3 (.str "cmp_to_key.<locals>.K" t4), kE w "__firstlineno__" t5 (.int 7 t6), kE w "__slots__" a2 (.ref sl),
        kE w "__init__" a3 (.ref f1), kE w "__lt__" a4 (.ref f2), kE w "__gt__" a5 (.ref f3), kE w "__eq__" a6 (.ref f4), kE w "__le__" a7 (.ref f5), kE w "__ge__" a8 (.ref f6), kE w "__hash__" a9 .none] 11) →
      FnK N P h' f1 "__init__" (mQual "__init__") (fArgs (mSt 2)) (fBody (mSt 2)) (fScope (mSt 2)) [] → FnK N P h' f2 "__lt__" (mQual "__lt__") (fArgs (mSt 3)) (fBody (mSt 3)) (fScope (mSt 3)) [("mycmp", L + 1)] →
      FnK N P h' f3 "__gt__" (mQual "__gt__") (fArgs (mSt 4)) (fBody (mSt 4)) (fScope (mSt 4)) [("mycmp", L + 1)] → FnK N P h' f4 "__eq__" (mQual "__eq__") (fArgs (mSt 5)) (fBody (mSt 5)) (fScope (mSt 5)) [("mycmp", L + 1)] →
      FnK N P h' f5 "__le__" (mQual "__le__") (fArgs (mSt 6)) (fBody (mSt 6)) (fScope (mSt 6)) [("mycmp", L + 1)] → FnK N P h' f6 "__ge__" (mQual "__ge__") (fArgs (mSt 7)) (fBody (mSt 7)) (fScope (mSt 7)) [("mycmp", L + 1)] → Q .next { s with heap := h', toks := tk }) :
    wpAny (model prog w) A (execs (fBody clsSt) (clsEnv L N cc fr)) Q E s := by
  have hPN : P ≠ N := fun q => by rw [q, hN] at hP; cases hP
  have kb : ∀ {h' : Heap}, KB [N, P] s.heap h' → Bs w mg mb h' := fun {h'} k => B.keeps fun b o e => k b o (by
    simp only [List.mem_cons, List.not_mem_nil, or_false, not_or]
    exact ⟨fun q => (by rw [q, nN] at e; cases e), fun q => (by rw [q, nP] at e; cases e)⟩) (hk _ _ e)
  have kc : ∀ {h' : Heap}, KB [N, P] s.heap h' → h'.get? P = h'.get? P → CodeHd h' cc P := fun {h'} k _ => by
    obtain ⟨o, vs, file, tf, flags, tg, inF, text, tt, ho, r⟩ := C
    refine ⟨o, vs, file, tf, flags, tg, inF, text, tt, k _ _ ?_ ho, r⟩
    simp only [List.mem_cons, List.not_mem_nil, or_false, not_or]
    exact ⟨fun q => (by rw [q, hN] at ho; cases ho; exact absurd (Value.type.inj r.1) (by decide)), r.2.2.2.2.2.2.2.2⟩
  have bP : ∀ bm, mg "__builtins__" = some (.ref bm) → bm ≠ P := fun bm e q => by
    obtain ⟨bm', ob, b1, b2, b3, _⟩ := B.bmain
    rw [e] at b1
    cases b1
    rw [q, nP] at b3
    cases b3
  refine wpAny_execs_cons (wpAny_Assign_Name (wpAny_Constant_str ?_))
  refine store_cls (s := { s with toks := s.toks + 1 }) rfl hN rfl fun h1 g1 e1 => ?_
  replace g1 : h1.get? N = some (dictOf [kE w "__module__" t1 (.str "cpy313.functools" s.toks), kE w "__qualname__" t3 (.str "cmp_to_key.<locals>.K" t4), kE w "__firstlineno__" t5 (.int 7 t6)] 3) := g1
  have k1 : KB [N, P] s.heap h1 := fun b o nb e => e1.extBut b o (fun q => nb (by rw [q]; exact List.mem_cons_self)) e
  have p1 : h1.get? P = some (tabObj #[]) := e1.extBut _ _ hPN hP
  refine wp_at { s with heap := h1, toks := s.toks + 1 + 1 } rfl ?_
  refine wpAny_execs_cons (wpAny_Assign_Name (wpAny_List (wpAny_items_cons (wpAny_Constant_str (wpAny_items_nil ⟨(by show 1 ≤ sizeLine; decide), ?_⟩)))))
  have n2 : Nw h1 h1.objs.size { cls := .type "list", data := .seq #[.str "obj" (s.toks + 1 + 1)] } (h1.push { cls := .type "list", data := .seq #[.str "obj" (s.toks + 1 + 1)] }) := nw_push rfl
  refine store_cls (s := { s with heap := h1.push { cls := .type "list", data := .seq #[.str "obj" (s.toks + 1 + 1)] }, toks := s.toks + 1 + 1 + 1 }) rfl (n2.keep _ _ g1) rfl fun h2 g2 e2 => ?_
  generalize hsl : h1.objs.size = sl at n2
  replace g2 : h2.get? N = some (dictOf [kE w "__module__" t1 (.str "cpy313.functools" s.toks), kE w "__qualname__" t3 (.str "cmp_to_key.<locals>.K" t4), kE w "__firstlineno__" t5 (.int 7 t6), kE w "__slots__" (s.toks + 1 + 1 + 1) (.ref sl)] 4) := hsl ▸ g2
  have slN : sl ≠ N := (n2.new _ _ g1).symm
  have slP : sl ≠ P := (n2.new _ _ p1).symm
  have k2 : KB [N, P] s.heap h2 := k1.trans fun b o nb e => e2.extBut b o (fun q => nb (by rw [q]; exact List.mem_cons_self)) (n2.keep _ _ e)
  have p2 : h2.get? P = some (tabObj #[]) := e2.extBut _ _ hPN (n2.keep _ _ p1)
  have s2 : h2.get? sl = some { cls := .type "list", data := .seq #[.str "obj" (s.toks + 1 + 1)] } := e2.extBut _ _ slN n2.at_
  refine wp_at { s with heap := h2, toks := s.toks + 1 + 1 + 1 + 1 } rfl ?_
  refine wpAny_execs_cons (def_cls (s := { s with heap := h2, toks := s.toks + 1 + 1 + 1 + 1 }) (N := N) (cc := cc) (P := P) (clos := []) (qual := mQual "__init__") (kb k2) g2 p2 (kc k2 rfl) (by exact trivial) lP bP rfl rfl rfl rfl rfl rfl rfl rfl (by rfl) (fun _ => rfl) rfl fun f1 c3 h3 tk3 u3 l3 g3 p3 F1 => ?_)
  replace g3 : h3.get? N = some (dictOf [kE w "__module__" t1 (.str "cpy313.functools" s.toks), kE w "__qualname__" t3 (.str "cmp_to_key.<locals>.K" t4), kE w "__firstlineno__" t5 (.int 7 t6), kE w "__slots__" (s.toks + 1 + 1 + 1) (.ref sl), kE w "__init__" u3 (.ref f1)] 5) := g3
  replace p3 : h3.get? P = some (tabObj #[rawInt (Int.ofNat 11), rawInt (Int.ofNat 8), .ref c3]) := p3
  have k3 := k2.trans l3
  refine wp_at { s with heap := h3, toks := tk3 } rfl ?_
  refine wpAny_execs_cons (def_cls (s := { s with heap := h3, toks := tk3 }) (N := N) (cc := cc) (P := P) (clos := [("mycmp", L + 1)]) (qual := mQual "__lt__") (kb k3) g3 p3 (kc k3 rfl) (by exact trivial) lP bP rfl rfl rfl rfl rfl rfl rfl rfl (by rfl) (fun _ => rfl) rfl fun f2 c4 h4 tk4 u4 l4 g4 p4 F2 => ?_)
  replace g4 : h4.get? N = some (dictOf [kE w "__module__" t1 (.str "cpy313.functools" s.toks), kE w "__qualname__" t3 (.str "cmp_to_key.<locals>.K" t4), kE w "__firstlineno__" t5 (.int 7 t6), kE w "__slots__" (s.toks + 1 + 1 + 1) (.ref sl), kE w "__init__" u3 (.ref f1), kE w "__lt__" u4 (.ref f2)] 6) := g4
  replace p4 : h4.get? P = some (tabObj #[rawInt (Int.ofNat 11), rawInt (Int.ofNat 8), .ref c3, rawInt (Int.ofNat 14), rawInt (Int.ofNat 8), .ref c4]) := p4
  have k4 := k3.trans l4
  refine wp_at { s with heap := h4, toks := tk4 } rfl ?_
  refine wpAny_execs_cons (def_cls (s := { s with heap := h4, toks := tk4 }) (N := N) (cc := cc) (P := P) (clos := [("mycmp", L + 1)]) (qual := mQual "__gt__") (kb k4) g4 p4 (kc k4 rfl) (by exact trivial) lP bP rfl rfl rfl rfl rfl rfl rfl rfl (by rfl) (fun _ => rfl) rfl fun f3 c5 h5 tk5 u5 l5 g5 p5 F3 => ?_)
  replace g5 : h5.get? N = some (dictOf [kE w "__module__" t1 (.str "cpy313.functools" s.toks), kE w "__qualname__" t3 (.str "cmp_to_key.<locals>.K" t4), kE w "__firstlineno__" t5 (.int 7 t6), kE w "__slots__" (s.toks + 1 + 1 + 1) (.ref sl), kE w "__init__" u3 (.ref f1), kE w "__lt__" u4 (.ref f2), kE w "__gt__" u5 (.ref f3)] 7) := g5
  replace p5 : h5.get? P = some (tabObj #[rawInt (Int.ofNat 11), rawInt (Int.ofNat 8), .ref c3, rawInt (Int.ofNat 14), rawInt (Int.ofNat 8), .ref c4, rawInt (Int.ofNat 17), rawInt (Int.ofNat 8), .ref c5]) := p5
  have k5 := k4.trans l5
  refine wp_at { s with heap := h5, toks := tk5 } rfl ?_
  refine wpAny_execs_cons (def_cls (s := { s with heap := h5, toks := tk5 }) (N := N) (cc := cc) (P := P) (clos := [("mycmp", L + 1)]) (qual := mQual "__eq__") (kb k5) g5 p5 (kc k5 rfl) (by exact trivial) lP bP rfl rfl rfl rfl rfl rfl rfl rfl (by rfl) (fun _ => rfl) rfl fun f4 c6 h6 tk6 u6 l6 g6 p6 F4 => ?_)
  replace g6 : h6.get? N = some (dictOf [kE w "__module__" t1 (.str "cpy313.functools" s.toks), kE w "__qualname__" t3 (.str "cmp_to_key.<locals>.K" t4), kE w "__firstlineno__" t5 (.int 7 t6), kE w "__slots__" (s.toks + 1 + 1 + 1) (.ref sl), kE w "__init__" u3 (.ref f1), kE w "__lt__" u4 (.ref f2), kE w "__gt__" u5 (.ref f3), kE w "__eq__" u6 (.ref f4)] 8) := g6
  replace p6 : h6.get? P = some (tabObj #[rawInt (Int.ofNat 11), rawInt (Int.ofNat 8), .ref c3, rawInt (Int.ofNat 14), rawInt (Int.ofNat 8), .ref c4, rawInt (Int.ofNat 17), rawInt (Int.ofNat 8), .ref c5, rawInt (Int.ofNat 20), rawInt (Int.ofNat 8), .ref c6]) := p6
  have k6 := k5.trans l6
  refine wp_at { s with heap := h6, toks := tk6 } rfl ?_
  refine wpAny_execs_cons (def_cls (s := { s with heap := h6, toks := tk6 }) (N := N) (cc := cc) (P := P) (clos := [("mycmp", L + 1)]) (qual := mQual "__le__") (kb k6) g6 p6 (kc k6 rfl) (by exact trivial) lP bP rfl rfl rfl rfl rfl rfl rfl rfl (by rfl) (fun _ => rfl) rfl fun f5 c7 h7 tk7 u7 l7 g7 p7 F5 => ?_)
  replace g7 : h7.get? N = some (dictOf [kE w "__module__" t1 (.str "cpy313.functools" s.toks), kE w "__qualname__" t3 (.str "cmp_to_key.<locals>.K" t4), kE w "__firstlineno__" t5 (.int 7 t6), kE w "__slots__" (s.toks + 1 + 1 + 1) (.ref sl), kE w "__init__" u3 (.ref f1), kE w "__lt__" u4 (.ref f2), kE w "__gt__" u5 (.ref f3), kE w "__eq__" u6 (.ref f4), kE w "__le__" u7 (.ref f5)] 9) := g7
  replace p7 : h7.get? P = some (tabObj #[rawInt (Int.ofNat 11), rawInt (Int.ofNat 8), .ref c3, rawInt (Int.ofNat 14), rawInt (Int.ofNat 8), .ref c4, rawInt (Int.ofNat 17), rawInt (Int.ofNat 8), .ref c5, rawInt (Int.ofNat 20), rawInt (Int.ofNat 8), .ref c6, rawInt (Int.ofNat 23), rawInt (Int.ofNat 8), .ref c7]) := p7
  have k7 := k6.trans l7
  refine wp_at { s with heap := h7, toks := tk7 } rfl ?_
  refine wpAny_execs_cons (def_cls (s := { s with heap := h7, toks := tk7 }) (N := N) (cc := cc) (P := P) (clos := [("mycmp", L + 1)]) (qual := mQual "__ge__") (kb k7) g7 p7 (kc k7 rfl) (by exact trivial) lP bP rfl rfl rfl rfl rfl rfl rfl rfl (by rfl) (fun _ => rfl) rfl fun f6 c8 h8 tk8 u8 l8 g8 p8 F6 => ?_)
  replace g8 : h8.get? N = some (dictOf [kE w "__module__" t1 (.str "cpy313.functools" s.toks), kE w "__qualname__" t3 (.str "cmp_to_key.<locals>.K" t4), kE w "__firstlineno__" t5 (.int 7 t6), kE w "__slots__" (s.toks + 1 + 1 + 1) (.ref sl), kE w "__init__" u3 (.ref f1), kE w "__lt__" u4 (.ref f2), kE w "__gt__" u5 (.ref f3), kE w "__eq__" u6 (.ref f4), kE w "__le__" u7 (.ref f5), kE w "__ge__" u8 (.ref f6)] 10) := g8
  replace p8 : h8.get? P = some (tabObj #[rawInt (Int.ofNat 11), rawInt (Int.ofNat 8), .ref c3, rawInt (Int.ofNat 14), rawInt (Int.ofNat 8), .ref c4, rawInt (Int.ofNat 17), rawInt (Int.ofNat 8), .ref c5, rawInt (Int.ofNat 20), rawInt (Int.ofNat 8), .ref c6, rawInt (Int.ofNat 23), rawInt (Int.ofNat 8), .ref c7, rawInt (Int.ofNat 26), rawInt (Int.ofNat 8), .ref c8]) := p8
  have k8 := k7.trans l8
  refine wp_at { s with heap := h8, toks := tk8 } rfl ?_
  refine wpAny_execs_cons (wpAny_Assign_Name (wpAny_Constant_none ?_))
  refine store_cls (s := { s with heap := h8, toks := tk8 }) rfl g8 rfl fun h9 g9 e9 => ?_
  replace g9 : h9.get? N = some (dictOf [kE w "__module__" t1 (.str "cpy313.functools" s.toks), kE w "__qualname__" t3 (.str "cmp_to_key.<locals>.K" t4), kE w "__firstlineno__" t5 (.int 7 t6), kE w "__slots__" (s.toks + 1 + 1 + 1) (.ref sl), kE w "__init__" u3 (.ref f1), kE w "__lt__" u4 (.ref f2), kE w "__gt__" u5 (.ref f3), kE w "__eq__" u6 (.ref f4), kE w "__le__" u7 (.ref f5), kE w "__ge__" u8 (.ref f6), kE w "__hash__" tk8 .none] 11) := g9
  have l9 : KB [N, P] h8 h9 := fun b o nb e => e9.extBut b o (fun q => nb (by rw [q]; exact List.mem_cons_self)) e
  refine wpAny_execs_nil ?_
  have l8 := l8.trans l9
  have l7 := l7.trans l8
  have l6 := l6.trans l7
  have l5 := l5.trans l6
  have l4 := l4.trans l5
  have l3 := l3.trans l4
  have sP : sl ∉ [N, P] := by simp only [List.mem_cons, List.not_mem_nil, or_false, not_or]; exact ⟨slN, slP⟩
  exact h h9 _ sl _ _ _ _ _ _ _ _ _ _ f1 f2 f3 f4 f5 f6 (k2.trans l3) slN slP (l3 _ _ sP s2) g9 (F1.kb l4) (F2.kb l5) (F3.kb l6) (F4.kb l7) (F5.kb l8) (F6.kb l9)
end
end Mine
end

-- part SlotR
section
set_option maxRecDepth 100000
set_option maxHeartbeats 4000000
namespace Mine
open PySem.Calls
local macro_rules | `(tactic| tb_start) => `(tactic| first
  | with_reducible refine Looks.at (by assumption) ?_
  | (with_reducible refine wpAny_bind ?_; try k_fold) | (with_reducible refine nd_bind ?_; try k_fold) | with_reducible refine wpAny_holding ?_ | with_reducible refine wpAny_onRaise ?_
  | k_unfold
  | k_node)
section
variable {prog : Program} {w : World} {A : Around} {E : Value → Shared → Prop} {s : Shared} {mg mb : Str → Option Value}

theorem slots_read {es : Array DictEntry} {e : DictEntry} {sl : Addr} {lt : Tok} {Q : Builtin.Slots.Plan → Shared → Prop} (he : es.find? (·.key.isStr "__slots__") = some e) (hv : e.val = .ref sl)
    (hsl : s.heap.get? sl = some { cls := .type "list", data := .seq #[.str "obj" lt] }) (hno : es.any (·.key.isStr "obj") = false)
    (h : ∀ h', (∀ b o, s.heap.get? b = some o → h'.get? b = some o) → Q ⟨["obj"], false, false, []⟩ { s with heap := h' }) :
    wpAny (model prog w) A (Builtin.Slots.read "K" [.type "object"] es) Q E s := by
  unfold Builtin.Slots.read
  refine wpAny_bind (wpAny_of_eq (a := Value.type "object") (by kernel_rfl) ?_)
  refine wpAny_bind (wpAny_of_eq (a := []) (by kernel_rfl) ?_)
  refine wpAny_bind (wpAny_of_eq (a := false) (by kernel_rfl) ?_)
  refine wpAny_bind (wpAny_of_eq (a := false) (by kernel_rfl) ?_)
  refine wpAny_bind (wpAny_of_eq (a := false) (by kernel_rfl) ?_)
  rw [he]
  dsimp only
  rw [hv]
  refine wpAny_bind (wpAny_rule ?_)
  refine wpAny_bind (wpAny_bind (wpAny_load hsl (wpAny_pure ?_)))
  refine wp_neg (by simp) ?_
  refine wpAny_bind (collect_list (vs := [.str "obj" lt]) ⟨_, hsl, rfl, _, rfl⟩ ?_ (by show 1 ≤ sizeLine; decide))
  have k1 : ∀ b o, s.heap.get? b = some o → ((s.heap.push (seqObj "list" #[] 0)).update s.heap.objs.size (Obj.mapSeq (· ++ [Value.str "obj" lt].toArray))).get? b = some o := fun b o q => by
    rw [Heap.get?_update_ne _ _ _ _ (Nat.ne_of_lt (Heap.lt_size q)), Heap.get?_push_ne _ _ _ (Nat.ne_of_lt (Heap.lt_size q))]; exact q
  generalize (s.heap.push (seqObj "list" #[] 0)).update s.heap.objs.size (Obj.mapSeq (· ++ [Value.str "obj" lt].toArray)) = h1 at k1
  refine wp_pos (by simp) (wpAny_bind (wpAny_of_eq (a := false) (by kernel_rfl) (wp_neg (by simp) ?_)))
  refine wpAny_bind (wpAny_of_eq (a := (false, false, #[Str.ofString "obj"], [])) (by kernel_rfl) ?_)
  have em : Builtin.Slots.mangle "K" "obj" = "obj" := by kernel_rfl
  have e2 : es.any (fun x => x.key.isStr (Builtin.Slots.mangle "K" "obj")) = false := by rw [em]; exact hno
  refine wpAny_bind ?_
  dsimp only
  rw [← Array.forIn_toList, show (#[Str.ofString "obj"] : Array Str).toList = [Str.ofString "obj"] from rfl, List.forIn_cons]
  refine wpAny_bind ?_
  rw [em]
  refine wp_neg (by decide +kernel) (wp_neg (by rw [hno]; simp) (wp_neg (by decide +kernel) (wpAny_pure (wpAny_pure ?_))))
  refine wpAny_bind (wpAny_of_eq (a := (false, false)) (by kernel_rfl) ?_)
  exact wpAny_pure (h h1 k1)

theorem newObj_n {ty : String} {data : Data} {Q : Value → Shared → Prop} (hs : sizeOk data) (hf : ({ cls := .type ty, data } : Obj).isFreed = false) (h : ∀ a h', Nw s.heap a { cls := .type ty, data } h' → Q (.ref a) { s with heap := h' }) : wpAny (model prog w) A (newObj (.type ty) data) Q E s :=
  wpAny_newObj_type (h _ _ (nw_push hf)) hs
theorem alloc_n {o : Obj} {Q : Addr → Shared → Prop} (hf : o.isFreed = false) (h : ∀ a h', Nw s.heap a o h' → Q a { s with heap := h' }) : wpAny (model prog w) A (alloc o) Q E s := wpAny_alloc (h _ _ (nw_push hf))
/-- an object changed -/
structure Ch (h : Heap) (a : Addr) (o : Obj) (h' : Heap) : Prop where
  at_ : h'.get? a = some o
  keep : ∀ b x, b ≠ a → h.get? b = some x → h'.get? b = some x
theorem updPart_n {a : Addr} {part : Option Value} {f : Obj → Obj} {o : Obj} {Q : Unit → Shared → Prop} (ho : s.heap.get? a = some o) (hf : (f o).isFreed = false) (h : ∀ h', Ch s.heap a (f o) h' → Q () { s with heap := h' }) : wpAny (model prog w) A (updatePart a part f) Q E s :=
  wpAny_updatePart ho (h _ ⟨Heap.get?_update_self _ ho hf, fun b x n e => (Heap.SameBut.update ..).extBut b x n e⟩)
theorem upd_n {a : Addr} {f : Obj → Obj} {o : Obj} {Q : Unit → Shared → Prop} (ho : s.heap.get? a = some o) (hf : (f o).isFreed = false) (h : ∀ h', Ch s.heap a (f o) h' → Q () { s with heap := h' }) : wpAny (model prog w) A (update a f) Q E s :=
  wpAny_update ho (h _ ⟨Heap.get?_update_self _ ho hf, fun b x n e => (Heap.SameBut.update ..).extBut b x n e⟩)
theorem setSlot_n {a : Addr} {i : Nat} {v : Option Value} {c : Value} {dd : Option Addr} {data : Data} {sl : Array (Option Value)} {Q : Unit → Shared → Prop} (ho : s.heap.get? a = some ⟨c, dd, data, sl⟩) (hi : i < sizeLine) (hf : (⟨c, dd, data, sl⟩ : Obj).isFreed = false)
    (h : ∀ h', Ch s.heap a ⟨c, dd, data, (sl ++ Array.replicate (i + 1 - sl.size) none).setIfInBounds i v⟩ h' → Q () { s with heap := h' }) : wpAny (model prog w) A (setSlotAt a i v) Q E s := by
  unfold setSlotAt
  exact wp_neg (Nat.not_le.mpr hi) (updPart_n ho (by cases data <;> first | rfl | cases hf) h)
/-- a name asked of a namespace that is written out -/
theorem nsGet_w {ns : Addr} {name : Str} {es : List DictEntry} {n : Nat} {r : Option Value} {Q : Option Value → Shared → Prop} (ho : s.heap.get? ns = some (dictOf es n)) (hr : getL name es = some r) (h : Q r s) : wpAny (model prog w) A (nsGet ns name) Q E s := by
  unfold nsGet
  exact wpAny_bind (wpAny_loadPart ho (wpAny_of_eq (nsLook_of (by rw [lookIn_dict]; exact hr)) h))
end
end Mine
end

-- part LookK
section
set_option maxRecDepth 100000
set_option maxHeartbeats 4000000
namespace Mine
open PySem.Calls

/-- a class laid by the call, right below object, and its namespace -/
structure Cl (h : Heap) (C ns : Addr) (cd : ClassData) (sl : Array (Option Value)) (es : List DictEntry) (n : Nat) : Prop where
  at_ : h.get? C = some ⟨.type "type", none, .cls cd, sl⟩
  mro : cd.mro = [.ref C, .type "object"]
  nsa : cd.ns = ns
  ns_ : h.get? ns = some (dictOf es n)
theorem Cl.keeps {h h' : Heap} {C ns : Addr} {cd : ClassData} {sl : Array (Option Value)} {es : List DictEntry} {n : Nat} (x : Cl h C ns cd sl es n) (k : ∀ b o, h.get? b = some o → h'.get? b = some o) : Cl h' C ns cd sl es n := ⟨k _ _ x.at_, x.mro, x.nsa, k _ _ x.ns_⟩
theorem Cl.ne {h : Heap} {C ns : Addr} {cd : ClassData} {sl : Array (Option Value)} {es : List DictEntry} {n : Nat} (x : Cl h C ns cd sl es n) : ns ≠ C := fun q => by
  have a := x.at_; have b := x.ns_; rw [q, a] at b; exact absurd (congrArg Obj.cls (Option.some.inj b)) (by intro e; exact absurd (Value.type.inj e) (by decide))
def frK (C ns : Addr) (cd : ClassData) (sl : Array (Option Value)) (es : List DictEntry) (n : Nat) : Frag := [(C, ⟨.type "type", none, .cls cd, sl⟩), (ns, dictOf es n)]
theorem Cl.in_ {h : Heap} {C ns : Addr} {cd : ClassData} {sl : Array (Option Value)} {es : List DictEntry} {n : Nat} (x : Cl h C ns cd sl es n) : (frK C ns cd sl es n).In h := by
  intro a o e
  unfold frK at e
  simp only [List.lookup] at e
  split at e
  · rename_i q; cases e; rw [beq_iff_eq.mp q]; exact x.at_
  · split at e
    · rename_i q; cases e; rw [beq_iff_eq.mp q]; exact x.ns_
    · cases e
section
variable {M : Model} {h : Heap} {C ns : Addr} {cd : ClassData} {sl : Array (Option Value)} {es : List DictEntry} {n : Nat}
theorem Cl.look1 (_x : Cl h C ns cd sl es n) : (frK C ns cd sl es n).lookup C = some ⟨.type "type", none, .cls cd, sl⟩ := by simp [frK]
theorem Cl.look2 (x : Cl h C ns cd sl es n) : (frK C ns cd sl es n).lookup ns = some (dictOf es n) := by
  have hne : (ns == C) = false := by rw [beq_eq_false_iff_ne]; exact x.ne
  simp [frK, List.lookup, hne]
theorem Cl.own (x : Cl h C ns cd sl es n) (name : Str) : ownIn (frK C ns cd sl es n) name (.ref C) = getL name es := by
  simp only [ownIn, x.look1, x.nsa, nsIn, x.look2]
  rfl
/-- a name of the class's own -/
theorem Cl.find1 (x : Cl h C ns cd sl es n) {name : Str} {v : Value} (e : getL name es = some (some v)) : findIn (frK C ns cd sl es n) (.ref C) name = some (some v) := by
  simp only [findIn, x.look1, x.mro, alongIn, x.own, e]
/-- a name that the class has not -/
theorem Cl.find0 (x : Cl h C ns cd sl es n) {name : Str} {r : Option Value} (e : getL name es = some none) (e' : fastBuiltinOwn "object" name = r) : findIn (frK C ns cd sl es n) (.ref C) name = some r := by
  have o2 : ownIn (frK C ns cd sl es n) name (.type "object") = some r := by simp only [ownIn, e']
  simp only [findIn, x.look1, x.mro, alongIn, x.own, e, o2]
  cases r <;> rfl
theorem Cl.looks1 (x : Cl h C ns cd sl es n) {name : Str} {v : Value} (e : getL name es = some (some v)) : Looks M h (typeLookup (.ref C) name) (some v) := looks_findIn x.in_ (x.find1 e)
theorem Cl.looks0 (x : Cl h C ns cd sl es n) {name : Str} {r : Option Value} (e : getL name es = some none) (e' : fastBuiltinOwn "object" name = r) : Looks M h (typeLookup (.ref C) name) r := looks_findIn x.in_ (x.find0 e e')
end
section
variable {prog : Program} {w : World} {A : Around} {E : Value → Shared → Prop} {s : Shared}
theorem nsDel_w {ns : Addr} {name : Str} {es es' : List DictEntry} {n n' : Nat} {Q : Bool → Shared → Prop} (ho : s.heap.get? ns = some (dictOf es n)) (hh : nsHas name (dictOf es n) = pure true) (hd : Obj.dropName name (dictOf es n) = dictOf es' n')
    (h : ∀ h', Ch s.heap ns (dictOf es' n') h' → Q true { s with heap := h' }) : wpAny (model prog w) A (nsDel ns name) Q E s := by
  unfold nsDel
  refine wpAny_bind (wpAny_loadPart ho (wpAny_bind (wpAny_of_eq hh (wp_pos rfl (wpAny_bind (updPart_n ho (by rw [hd]; rfl) fun h' c => ?_))))))
  rw [hd] at c
  exact wpAny_pure (h h' c)
theorem updCls_n {C : Addr} {c : Value} {dd : Option Addr} {cd : ClassData} {sl : Array (Option Value)} {f : ClassData → ClassData} {Q : Unit → Shared → Prop} (ho : s.heap.get? C = some ⟨c, dd, .cls cd, sl⟩) (hz : (Data.cls (f cd)).pastItsLine = none)
    (h : ∀ h', Ch s.heap C ⟨c, dd, .cls (f cd), sl⟩ h' → Q () { s with heap := h' }) : wpAny (model prog w) A (updateCls C f) Q E s := by
  unfold updateCls
  refine wpAny_bind (wpAny_load ho ?_)
  refine wpAny_bind (upd_n ho rfl fun h' c' => ?_)
  unfold lookBehind
  refine wpAny_bind (wpAny_loadPart c'.at_ ?_)
  show wpAny _ _ (match (Data.cls (f cd)).pastItsLine with | some what => unsupported what | _ => pure ()) _ _ _
  rw [hz]
  exact wpAny_pure (h h' c')
theorem nsSetBV_w {ns : Addr} {name : Str} {v : Value} {es : List DictEntry} {n : Nat} {Q : Unit → Shared → Prop} (ho : s.heap.get? ns = some (dictOf es n)) (hz : es.length ≤ sizeLine) (hr : aRefKeyMayBeTheName name es.toArray = false)
    (h : ∀ h', h'.get? ns = some (dictOf (putL name (PyData.keyHash w.params name) (.str name s.toks) v es) (putN name es n)) → Heap.SameBut ns s.heap h' → Q () { s with heap := h', toks := s.toks + 1 }) :
    wpAny (model prog w) A (nsSetByValue ns name v) Q E s := by
  unfold nsSetByValue
  refine wpAny_bind (wpAny_loadPart ho ?_)
  refine wp_neg (by rw [List.size_toArray]; simp only [Bool.and_eq_true, decide_eq_true_eq, not_and]; intro q; omega) ?_
  exact nsSet_w ho hr h
end
end Mine
end

-- part SupK
section
set_option maxRecDepth 100000
set_option maxHeartbeats 4000000
namespace Mine
open PySem.Calls
section
variable {prog : Program} {w : World} {A : Around} {E : Value → Shared → Prop} {s : Shared} {mg mb : Str → Option Value} {h : Heap} {g : Array GenState} {d : Drawn} {t : Nat} {os : OsState} {C ns : Addr} {cd : ClassData} {sl : Array (Option Value)} {es : List DictEntry} {n : Nat}

theorem Cl.typ (x : Cl h C ns cd sl es n) {M : Model} : Looks M h (typeOf (.ref C)) (.type "type") := (Looks.ld x.at_).andThen .now
theorem Cl.clsIn_ (x : Cl h C ns cd sl es n) : clsIn (frK C ns cd sl es n) C = some cd := by unfold clsIn; rw [x.look1]
theorem Cl.mroL (x : Cl h C ns cd sl es n) {M : Model} : Looks M h (mroOf (.ref C)) [.ref C, .type "object"] := x.mro ▸ (looks_clsIn x.in_ x.clsIn_).andThen .now
theorem Cl.subSelf (x : Cl h C ns cd sl es n) {M : Model} : Looks M h (isSubtype (.ref C) (.ref C)) true := looks_mroIn x.in_ (by unfold mroIn; rw [x.clsIn_, Option.bind_some, x.mro]; simp)
theorem Cl.subObj (x : Cl h C ns cd sl es n) {M : Model} : Looks M h (isSubtype (.ref C) (.type "object")) true := looks_mroIn x.in_ (by unfold mroIn; rw [x.clsIn_, Option.bind_some, x.mro]; simp)

theorem super_cls {Q : Value → Shared → Prop} (x : Cl h C ns cd sl es n)
    (hq : ∀ so h', h'.get? so = some { cls := .type "super", dict := none, data := .fields #[.ref C, .ref C, .ref C], slots := #[] } → (∀ y o, h.get? y = some o → h'.get? y = some o) → Q (.ref so) ⟨h', g, d, t, os⟩) :
    wpAny (model prog w) A (call (.type "super") [.ref C, .ref C]) Q E ⟨h, g, d, t, os⟩ := by
  refine ks_callType_codesW (Q₁ := fun obj s₁ => obj = .ref h.objs.size ∧ s₁ = ⟨h.push { cls := .type "super", data := .fields #[.none, .none, .none] }, g, d, t, os⟩) F.ks_called_super (ks_wpAny_checkTypeCall_super x.at_ rfl) F.ks_entry_super_init
    (ks_code_super_new _ _ ⟨rfl, rfl⟩) fun obj s₁ h₁ => ?_
  obtain ⟨rfl, rfl⟩ := h₁
  have up : ∀ y o, h.get? y = some o → (h.push { cls := .type "super", data := .fields #[.none, .none, .none] }).get? y = some o := fun y o e => Heap.get?_push_of_some _ e
  have hso : (h.push { cls := .type "super", data := .fields #[.none, .none, .none] }).get? h.objs.size = some { cls := .type "super", dict := none, data := .fields #[.none, .none, .none], slots := #[] } := Heap.get?_push_at rfl rfl
  have x' := x.keeps up
  refine ⟨⟨_, hso, rfl⟩, F.ks_initArgs_super _ _ _, ?_⟩
  unfold Builtin.«super.__init__»
  refine wpAny_bind (wpAny_of_eq (a := ()) (by rfl) ?_)
  refine wpAny_bind (wpAny_pure ?_)
  refine wpAny_bind (ks_wpAny_isType_cls x'.at_ rfl ?_)
  refine wp_neg (by simp) ?_
  refine wp_neg (by simp) ?_
  refine wpAny_bind ?_
  refine wpAny_bind (ks_wpAny_isType_cls x'.at_ rfl (wp_pos rfl ?_))
  refine wpAny_bind (x'.subSelf.at (wp_pos rfl (wpAny_pure ?_)))
  refine ks_wpAny_super_set3 hso fun h' e k => ?_
  exact ⟨rfl, hq _ h' e fun y o ey => k y o (Nat.ne_of_lt (Heap.lt_size ey)) (up y o ey)⟩

theorem super_isub {so : Addr} {Q : Value → Shared → Prop} (x : Cl h C ns cd sl es n) (B : Bs w mg mb h) (hso : h.get? so = some { cls := .type "super", dict := none, data := .fields #[.ref C, .ref C, .ref C], slots := #[] })
    (hq : ∀ a h', Nw h a { cls := .type "builtin_function_or_method", data := .fields #[.builtin "object.__init_subclass__", .ref C] } h' → Q (.ref a) ⟨h', g, d, t + 1, os⟩) :
    wpAny (model prog w) A (getAttr (.ref so) "__init_subclass__") Q E ⟨h, g, d, t, os⟩ := by
  have hlk := F.ks_slot_super_ga.lookup
  have hT : ∀ t', (⟨h, g, d, t', os⟩ : Shared).TypeIs (.ref so) "super" := fun _ => ⟨_, hso, rfl⟩
  unfold getAttr getAttrBy
  refine wpAny_bind (wpAny_mkText (wpAny_holding (wpAny_bind (wpAny_typeOf (hT _) (wpAny_bind (wpAny_of_eq hlk ?_))))))
  show wpAny _ _ (getAttrByItsOwn (.ref so) (.str "__init_subclass__" t) (.type "super") (.builtin "super.__getattribute__") true false) _ _ _
  unfold getAttrByItsOwn hookBefore callGetattribute boundAndCalled
  refine wpAny_bind (wpAny_of_eq (show (if onTheHeap (.type "super") then typeLookup (.type "super") "__getattr__" else pure none) = pure none from rfl) ?_)
  refine wpAny_bind (wpAny_attempt (wpAny_holding ?_))
  show wpAny _ _ (bindSpecial (.builtin "super.__getattribute__") (.ref so) >>= _) _ _ _
  refine wpAny_bind (wpAny_of_eq (F.ks_slot_super_ga.bind _) ?_)
  refine wpAny_mono (Q := fun v s' => ∃ a h', v = .ref a ∧ s' = ⟨h', g, d, t + 1, os⟩ ∧ Nw h a { cls := .type "builtin_function_or_method", data := .fields #[.builtin "object.__init_subclass__", .ref C] } h') (E := fun _ _ => False)
    (wpAny_call_entry F.ks_slot_super_ga (hT _) F.ks_entry_super_ga ?_ (F.ks_gaArgs_super _ _)) (fun v s' hv => ?_) fun _ _ z => z.elim
  · have hno : Looks (model prog w) h (opaqueClassAbove (.ref C)) none := looks_opaque (K := KF w) B.X (by rfl)
    unfold Builtin.«super.__getattribute__»
    refine wpAny_bind (wpAny_pure (wp_neg (by simp) ?_))
    refine wpAny_bind (wpAny_pure ?_)
    refine wpAny_bind (wpAny_field hso rfl (i := 0) (x := .ref C) rfl ?_)
    refine wpAny_bind (wpAny_field hso rfl (i := 1) (x := .ref C) rfl ?_)
    refine wpAny_bind (wpAny_field hso rfl (i := 2) (x := .ref C) rfl ?_)
    refine wp_neg (by rw [show (Value.ref C == Value.none) = false from rfl, Bool.false_or]; decide +kernel) ?_
    refine wpAny_bind (ks_wpAny_notOpaque hno ?_)
    refine wp_neg (by simp) ?_
    refine wpAny_bind (x.mroL.at ?_)
    have e1 : ([Value.ref C, Value.type "object"].dropWhile (fun y => y != Value.ref C)).drop 1 = [Value.type "object"] := by simp
    dsimp only
    rw [e1, List.forIn_cons]
    refine wpAny_bind (wpAny_bind ?_)
    refine wpAny_bind (wpAny_of_eq (a := some (.builtin "object.__init_subclass__")) (by kernel_rfl) ?_)
    refine wpAny_bind (wpAny_of_eq (a := Value.type "classmethod_descriptor") (by kernel_rfl) ?_)
    refine wpAny_bind (wpAny_of_eq (a := some (.builtin "classmethod_descriptor.__get__")) (by kernel_rfl) ?_)
    rw [show (if (Value.ref C == Value.ref C) = true then Value.none else Value.ref C) = Value.none from by simp]
    refine wpAny_bind (wpAny_holding (bcall (b := Builtin.«classmethod_descriptor.__get__») (by decide +kernel) (entryFor_of_fast (by kernel_rfl)) ?_))
    refine wpAny_of_eq (a := ()) (by kernel_rfl) ?_
    unfold Builtin.«classmethod_descriptor.__get__»
    refine wpAny_bind (wpAny_of_eq (a := (.builtin "object.__init_subclass__", none, some (.ref C))) (by kernel_rfl) ?_)
    refine wpAny_bind (wpAny_pure ?_)
    refine wpAny_bind (ks_wpAny_isType_cls x.at_ rfl (wp_neg (by simp) ?_))
    refine wpAny_bind (wp_eq (t' := isSubtype (.ref C) (.type "object")) (by kernel_rfl) (x.subObj.at (wp_neg (by simp) ?_)))
    refine wpAny_bind (newObj_n (by show 2 ≤ _; decide) rfl fun a h' N => ?_)
    refine wpAny_pure ⟨_, rfl, ?_⟩
    refine wpAny_bind (wpAny_pure (wpAny_pure (wpAny_pure (wpAny_pure ⟨_, rfl, a, h', rfl, rfl, N⟩))))
  · obtain ⟨a, h', rfl, rfl, N⟩ := hv
    exact wpAny_pure (hq _ _ N)

theorem isub_call {q : Addr} {Q : Value → Shared → Prop} (x : Cl h C ns cd sl es n) (hqn : cd.qualname = "cmp_to_key.<locals>.K") (hqo : h.get? q = some { cls := .type "builtin_function_or_method", data := .fields #[.builtin "object.__init_subclass__", .ref C] })
    (hq : Q .none ⟨h, g, d, t, os⟩) : wpAny (model prog w) A (call (.ref q) [] []) Q E ⟨h, g, d, t, os⟩ := by
  refine wpAny_call (codeAny_of_tree ?_)
  show wpAny _ _ (callAny (.ref q) _) _ _ _
  refine nd_load hqo ?_
  show wpAny _ _ (do checkBoundCall "object.__init_subclass__" ⟨[.ref C], []⟩; again (.builtin "object.__init_subclass__" ⟨[.ref C], []⟩)) _ _ _
  refine wpAny_bind ?_
  unfold checkBoundCall
  rw [show Manifest.signature? "object.__init_subclass__" = some ⟨.noArgs, "object.__init_subclass__", "__init_subclass__", .cls, []⟩ from by kernel_rfl, show builtinKind "object.__init_subclass__" = some .classMethod from by decide +kernel]
  refine wp_neg (by decide) ?_
  refine wpAny_bind (m := isInstance _ _) ((x.typ.andThen (b := false) (Looks.of_pure (by kernel_rfl))).at ?_)
  refine wp_neg (by decide +kernel) ?_
  refine wpAny_bind (ks_wpAny_isType_cls x.at_ rfl (wp_pos rfl (wpAny_bind (wpAny_pure ?_))))
  refine wpAny_bind ((looks_clsIn x.in_ x.clsIn_).at ?_)
  refine wpAny_bind (x.typ.at (wp_pos (by decide) ?_))
  rw [hqn]
  refine wpAny_of_eq (a := ()) (by kernel_rfl) ?_
  refine wpAny_pure (And.intro (Code.quiet_builtin _ (by decide +kernel)) ?_)
  refine codeAny_builtin (b := Builtin.«object.__init_subclass__») (entryFor_of_fast (by kernel_rfl)) ?_
  exact wpAny_pure hq
end
end Mine
end

-- part Type3
section
set_option maxRecDepth 100000
set_option maxHeartbeats 4000000
namespace Mine
open PySem.Calls
section
variable {prog : Program} {w : World} {A : Around} {E : Value → Shared → Prop} {s : Shared} {mg mb : Str → Option Value}

theorem tc_type : checkTypeCall "type" ⟨[.str "K" 0, .ref 0, .ref 0], []⟩ = pure () := by kernel_rfl

theorem type_call {t : Tok} {T N : Addr} {Q : Value → Shared → Prop} 
    (hnew : wpAny (model prog w) (A.under (.builtin "type.__call__" ⟨[.type "type", .str "K" t, .ref T, .ref N], []⟩)).in1 (Builtin.«type.__new__» ⟨[.type "type", .str "K" t, .ref T, .ref N], []⟩) (fun fin s' => ∃ C o, fin = .done (.ret (.ref C)) ∧ s'.heap.get? C = some o ∧ o.cls = .type "type" ∧ Q (.ref C) s') E s) :
    wpAny (model prog w) A (call (.type "type") [.str "K" t, .ref T, .ref N] []) Q E s := by
  refine wpAny_call (codeAny_of_tree ?_)
  refine wpAny_pure (a := Fin.again (.builtin "type.__call__" ⟨[.type "type", .str "K" t, .ref T, .ref N], []⟩)) (And.intro (Code.quiet_builtin _ (by decide +kernel)) ?_)
  refine codeAny_builtin entry_typeCall ?_
  unfold Builtin.«type.__call__»
  refine wp_pos (by rfl) (wp_neg (by simp) (wp_neg (by simp) ?_))
  refine wp_neg (by rw [show (((Manifest.find? "type").bind (·.mro.findSome? fun t => (Manifest.find? t).bind fun b => if b.noNew then some true else if b.attrs.any (·.1 == "__new__") then some false else none)).getD false) = false from by kernel_rfl]; simp) ?_
  refine wpAny_bind (wpAny_of_eq (a := ()) (by kernel_rfl) ?_)
  refine wpAny_bind (wpAny_of_eq (a := [Value.type "type", Value.type "object"]) (by kernel_rfl) ?_)
  refine wp_neg (by simp) ?_
  refine wpAny_bind (wpAny_of_eq (a := some "type.__new__") (by kernel_rfl) ?_)
  refine wpAny_bind (wpAny_pure ?_)
  refine wpAny_bind (wpAny_holding (bcall (b := Builtin.«type.__new__») (by decide +kernel) (entryFor_of_fast (by kernel_rfl)) ?_))
  refine wpAny_of_eq (a := ()) (by kernel_rfl) ?_
  refine wpAny_mono hnew (fun fin s1 h1 => ?_) fun _ _ e => e
  obtain ⟨C, o, rfl, hC, ho, hq⟩ := h1
  refine ⟨_, rfl, ?_⟩
  have ht : Looks (model prog w) s1.heap (typeOf (.ref C)) (.type "type") := ho ▸ (Looks.ld hC).andThen .now
  have hi : Looks (model prog w) s1.heap (isInstance (.ref C) (.type "type")) true := ht.andThen (b := true) (Looks.of_pure (by kernel_rfl))
  refine wpAny_bind (m := isInstance _ _) (hi.here ?_)
  refine wp_neg (by simp) ?_
  refine wpAny_bind (wpAny_holding ?_)
  unfold callSpecial?
  refine wpAny_bind (m := specialOf (.ref C) "__init__") ((ht.andThen (b := some (.builtin "type.__init__")) (Looks.of_pure (by kernel_rfl))).here ?_)
  refine wpAny_holding (wpAny_bind (wpAny_of_eq (a := (.builtin "type.__init__", [.ref C])) (by kernel_rfl) ?_))
  refine wpAny_bind (bcall (b := Builtin.«type.__init__») (by decide +kernel) (entryFor_of_fast (by kernel_rfl)) ?_)
  refine check_slot (n := "__init__") (by decide +kernel) (by decide +kernel) hi (by unfold argsOk; kernel_rfl) ?_
  refine wpAny_of_eq (a := .done (.ret .none)) (by kernel_rfl) ?_
  refine ⟨_, rfl, wpAny_pure ?_⟩
  exact wpAny_pure hq
end
end Mine
end

-- part NewK
section
set_option maxRecDepth 100000
set_option maxHeartbeats 4000000
namespace Mine
open PySem.Calls
local macro_rules | `(tactic| tb_start) => `(tactic| first
  | with_reducible refine Looks.at (by assumption) ?_
  | (with_reducible refine wpAny_bind ?_; try k_fold) | (with_reducible refine nd_bind ?_; try k_fold) | with_reducible refine wpAny_holding ?_ | with_reducible refine wpAny_onRaise ?_
  | k_unfold
  | k_node)

theorem sn_str : typeLookup (.type "str") "__set_name__" = pure none := by rw [typeLookup_type, builtinLookup_eq_fast]; kernel_rfl
theorem sn_int : typeLookup (.type "int") "__set_name__" = pure none := by rw [typeLookup_type, builtinLookup_eq_fast]; kernel_rfl
theorem sn_list : typeLookup (.type "list") "__set_name__" = pure none := by rw [typeLookup_type, builtinLookup_eq_fast]; kernel_rfl
theorem sn_fn : typeLookup (.type "function") "__set_name__" = pure none := by rw [typeLookup_type, builtinLookup_eq_fast]; kernel_rfl
theorem sn_none : typeLookup (.type "NoneType") "__set_name__" = pure none := by rw [typeLookup_type, builtinLookup_eq_fast]; kernel_rfl
theorem sn_tuple : typeLookup (.type "tuple") "__set_name__" = pure none := by rw [typeLookup_type, builtinLookup_eq_fast]; kernel_rfl
theorem sn_mem : typeLookup (.type "member_descriptor") "__set_name__" = pure none := by rw [typeLookup_type, builtinLookup_eq_fast]; kernel_rfl
theorem sn_ref {M : Model} {h : Heap} {a : Addr} {o : Obj} {T : String} (ho : h.get? a = some o) (hc : o.cls = .type T) (e : typeLookup (.type T) "__set_name__" = pure none) : Looks M h (specialOf (.ref a) "__set_name__") none :=
  Looks.andThen (a := Value.type T) (hc ▸ (Looks.ld ho).andThen .now) (Looks.of_pure e)
theorem forIn_quiet {α : Type} {M : Model} {A : Around} {E : Value → Shared → Prop} {s : Shared} {f : α → PUnit → Sem (ForInStep PUnit)} : ∀ {l : List α} {Q : PUnit → Shared → Prop}, (∀ x ∈ l, ∀ Q' : ForInStep PUnit → Shared → Prop, Q' (.yield ⟨⟩) s → wpAny M A (f x ⟨⟩) Q' E s) → Q ⟨⟩ s → wpAny M A (forIn l PUnit.unit f) Q E s
  | [], _, _, h => by rw [List.forIn_nil]; exact wpAny_pure h
  | x :: l, Q, hf, h => by
    rw [List.forIn_cons]
    exact wpAny_bind (hf x (.head _) _ (forIn_quiet (l := l) (fun y hy => hf y (.tail _ hy)) h))

section
variable {prog : Program} {w : World} {A : Around} {E : Value → Shared → Prop} {s : Shared} {mg mb : Str → Option Value}

theorem type_new {t : Tok} {T N sl : Addr} {lt a1 a2 a3 a4 a5 a6 a7 a8 a9 a10 t1 t3 t4 t5 t6 : Tok} {f1 f2 f3 f4 f5 f6 st : Addr} {Q : Fin → Shared → Prop} (B : Bs w mg mb s.heap) (l3 : 3 < N)
    (hT : s.heap.get? T = some { cls := .type "tuple", data := .seq #[.type "object"] })
    (hsl : s.heap.get? sl = some { cls := .type "list", data := .seq #[.str "obj" lt] })
    (hN : s.heap.get? N = some (dictOf [kE w "__module__" t1 (.str "cpy313.functools" a1), kE w "__qualname__" t3 (.str "cmp_to_key.<locals>.K" t4), kE w "__firstlineno__" t5 (.int 7 t6), kE w "__slots__" a2 (.ref sl),
        kE w "__init__" a3 (.ref f1), kE w "__lt__" a4 (.ref f2), kE w "__gt__" a5 (.ref f3), kE w "__eq__" a6 (.ref f4), kE w "__le__" a7 (.ref f5), kE w "__ge__" a8 (.ref f6), kE w "__hash__" a9 .none, kE w "__static_attributes__" a10 (.ref st)] 12))
    (hf1 : ∃ o, s.heap.get? f1 = some o ∧ o.cls = .type "function") (hf2 : ∃ o, s.heap.get? f2 = some o ∧ o.cls = .type "function") (hf3 : ∃ o, s.heap.get? f3 = some o ∧ o.cls = .type "function") (hf4 : ∃ o, s.heap.get? f4 = some o ∧ o.cls = .type "function") (hf5 : ∃ o, s.heap.get? f5 = some o ∧ o.cls = .type "function") (hf6 : ∃ o, s.heap.get? f6 = some o ∧ o.cls = .type "function")
    (hst : ∃ o, s.heap.get? st = some o ∧ o.cls = .type "tuple")
    (hQ : ∀ C ns D u v u1 u2 h' tk, (∀ b o, s.heap.get? b = some o → h'.get? b = some o) →
      Cl h' C ns { name := "K", bases := [.type "object"], mro := [.ref C, .type "object"], ns := ns, qualname := "cmp_to_key.<locals>.K", hasDel := false, hasDict := false, slotNames := ["obj"] } #[some (.ref T), none, some (.str "K" t), some (.str "cmp_to_key.<locals>.K" t4), some (.builtin "object.__new__"), some (.bool false)]
        [kE w "__module__" t1 (.str "cpy313.functools" a1), kE w "__firstlineno__" t5 (.int 7 t6), kE w "__slots__" a2 (.ref sl),
        kE w "__init__" a3 (.ref f1), kE w "__lt__" a4 (.ref f2), kE w "__gt__" a5 (.ref f3), kE w "__eq__" a6 (.ref f4), kE w "__le__" a7 (.ref f5), kE w "__ge__" a8 (.ref f6), kE w "__hash__" a9 .none, kE w "__static_attributes__" a10 (.ref st), kE w "obj" u1 (.ref D), kE w "__doc__" u2 .none] 3 →
      h'.get? D = some { cls := .type "member_descriptor", data := .fields #[.str "obj" u, .ref C, .builtin "proto.slot", .builtin "proto.slot#set", .int 0 v] } → Q (.done (.ret (.ref C))) { s with heap := h', toks := tk }) :
    wpAny (model prog w) A (Builtin.«type.__new__» ⟨[.type "type", .str "K" t, .ref T, .ref N], []⟩) Q E s := by
  obtain ⟨hh, g, d, tk, os⟩ := s
  dsimp only at hT hsl hN hf1 hf2 hf3 hf4 hf5 hf6 hst hQ B
  generalize hes : [kE w "__module__" t1 (.str "cpy313.functools" a1), kE w "__qualname__" t3 (.str "cmp_to_key.<locals>.K" t4), kE w "__firstlineno__" t5 (.int 7 t6), kE w "__slots__" a2 (.ref sl),
        kE w "__init__" a3 (.ref f1), kE w "__lt__" a4 (.ref f2), kE w "__gt__" a5 (.ref f3), kE w "__eq__" a6 (.ref f4), kE w "__le__" a7 (.ref f5), kE w "__ge__" a8 (.ref f6), kE w "__hash__" a9 .none, kE w "__static_attributes__" a10 (.ref st)] = es at hN
  unfold Builtin.«type.__new__»
  refine wpAny_bind (wpAny_of_eq (a := some (Str.ofString "K")) (by rfl) ?_)
  refine wpAny_bind (m := isInstance _ _) ((((Looks.ld hT).andThen .now).andThen (b := true) (Looks.of_pure (by kernel_rfl))).at ?_)
  refine wp_neg (by simp) ?_
  refine wpAny_bind (m := isInstance _ _) ((((Looks.ld hN).andThen .now).andThen (b := true) (Looks.of_pure (by kernel_rfl))).at ?_)
  refine wp_neg (by simp) ?_
  refine wpAny_bind (wpAny_seqItems hT rfl ?_)
  refine wp_neg (by simp) ?_
  refine wpAny_bind (wpAny_of_eq (a := ()) (by kernel_rfl) ?_)
  refine wpAny_bind (wpAny_of_eq (a := Value.type "type") (by kernel_rfl) ?_)
  refine wp_neg (by simp) ?_
  refine wpAny_bind (wpAny_of_eq (a := ()) (by kernel_rfl) ?_)
  refine wpAny_bind (wpAny_of_eq (a := Value.type "object") (by kernel_rfl) ?_)
  refine wp_neg (by simp only [beq_iff_eq]; exact Nat.ne_of_gt (Nat.lt_trans (by decide) l3)) ?_
  refine wpAny_bind (m := dictEntries N) (wpAny_bind (wpAny_loadPart hN (wpAny_pure ?_)))
  refine wpAny_bind (m := specialOf _ _) ((((Looks.ld hN).andThen .now).andThen (b := some (.builtin "dict.__iter__")) (Looks.of_pure (by kernel_rfl))).at ?_)
  refine wp_pos (by rw [show (some (Value.builtin "dict.__iter__") == some (Value.builtin "dict.__iter__")) = true from by decide, Bool.or_true]) (wpAny_bind (wpAny_pure ?_))
  have hm : es.any (fun e => e.key.isStr "__module__") = true := by rw [← hes]; rfl
  refine wpAny_bind (wpAny_holding (slots_read (sl := sl) (lt := lt) (s := ⟨hh, g, d, tk, os⟩) (e := kE w "__slots__" a2 (.ref sl)) (by rw [← hes]; rfl) (by rfl) hsl (by rw [← hes, List.any_toArray]; rfl) fun h1 k1 => ?_))
  have z0 : es.length = 12 := by rw [← hes]; rfl
  refine wpAny_bind (newObj_n (by show es.toArray.size ≤ _; rw [List.size_toArray, z0]; decide) rfl fun ns h2 n2 => ?_)
  refine wp_neg (by show ¬ ((!es.toArray.any fun x => x.key.isStr "__module__") = true); rw [List.any_toArray, hm]; simp) ?_
  refine wpAny_bind (wpAny_of_eq (a := ()) (by kernel_rfl) ?_)
  refine wp_neg (by decide +kernel) ?_
  refine wpAny_bind (nsGet_w n2.at_ (r := some (.str "cmp_to_key.<locals>.K" t4)) (by rw [← hes]; rfl) ?_)
  refine wpAny_bind (nsGet_w n2.at_ (r := some (.str "cmp_to_key.<locals>.K" t4)) (by rw [← hes]; rfl) ?_)
  refine wpAny_bind (wpAny_pure ?_)
  refine wpAny_bind (wpAny_pure ?_)
  refine wpAny_bind (nsGet_w n2.at_ (r := none) (by rw [← hes]; rfl) ?_)
  refine wpAny_bind (alloc_n rfl fun C h3 n3 => ?_)
  refine wp_at ⟨h3, g, d, tk, os⟩ rfl ?_
  have k3 : ∀ b o, hh.get? b = some o → h3.get? b = some o := fun b o e => n3.keep _ _ (n2.keep _ _ (k1 _ _ e))
  have new3 : ∀ b o, hh.get? b = some o → b ≠ C := fun b o e => n3.new _ _ (n2.keep _ _ (k1 _ _ e))
  have nsC : ns ≠ C := n3.new _ _ n2.at_
  have newN : ∀ b o, hh.get? b = some o → b ≠ ns := fun b o e => n2.new _ _ (k1 _ _ e)
  have gns := n3.keep _ _ n2.at_
  refine wp_pos (by rfl) (wpAny_bind (setSlot_n n3.at_ (by decide) rfl fun h4 c4 => ?_))
  refine wpAny_bind (setSlot_n c4.at_ (by decide) rfl fun h5 c5 => ?_)
  refine wpAny_bind (setSlot_n c5.at_ (by decide) rfl fun h6 c6 => ?_)
  have gns6 := c6.keep _ _ nsC (c5.keep _ _ nsC (c4.keep _ _ nsC gns))
  generalize hes2 : [kE w "__module__" t1 (.str "cpy313.functools" a1), kE w "__firstlineno__" t5 (.int 7 t6), kE w "__slots__" a2 (.ref sl),
        kE w "__init__" a3 (.ref f1), kE w "__lt__" a4 (.ref f2), kE w "__gt__" a5 (.ref f3), kE w "__eq__" a6 (.ref f4), kE w "__le__" a7 (.ref f5), kE w "__ge__" a8 (.ref f6), kE w "__hash__" a9 .none, kE w "__static_attributes__" a10 (.ref st)] = es2
  refine wpAny_bind (nsDel_w (es' := es2) (n' := 1) gns6 (by rw [← hes]; rfl) (by rw [← hes, ← hes2]; rfl) fun h7 c7 => ?_)
  refine wpAny_bind (nsGet_w c7.at_ (r := none) (by rw [← hes2]; rfl) ?_)
  refine wpAny_bind ?_
  rw [List.forIn_cons]
  refine wpAny_bind (wpAny_bind (nsGet_w c7.at_ (r := none) (by rw [← hes2]; rfl) (wpAny_pure ?_)))
  dsimp only
  rw [List.forIn_cons]
  refine wpAny_bind (wpAny_bind (nsGet_w c7.at_ (r := none) (by rw [← hes2]; rfl) (wpAny_pure ?_)))
  dsimp only
  rw [List.forIn_nil]
  refine wpAny_pure ?_
  refine wpAny_bind (nsGet_w c7.at_ (r := none) (by rw [← hes2]; rfl) ?_)
  refine wpAny_bind (nsGet_w c7.at_ (r := none) (by rw [← hes2]; rfl) ?_)
  refine wpAny_bind (wpAny_of_eq (a := none) (by kernel_rfl) ?_)
  refine wpAny_bind (wpAny_of_eq (a := [Value.type "object"]) (by kernel_rfl) ?_)
  refine wpAny_bind (wpAny_pure ?_)
  have hfil : [Value.ref C, Value.type "object"].filter (fun x => x != Value.ref C) = [Value.type "object"] := by simp
  refine wpAny_bind ?_
  rw [hfil]
  refine wpAny_of_eq (a := false) (by kernel_rfl) ?_
  have hdel : (es.toArray.any fun x => x.key.isStr "__del__") = false := by rw [← hes, List.any_toArray]; rfl
  have gC7 := c7.keep _ _ nsC.symm c6.at_
  refine wpAny_bind (updCls_n gC7 (by rfl) fun h8 c8 => ?_)
  have gC8 : h8.get? C = some ⟨.type "type", none, .cls { name := "K", bases := [.type "object"], mro := [.ref C, .type "object"], ns := ns, qualname := "cmp_to_key.<locals>.K", hasDel := false }, #[some (.ref T), none, some (.str "K" t), some (.str "cmp_to_key.<locals>.K" t4)]⟩ := by
    have := c8.at_
    rw [hdel] at this
    exact this.trans (by kernel_rfl)
  have gns8 := c8.keep _ _ nsC c7.at_
  refine wp_at ⟨h8, g, d, tk, os⟩ rfl ?_
  refine wpAny_bind (wpAny_of_eq (a := some "object.__new__") (by kernel_rfl) ?_)
  refine wpAny_bind (setSlot_n gC8 (by decide) rfl fun h9 c9 => ?_)
  have gns9 := c9.keep _ _ nsC gns8
  have gC9 : h9.get? C = some ⟨.type "type", none, .cls { name := "K", bases := [.type "object"], mro := [.ref C, .type "object"], ns := ns, qualname := "cmp_to_key.<locals>.K", hasDel := false }, #[some (.ref T), none, some (.str "K" t), some (.str "cmp_to_key.<locals>.K" t4), some (.builtin "object.__new__")]⟩ := c9.at_.trans (by kernel_rfl)
  have Cl9 : Cl h9 C ns _ _ es2 1 := ⟨gC9, rfl, rfl, gns9⟩
  refine wp_at ⟨h9, g, d, tk, os⟩ rfl ?_
  unfold Bind.refreshMaker slotAt
  refine wpAny_bind (wpAny_bind (wpAny_bind (wpAny_loadPart gC9 (wpAny_pure ?_))))
  refine wp_neg (by simp) ?_
  refine wpAny_bind ((Cl9.looks0 (name := "__new__") (r := some (.builtin "object.__new__")) (by rw [← hes2]; rfl) (by kernel_rfl)).at ?_)
  refine wp_neg (by decide +kernel) (wpAny_pure ?_)
  unfold Builtin.Slots.install
  refine wpAny_bind ?_
  refine wpAny_bind ?_
  dsimp only
  rw [List.forIn_cons]
  refine wpAny_bind (wpAny_bind (nsGet_w gns9 (r := none) (by rw [← hes2]; rfl) (wp_pos rfl ?_)))
  refine wpAny_bind (wpAny_mkStr ?_ (by decide))
  refine wpAny_bind (newObj_n (by show 5 ≤ _; decide) rfl fun D h10 n10 => ?_)
  have z2 : es2.length = 11 := by rw [← hes2]; rfl
  refine wpAny_bind (nsSetBV_w (n10.keep _ _ gns9) (by rw [z2]; decide) (by rw [← hes2]; rfl) fun h11 g11 e11 => ?_)
  refine wp_at ⟨h11, g, d, tk + 1 + 1, os⟩ rfl ?_
  refine wpAny_pure (wpAny_pure ?_)
  refine wpAny_bind (wpAny_of_eq (a := false) (by kernel_rfl) ?_)
  refine wp_neg (by show ¬ (0 + 1 > sizeLine); decide) ?_
  have gC11 := e11.extBut _ _ nsC.symm (n10.keep _ _ gC9)
  refine updCls_n gC11 (by rfl) fun h12 c12 => ?_
  have gC12 : h12.get? C = some ⟨.type "type", none, .cls { name := "K", bases := [.type "object"], mro := [.ref C, .type "object"], ns := ns, qualname := "cmp_to_key.<locals>.K", hasDel := false, hasDict := false, slotNames := ["obj"] }, #[some (.ref T), none, some (.str "K" t), some (.str "cmp_to_key.<locals>.K" t4), some (.builtin "object.__new__")]⟩ := c12.at_.trans (by kernel_rfl)
  generalize hes3 : [kE w "__module__" t1 (.str "cpy313.functools" a1), kE w "__firstlineno__" t5 (.int 7 t6), kE w "__slots__" a2 (.ref sl),
        kE w "__init__" a3 (.ref f1), kE w "__lt__" a4 (.ref f2), kE w "__gt__" a5 (.ref f3), kE w "__eq__" a6 (.ref f4), kE w "__le__" a7 (.ref f5), kE w "__ge__" a8 (.ref f6), kE w "__hash__" a9 .none, kE w "__static_attributes__" a10 (.ref st), kE w "obj" (tk + 1) (.ref D)] = es3
  have gns12 : h12.get? ns = some (dictOf es3 2) := (c12.keep _ _ nsC g11).trans (by rw [← hes2, ← hes3]; kernel_rfl)
  refine wp_at ⟨h12, g, d, tk + 1 + 1, os⟩ rfl ?_
  refine wpAny_bind (wpAny_of_eq (a := false) (by kernel_rfl) ?_)
  refine wpAny_bind (setSlot_n gC12 (by decide) rfl fun h13 c13 => ?_)
  have gC13 : h13.get? C = some ⟨.type "type", none, .cls { name := "K", bases := [.type "object"], mro := [.ref C, .type "object"], ns := ns, qualname := "cmp_to_key.<locals>.K", hasDel := false, hasDict := false, slotNames := ["obj"] }, #[some (.ref T), none, some (.str "K" t), some (.str "cmp_to_key.<locals>.K" t4), some (.builtin "object.__new__"), some (.bool false)]⟩ := c13.at_.trans (by kernel_rfl)
  have gns13 := c13.keep _ _ nsC gns12
  refine wp_neg (by simp) (wp_neg (by simp) ?_)
  refine wpAny_bind (nsGet_w gns13 (r := none) (by rw [← hes3]; rfl) (wp_pos rfl ?_))
  refine wpAny_bind (nsSet_w gns13 (by rw [← hes3]; rfl) fun h14 g14 e14 => ?_)
  generalize hes4 : [kE w "__module__" t1 (.str "cpy313.functools" a1), kE w "__firstlineno__" t5 (.int 7 t6), kE w "__slots__" a2 (.ref sl),
        kE w "__init__" a3 (.ref f1), kE w "__lt__" a4 (.ref f2), kE w "__gt__" a5 (.ref f3), kE w "__eq__" a6 (.ref f4), kE w "__le__" a7 (.ref f5), kE w "__ge__" a8 (.ref f6), kE w "__hash__" a9 .none, kE w "__static_attributes__" a10 (.ref st), kE w "obj" (tk + 1) (.ref D), kE w "__doc__" (tk + 1 + 1) .none] = es4
  have gns14 : h14.get? ns = some (dictOf es4 3) := g14.trans (by rw [← hes3, ← hes4]; kernel_rfl)
  have gC14 := e14.extBut _ _ nsC.symm gC13
  refine wp_at ⟨h14, g, d, tk + 1 + 1 + 1, os⟩ rfl ?_
  refine wpAny_bind (nsGet_w gns14 (r := some (.ref f4)) (by rw [← hes4]; rfl) (wp_pos rfl ?_))
  refine wpAny_bind (nsGet_w gns14 (r := some .none) (by rw [← hes4]; rfl) (wp_neg (by simp) ?_))
  refine wpAny_bind (wpAny_of_eq (a := PUnit.unit) (by kernel_rfl) ?_)
  have k14 : ∀ b o, hh.get? b = some o → h14.get? b = some o := fun b o e => by
    have nc := new3 b o e
    have nn := newN b o e
    have e4 := c4.keep _ _ nc (k3 _ _ e)
    have e6 := c6.keep _ _ nc (c5.keep _ _ nc e4)
    have e8 := c8.keep _ _ nc (c7.keep _ _ nn e6)
    have e10 := n10.keep _ _ (c9.keep _ _ nc e8)
    have e12 := c12.keep _ _ nc (e11.extBut _ _ nn e10)
    exact e14.extBut _ _ nn (c13.keep _ _ nc e12)
  have DC : D ≠ C := (n10.new _ _ gC9).symm
  have Dns : D ≠ ns := (n10.new _ _ gns9).symm
  have gD : h14.get? D = some { cls := .type "member_descriptor", data := .fields #[.str "obj" tk, .ref C, .builtin "proto.slot", .builtin "proto.slot#set", .int 0 0] } :=
    e14.extBut _ _ Dns (c13.keep _ _ DC (c12.keep _ _ DC (e11.extBut _ _ Dns n10.at_)))
  have B14 := B.keeps k14
  have Cl14 : Cl h14 C ns _ _ es4 3 := ⟨gC14, rfl, rfl, gns14⟩
  refine wpAny_bind (wpAny_tryCatch (wpAny_holding ?_))
  refine wpAny_bind (m := dictEntries ns) (wpAny_bind (wpAny_loadPart gns14 (wpAny_pure ?_)))
  refine wpAny_bind (wpAny_of_eq (a := false) (by rw [← hes4]; kernel_rfl) ?_)
  refine wp_neg (by simp) ?_
  refine wpAny_bind (m := dictEntries ns) (wpAny_bind (wpAny_loadPart gns14 (wpAny_pure ?_)))
  refine wpAny_bind ?_
  rw [← Array.forIn_toList]
  refine forIn_quiet (fun e he Q' hq' => ?_) ?_
  · have key : Builtin.laidUnderItsOwnName e.key e.val = false ∧ Looks (model prog w) h14 (specialOf e.val "__set_name__") none := by
      obtain ⟨o1, g1, c1⟩ := hf1
      obtain ⟨o2, g2, c2⟩ := hf2
      obtain ⟨o3, g3, c3⟩ := hf3
      obtain ⟨o4, g4, c4⟩ := hf4
      obtain ⟨o5, g5, c5⟩ := hf5
      obtain ⟨o6, g6, c6⟩ := hf6
      obtain ⟨o7, g7, c7⟩ := hst
      have he' : e ∈ es4 := by simpa using he
      rw [← hes4] at he'
      simp only [List.mem_cons, List.not_mem_nil, or_false] at he'
      rcases he' with rfl | rfl | rfl | rfl | rfl | rfl | rfl | rfl | rfl | rfl | rfl | rfl | rfl
      · exact ⟨rfl, Looks.of_pure sn_str⟩
      · exact ⟨rfl, Looks.of_pure sn_int⟩
      · exact ⟨rfl, sn_ref (k14 _ _ hsl) rfl sn_list⟩
      · exact ⟨rfl, sn_ref (k14 _ _ g1) c1 sn_fn⟩
      · exact ⟨rfl, sn_ref (k14 _ _ g2) c2 sn_fn⟩
      · exact ⟨rfl, sn_ref (k14 _ _ g3) c3 sn_fn⟩
      · exact ⟨rfl, sn_ref (k14 _ _ g4) c4 sn_fn⟩
      · exact ⟨rfl, sn_ref (k14 _ _ g5) c5 sn_fn⟩
      · exact ⟨rfl, sn_ref (k14 _ _ g6) c6 sn_fn⟩
      · exact ⟨rfl, Looks.of_pure sn_none⟩
      · exact ⟨rfl, sn_ref (k14 _ _ g7) c7 sn_tuple⟩
      · exact ⟨rfl, sn_ref gD rfl sn_mem⟩
      · exact ⟨rfl, Looks.of_pure sn_none⟩
    refine wp_neg (by rw [key.1]; simp) ?_
    refine wpAny_bind (key.2.at ?_)
    exact wpAny_pure hq'
  refine wpAny_bind (super_cls Cl14 fun so h15 gso k15 => ?_)
  refine wpAny_bind (wpAny_holding (super_isub (Cl14.keeps k15) (B14.keeps k15) gso fun qf h16 n16 => ?_))
  have k16 : ∀ b o, h14.get? b = some o → h16.get? b = some o := fun b o e => n16.keep _ _ (k15 _ _ e)
  refine wpAny_bind (isub_call (Cl14.keeps k16) rfl n16.at_ ?_)
  refine wpAny_pure ?_
  refine wpAny_pure ?_
  rw [← hes4] at Cl14
  exact hQ C ns D _ _ _ _ h16 _ (fun b o e => k16 _ _ (k14 _ _ e)) (Cl14.keeps k16) (k16 _ _ gD)
end
end Mine
end

-- part Cls
section
set_option maxRecDepth 100000
set_option maxHeartbeats 4000000
namespace Mine
open PySem.Calls
theorem lk_t1 {M : Model} {h : Heap} : Looks M h (typeOf (.type "object")) (.type "type") := Looks.of_pure (by kernel_rfl)
theorem lk_t2 {M : Model} {h : Heap} : Looks M h (isSubtype (.type "type") (.type "type")) true := Looks.of_pure (by kernel_rfl)
local macro_rules | `(tactic| tb_start) => `(tactic| first
  | with_reducible refine Looks.at (by assumption) ?_
  | with_reducible refine Looks.at lk_t1 ?_ | with_reducible refine Looks.at lk_t2 ?_
  | (with_reducible refine wpAny_bind ?_; try k_fold) | (with_reducible refine nd_bind ?_; try k_fold) | with_reducible refine wpAny_holding ?_ | with_reducible refine wpAny_onRaise ?_
  | k_unfold
  | k_node)
/-- a function of the class, as a call finds it -/
def FnC (h : Heap) (f : Addr) (name qual : Str) (params : Arguments) (body : List Stmt) (scope : Scope) (clos : List (Str × Addr)) : Prop :=
  ∃ c ctv doc pm, h.get? f = some (fnMade name qual params body scope clos doc pm c ctv) ∧ h.CodeRec (.ref c) qual
theorem FnC.keeps {h h' : Heap} {f : Addr} {name qual : Str} {params : Arguments} {body : List Stmt} {scope : Scope} {clos : List (Str × Addr)} (x : FnC h f name qual params body scope clos) (k : ∀ b o, h.get? b = some o → h'.get? b = some o) : FnC h' f name qual params body scope clos :=
  let ⟨c, ctv, doc, pm, a, b⟩ := x; ⟨c, ctv, doc, pm, k _ _ a, b.keeps k⟩
abbrev cdK (C ns : Addr) : ClassData := { name := "K", bases := [.type "object"], mro := [.ref C, .type "object"], ns := ns, qualname := "cmp_to_key.<locals>.K", hasDel := false, hasDict := false, slotNames := ["obj"] }
/-- the class K as cmp_to_key(_strcoll) leaves it -/
structure IsK (h : Heap) (C ns D f1 f2 c : Addr) (sl : Array (Option Value)) (es : List DictEntry) (n : Nat) : Prop where
  cl : Cl h C ns (cdK C ns) sl es n
  new : (sl.toList[4]?).join = some (.builtin "object.__new__")
  init : getL "__init__" es = some (some (.ref f1))
  lt : getL "__lt__" es = some (some (.ref f2))
  obj : getL "obj" es = some (some (.ref D))
  ga : getL "__getattribute__" es = some none
  gat : getL "__getattr__" es = some none
  sa : getL "__setattr__" es = some none
  nw : getL "__new__" es = some none
  d : ∃ u v, h.get? D = some { cls := .type "member_descriptor", data := .fields #[.str "obj" u, .ref C, .builtin "proto.slot", .builtin "proto.slot#set", .int 0 v] }
  f1 : FnC h f1 "__init__" (mQual "__init__") (fArgs (mSt 2)) (fBody (mSt 2)) (fScope (mSt 2)) []
  f2 : FnC h f2 "__lt__" (mQual "__lt__") (fArgs (mSt 3)) (fBody (mSt 3)) (fScope (mSt 3)) [("mycmp", c)]
  cell : h.IsCell c (some (.ref 21))
theorem IsK.keeps {h h' : Heap} {C ns D f1 f2 c : Addr} {sl : Array (Option Value)} {es : List DictEntry} {n : Nat} (x : IsK h C ns D f1 f2 c sl es n) (k : ∀ b o, h.get? b = some o → h'.get? b = some o) : IsK h' C ns D f1 f2 c sl es n where
  cl := x.cl.keeps k
  new := x.new
  init := x.init
  lt := x.lt
  obj := x.obj
  ga := x.ga
  gat := x.gat
  sa := x.sa
  nw := x.nw
  d := let ⟨u, v, e⟩ := x.d; ⟨u, v, k _ _ e⟩
  f1 := x.f1.keeps k
  f2 := x.f2.keeps k
  cell := x.cell.keeps k
theorem FnC.but {h h' : Heap} {L f : Addr} {m : Str → Option Value} {name qual : Str} {params : Arguments} {body : List Stmt} {scope : Scope} {clos : List (Str × Addr)} (x : FnC h f name qual params body scope clos) (hn : h.Ns L m) (k : ∀ b o, b ≠ L → h.get? b = some o → h'.get? b = some o) : FnC h' f name qual params body scope clos := by
  obtain ⟨c, ctv, doc, pm, a, ⟨c2, o, vs, t, e1, e2, e3⟩⟩ := x
  cases e1
  obtain ⟨oL, eL, nL, hL, dL, _⟩ := hn
  refine ⟨c, ctv, doc, pm, k _ _ (fun q => ?_) a, ⟨c, o, vs, t, rfl, k _ _ (fun q => ?_) e2, e3⟩⟩
  · rw [q, hL] at a; cases a; cases dL
  · rw [q, hL] at e2; cases e2; rw [dL] at e3; cases e3.1
theorem IsK.but {h h' : Heap} {L C ns D f1 f2 c : Addr} {sl : Array (Option Value)} {es : List DictEntry} {n : Nat} {m : Str → Option Value} (x : IsK h C ns D f1 f2 c sl es n) (hn : h.Ns L m) (hm : m "__init__" = none) (k : ∀ b o, b ≠ L → h.get? b = some o → h'.get? b = some o) : IsK h' C ns D f1 f2 c sl es n := by
  have a1 := x.cl.at_
  have a2 := x.cl.ns_
  obtain ⟨u, v, a3⟩ := x.d
  obtain ⟨oc, a4, d4⟩ := x.cell
  have i1 := x.init
  have q1 : C ≠ L := fun q => by
    obtain ⟨oL, eL, nL, hL, dL, _⟩ := hn
    rw [q, hL] at a1; cases a1; cases dL
  have q3 : D ≠ L := fun q => by
    obtain ⟨oL, eL, nL, hL, dL, _⟩ := hn
    rw [q, hL] at a3; cases a3; cases dL
  have q4 : c ≠ L := fun q => by
    obtain ⟨oL, eL, nL, hL, dL, _⟩ := hn
    rw [q, hL] at a4; cases a4; rw [d4] at dL; cases dL
  have q2 : ns ≠ L := fun q => by
    obtain ⟨oL, eL, nL, hL, dL, _, hf⟩ := hn
    rw [q, hL] at a2
    cases a2
    cases dL
    have h1 := hf "__init__"
    rw [hm] at h1
    unfold getL at i1
    unfold nsFind findBy at h1
    rw [List.find?_toArray] at h1
    split at i1
    · rename_i e he
      have he' : List.find? (fun e : DictEntry => e.key.isStr (Str.ofString "__init__")) es = some e := he
      rw [he'] at h1
      cases h1
    · split at i1 <;> cases i1
  exact { cl := ⟨k _ _ q1 a1, x.cl.mro, x.cl.nsa, k _ _ q2 a2⟩, new := x.new, init := x.init, lt := x.lt, obj := x.obj, ga := x.ga, gat := x.gat, sa := x.sa, nw := x.nw, d := ⟨u, v, k _ _ q3 a3⟩, f1 := x.f1.but hn k, f2 := x.f2.but hn k, cell := ⟨oc, k _ _ q4 a4, d4⟩ }
section
variable {prog : Program} {w : World} {A : Around} {E : Value → Shared → Prop} {s : Shared} {mg mb : Str → Option Value} {L N cc fr : Addr}
theorem name_cls {Q : Value → Shared → Prop} (B : Bs w mg mb s.heap) (hN : s.heap.get? N = some (dictOf [] 0)) (h : Q (.str "law_nb0053_01" 221) s) : wpAny (model prog w) A (loadName (clsEnv L N cc fr) "__name__") Q E s := by
  have h3 := B.X 3 _ rfl
  unfold loadName
  repeat lk
  exact h
end
section
variable {prog : Program} {w : World} {A : Around} {E : Value → Shared → Prop} {s : Shared} {mg mb : Str → Option Value} {h₀ : Heap} {L : Addr} {m : Str → Option Value}
theorem exec_cls {Q : Flow → Shared → Prop} (B : Bs w mg mb h₀) (hk : ∀ b o, h₀.get? b = some o → s.heap.get? b = some o) (n23 : h₀.get? 23 = none) (hn : s.heap.Ns L m) (hc : s.heap.IsCell (L + 1) (some (.ref 21))) (h23 : s.heap.get? 23 = some (tabObj #[])) (C27 : CodeHd h₀ 27 23) (hd : A.depth < recursionLimit) (hm : m "__init__" = none)
    (hQ : ∀ C ns D f1 f2 sl es n ps h' tk, (∀ b o, b ≠ 23 → b ≠ L → s.heap.get? b = some o → h'.get? b = some o) → h'.Ns L (fun y => if y = "K" then some (.ref C) else m y) → IsK h' C ns D f1 f2 (L + 1) sl es n → h'.get? 23 = some (tabObj ps) → Q .next { s with heap := h', toks := tk }) :
    wpAny (model prog w) A (exec clsSt (ctkEnv L)) Q E s := by
  have B0 := B.keeps hk
  refine wpAny_ClassDef ?_
  unfold buildClassGuard
  refine wpAny_bind (wpAny_nsGet B0.b ?_)
  rw [B.builtins _ (by decide), show bootBuiltins (Str.ofString "__build_class__") = some (.builtin "__build_class__") from by boot_by_name]
  refine wpAny_pure ?_
  refine nmB B0 (by rfl) (by boot_by_name) ?_
  unfold buildClass
  refine wpAny_bind (newTuple_n (by decide) fun T h1 N1 => ?_)
  have B1 := B0.keeps N1.keep
  refine wpAny_bind (wpAny_of_eq (a := ([Value.type "object"], false)) (by kernel_rfl) ?_)
  refine wpAny_bind (wpAny_of_eq (a := Value.type "type") (by kernel_rfl) ?_)
  refine wpAny_bind (wpAny_of_eq (a := true) rfl ?_)
  refine wpAny_bind (wpAny_of_eq (a := Value.type "type") (by kernel_rfl) ?_)
  refine wpAny_bind (wpAny_mkText ?_)
  refine wpAny_bind (wpAny_of_eq (a := Value.ref T) rfl ?_)
  refine wpAny_holding ?_
  refine wpAny_bind (prep_get B1 fun q h2 N2 => ?_)
  refine wpAny_bind (prep_call (q := q) N2.at_ fun N h3 N3 => ?_)
  refine wp_at { s with heap := h3, toks := s.toks + 1 + 1 } rfl ?_
  have B3 := (B1.keeps N2.keep).keeps N3.keep
  have k3 : ∀ b o, s.heap.get? b = some o → h3.get? b = some o := fun b o e => N3.keep _ _ (N2.keep _ _ (N1.keep _ _ e))
  have l3 : 3 < N := Nat.lt_of_lt_of_le (B1.keeps N2.keep).g.lt N3.le
  refine wpAny_bind (m := notTheModulesDict _ N) (wpAny_of_eq (a := ()) (by unfold notTheModulesDict; rw [if_neg (by simp only [beq_iff_eq]; exact Nat.ne_of_gt (Nat.lt_trans (by decide) l3))]) ?_)
  refine wpAny_bind (m := specialOf (.ref N) "__getitem__") (wpAny_specialOf ⟨_, N3.at_, rfl⟩ slot_dict_getitem.lookup ?_)
  refine wp_neg (by decide) (wpAny_holding (wp_neg (by decide) (wpAny_bind (wpAny_pure (wp_neg (by decide) (wpAny_bind (wpAny_pure ?_)))))))
  refine wpAny_bind (class_code (c := 27) (P := 23) (ps := #[]) rfl (C27.keeps fun b o e => k3 _ _ (hk _ _ e)) (k3 _ _ h23) trivial rfl fun cc P h4 tk4 x4 lcc lP h23n C4 hP4 => ?_)
  have k4 : ∀ b o, h₀.get? b = some o → h4.get? b = some o := fun b o e => x4 b o (fun q => by rw [q, n23] at e; cases e) (k3 _ _ (hk _ _ e))
  have B4 := B.keeps k4
  obtain ⟨bm, ob, b1, b2, b3, b4, b5, b6⟩ := B4.bmain
  refine wpAny_bind (wpAny_builtinsFor B4.g b1 b2 b3 b4 b5 b6 ?_)
  unfold newBodyFrame
  refine wpAny_bind (wpAny_bind (wpAny_nsGet B4.g (wpAny_alloc ?_)))
  refine wpAny_bind (wpAny_of_eq (a := [(Str.ofString "mycmp", L + 1)]) (by rfl) ?_)
  generalize hfo : ({ cls := .type "frame", slots := _ } : Obj) = fo
  have ffo : fo.isFreed = false := by rw [← hfo]; rfl
  have nf : Nw h4 h4.objs.size fo (h4.push fo) := nw_push ffo
  generalize hfr : h4.objs.size = fr at nf
  clear hfo hfr
  refine wp_at { s with heap := h4.push fo, toks := tk4 } rfl ?_
  generalize h4.push fo = h5 at nf
  have k5 : ∀ b o, h₀.get? b = some o → h5.get? b = some o := fun b o e => nf.keep _ _ (k4 _ _ e)
  have B5 := B.keeps k5
  have N23 : N ≠ 23 := (N3.new _ _ (N2.keep _ _ (N1.keep _ _ h23))).symm
  have gN5 : h5.get? N = some (dictOf [] 0) := nf.keep _ _ (x4 _ _ N23 N3.at_)
  refine wpAny_holding ?_
  refine wpAny_bind (wpAny_enterFrame B5.nolimit hd ?_)
  refine wpAny_bind (wpAny_onRaise (wpAny_bind (name_cls (L := L) (cc := cc) (fr := fr) B5 gN5 ?_)))
  refine wpAny_bind (store_cls (env := clsEnv L N cc fr) (s := { s with heap := h5, toks := tk4 }) rfl gN5 rfl fun h6 g6 e6 => ?_)
  refine wpAny_bind (wpAny_mkText ?_)
  refine wpAny_bind (store_cls (env := clsEnv L N cc fr) (s := { s with heap := h6, toks := tk4 + 1 + 1 }) rfl g6 rfl fun h7 g7 e7 => ?_)
  refine wpAny_bind (wpAny_mkInt ?_)
  refine wpAny_bind (store_cls (env := clsEnv L N cc fr) (s := { s with heap := h7, toks := tk4 + 1 + 1 + 1 + 1 }) rfl g7 rfl fun h8 g8 e8 => ?_)
  refine wpAny_pure ?_
  have l3' : 3 < h3.objs.size := B3.g.lt
  have PN : P ≠ N := (Nat.ne_of_gt (Nat.lt_of_lt_of_le (Heap.lt_size N3.at_) lP))
  have nN : h₀.get? N = none := by
    cases e : h₀.get? N with
    | none => rfl
    | some o => exact absurd rfl (N3.new _ _ (N2.keep _ _ (N1.keep _ _ (hk _ _ e))))
  have nP : h₀.get? P = none := by
    cases e : h₀.get? P with
    | none => rfl
    | some o => exact absurd (Heap.lt_size (k3 _ _ (hk _ _ e))) (Nat.not_lt.mpr lP)
  have k8 : ∀ b o, b ≠ N → h5.get? b = some o → h8.get? b = some o := fun b o q e => e8.extBut b o q (e7.extBut b o q (e6.extBut b o q e))
  have gN8 : h8.get? N = some (dictOf [kE w "__module__" tk4 (.str "law_nb0053_01" 221), kE w "__qualname__" (tk4 + 1 + 1) (.str "cmp_to_key.<locals>.K" (tk4 + 1)), kE w "__firstlineno__" (tk4 + 1 + 1 + 1 + 1) (.int 7 (tk4 + 1 + 1 + 1))] 3) := g8.trans (by kernel_rfl)
  have C8 : CodeHd h8 cc P := by
    obtain ⟨o, vs, file, tf, flags, tg, inF, text, tt, ho, r⟩ := C4
    refine ⟨o, vs, file, tf, flags, tg, inF, text, tt, k8 _ _ ?_ (nf.keep _ _ ho), r⟩
    exact Nat.ne_of_gt (Nat.lt_of_lt_of_le (Heap.lt_size N3.at_) lcc)
  refine wp_at { s with heap := h8, toks := tk4 + 1 + 1 + 1 + 1 + 1 } rfl ?_
  refine wpAny_bind (wpAny_run (codeAny_body (env := clsEnv L N cc fr) rfl rfl (cls_body (s := { s with heap := h8, toks := tk4 + 1 + 1 + 1 + 1 + 1 }) (h₀ := h₀) B (fun b o e => k8 b o (fun q => by rw [q, nN] at e; cases e) (k5 _ _ e)) nN nP (Nat.lt_of_lt_of_le l3' lP) gN8 (k8 _ _ PN (nf.keep _ _ hP4)) C8 fun h9 tk9 sl lt a1 a2 a3 a4 a5 a6 a7 a8 a9 f1 f2 f3 f4 f5 f6 k9 slN slP gsl gN9 F1 F2 F3 F4 F5 F6 => ?_)))
  refine wpAny_bind (wpAny_onRaise (wpAny_bind (wpAny_mkStrs fun fs => wpAny_bind (wpAny_newTextTuple ?_))))
  have nst : Nw h9 h9.objs.size { cls := .type "tuple", data := .seq fs.toArray } (h9.push { cls := .type "tuple", data := .seq fs.toArray }) := nw_push rfl
  refine wpAny_bind (store_cls (env := clsEnv L N cc fr) rfl (nst.keep _ _ gN9) rfl fun h10 g10 e10 => ?_)
  have gN10 : h10.get? N = some (dictOf [kE w "__module__" tk4 (.str "cpy313.functools" a1), kE w "__qualname__" (tk4 + 1 + 1) (.str "cmp_to_key.<locals>.K" (tk4 + 1)), kE w "__firstlineno__" (tk4 + 1 + 1 + 1 + 1) (.int 7 (tk4 + 1 + 1 + 1)), kE w "__slots__" a2 (.ref sl),
        kE w "__init__" a3 (.ref f1), kE w "__lt__" a4 (.ref f2), kE w "__gt__" a5 (.ref f3), kE w "__eq__" a6 (.ref f4), kE w "__le__" a7 (.ref f5), kE w "__ge__" a8 (.ref f6), kE w "__hash__" a9 .none, kE w "__static_attributes__" (tk9 + 1) (.ref h9.objs.size)] 12) := g10.trans (by kernel_rfl)
  have k10 : KB [N, P] h9 h10 := fun b o nb e => e10.extBut b o (fun q => nb (by rw [q]; exact List.mem_cons_self)) (nst.keep _ _ e)
  have nbT : T ∉ [N, P] := by
    simp only [List.mem_cons, List.not_mem_nil, or_false, not_or]
    exact ⟨N3.new _ _ (N2.keep _ _ N1.at_), Nat.ne_of_lt (Nat.lt_of_lt_of_le (Heap.lt_size (N3.keep _ _ (N2.keep _ _ N1.at_))) lP)⟩
  have T23 : T ≠ 23 := (N1.new _ _ h23).symm
  have gT8 := k8 _ _ (N3.new _ _ (N2.keep _ _ N1.at_)) (nf.keep _ _ (x4 _ _ T23 (N3.keep _ _ (N2.keep _ _ N1.at_))))
  have gT10 := k10 _ _ nbT (k9 _ _ nbT gT8)
  have stN : h9.objs.size ≠ N := (nst.new _ _ gN9).symm
  have gst : h10.get? h9.objs.size = some { cls := .type "tuple", data := .seq fs.toArray } := e10.extBut _ _ stN nst.at_
  have nb0 : ∀ b o, h₀.get? b = some o → b ∉ [N, P] := fun b o e => by
    simp only [List.mem_cons, List.not_mem_nil, or_false, not_or]
    exact ⟨fun q => (by rw [q, nN] at e; cases e), fun q => (by rw [q, nP] at e; cases e)⟩
  have k10' : ∀ b o, h₀.get? b = some o → h10.get? b = some o := fun b o e => k10 _ _ (nb0 b o e) (k9 _ _ (nb0 b o e) (k8 b o (fun q => by rw [q, nN] at e; cases e) (k5 _ _ e)))
  have B10 := B.keeps k10'
  have sl10 := k10 _ _ (by simp only [List.mem_cons, List.not_mem_nil, or_false, not_or]; exact ⟨slN, slP⟩) gsl
  have fno : ∀ {f name qual params body scope clos}, FnK N P h10 f name qual params body scope clos → ∃ o, h10.get? f = some o ∧ o.cls = .type "function" := fun x => let ⟨_, _, _, _, a, _⟩ := x; ⟨_, a, rfl⟩
  refine wpAny_pure ?_
  refine wp_neg (by simp) ?_
  refine wpAny_bind (type_call (type_new (s := { s with heap := h10, toks := tk9 + 1 + 1 }) (mg := mg) (mb := mb) B10 l3 gT10 sl10 gN10 (fno (F1.kb k10)) (fno (F2.kb k10)) (fno (F3.kb k10)) (fno (F4.kb k10)) (fno (F5.kb k10)) (fno (F6.kb k10)) ⟨_, gst, rfl⟩ fun C ns D u v u1 u2 h11 tk11 k11 Cl11 gD11 => ?_))
  refine ⟨C, _, rfl, Cl11.at_, rfl, ?_⟩
  refine wpAny_pure ?_
  have L23 : L ≠ 23 := fun q => by
    obtain ⟨oL, eL, nL, hL, dL, _⟩ := hn
    rw [q, h23] at hL; cases hL; cases dL
  have LS : L < s.heap.objs.size := hn.lt
  have sN : ∀ b o, s.heap.get? b = some o → b ≠ N := fun b o e => N3.new _ _ (N2.keep _ _ (N1.keep _ _ e))
  have sP : ∀ b o, s.heap.get? b = some o → b ≠ P := fun b o e => Nat.ne_of_lt (Nat.lt_of_lt_of_le (Heap.lt_size (k3 _ _ e)) lP)
  have ks11 : ∀ b o, b ≠ 23 → s.heap.get? b = some o → h11.get? b = some o := fun b o q e => by
    have nb : b ∉ [N, P] := by
      simp only [List.mem_cons, List.not_mem_nil, or_false, not_or]
      exact ⟨sN b o e, sP b o e⟩
    exact k11 _ _ (k10 _ _ nb (k9 _ _ nb (k8 _ _ (sN b o e) (nf.keep _ _ (x4 _ _ q (k3 _ _ e))))))
  have hn11 : h11.Ns L m := by
    obtain ⟨oL, eL, nL, hL, r⟩ := hn
    exact ⟨oL, eL, nL, ks11 _ _ L23 hL, r⟩
  have hc11 : h11.IsCell (L + 1) (some (.ref 21)) := by
    obtain ⟨o, ho, hd⟩ := hc
    refine ⟨o, ks11 _ _ (fun q => ?_) ho, hd⟩
    rw [q, h23] at ho; cases ho; cases hd
  have g23 : h11.get? 23 = some (tabObj (#[] ++ #[rawInt 7, rawInt 4, .ref cc])) := by
    have nb : (23 : Nat) ∉ [N, P] := by
      simp only [List.mem_cons, List.not_mem_nil, or_false, not_or]
      exact ⟨N23.symm, sP _ _ h23⟩
    exact k11 _ _ (k10 _ _ nb (k9 _ _ nb (k8 _ _ N23.symm (nf.keep _ _ h23n))))
  have fc : ∀ {f name qual params body scope clos}, FnK N P h10 f name qual params body scope clos → FnC h11 f name qual params body scope clos := fun x => let ⟨c, ctv, doc, pm, a, b, _⟩ := x; ⟨c, ctv, doc, pm, k11 _ _ a, b.keeps k11⟩
  have K11 : IsK h11 C ns D f1 f2 (L + 1) _ _ 3 := { cl := Cl11, new := rfl, init := rfl, lt := rfl, obj := rfl, ga := rfl, gat := rfl, sa := rfl, nw := rfl, d := ⟨_, _, gD11⟩, f1 := fc (F1.kb k10), f2 := fc (F2.kb k10), cell := hc11 }
  refine wpAny_bindName (wpAny_storeName_local (m := m) rfl hn11 (fun h12 hn12 hs12 => ?_) rfl)
  have k12 : ∀ b o, b ≠ L → h11.get? b = some o → h12.get? b = some o := fun b o q e => hs12.extBut b o q e
  exact hQ C ns D f1 f2 _ _ 3 _ h12 _ (fun b o q q' e => k12 _ _ q' (ks11 _ _ q e)) hn12 (K11.but hn11 hm k12) (k12 _ _ L23.symm g23)
end
end Mine
end

-- part Ctk
section
set_option maxRecDepth 100000
set_option maxHeartbeats 4000000
namespace Mine
open PySem.Calls
section
variable {prog : Program} {w : World} {A : Around} {E : Value → Shared → Prop} {s : Shared} {mg mb : Str → Option Value} {h₀ : Heap}

theorem call_ctk {Q : Value → Shared → Prop} (B : Bs w mg mb h₀) (hk : ∀ b o, h₀.get? b = some o → s.heap.get? b = some o) (n23 : h₀.get? 23 = none) (h23 : s.heap.get? 23 = some (tabObj #[])) (C27 : CodeHd h₀ 27 23) (hd : A.depth + 1 < recursionLimit)
    (hQ : ∀ C ns D f1 f2 c sl es n ps h' tk, (∀ b o, b ≠ 23 → s.heap.get? b = some o → h'.get? b = some o) → IsK h' C ns D f1 f2 c sl es n → h'.get? 23 = some (tabObj ps) → Q (.ref C) { s with heap := h', toks := tk }) :
    wpAny (model prog w) A (call (.ref 28) [.ref 21]) Q E s := by
  have B0 := B.keeps hk
  refine wpAny_call ?_
  refine call_own (qual := "cmp_to_key") (scope := fScope (stm 3)) (body := fBody (stm 3)) (cdv := .ref 27) (params := fArgs (stm 3)) (Nat.lt_of_succ_lt hd) (B0.X 28 _ rfl) rfl B0.nolimit (codeRec_of (K := KF w) B0.X (by rfl)) (BindsTo.of_eq (binds := [("mycmp", .ref 21)]) rfl) rfl (fun L s1 hL x => ?_)
  have hc : s1.heap.IsCell (L + 1) (some (.ref 21)) := x.cell "mycmp" (L + 1) rfl
  have k1 := x.toInCall.keep
  obtain ⟨h1, t1, rfl, _⟩ := x.done
  refine wpAny_execs_cons (exec_cls (s := { s with heap := h1, toks := t1 }) (L := L) (m := fun _ => none) B (fun b o e => k1 _ _ (hk _ _ e)) n23 x.toInCall.ns hc (k1 _ _ h23) C27 hd rfl fun C ns D f1 f2 sl es n ps h' tk k' hn' K' g' => ?_)
  refine wpAny_execs_cons (wpAny_Return_some (nmL hn' rfl ?_))
  refine hQ C ns D f1 f2 _ sl es n ps h' tk (fun b o q e => k' _ _ q (fun q' => ?_) (k1 _ _ e)) K' g'
  rw [q', hL] at e
  exact Nat.lt_irrefl _ (Heap.lt_size e)
end
end Mine
end

-- part Inst
section
set_option maxRecDepth 100000
set_option maxHeartbeats 4000000
namespace Mine
open PySem.Calls

abbrev dObj (C : Addr) (u v : Tok) : Obj := { cls := .type "member_descriptor", data := .fields #[.str "obj" u, .ref C, .builtin "proto.slot", .builtin "proto.slot#set", .int 0 v] }
def frI (C ns D : Addr) (sl : Array (Option Value)) (es : List DictEntry) (n : Nat) (u v : Tok) : Frag := [(C, ⟨.type "type", none, .cls (cdK C ns), sl⟩), (ns, dictOf es n), (D, dObj C u v)]
section
variable {h : Heap} {C ns D f1 f2 c : Addr} {sl : Array (Option Value)} {es : List DictEntry} {n : Nat} {u v : Tok}
theorem IsK.fr (x : IsK h C ns D f1 f2 c sl es n) (hD : h.get? D = some (dObj C u v)) : (frI C ns D sl es n u v).In h := by
  intro a o e
  unfold frI at e
  simp only [List.lookup] at e
  split at e
  · rename_i q; cases e; rw [beq_iff_eq.mp q]; exact x.cl.at_
  · split at e
    · rename_i q; cases e; rw [beq_iff_eq.mp q]; exact x.cl.ns_
    · split at e
      · rename_i q; cases e; rw [beq_iff_eq.mp q]; exact hD
      · cases e
theorem IsK.l1 (_x : IsK h C ns D f1 f2 c sl es n) : (frI C ns D sl es n u v).lookup C = some ⟨.type "type", none, .cls (cdK C ns), sl⟩ := by simp [frI]
theorem IsK.l2 (x : IsK h C ns D f1 f2 c sl es n) : (frI C ns D sl es n u v).lookup ns = some (dictOf es n) := by
  have hne : (ns == C) = false := by rw [beq_eq_false_iff_ne]; exact x.cl.ne
  simp [frI, List.lookup, hne]
theorem IsK.l3 (x : IsK h C ns D f1 f2 c sl es n) (hD : h.get? D = some (dObj C u v)) : (frI C ns D sl es n u v).lookup D = some (dObj C u v) := by
  have h1 : (D == C) = false := by
    rw [beq_eq_false_iff_ne]; intro q
    have a := x.cl.at_
    rw [q, a] at hD
    exact absurd (congrArg Obj.cls (Option.some.inj hD)) (by intro e; exact absurd (Value.type.inj e) (by decide))
  have h2 : (D == ns) = false := by
    rw [beq_eq_false_iff_ne]; intro q
    have a := x.cl.ns_
    rw [q, a] at hD
    exact absurd (congrArg Obj.cls (Option.some.inj hD)) (by intro e; exact absurd (Value.type.inj e) (by decide))
  simp [frI, List.lookup, h1, h2]
theorem IsK.own (x : IsK h C ns D f1 f2 c sl es n) (name : Str) : ownIn (frI C ns D sl es n u v) name (.ref C) = getL name es := by
  simp only [ownIn, x.l1, nsIn, x.l2]
  rfl
theorem IsK.find1 (x : IsK h C ns D f1 f2 c sl es n) {name : Str} {y : Value} (e : getL name es = some (some y)) : findIn (frI C ns D sl es n u v) (.ref C) name = some (some y) := by
  simp only [findIn, x.l1, alongIn, x.own, e]
theorem IsK.find0 (x : IsK h C ns D f1 f2 c sl es n) {name : Str} {r : Option Value} (e : getL name es = some none) (e' : fastBuiltinOwn "object" name = r) : findIn (frI C ns D sl es n u v) (.ref C) name = some r := by
  have o2 : ownIn (frI C ns D sl es n u v) name (.type "object") = some r := by simp only [ownIn, e']
  simp only [findIn, x.l1, alongIn, x.own, e, o2]
  cases r <;> rfl
theorem IsK.cls_ (x : IsK h C ns D f1 f2 c sl es n) : clsIn (frI C ns D sl es n u v) C = some (cdK C ns) := by unfold clsIn; rw [x.l1]
theorem IsK.tyC (x : IsK h C ns D f1 f2 c sl es n) : typeIn (frI C ns D sl es n u v) (.ref C) = some (.type "type") := by simp only [typeIn, x.l1]; rfl
theorem IsK.tyD (x : IsK h C ns D f1 f2 c sl es n) (hD : h.get? D = some (dObj C u v)) : typeIn (frI C ns D sl es n u v) (.ref D) = some (.type "member_descriptor") := by simp only [typeIn, x.l3 hD]; rfl
theorem IsK.takes (x : IsK h C ns D f1 f2 c sl es n) (hD : h.get? D = some (dObj C u v)) : takesIn (frI C ns D sl es n u v) (.ref D) = some true := by
  have : specialIn (frI C ns D sl es n u v) (.ref D) "__set__" = some (some (.builtin "member_descriptor.__set__")) := by
    unfold specialIn; rw [x.tyD hD, Option.bind_some]; kernel_rfl
  unfold takesIn; rw [this]
theorem IsK.taker (x : IsK h C ns D f1 f2 c sl es n) (hD : h.get? D = some (dObj C u v)) : takerIn (frI C ns D sl es n u v) C "obj" = some (some (.ref D)) := by
  unfold takerIn; rw [x.find1 x.obj, Option.bind_some]; simp only [x.takes hD]; rfl
theorem IsK.slot (x : IsK h C ns D f1 f2 c sl es n) (hD : h.get? D = some (dObj C u v)) : slotIn (frI C ns D sl es n u v) D C = some 0 := by
  have e1 : recIn (frI C ns D sl es n u v) D "member_descriptor" = some [.str "obj" u, .ref C, .builtin "proto.slot", .builtin "proto.slot#set", .int 0 v] := by
    simp only [recIn, x.l3 hD]; rfl
  unfold slotIn
  rw [e1, x.cls_]
  simp
theorem IsK.makes (x : IsK h C ns D f1 f2 c sl es n) (hD : h.get? D = some (dObj C u v)) {M : Model} : Makes M h C := by
  refine makes_of (x.fr hD) ?_
  have e1 : specialIn (frI C ns D sl es n u v) (.ref C) "__call__" = some (some (.builtin "type.__call__")) := by unfold specialIn; rw [x.tyC, Option.bind_some]; kernel_rfl
  have e2 : instIn (frI C ns D sl es n u v) (.ref C) (.type "type") = some true := by unfold instIn; rw [x.tyC, Option.bind_some]; kernel_rfl
  unfold makesIn
  rw [x.l1]
  simp only [e1, e2, x.new]
  simp
end
end Mine
end

-- part InstB
section
set_option maxRecDepth 100000
set_option maxHeartbeats 4000000
namespace Mine
open PySem.Calls PySem.Builtin PySem.Builtin.Getset_descriptor
/-- an object of K that holds v -/
def InstK (h : Heap) (C x : Addr) (v : Value) : Prop := ∃ dx, h.get? x = some ⟨.ref C, some dx, .plain, #[some v]⟩ ∧ h.get? dx = some emptyDict
theorem InstK.keeps {h h' : Heap} {C x : Addr} {v : Value} (i : InstK h C x v) (k : ∀ b o, h.get? b = some o → h'.get? b = some o) : InstK h' C x v :=
  let ⟨dx, a, b⟩ := i; ⟨dx, k _ _ a, k _ _ b⟩
section
variable {prog : Program} {w : World} {A : Around} {E : Value → Shared → Prop} {s : Shared} {mg mb : Str → Option Value}
variable {C ns D f1 f2 c : Addr} {sl : Array (Option Value)} {es : List DictEntry} {n : Nat}
theorem slot_set_n {K : Frag} {x : Addr} {ox : Obj} {od : Option Obj} {v : Value} {p i : Nat} {R : Result → Shared → Prop} (X : K.In s.heap) (I : InstAt s.heap x ox C od)
    (hp : slotIn K p C = some i) (hi : i < 1000)
    (hf : ({ ox with slots := (ox.slots ++ Array.replicate (i + 1 - ox.slots.size) none).setIfInBounds i (some v) } : Obj).isFreed = false)
    (h : ∀ h', Ch s.heap x { ox with slots := (ox.slots ++ Array.replicate (i + 1 - ox.slots.size) none).setIfInBounds i (some v) } h' → R (.ok (.ret .none)) { s with heap := h' }) :
    codeAny (model prog w) A (.call (.builtin "member_descriptor.__set__") ⟨[.ref p, .ref x, v], []⟩) R s := by
  obtain ⟨n, tn, owner, behind, tb, d, sl, cd, ho, hc, hm, hb, rfl⟩ := slot_of X hp
  obtain ⟨hh, g, dr, t, os⟩ := s
  have L0 := I.type (M := model prog w)
  have L1 := looks_mroIn (M := model prog w) X hm
  have L2 : Looks (model prog w) hh (Builtin.Slots.slotNamesOf (.ref C)) cd.slotNames := (looks_clsIn X hc).andThen .now
  have hx := I.at_
  dsimp only at ho hx L0 L1
  have f0 := looks_field (M := model prog w) ho 0 (v := .str n tn) rfl
  have f1 := looks_field (M := model prog w) ho 1 (v := owner) rfl
  have f3 := looks_field (M := model prog w) ho 3 (v := .builtin "proto.slot#set") rfl
  have f4 := looks_field (M := model prog w) ho 4 (v := .int behind tb) rfl
  refine codeAny_call_builtin KF.slot_mset.plain KF.entry_mset (KF.slot_mset.check _ _ _ _ _ _ _ _ ⟨_, ho, rfl⟩ (KF.args_mset _ _ _) ?_)
  unfold Builtin.«member_descriptor.__set__» descrSet descrStoreThrough descrCheckInstance descrNameAndClass isInstance
  have f5 : Looks (model prog w) hh (descrItself (.ref p)) [.ref p] := ((Looks.ld (part := none) ho).andThen .now).andThen (Looks.of_pure (by kernel_rfl))
  repeat lk
  refine ⟨Code.quiet_builtin _ (by decide +kernel), codeAny_builtin KF.entry_slotset ?_⟩
  unfold Builtin.«proto.slot#set» Builtin.Slots.target
  repeat lk
  rw [if_neg hb]
  refine wpAny_pure (wpAny_bind ?_)
  unfold setSlotAt
  dsimp only
  rw [if_neg (by rw [sizeLine_eq]; omega)]
  exact updPart_n hx hf fun h' k => wpAny_pure (h _ k)

theorem set_obj {y dx : Addr} {v : Value} {Q : Unit → Shared → Prop} (x : IsK s.heap C ns D f1 f2 c sl es n) (hx : s.heap.get? y = some (instObj C dx)) (hdx : s.heap.get? dx = some emptyDict)
    (h : ∀ h', Ch s.heap y ⟨.ref C, some dx, .plain, #[some v]⟩ h' → Q () { s with heap := h', toks := s.toks + 1 }) : wpAny (model prog w) A (setAttr (.ref y) "obj" v) Q E s := by
  obtain ⟨u, q, hD⟩ := x.d
  have I : InstAt s.heap y (instObj C dx) C (some emptyDict) := ⟨hx, rfl, rfl, hdx⟩
  refine set_plain (x.fr hD) I (x.find0 x.sa (by kernel_rfl)) (osa_descr (s := { s with toks := s.toks + 1 }) KF.slot_mset (x.fr hD) I ?_ (x.taker hD) (x.tyD hD) (slot_set_n (s := { s with toks := s.toks + 1 }) (x.fr hD) I (x.slot hD) (by decide) rfl fun h' k => h h' k))
  unfold plainOver
  rw [x.cls_]
  rfl

theorem make_inst {v : Value} {Q : Value → Shared → Prop} (B : Bs w mg mb s.heap) (x : IsK s.heap C ns D f1 f2 c sl es n) (hd : A.depth + 1 < recursionLimit)
    (h : ∀ y s', Keeps s s' → InstK s'.heap C y v → Q (.ref y) s') : wpAny (model prog w) A (call (.ref C) [v]) Q E s := by
  obtain ⟨u, q, hD⟩ := x.d
  obtain ⟨cf, ctv, doc, pm, hf, hc⟩ := x.f1
  refine wpAny_call ?_
  obtain ⟨hh, g, d, t, os⟩ := s
  have XF : (Frag.In [(f1, _)] hh) := fun a o e => by
    simp only [List.lookup] at e
    split at e
    · rename_i q; cases e; rw [beq_iff_eq.mp q]; exact hf
    · cases e
  refine make_core (x.makes hD) (init := .ref f1) (looks_findIn (x.fr hD) (x.find1 x.init)) (fun self => bind_fn XF self (by simp [typeIn, List.lookup])) (.inl (by rfl)) ?_
  have N1 : Nw hh hh.objs.size emptyDict (hh.push emptyDict) := nw_push rfl
  have N2 : Nw (hh.push emptyDict) (hh.objs.size + 1) (instObj C hh.objs.size) ((hh.push emptyDict).push (instObj C hh.objs.size)) := by
    rw [← Heap.size_push hh emptyDict]; exact nw_push rfl
  have k2 : ∀ b o, hh.get? b = some o → ((hh.push emptyDict).push (instObj C hh.objs.size)).get? b = some o := fun b o e => N2.keep _ _ (N1.keep _ _ e)
  have hdx : ((hh.push emptyDict).push (instObj C hh.objs.size)).get? hh.objs.size = some emptyDict := N2.keep _ _ N1.at_
  have hnew : ∀ b o, hh.get? b = some o → b ≠ hh.objs.size + 1 := fun b o e => Nat.ne_of_lt (Nat.lt_succ_of_lt (Heap.lt_size e))
  generalize hh.objs.size + 1 = y at *
  generalize hh.objs.size = dx at *
  have hy := N2.at_
  generalize (hh.push emptyDict).push (instObj C dx) = h2 at *
  refine call_fn (scope := fScope (mSt 2)) (body := fBody (mSt 2)) (params := fArgs (mSt 2)) (binds := [("self", .ref y), ("obj", v)]) hd (k2 _ _ hf) rfl (B.nolimit.keeps k2) (hc.keeps k2) (BindsTo.of_eq rfl) (locs rfl) (fun L s1 hL K1 hn => ?_)
  obtain ⟨h3, t3, rfl, k3⟩ := K1
  refine wpAny_execs_cons (plainObj_wpAny_Assign_Attribute (nmL hn rfl (nmL hn rfl ?_)))
  refine set_obj (dx := dx) (x.keeps fun b o e => k3 _ _ (k2 _ _ e)) (k3 _ _ hy) (k3 _ _ hdx) fun h4 K4 => wpAny_execs_nil ?_
  have hne : dx ≠ y := fun q => by
    rw [q, hy] at hdx; exact absurd (congrArg Obj.cls (Option.some.inj hdx)) (by intro e; cases e)
  refine ⟨rfl, h y _ ⟨h4, _, rfl, fun b o e => K4.keep _ _ (hnew _ _ e) (k3 _ _ (k2 _ _ e))⟩ ⟨dx, K4.at_, K4.keep _ _ hne (k3 _ _ hdx)⟩⟩
theorem get_obj {y : Addr} {v : Value} {expr : Bool} {Q : Value → Shared → Prop} (x : IsK s.heap C ns D f1 f2 c sl es n) (i : InstK s.heap C y v) (hh : handedIn v = true)
    (h : Q v { s with toks := s.toks + 1 }) : wpAny (model prog w) A (getAttr (.ref y) "obj" expr) Q E s := by
  obtain ⟨u, q, hD⟩ := x.d
  obtain ⟨dx, hy, hdx⟩ := i
  have I : InstAt s.heap y ⟨.ref C, some dx, .plain, #[some v]⟩ C (some emptyDict) := ⟨hy, rfl, rfl, hdx⟩
  have hg : specialIn (frI C ns D sl es n u q) (.ref D) "__get__" = some (some (.builtin "member_descriptor.__get__")) := by
    unfold specialIn; rw [x.tyD hD, Option.bind_some]; kernel_rfl
  refine get_bind (x.fr hD) I (x.find0 x.ga (by kernel_rfl)) (findObj_data (by rw [x.cls_]; rfl) (x.find1 x.obj) hg (x.takes hD)) (x.find0 x.gat (by kernel_rfl)) (wpAny_call (slot_get (s := { s with toks := s.toks + 1 }) (x.fr hD) I (x.slot hD) (by rfl) (handed_on hh h)))

theorem lt_inst {y z : Addr} {a b : Str} {ta tb : Tok} {Q : Bool → Shared → Prop} (hu : A.units < cLine) (B : Bs w mg mb s.heap) (x : IsK s.heap C ns D f1 f2 c sl es n) (i : InstK s.heap C y (.str a ta)) (j : InstK s.heap C z (.str b tb)) (hd : A.depth + 1 < recursionLimit)
    (h : ∀ s', Keeps s s' → Q (decide (coll a b < 0)) s') : wpAny (model prog w) A (keyLt' oneType' (.ref y) (.ref z)) Q E s := by
  have x₀ := x
  have i₀ := i
  obtain ⟨u, q, hD⟩ := x.d
  obtain ⟨cf, ctv, doc, pm, hf, hc⟩ := x.f2
  obtain ⟨dx, hy, hdx⟩ := i
  have I : InstAt s.heap y ⟨.ref C, some dx, .plain, #[some (.str a ta)]⟩ C (some emptyDict) := ⟨hy, rfl, rfl, hdx⟩
  rw [keyLt'_oneType, oneLt'_eq]
  simp only [if_true]
  refine wpAny_bind (wpAny_cRoomFor hu ?_)
  refine wpAny_bind ?_
  simp only [callSpecialIfBound?, bindSpecialIfBound?]
  have XF : (Frag.In [(f2, _)] s.heap) := fun a o e => by
    simp only [List.lookup] at e
    split at e
    · rename_i q; cases e; rw [beq_iff_eq.mp q]; exact hf
    · cases e
  have bf := fun self => bind_fn (M := model prog w) (f := f2) XF self (by simp [typeIn, List.lookup])
  refine wpAny_holding (wpAny_bind (wpAny_bind (wpAny_bind (I.type.here ((looks_findIn (x.fr hD) (x.find1 x.lt)).here ?_)))))
  refine wpAny_bind (wpAny_askSetting (wpAny_ite ?_))
  have fin : wpAny (model prog w) A (call (.ref f2) ([.ref y] ++ [.ref z]) >>= fun v => pure (some v)) (fun r s' => ∃ t, r = some (.bool (decide (coll a b < 0))) ∧ Keeps s s' ∧ t = 0) E s := by
    refine wpAny_bind (wpAny_call ?_)
    refine call_fn (scope := fScope (mSt 3)) (body := fBody (mSt 3)) (params := fArgs (mSt 3)) (binds := [("self", .ref y), ("other", .ref z)]) (Nat.lt_of_succ_lt hd) hf rfl B.nolimit hc (BindsTo.of_eq rfl) (locs rfl) (fun L s1 hL K1 hn => ?_)
    have x1 := x.keeps (kp_heap K1)
    have B1 := B.keeps (kp_heap K1)
    have i1 := i₀.keeps (kp_heap K1)
    have j1 := j.keeps (kp_heap K1)
    refine wpAny_execs_cons (wpAny_Return_some (wpAny_Compare1 ?_))
    have h21 := B1.X 21 _ rfl
    refine Call_ (nmF x1.cell (callWith_F ⟨_, _, _, _, h21⟩ ?_))
    refine args_cons (Attribute_name (nmL hn rfl (get_obj x1 i1 rfl ?_)))
    refine args_cons (Attribute_name (nmL (s := { s1 with toks := s1.toks + 1 }) hn rfl (get_obj (s := { s1 with toks := s1.toks + 1 }) x1 j1 rfl ?_)))
    refine args_nil ⟨⟨_, _, _, _, h21⟩, ?_⟩
    refine call_strcoll (s := { s1 with toks := s1.toks + 1 + 1 }) B1 hd fun s2 t2 K2 => ?_
    refine wpAny_Constant_int (lt_int ?_)
    exact wpAny_pure ⟨0, rfl, kp_trans K1 (kp_trans (kp_trans (kp_tok _) K2) (kp_tok _)), rfl⟩
  split
  · exact wpAny_bind ((bf _).here (wpAny_pure (by exact wpAny_mono fin (fun r s' hr => by obtain ⟨t, rfl, hk, _⟩ := hr; exact wpAny_truthy_bool (h _ hk)) fun _ _ e => e)))
  · exact wpAny_tryCatch (wpAny_bind ((bf _).here (wpAny_pure (by exact wpAny_mono fin (fun r s' hr => by obtain ⟨t, rfl, hk, _⟩ := hr; exact wpAny_truthy_bool (h _ hk)) fun _ _ e => e))))
end
end Mine
end

-- part TreeS
section
set_option maxRecDepth 100000
set_option maxHeartbeats 4000000
namespace Mine
/-- a tree's answer, where the comparisons are those of ranks -/
noncomputable def okT {α : Type} (rank : Nat → Int) (N : Nat) : KasT α → (α → Prop) → Prop
  | .ret a, Q => Q a
  | .ask i j k, Q => i < N ∧ j < N ∧ okT rank N (k (decide (rank i < rank j))) Q
theorem okT_bind {α β : Type} {rank : Nat → Int} {N : Nat} {f : α → KasT β} {Q : β → Prop} : ∀ {t : KasT α}, okT rank N t (fun a => okT rank N (f a) Q) → okT rank N (t.bind f) Q
  | .ret _, h => h
  | .ask _ _ k, ⟨a, b, h⟩ => ⟨a, b, okT_bind (t := k _) h⟩
theorem okT_mono {α : Type} {rank : Nat → Int} {N : Nat} {Q Q' : α → Prop} : ∀ {t : KasT α}, okT rank N t Q → (∀ a, Q a → Q' a) → okT rank N t Q'
  | .ret _, h, m => m _ h
  | .ask _ _ k, ⟨a, b, h⟩, m => ⟨a, b, okT_mono (t := k _) h m⟩
section
variable {rank : Nat → Int} {N : Nat}
def Rk (rank : Nat → Int) (p : Array Nat) (i : Nat) : Int := rank (p.getD i 0)
def Gp (N : Nat) (p : Array Nat) : Prop := p.Perm (List.range N).toArray
theorem Gp.size {p : Array Nat} (g : Gp N p) : p.size = N := by have := g.size_eq; simpa using this
theorem Gp.lt {p : Array Nat} (g : Gp N p) (h : 0 < N) (i : Nat) : p.getD i 0 < N := by
  by_cases hi : i < p.size
  · have e : p.getD i 0 = p[i] := by simp [Array.getD, hi]
    rw [e]
    have : p[i] ∈ (List.range N).toArray := g.mem_iff.mp (Array.getElem_mem hi)
    simpa using this
  · simp [Array.getD, hi, h]
theorem getD_q (p : Array Nat) (i : Nat) : p.getD i 0 = (p[i]?).getD 0 := by simp
theorem Gp.rev {p : Array Nat} (g : Gp N p) (i j : Nat) : Gp N (kas_rev p i j) := (mirror_perm _ _ _ _).trans g
theorem Gp.bub {p : Array Nat} (g : Gp N p) (i j : Nat) : Gp N (bubble p i j) := (bubble_perm _ _ _).trans g
theorem Rk_rev {p : Array Nat} {i j : Nat} (hj : j ≤ p.size) (k : Nat) : Rk rank (kas_rev p i j) k = if i ≤ k ∧ k < j then Rk rank p (i + j - 1 - k) else Rk rank p k := by
  unfold Rk kas_rev
  rw [getD_q, getElem?_mirror_all hj]
  split <;> rw [getD_q]
theorem Rk_rev_equal {p : Array Nat} {i j : Nat} (hj : j ≤ p.size) (heq : ∀ k, i ≤ k → k < j → Rk rank p k = Rk rank p (j - 1)) (k : Nat) : Rk rank (kas_rev p i j) k = Rk rank p k := by
  rw [Rk_rev hj]
  split
  · rw [heq _ (by omega) (by omega), heq k (by omega) (by omega)]
  · rfl
theorem Rk_bub {p : Array Nat} {src d : Nat} (hs : src < p.size) (hd : d ≤ src) (k : Nat) :
    Rk rank (bubble p src d) k = if k = src - d then Rk rank p src else if src - d < k ∧ k ≤ src then Rk rank p (k - 1) else Rk rank p k := by
  have e : ∀ (q : Array Nat) i, Rk rank q i = rank ((q[i]?).getD 0) := fun q i => by unfold Rk; rw [getD_q]
  rw [e, e, e, e, getElem?_bubble hs d hd]
  split
  · rfl
  · split <;> rfl
def SoT (rank : Nat → Int) (p : Array Nat) (n : Nat) : Prop := ∀ i j, i ≤ j → j < n → Rk rank p i ≤ Rk rank p j
def NiT (rank : Nat → Int) (p : Array Nat) (n : Nat) : Prop := ∀ i j, i ≤ j → j < n → Rk rank p j ≤ Rk rank p i

theorem asc_ok {p : Array Nat} (g : Gp N p) (h0 : 0 < N) {Q : Nat → Prop} : ∀ (f a : Nat), 1 ≤ a → SoT rank p a →
    (∀ n, a ≤ n → n ≤ a + f → SoT rank p n → (n = a + f ∨ Rk rank p n < Rk rank p (n - 1)) → Q n) → okT rank N (kas_asc p f a) Q
  | 0, a, _, hs, h => h a (Nat.le_refl _) (Nat.le_refl _) hs (.inl rfl)
  | f + 1, a, ha, hs, h => by
    refine ⟨g.lt h0 _, g.lt h0 _, ?_⟩
    by_cases hl : rank (p.getD a 0) < rank (p.getD (a - 1) 0)
    · simp only [hl, decide_true, if_true]
      exact h a (Nat.le_refl _) (by omega) hs (.inr hl)
    · simp only [hl, decide_false, Bool.false_eq_true, if_false]
      refine asc_ok g h0 f (a + 1) (by omega) (fun i j hij hj => ?_) fun n h1 h2 h3 h4 => h n (by omega) (by omega) h3 (h4.imp (by omega) id)
      by_cases hjx : j < a
      · exact hs i j hij hjx
      · have hj' : j = a := by omega
        subst hj'
        by_cases hi' : i = j
        · subst hi'; exact Int.le_refl _
        · exact Int.le_trans (hs i (j - 1) (by omega) (by omega)) (Int.not_lt.mp hl)

theorem desc_ok (h0 : 0 < N) {Q : Array Nat × Nat × Nat → Prop} : ∀ (f : Nat) (p : Array Nat) (x q : Nat), Gp N p → 1 ≤ x → x + f ≤ N → NiT rank p x → q + 1 ≤ x → (∀ i, x - (q + 1) ≤ i → i < x → Rk rank p i = Rk rank p (x - 1)) →
    (∀ p' m q', Gp N p' → x ≤ m → m ≤ x + f → NiT rank p' m → q' + 1 ≤ m → (∀ i, m - (q' + 1) ≤ i → i < m → Rk rank p' i = Rk rank p' (m - 1)) → Q (p', m, q')) → okT rank N (kas_desc f p x q) Q
  | 0, p, x, q, g, _, _, hs, hq, he, h => h p x q g (Nat.le_refl _) (Nat.le_refl _) hs hq he
  | f + 1, p, x, q, g, h1, hf, hs, hq, he, h => by
    refine ⟨g.lt h0 _, g.lt h0 _, ?_⟩
    have hsz : x ≤ p.size := by rw [g.size]; omega
    by_cases hl : rank (p.getD x 0) < rank (p.getD (x - 1) 0)
    · simp only [hl, decide_true, if_true]
      have hl' : Rk rank p x < Rk rank p (x - 1) := hl
      have step1 : ∀ xs : Array Nat, (∀ k, Rk rank xs k = Rk rank p k) → NiT rank xs (x + 1) := by
        intro xs hk i j hij hj
        rw [hk, hk]
        by_cases hjx : j < x
        · exact hs i j hij hjx
        · have hj' : j = x := by omega
          subst hj'
          by_cases hi' : i = j
          · subst hi'; exact Int.le_refl _
          · exact Int.le_trans (Int.le_of_lt hl') (hs i (j - 1) (by omega) (by omega))
      by_cases hneq : q > 0
      · rw [if_pos hneq]
        refine desc_ok h0 f _ (x + 1) 0 (g.rev _ _) (by omega) (by omega) (step1 _ (Rk_rev_equal hsz he)) (by omega) (fun i a b => by congr 1; omega) fun p' m q' a b c d e k => h p' m q' a (by omega) (by omega) d e k
      · rw [if_neg hneq]
        exact desc_ok h0 f _ (x + 1) 0 g (by omega) (by omega) (step1 _ fun _ => rfl) (by omega) (fun i a b => by congr 1; omega) fun p' m q' a b c d e k => h p' m q' a (by omega) (by omega) d e k
    · simp only [hl, decide_false, Bool.false_eq_true, if_false]
      refine ⟨g.lt h0 _, g.lt h0 _, ?_⟩
      by_cases hg : rank (p.getD (x - 1) 0) < rank (p.getD x 0)
      · simp only [hg, decide_true, if_true]
        exact h p x q g (Nat.le_refl _) (by omega) hs hq he
      · simp only [hg, decide_false, Bool.false_eq_true, if_false]
        have heqx : Rk rank p x = Rk rank p (x - 1) := by unfold Rk; omega
        refine desc_ok h0 f _ (x + 1) (q + 1) g (by omega) (by omega) (fun i j hij hj => ?_) (by omega) (fun i a b => ?_) fun p' m q' a b c d e k => h p' m q' a (by omega) (by omega) d e k
        · by_cases hjx : j < x
          · exact hs i j hij hjx
          · have hj' : j = x := by omega
            subst hj'
            by_cases hi' : i = j
            · subst hi'; exact Int.le_refl _
            · rw [heqx]; exact hs i (j - 1) (by omega) (by omega)
        · rw [show x + 1 - 1 = x by omega]
          by_cases hix : i = x
          · subst hix; rfl
          · rw [heqx]; exact he i (by omega) (by omega)

theorem tail3_ok (h0 : 0 < N) {Q : Nat × Array Nat → Prop} {p : Array Nat} {n : Nat} (g : Gp N p) (h1 : 1 ≤ n) (hn : n ≤ N) (hs : NiT rank p n)
    (h : ∀ m p', Gp N p' → 1 ≤ m → m ≤ N → SoT rank p' m → Q (m, p')) : okT rank N (kas_tail3 n N p) Q := by
  unfold kas_tail3
  have hsz : n ≤ p.size := by rw [g.size]; exact hn
  refine okT_bind (asc_ok (g.rev _ _) h0 _ n h1 ?_ fun m a b c _ => h m _ (g.rev _ _) (by omega) (by omega) c)
  intro i j hij hj
  rw [Rk_rev hsz, Rk_rev hsz, if_pos (by omega), if_pos (by omega)]
  exact hs _ _ (by omega) (by omega)

theorem descPart_ok (h0 : 0 < N) {Q : Nat × Array Nat → Prop} {p : Array Nat} {n : Nat} (g : Gp N p) (hn : n + 1 ≤ N) (hs : NiT rank p (n + 1))
    (h : ∀ m p', Gp N p' → 1 ≤ m → m ≤ N → SoT rank p' m → Q (m, p')) : okT rank N (kas_descPart n N p) Q := by
  unfold kas_descPart
  refine okT_bind (desc_ok h0 _ p (n + 1) 0 g (by omega) (by omega) hs (by omega) (fun i a b => by congr 1; omega) fun p' m q' a b c d e k => ?_)
  dsimp only
  have hsz : m ≤ p'.size := by rw [a.size]; omega
  by_cases hq : q' > 0
  · rw [if_pos hq]
    refine tail3_ok h0 (a.rev _ _) (by omega) (by omega) (fun i j hij hj => ?_) h
    rw [Rk_rev_equal hsz k, Rk_rev_equal hsz k]
    exact d i j hij hj
  · rw [if_neg hq]
    exact tail3_ok h0 a (by omega) (by omega) d h

theorem count_ok (h0 : 0 < N) {Q : Nat × Array Nat → Prop} {p : Array Nat} (g : Gp N p)
    (h : ∀ m p', Gp N p' → 1 ≤ m → m ≤ N → SoT rank p' m → Q (m, p')) : okT rank N (kas_count N p) Q := by
  unfold kas_count
  refine okT_bind (asc_ok g h0 _ 1 (Nat.le_refl _) (fun i j hij hj => by have : i = j := by omega
                                                                         subst this; exact Int.le_refl _) fun n hn1 hn2 hsn hor => ?_)
  by_cases hnn : n = N
  · rw [if_pos (by simpa using hnn)]
    exact h n p g hn1 (by omega) hsn
  · rw [if_neg (by simpa using hnn)]
    have hlt : Rk rank p n < Rk rank p (n - 1) := hor.resolve_left (by omega)
    by_cases hgt : n > 1
    · rw [if_pos hgt]
      refine ⟨g.lt h0 _, g.lt h0 _, ?_⟩
      by_cases hr : rank (p.getD 0 0) < rank (p.getD (n - 1) 0)
      · simp only [hr, decide_true, if_true]
        exact h n p g hn1 (by omega) hsn
      · simp only [hr, decide_false, Bool.false_eq_true, if_false]
        have hr' : ¬ Rk rank p 0 < Rk rank p (n - 1) := hr
        have hsz : n ≤ p.size := by rw [g.size]; omega
        have hall : ∀ k, 0 ≤ k → k < n → Rk rank p k = Rk rank p (n - 1) := by
          intro k _ hk
          have a1 := hsn 0 k (by omega) hk
          have a2 := hsn k (n - 1) (by omega) (by omega)
          omega
        refine descPart_ok h0 (g.rev _ _) (by omega) (fun i j hij hj => ?_) h
        rw [Rk_rev_equal hsz hall, Rk_rev_equal hsz hall]
        by_cases hjn : j < n
        · rw [hall i (by omega) (by omega), hall j (by omega) hjn]; exact Int.le_refl _
        · have hj' : j = n := by omega
          subst hj'
          by_cases hi' : i = j
          · subst hi'; exact Int.le_refl _
          · rw [hall i (by omega) (by omega)]; exact Int.le_of_lt hlt
    · rw [if_neg hgt]
      have hn1' : n = 1 := by omega
      subst hn1'
      refine descPart_ok h0 g (by omega) (fun i j hij hj => ?_) h
      by_cases hi' : i = j
      · subst hi'; exact Int.le_refl _
      · have hi0 : i = 0 := by omega
        have hj1 : j = 1 := by omega
        subst hi0; subst hj1
        exact Int.le_of_lt hlt

theorem place_ok (h0 : 0 < N) {Q : Nat → Prop} {p : Array Nat} {k : Nat} (g : Gp N p) (hs : SoT rank p k) : ∀ (f l r : Nat), l ≤ r → r ≤ k → r - l ≤ f → (∀ i, i < l → Rk rank p i ≤ Rk rank p k) → (∀ i, r ≤ i → i < k → Rk rank p k < Rk rank p i) →
    (∀ l, l ≤ k → (∀ i, i < l → Rk rank p i ≤ Rk rank p k) → (∀ i, l ≤ i → i < k → Rk rank p k < Rk rank p i) → Q l) → okT rank N (kas_place p k f l r) Q
  | 0, l, r, hlr, hrk, hf, hlo, hhi, h => by
    have : l = r := by omega
    subst this
    exact h l hrk hlo hhi
  | f + 1, l, r, hlr, hrk, hf, hlo, hhi, h => by
    unfold kas_place
    by_cases hge : l ≥ r
    · rw [if_pos hge]
      have : l = r := by omega
      subst this
      exact h l hrk hlo hhi
    · rw [if_neg hge]
      refine ⟨g.lt h0 _, g.lt h0 _, ?_⟩
      by_cases hl : rank (p.getD k 0) < rank (p.getD ((l + r) / 2) 0)
      · simp only [hl, decide_true, if_true]
        exact place_ok h0 g hs f l ((l + r) / 2) (by omega) (by omega) (by omega) hlo (fun i h1 h2 => Int.lt_of_lt_of_le hl (hs _ _ h1 h2)) h
      · simp only [hl, decide_false, Bool.false_eq_true, if_false]
        exact place_ok h0 g hs f ((l + r) / 2 + 1) r (by omega) (by omega) (by omega) (fun i h1 => Int.le_trans (hs i ((l + r) / 2) (by omega) (by omega)) (Int.not_lt.mp hl)) hhi h

theorem bin_ok (h0 : 0 < N) {Q : Array Nat → Prop} : ∀ (f : Nat) (p : Array Nat) (k : Nat), Gp N p → k + f = N → SoT rank p k → (∀ p', Gp N p' → SoT rank p' N → Q p') → okT rank N (kas_bin f p k) Q
  | 0, p, k, g, hk, hs, h => h p g (by rw [show N = k by omega]; exact hs)
  | f + 1, p, k, g, hk, hs, h => by
    unfold kas_bin
    refine okT_bind (place_ok h0 g hs k 0 k (by omega) (by omega) (by omega) (fun i hi => by omega) (fun i h1 h2 => by omega) fun l hlk hlo hhi => ?_)
    refine bin_ok h0 f _ (k + 1) (g.bub _ _) (by omega) (fun i j hij hj => ?_) h
    have hks : k < p.size := by rw [g.size]; omega
    rw [Rk_bub hks (by omega), Rk_bub hks (by omega), show k - (k - l) = l by omega]
    repeat' split
    all_goals first
      | (exfalso; omega)
      | exact Int.le_refl _
      | exact hlo _ (by omega)
      | exact Int.le_of_lt (hhi _ (by omega) (by omega))
      | exact hs _ _ (by omega) (by omega)

theorem sort_ok (h0 : 0 < N) {Q : Array Nat → Prop} (h : ∀ p', Gp N p' → SoT rank p' N → Q p') : okT rank N (kas_sort N) Q := by
  unfold kas_sort
  refine okT_bind (count_ok h0 (p := (List.range N).toArray) (Array.Perm.refl _) fun m p' g h1 h2 hs => ?_)
  dsimp only
  by_cases hm : m < N
  · rw [if_pos hm, show max m 1 = m by omega]
    exact bin_ok h0 _ _ _ g (by omega) hs h
  · rw [if_neg hm]
    exact h p' g (by rw [show N = m by omega]; exact hs)

theorem okT_wp {α : Type} {cmp : Nat → Nat → (Bool → Shared → Prop) → Shared → Prop} {I : Shared → Prop} {Q : α → Prop} {G : α → Shared → Prop}
    (hc : ∀ i j C s, i < N → j < N → I s → (∀ s', I s' → C (decide (rank i < rank j)) s') → cmp i j C s) (hG : ∀ a s, Q a → I s → G a s) : ∀ {t : KasT α} {s : Shared}, okT rank N t Q → I s → t.kasWp cmp G s
  | .ret a, s, h, hi => hG a s h hi
  | .ask i j k, s, ⟨a, b, h⟩, hi => hc i j _ s a b hi fun _ hi' => okT_wp hc hG (t := k _) h hi'
end
end Mine
end

-- part SortK
section
set_option maxRecDepth 100000
set_option maxHeartbeats 4000000
namespace Mine
open PySem.Calls
section
variable {prog : Program} {w : World} {A : Around} {E : Value → Shared → Prop} {s : Shared}
theorem kp_ch {s s1 : Shared} {x : Addr} {o : Obj} {h' : Heap} (k : Keeps s s1) (hx : s.heap.objs.size ≤ x) (c : Ch s1.heap x o h') : Keeps s { s1 with heap := h' } := by
  obtain ⟨h1, t1, rfl, k1⟩ := k
  exact ⟨h', t1, rfl, fun b o e => c.keep _ _ (fun q => absurd (Heap.lt_size e) (by rw [q]; exact Nat.not_lt.mpr hx)) (k1 _ _ e)⟩
theorem kp_nw {s s1 : Shared} {x : Addr} {o : Obj} {h' : Heap} (k : Keeps s s1) (c : Nw s1.heap x o h') : Keeps s { s1 with heap := h' } := by
  obtain ⟨h1, t1, rfl, k1⟩ := k
  exact ⟨h', t1, rfl, fun b o e => c.keep _ _ (k1 _ _ e)⟩
theorem lupd {x : Addr} {its : Array Value} {e : Nat} {f : Array Value → Array Value} {Q : Unit → Shared → Prop} (ho : s.heap.get? x = some (seqObj "list" its e)) (h1 : its.size ≤ sizeLine) (h2 : (f its).size ≤ sizeLine)
    (h : ∀ h' e', Ch s.heap x (seqObj "list" (f its) e') h' → Q () { s with heap := h' }) : wpAny (model prog w) A (Builtin.List.listUpdate (.ref x) f) Q E s := by
  have s1 := Heap.SameBut.update s.heap x (Obj.mapSeq f)
  refine listUpdate_at ho rfl ?_ h1 (Nat.le_succ_of_le h2)
  exact h _ _ ⟨get?_update_seq ho f, fun b o n q => (s1.2 b n).trans q⟩
/-- the lists that a sort works on -/
structure Wk (s : Shared) (a kS : Addr) (e1 : Nat) (keys : Array Value) (s' : Shared) : Prop where
  keeps : Keeps s s'
  ks : ∃ e, s'.heap.get? kS = some (seqObj "list" keys e)
  aa : s'.heap.get? a = some (seqObj "list" #[] e1)
/-- what all but the lists keep -/
def NL (h h' : Heap) : Prop := ∀ b o, (∀ vs e, o ≠ seqObj "list" vs e) → h.get? b = some o → h'.get? b = some o
variable {KR : Heap → Nat → Value → Prop} {rank : Nat → Int} {f : Value} {vs : List Value} {a kS : Addr} {e1 : Nat}
theorem sk_tail {st : SortSt} {keys : Array Value} {P : PySem.Fin → Shared → Prop} {s' : Shared} (W : Wk s a kS e1 keys s') (ha : s.heap.objs.size ≤ a) (hk : s.heap.objs.size ≤ kS) (hka : kS ≠ a) (h64 : vs.length < 64) (hks : keys.size = vs.length)
    {out : Array Value} (hout : (arrOf st).map (·.2) = out) (hsz : out.size = vs.length) (hfl : failedOf st = none)
    (h : ∀ s'' c, Keeps s s'' → s''.heap.get? a = some (seqObj "list" out c) → P (.done (.ret .none)) s'') :
    wpAny (model prog w) A (ksk_tail a false e1 (.ref kS) st) P E s' := by
  obtain ⟨kp, ⟨e, hke⟩, hae⟩ := W
  unfold ksk_tail
  dsimp only
  refine wpAny_bind (lupd hke (by rw [hks, sizeLine_eq]; omega) (Nat.zero_le _) fun h1 e2 C1 => ?_)
  refine wpAny_bind (wpAny_letGo ?_)
  have ha1 := C1.keep _ _ hka.symm hae
  refine wpAny_bind (seqEpoch_at ha1 rfl ?_)
  refine wpAny_bind (lupd (s := { s' with heap := h1 }) ha1 (Nat.zero_le _) (by simp only [Bool.false_eq_true, if_false]; rw [hout, hsz, sizeLine_eq]; omega) fun h2 e3 C2 => ?_)
  rw [hfl]
  simp only [bne_self_eq_false, Bool.false_eq_true, if_false]
  have at2 := C2.at_
  simp only [Bool.false_eq_true, if_false] at at2
  rw [hout] at at2
  exact wpAny_pure (h _ e3 (kp_ch (s1 := { s' with heap := h1 }) (kp_ch kp hk C1) ha C2) at2)
theorem sk_end {keys : Array Value} {P : PySem.Fin → Shared → Prop} {s' : Shared} (W : Wk s a kS e1 keys s') (ha : s.heap.objs.size ≤ a) (hk : s.heap.objs.size ≤ kS) (hka : kS ≠ a) (h2 : 2 ≤ vs.length) (h64 : vs.length < 64) (hks : keys.size = vs.length)
    (hKR : ∀ i k, keys[i]? = some k → KR s'.heap i k) (mono : ∀ h h' i k, NL h h' → KR h i k → KR h' i k)
    (hkind : ∀ s', Keeps s s' → (∀ i k, keys[i]? = some k → KR s'.heap i k) → wpAny (model prog w) A (keyKind' keys) (fun r s'' => r = oneType' ∧ s'' = s') E s')
    (hcmp : ∀ i j ki kj s', i < vs.length → j < vs.length → Keeps s s' → KR s'.heap i ki → KR s'.heap j kj → ∀ C : Bool → Shared → Prop, (∀ s'', Keeps s' s'' → C (decide (rank i < rank j)) s'') → wpAny (model prog w) A (keyLt' oneType' ki kj) C (fun _ _ => False) s')
    (h : ∀ p s'' c, Keeps s s'' → Gp vs.length p → SoT rank p vs.length → s''.heap.get? a = some (seqObj "list" (p.map fun i => vs.getD i Value.none) c) → P (.done (.ret .none)) s'') :
    wpAny (model prog w) A (ksk_end a false vs.toArray e1 (.ref kS) keys) P E s' := by
  have hzs : (keys.zip vs.toArray).size = vs.length := by rw [Array.size_zip, hks, List.size_toArray, Nat.min_self]
  unfold ksk_end
  dsimp only
  rw [if_neg (by simp), if_neg (by rw [List.size_toArray]; omega), if_neg (by rw [List.size_toArray]; omega)]
  refine wpAny_bind (wpAny_mono (hkind s' W.keeps hKR) (fun r s'' hr => ?_) fun _ _ e => e)
  obtain ⟨rfl, rfl⟩ := hr
  have est : SortSt.mk' oneType' (keys.zip vs.toArray) #[] 7 none = kas_st oneType' (keys.zip vs.toArray) (List.toArray (List.range vs.length)) := by
    unfold kas_st
    rw [← hzs, kas_range]
  have it1 : ∀ i, i < vs.length → ∃ k, keys[i]? = some k ∧ (kas_item (keys.zip vs.toArray) i).1 = k ∧ (kas_item (keys.zip vs.toArray) i).2 = vs.getD i Value.none := fun i hi => by
    have h1 : i < (keys.zip vs.toArray).size := by rw [hzs]; exact hi
    have e : kas_item (keys.zip vs.toArray) i = (keys.zip vs.toArray)[i] := by unfold kas_item Array.getD; rw [dif_pos h1]; rfl
    refine ⟨keys[i]'(by rw [hks]; exact hi), by simp [hks, hi], ?_, ?_⟩
    · rw [e]; simp
    · rw [e]; simp [hi]
  rw [if_neg (by simp)]
  have hw : (kas_sort vs.length).kasWp (kas_cmp prog w A oneType' (keys.zip vs.toArray)) (fun p s'' => Wk s a kS e1 keys s'' ∧ Gp vs.length p ∧ SoT rank p vs.length) s'' :=
    okT_wp (N := vs.length) (rank := rank) (I := fun s₁ => Wk s a kS e1 keys s₁ ∧ ∀ i k, keys[i]? = some k → KR s₁.heap i k) (fun i j C s₁ hi hj hI hC => by
      obtain ⟨W1, K1⟩ := hI
      obtain ⟨ki, q1, q2, _⟩ := it1 i hi
      obtain ⟨kj, q3, q4, _⟩ := it1 j hj
      unfold kas_cmp
      rw [q2, q4]
      refine hcmp i j ki kj s₁ hi hj W1.keeps (K1 _ _ q1) (K1 _ _ q3) C fun s₂ k2 => hC s₂ ⟨⟨kp_trans W1.keeps k2, ?_, kp_heap k2 _ _ W1.aa⟩, fun i k q => mono _ _ _ _ (fun b o _ e => kp_heap k2 _ _ e) (K1 _ _ q)⟩
      obtain ⟨e, he⟩ := W1.ks
      exact ⟨e, kp_heap k2 _ _ he⟩)
      (fun p s₁ hQ hI => ⟨hI.1, hQ⟩) (sort_ok (by omega) fun p' g o => ⟨g, o⟩) ⟨W, hKR⟩
  have run := kas_runs (E := E) (it := keys.zip vs.toArray) (κ := oneType') (A := A) (Q := fun _ st' s'' => ∃ p : Array Nat, arrOf st' = p.map (kas_item (keys.zip vs.toArray)) ∧ failedOf st' = none ∧ Wk s a kS e1 keys s'' ∧ Gp vs.length p ∧ SoT rank p vs.length)
    h2 h64 (fun p' st' s' _ a2 a3 a4 => ⟨p', a2, a3, a4⟩) hw
  rw [← est] at run
  refine wpAny_bind (wpAny_mono run ?_ fun _ _ e => e)
  rintro ⟨⟨⟩, st'⟩ s₁ ⟨p, har, hf, W1, g, o⟩
  dsimp only
  have hout : (arrOf st').map (·.2) = p.map fun i => vs.getD i Value.none := by
    rw [har, Array.map_map]
    apply Array.map_congr_left
    intro i hi
    have hi2 : i < vs.length := by
      have := g.mem_iff.mp hi
      simpa using this
    obtain ⟨_, _, _, q⟩ := it1 i hi2
    exact q
  exact sk_tail W1 ha hk hka h64 hks hout (by rw [Array.size_map, g.size]) hf fun s2 c k2 e2 => h p s2 c k2 g o e2
theorem sk_rest {P : PySem.Fin → Shared → Prop} {s' : Shared} (W : Wk s a kS e1 #[] s') (ha : s.heap.objs.size ≤ a) (hk : s.heap.objs.size ≤ kS) (hka : kS ≠ a) (h2 : 2 ≤ vs.length) (h64 : vs.length < 64)
    (mono : ∀ h h' i k, NL h h' → KR h i k → KR h' i k)
    (hkey : ∀ i v s', vs[i]? = some v → Keeps s s' → wpAny (model prog w) A (call f [v]) (fun k s'' => Keeps s' s'' ∧ KR s''.heap i k) (fun _ _ => False) s')
    (hkind : ∀ keys s', keys.size = vs.length → Keeps s s' → (∀ i k, keys[i]? = some k → KR s'.heap i k) → wpAny (model prog w) A (keyKind' keys) (fun r s'' => r = oneType' ∧ s'' = s') E s')
    (hcmp : ∀ i j ki kj s', i < vs.length → j < vs.length → Keeps s s' → KR s'.heap i ki → KR s'.heap j kj → ∀ C : Bool → Shared → Prop, (∀ s'', Keeps s' s'' → C (decide (rank i < rank j)) s'') → wpAny (model prog w) A (keyLt' oneType' ki kj) C (fun _ _ => False) s')
    (h : ∀ p s'' c, Keeps s s'' → Gp vs.length p → SoT rank p vs.length → s''.heap.get? a = some (seqObj "list" (p.map fun i => vs.getD i Value.none) c) → P (.done (.ret .none)) s'') :
    wpAny (model prog w) A (ksk_rest a f false vs.toArray e1 (.ref kS)) P E s' := by
  unfold ksk_rest
  refine wpAny_bind (wpAny_rule ?_)
  rw [← Array.forIn_toList]
  simp only
  refine wpAny_bind (ksk_fold (fun i s₁ => ∃ keys : Array Value, Wk s a kS e1 keys s₁ ∧ keys.size = i ∧ ∀ j k, keys[j]? = some k → KR s₁.heap j k) vs 0 s'
    ⟨#[], W, rfl, fun j k q => by simp at q⟩ ?step ?done)
  case step =>
    rintro j x s₁ hx ⟨keys, W1, hz, K1⟩
    simp only [Nat.zero_add] at hz ⊢
    have hj : j < vs.length := (List.getElem?_eq_some_iff.mp hx).1
    refine wpAny_bind (wpAny_attempt (wpAny_mono (hkey j x s₁ hx W1.keeps) (fun v s₂ he => ?_) fun _ _ hF => hF.elim))
    obtain ⟨k2, r2⟩ := he
    dsimp only
    obtain ⟨e, he⟩ := W1.ks
    have he2 := kp_heap k2 _ _ he
    refine wpAny_bind (lupd he2 (by rw [hz, sizeLine_eq]; omega) (by rw [Array.size_push, hz, sizeLine_eq]; omega) fun h3 e3 C3 => ?_)
    have nl : NL s₂.heap h3 := fun b o nl q => C3.keep _ _ (fun qb => by rw [qb, he2] at q; exact nl _ _ (Option.some.inj q).symm) q
    refine wpAny_pure ⟨rfl, keys.push v, ⟨kp_ch (kp_trans W1.keeps k2) hk C3, ⟨e3, C3.at_⟩, C3.keep _ _ hka.symm (kp_heap k2 _ _ W1.aa)⟩, by rw [Array.size_push, hz], fun i k q => ?_⟩
    rw [Array.getElem?_push] at q
    split at q
    · rename_i hi
      rw [hi, hz]
      cases q
      exact mono _ _ _ _ nl r2
    · exact mono _ _ _ _ nl (mono _ _ _ _ (fun b o _ e => kp_heap k2 _ _ e) (K1 _ _ q))
  case done =>
    rintro s₁ ⟨keys, W1, hz, K1⟩
    obtain ⟨e, he⟩ := W1.ks
    refine wpAny_bind (listItems_at he rfl ?_)
    exact sk_end W1 ha hk hka h2 h64 (by omega) K1 mono (fun s' a b => hkind keys s' (by omega) a b) hcmp h
theorem sk_tree {P : PySem.Fin → Shared → Prop} {s' : Shared} {n : Nat} (kp : Keeps s s') (ho : s'.heap.get? a = some (seqObj "list" vs.toArray n)) (ha : s.heap.objs.size ≤ a) (h2 : 2 ≤ vs.length) (h64 : vs.length < 64)
    (mono : ∀ h h' i k, NL h h' → KR h i k → KR h' i k)
    (hkey : ∀ i v s', vs[i]? = some v → Keeps s s' → wpAny (model prog w) A (call f [v]) (fun k s'' => Keeps s' s'' ∧ KR s''.heap i k) (fun _ _ => False) s')
    (hkind : ∀ keys s', keys.size = vs.length → Keeps s s' → (∀ i k, keys[i]? = some k → KR s'.heap i k) → wpAny (model prog w) A (keyKind' keys) (fun r s'' => r = oneType' ∧ s'' = s') E s')
    (hcmp : ∀ i j ki kj s', i < vs.length → j < vs.length → Keeps s s' → KR s'.heap i ki → KR s'.heap j kj → ∀ C : Bool → Shared → Prop, (∀ s'', Keeps s' s'' → C (decide (rank i < rank j)) s'') → wpAny (model prog w) A (keyLt' oneType' ki kj) C (fun _ _ => False) s')
    (h : ∀ p s'' c, Keeps s s'' → Gp vs.length p → SoT rank p vs.length → s''.heap.get? a = some (seqObj "list" (p.map fun i => vs.getD i Value.none) c) → P (.done (.ret .none)) s'') :
    wpAny (model prog w) A (ksk_tree a f false) P E s' := by
  unfold ksk_tree
  refine wpAny_bind (listItems_at ho rfl ?_)
  refine wpAny_bind (lupd ho (by rw [List.size_toArray, sizeLine_eq]; omega) (Nat.zero_le _) fun h1 e1 C1 => ?_)
  refine wpAny_bind (seqEpoch_at C1.at_ rfl ?_)
  refine wpAny_bind (newTuple_n (s := { s' with heap := h1 }) (by show vs.length ≤ _; rw [sizeLine_eq]; omega) fun T h3 N3 => ?_)
  refine wpAny_bind (wpAny_newList ?_ (Nat.zero_le _))
  refine wpAny_holding ?_
  have N4 : Nw h3 h3.objs.size (seqObj "list" #[] 0) (h3.push (seqObj "list" #[] 0)) := nw_push rfl
  have K1 := kp_ch kp ha C1
  have K3 : Keeps s { s' with heap := h3 } := kp_nw (s1 := { s' with heap := h1 }) K1 N3
  have K4 : Keeps s { s' with heap := h3.push (seqObj "list" #[] 0) } := kp_nw (s1 := { s' with heap := h3 }) K3 N4
  refine sk_rest (s' := { s' with heap := h3.push (seqObj "list" #[] 0) }) (kS := h3.objs.size) ⟨K4, ⟨0, N4.at_⟩, N4.keep _ _ (N3.keep _ _ C1.at_)⟩ ha ?_ ?_ h2 h64 mono hkey hkind hcmp h
  · exact Nat.le_of_lt (Nat.lt_of_le_of_lt ha (Heap.lt_size (N3.keep _ _ C1.at_)))
  · exact (N4.new _ _ (N3.keep _ _ C1.at_)).symm
theorem sorted_key {l : Addr} {kw : List (Str × Value)} {Q : Value → Shared → Prop} (hl : s.heap.IsList l vs.toArray) (h2 : 2 ≤ vs.length) (h64 : vs.length < 64)
    (ha1 : argsOk "sorted" ⟨[.ref l], kw⟩) (ha2 : ∀ x, argsOk "list.sort" ⟨[.ref x], kw⟩) (ht : ∀ x, Builtin.«list.sort» ⟨[.ref x], kw⟩ = ksk_tree x f false)
    (mono : ∀ h h' i k, NL h h' → KR h i k → KR h' i k)
    (hkey : ∀ i v s', vs[i]? = some v → Keeps s s' → wpAny (model prog w) A.in1.in1 (call f [v]) (fun k s'' => Keeps s' s'' ∧ KR s''.heap i k) (fun _ _ => False) s')
    (hkind : ∀ keys s', keys.size = vs.length → Keeps s s' → (∀ i k, keys[i]? = some k → KR s'.heap i k) → wpAny (model prog w) A.in1.in1 (keyKind' keys) (fun r s'' => r = oneType' ∧ s'' = s') (fun _ _ => False) s')
    (hcmp : ∀ i j ki kj s', i < vs.length → j < vs.length → Keeps s s' → KR s'.heap i ki → KR s'.heap j kj → ∀ C : Bool → Shared → Prop, (∀ s'', Keeps s' s'' → C (decide (rank i < rank j)) s'') → wpAny (model prog w) A.in1.in1 (keyLt' oneType' ki kj) C (fun _ _ => False) s')
    (h : ∀ D p s'' c, Keeps s s'' → Gp vs.length p → SoT rank p vs.length → s''.heap.get? D = some (seqObj "list" (p.map fun i => vs.getD i Value.none) c) → Q (.ref D) s'') :
    wpAny (model prog w) A (call (.builtin "sorted") [.ref l] kw) Q E s := by
  refine call_function_entry_kw kind_sorted plain_sorted entry_sorted ha1 ?_
  unfold Builtin.«sorted»
  refine wpAny_bind (m := checkCount "sorted" 1 1 _) (wpAny_pure ?_)
  refine wpAny_bind (collect_list hl ?_ (by rw [sizeLine_eq]; omega))
  refine wpAny_bind (wpAny_newList ?_ (by rw [sizeLine_eq]; omega))
  have hsz : ((s.heap.push (seqObj "list" #[] 0)).update s.heap.objs.size (Obj.mapSeq (· ++ vs.toArray))).objs.size = s.heap.objs.size + 1 := by
    rw [Heap.size_update, size_push']
  have hoL : (((s.heap.push (seqObj "list" #[] 0)).update s.heap.objs.size (Obj.mapSeq (· ++ vs.toArray))).push (seqObj "list" vs.toArray 0)).get? (s.heap.objs.size + 1) = some (seqObj "list" vs.toArray 0) := by
    rw [← hsz]; exact Heap.get?_push_size _ rfl
  have keep : ∀ b o, s.heap.get? b = some o → (((s.heap.push (seqObj "list" #[] 0)).update s.heap.objs.size (Obj.mapSeq (· ++ vs.toArray))).push (seqObj "list" vs.toArray 0)).get? b = some o := fun b o q => by
    have hlt : b < s.heap.objs.size := Heap.lt_size q
    rw [Heap.get?_push_ne _ _ _ (by rw [hsz]; exact Nat.ne_of_lt (Nat.lt_succ_of_lt hlt)), Heap.get?_update_ne _ _ _ _ (Nat.ne_of_lt hlt), Heap.get?_push_ne _ _ _ (Nat.ne_of_lt hlt)]
    exact q
  show wpAny _ _ _ _ _ { s with heap := ((s.heap.push (seqObj "list" #[] 0)).update s.heap.objs.size (Obj.mapSeq (· ++ vs.toArray))).push (seqObj "list" vs.toArray 0) }
  rw [hsz]
  generalize ((s.heap.push (seqObj "list" #[] 0)).update s.heap.objs.size (Obj.mapSeq (· ++ vs.toArray))).push (seqObj "list" vs.toArray 0) = h1 at *
  refine wpAny_bind (wpAny_holding (wpAny_call_entry_kw slot_list_sort ⟨_, hoL, rfl⟩ entry_list_sort ?body (ha2 _)))
  case body =>
    have ht' := ht (s.heap.objs.size + 1)
    show wpAny (model prog w) A.in1.in1 (Builtin.«list.sort» ⟨[.ref (s.heap.objs.size + 1)], kw⟩) _ _ _
    rw [ht']
    refine sk_tree (s := s) ⟨h1, s.toks, rfl, keep⟩ hoL (by omega) h2 h64 mono hkey (fun keys s' a b c => wpAny_mono (hkind keys s' a b c) (fun _ _ e => e) fun _ _ e => e.elim) hcmp fun p s'' c k g o e => ⟨_, rfl, ?_⟩
    exact wpAny_pure ⟨_, rfl, h _ p s'' c k g o e⟩
end
end Mine
end

-- part SortU
section
set_option maxRecDepth 100000
set_option maxHeartbeats 4000000
namespace Mine
open PySem.Calls
section
variable {prog : Program} {w : World} {A : Around} {E : Value → Shared → Prop} {s : Shared} {mg mb : Str → Option Value}
variable {C ns D f1 f2 c : Addr} {sl : Array (Option Value)} {es : List DictEntry} {n : Nat} {vs : List Value}
theorem InstK.nl {h h' : Heap} {y : Addr} {v : Value} (i : InstK h C y v) (k : NL h h') : InstK h' C y v := by
  obtain ⟨dx, a, b⟩ := i
  refine ⟨dx, k _ _ (fun vs e q => ?_) a, k _ _ (fun vs e q => ?_) b⟩
  · exact absurd (congrArg Obj.cls q) (by intro e; cases e)
  · exact absurd (congrArg Obj.cls q) (by intro e; exact absurd (Value.type.inj e) (by decide))
theorem sorted_K {l : Addr} {Q : Value → Shared → Prop} (B : Bs w mg mb s.heap) (x : IsK s.heap C ns D f1 f2 c sl es n) (hl : s.heap.IsList l vs.toArray) (h2 : 2 ≤ vs.length) (h64 : vs.length < 64) {rank : Nat → Int}
    (hstr : ∀ v ∈ vs, ∃ a t, v = .str a t)
    (hr : ∀ i j a b ta tb, vs[i]? = some (.str a ta) → vs[j]? = some (.str b tb) → (coll a b < 0 ↔ rank i < rank j))
    (hu : A.in1.in1.units < cLine) (hd : A.depth + 1 < recursionLimit)
    (h : ∀ D p s'' c, Keeps s s'' → Gp vs.length p → SoT rank p vs.length → s''.heap.get? D = some (seqObj "list" (p.map fun i => vs.getD i Value.none) c) → Q (.ref D) s'') :
    wpAny (model prog w) A (call (.builtin "sorted") [.ref l] [(Str.ofString "key", .ref C)]) Q E s := by
  refine sorted_key (KR := fun h i k => ∃ y a t, k = .ref y ∧ vs[i]? = some (.str a t) ∧ InstK h C y (.str a t)) (rank := rank) hl h2 h64 (ksk_s1 _ _) (fun x => ksk_l1 _ _) (fun x => ksk_t1 _ _) ?_ ?_ ?_ ?_ h
  · rintro h h' i k nl ⟨y, a, t, rfl, e, q⟩
    exact ⟨y, a, t, rfl, e, q.nl nl⟩
  · intro i v s' hv kp
    obtain ⟨a, t, rfl⟩ := hstr v (List.mem_of_getElem? hv)
    exact make_inst (B.keeps (kp_heap kp)) (x.keeps (kp_heap kp)) hd fun y s'' k2 i2 => ⟨k2, y, a, t, rfl, hv, i2⟩
  · intro keys s' hz kp hK
    have he : keys = keys.toList.toArray := by simp
    rw [he]
    refine kas_kind (T := .ref C) (by simp [hz]; exact h2) (fun v hv => ?_) (by rfl) (by simp) ⟨rfl, rfl⟩
    obtain ⟨i, hi⟩ := List.getElem?_of_mem hv
    obtain ⟨y, a, t, rfl, e, dx, q, _⟩ := hK i v (by rw [← Array.getElem?_toList]; exact hi)
    exact (Looks.ld q).andThen .now
  · rintro i j ki kj s' hi hj kp ⟨y, a, t, rfl, e, q⟩ ⟨z, b, u, rfl, e', q'⟩ Cc hC
    refine lt_inst hu (B.keeps (kp_heap kp)) (x.keeps (kp_heap kp)) q q' hd fun s'' k2 => ?_
    have := hr i j a b t u e e'
    have hdec : decide (coll a b < 0) = decide (rank i < rank j) := by simp only [this]
    rw [hdec]
    exact hC s'' k2
theorem sorted_I {l q : Addr} {ks : List Int} {Q : Value → Shared → Prop} (hl : s.heap.IsList l vs.toArray) (h2 : 2 ≤ vs.length) (h64 : vs.length < 64) (hks : ks.length = vs.length)
    (hkey : ∀ (i : Nat) v k s', vs[i]? = some v → ks[i]? = some k → Keeps s s' → wpAny (model prog w) A.in1.in1 (call (.ref q) [v]) (fun r s'' => Keeps s' s'' ∧ ∃ t, r = .int k t) (fun _ _ => False) s')
    (h : ∀ D p s'' c, Keeps s s'' → Gp vs.length p → SoT (fun i => ks.getD i 0) p vs.length → s''.heap.get? D = some (seqObj "list" (p.map fun i => vs.getD i Value.none) c) → Q (.ref D) s'') :
    wpAny (model prog w) A (call (.builtin "sorted") [.ref l] [(Str.ofString "key", .ref q)]) Q E s := by
  refine sorted_key (KR := fun h i k => ∃ t, k = .int (ks.getD i 0) t) (rank := fun i => ks.getD i 0) hl h2 h64 (ksk_s1 _ _) (fun x => ksk_l1 _ _) (fun x => ksk_t1 _ _) ?_ ?_ ?_ ?_ h
  · rintro h h' i k nl ⟨t, rfl⟩
    exact ⟨t, rfl⟩
  · intro i v s' hv kp
    have hi : i < vs.length := (List.getElem?_eq_some_iff.mp hv).1
    have hk : ks[i]? = some (ks.getD i 0) := by simp [hks, hi]
    exact wpAny_mono (hkey i v _ s' hv hk kp) (fun r s'' z => z) fun _ _ z => z
  · intro keys s' hz kp hK
    have he : keys = keys.toList.toArray := by simp
    rw [he]
    refine kas_kind (T := .type "int") (by simp [hz]; exact h2) (fun v hv => ?_) (by decide +kernel) (by simp) ⟨rfl, rfl⟩
    obtain ⟨i, hi⟩ := List.getElem?_of_mem hv
    obtain ⟨t, rfl⟩ := hK i v (by rw [← Array.getElem?_toList]; exact hi)
    exact Looks.of_pure rfl
  · rintro i j ki kj s' hi hj kp ⟨t, rfl⟩ ⟨u, rfl⟩ Cc hC
    rw [keyLt'_oneType]
    exact oneLt_int (hC s' (kp_refl _))
end
end Mine
end

-- part Lc
section
set_option maxRecDepth 100000
set_option maxHeartbeats 4000000
namespace Mine
open PySem.Calls
abbrev HK (h h' : Heap) : Prop := ∀ b o, h.get? b = some o → h'.get? b = some o
def IterOf (prog : Program) (w : World) (A : Around) (xv : Value) (src : List Addr) (n : Nat) (P : Nat → Value → Prop) (s₁ : Shared) : Prop :=
  ∀ (Q : Value → Shared → Prop) (E : Value → Shared → Prop), (∀ I St s₂, Keeps s₁ s₂ → s₁.heap.get? I = none → Walks prog w A I (I :: src) [I] n P St → St 0 s₂.heap → (∀ b ∈ I :: src, b < s₂.heap.objs.size) → (∀ i h, St i h → ∃ o, h.get? I = some o) → Q (.ref I) s₂) → wpAny (model prog w) A (pyIter xv) Q E s₁
section
variable {prog : Program} {w : World} {A : Around} {E : Value → Shared → Prop} {s s₁ : Shared} {env : Env}
theorem get_none {h : Heap} {a : Addr} (ha : h.objs.size ≤ a) : h.get? a = none := by
  cases e : h.get? a with
  | none => rfl
  | some o => exact absurd (Heap.lt_size e) (Nat.not_lt.mpr ha)
theorem IterOf.list {l : Addr} {vs : List Value} (hh : A.handled = none) (hl : s₁.heap.IsList l vs.toArray) : IterOf prog w A (.ref l) [l] vs.length (fun i v => vs[i]? = some v) s₁ := by
  intro Q E h
  refine wpAny_pyIter_list hl ?_
  have N : Nw s₁.heap s₁.heap.objs.size { cls := .type "list_iterator", data := .fields #[.ref l, .int 0 0] } _ := nw_push rfl
  have hll : l < s₁.heap.objs.size := by obtain ⟨o, e, _⟩ := hl; exact Heap.lt_size e
  have W := Walks.list (prog := prog) (w := w) hh s₁.heap.objs.size l (Nat.ne_of_lt hll) vs.toArray
  have e1 : vs.toArray.size = vs.length := by simp
  rw [e1] at W
  have e2 : (fun (i : Nat) v => vs.toArray[i]? = some v) = (fun (i : Nat) v => vs[i]? = some v) := by funext i v; simp
  rw [e2] at W
  refine h _ _ _ ⟨_, s₁.toks, rfl, N.keep⟩ (get_none (Nat.le_refl _)) W ⟨?_, hl.at fun o e => N.keep _ _ e⟩ ?_ fun i h z => let ⟨o, e, _⟩ := z.1; ⟨o, e⟩
  · exact ⟨_, N.at_, rfl, rfl⟩
  · intro b hb
    show b < (s₁.heap.push _).objs.size
    rw [Heap.size_push]
    rcases List.mem_cons.mp hb with rfl | hb
    · exact Nat.lt_succ_self _
    · rw [List.mem_singleton.mp hb]; exact Nat.lt_succ_of_lt hll
theorem IterOf.range {r : Addr} {n : Nat} {t u v : Tok} (hh : A.handled = none) (hn : n < 1000) (hr : IsRange s₁.heap r 0 (n : Int) 1 t u v) : IterOf prog w A (.ref r) [] n (fun i v => i < n ∧ ∃ t, v = .int (i : Int) t) s₁ := by
  intro Q E h
  refine wpAny_pyIter_range hr (small_one (by decide) (by decide) (by omega) (by omega)) ?_
  have hsz : Builtin.Range.rangeSize 0 (n : Int) 1 = (n : Int) := by rw [rangeSize_one]; split <;> omega
  have W := Walks.range (prog := prog) (w := w) hh s₁.heap.objs.size 0 1 n
  have e2 : (fun (i : Nat) v => ∃ t, v = Value.int (0 + (i : Int) * 1) t) = (fun (i : Nat) v => ∃ t, v = Value.int (i : Int) t) := by funext i v; simp
  rw [e2] at W
  refine h _ _ _ ⟨_, s₁.toks, rfl, fun b o e => Heap.get?_push_of_some _ e⟩ (get_none (Nat.le_refl _)) ⟨W.sub, W.frame, fun i s Q E hi st hQ => W.item i s Q E hi st fun v h' tk hP => hQ v h' tk ⟨hi, hP⟩, W.done, W.self⟩ ?_ ?_ fun i h z => ⟨_, z⟩
  · have e1 : (0 + ((0 : Nat) : Int) * 1) = 0 := by simp
    have e2 : ((n : Int) - ((0 : Nat) : Int)) = Builtin.Range.rangeSize 0 (n : Int) 1 := by rw [hsz]; simp
    rw [e1, e2]
    exact Heap.get?_push_size _ rfl
  · intro b hb
    show b < (s₁.heap.push _).objs.size
    rw [Heap.size_push, List.mem_singleton.mp hb]
    exact Nat.lt_succ_self _

theorem lc_expr {elt iter : Expr} {x : Str} {px : Pos} {ifs : List Expr} {scope : Scope} {cl : List (Str × Addr)} {pos : Pos} {Q : Value → Shared → Prop} {n : Nat} {P : Nat → Value → Prop} (p : Value → Bool) (F : Value → Value → Prop)
    (hn : n < 1000)
    (hi : wpAny (model prog w) A (eval iter env) (fun xv s₁ => Keeps s s₁ ∧ ∃ src, IterOf prog w A xv src n P s₁) E s)
    (ht : ∀ C i v s₃ m₃ E', P i v → s₃.heap.Ns C m₃ → m₃ x = some v → HK s.heap s₃.heap →
      wpAny (model prog w) A (forIn ifs true fun c r => if r = true then do let ok ← isTrue c (compEnvC scope cl C env) (eval c (compEnvC scope cl C env)); pure (ForInStep.yield ok) else pure (ForInStep.yield r)) (fun ok s₄ => ok = p v ∧ Keeps s₃ s₄) E' s₃)
    (he : ∀ C i v s₃ m₃ E', P i v → p v = true → s₃.heap.Ns C m₃ → m₃ x = some v → HK s.heap s₃.heap → wpAny (model prog w) A (eval elt (compEnvC scope cl C env)) (fun y s₄ => F v y ∧ Keeps s₃ s₄) E' s₃)
    (hQ : ∀ D ys (vs : List Value) s', Keeps s s' → s'.heap.PlainList D ys → s.heap.get? D = none → vs.length = n → (∀ (j : Nat) v, vs[j]? = some v → P j v) → Paired F (vs.filter p) ys.toList → Q (.ref D) s')
    (hclos : closureFor scope env = pure cl := by rfl) (hcell : ∀ y ∈ scope.names, y.2 ≠ .cell := by decide) (hkind : scope.kind = .function := by rfl)
    (hnames : ∀ y ∈ scope.names, y.2 = .local → scope.names.lookup y.1 = some .local := by decide) (hx : scope.names.lookup x = some .local := by rfl)
    (hs : ∀ x, foldedSetIterable iter env x = pure x := by intro _; rfl) :
    wpAny (model prog w) A (eval (.ListComp elt [⟨.Name x px, iter, ifs, 0⟩] scope pos) env) Q E s := by
  refine wpAny_ListComp_free p F hclos hcell hkind hnames hx (wpAny_mono hi (fun xv s₁ h₁ => ?_) fun _ _ e => e) hs
  obtain ⟨k1, src, it⟩ := h₁
  refine it _ _ fun I St s₂ k2 hI W hst hfp _ => ⟨I, I :: src, [I], n, P, St, rfl, W, by rw [sizeLine_eq]; omega, hst, hfp, ⟨?_, ?_⟩, ?_⟩
  · intro C i v s₃ m₃ E' _ hP hns hm hk _
    exact ht C i v s₃ m₃ E' hP hns hm fun b o e => hk b o (fun hb => by rw [List.mem_singleton.mp hb] at e; rw [kp_heap k1 _ _ e] at hI; cases hI) (kp_heap k2 _ _ (kp_heap k1 _ _ e))
  · intro C i v s₃ m₃ E' _ hP hp hns hm hk _
    exact he C i v s₃ m₃ E' hP hp hns hm fun b o e => hk b o (fun hb => by rw [List.mem_singleton.mp hb] at e; rw [kp_heap k1 _ _ e] at hI; cases hI) (kp_heap k2 _ _ (kp_heap k1 _ _ e))
  · intro D h' tk ys vs hD _ hpl hlen hP hF hk
    obtain ⟨h1, t1, rfl, kk1⟩ := k1
    obtain ⟨h2, t2, rfl, kk2⟩ := k2
    have hD0 : s.heap.get? D = none := by
      cases q : s.heap.get? D with
      | none => rfl
      | some o => have q2 := kk2 _ _ (kk1 _ _ q); rw [q2] at hD; cases hD
    exact hQ D ys vs _ ⟨h', tk, rfl, fun b o e => hk b o (fun hb => by rw [List.mem_singleton.mp hb] at e; have := kk1 _ _ e; rw [this] at hI; cases hI) (kk2 _ _ (kk1 _ _ e))⟩ hpl hD0 hlen hP hF
/-- all but one object kept -/
def KeepsB (c : Addr) (s s' : Shared) : Prop := ∃ h' t', s' = { s with heap := h', toks := t' } ∧ ∀ b o, b ≠ c → s.heap.get? b = some o → h'.get? b = some o
/-- a name given a comprehension's list -/
theorem lc_asg (c : Addr) (Z : Addr → Heap → Prop)
    {elt iter : Expr} {x y : Str} {px py spos : Pos} {ifs : List Expr} {scope : Scope} {cl : List (Str × Addr)} {pos : Pos} {Q : Flow → Shared → Prop} {n : Nat} {P : Nat → Value → Prop} (p : Value → Bool) (F : Value → Value → Prop)
    (hn : n < 1000)
    (hi : wpAny (model prog w) A (eval iter env) (fun xv s₁ => Keeps s s₁ ∧ ∃ src, IterOf prog w A xv src n P s₁) E s)
    (ht : ∀ C i v s₃ m₃ E', P i v → s₃.heap.Ns C m₃ → m₃ x = some v → HK s.heap s₃.heap →
      wpAny (model prog w) A (forIn ifs true fun c r => if r = true then do let ok ← isTrue c (compEnvC scope cl C env) (eval c (compEnvC scope cl C env)); pure (ForInStep.yield ok) else pure (ForInStep.yield r)) (fun ok s₄ => ok = p v ∧ Keeps s₃ s₄) E' s₃)
    (he : ∀ C i v s₃ m₃ E', P i v → p v = true → s₃.heap.Ns C m₃ → m₃ x = some v → HK s.heap s₃.heap → wpAny (model prog w) A (eval elt (compEnvC scope cl C env)) (fun y s₄ => F v y ∧ Keeps s₃ s₄) E' s₃)
    (hst : ∀ D s' (R : Shared → Prop), Keeps s s' → s.heap.get? D = none → (∃ ys, s'.heap.PlainList D ys) → (∀ h' t', (∀ b o, b ≠ c → s'.heap.get? b = some o → h'.get? b = some o) → Z D h' → R { s' with heap := h', toks := t' }) → wpAny (model prog w) A (storeName env y (.ref D)) (fun _ s'' => R s'') E s')
    (hZ : ∀ D C h h', Z D h → s.heap.get? C = none → Heap.SameBut C h h' → Z D h') (hc : ∃ o, s.heap.get? c = some o)
    (hQ : ∀ D ys (vs : List Value) s', KeepsB c s s' → Z D s'.heap → s'.heap.PlainList D ys → vs.length = n → (∀ (j : Nat) v, vs[j]? = some v → P j v) → Paired F (vs.filter p) ys.toList → Q .next s')
    (hsw : swapsWith (.ListComp elt [⟨.Name x px, iter, ifs, 0⟩] scope pos) (some (.Name y py)) spos.line env = pure true := by rfl)
    (hclos : closureFor scope env = pure cl := by rfl) (hcell : ∀ y ∈ scope.names, y.2 ≠ .cell := by decide) (hkind : scope.kind = .function := by rfl)
    (hnames : ∀ y ∈ scope.names, y.2 = .local → scope.names.lookup y.1 = some .local := by decide) (hx : scope.names.lookup x = some .local := by rfl)
    (hs : ∀ x, foldedSetIterable iter env x = pure x := by intro _; rfl) :
    wpAny (model prog w) A (exec (.Assign [.Name y py] (.ListComp elt [⟨.Name x px, iter, ifs, 0⟩] scope pos) spos) env) Q E s := by
  rw [exec_Assign_Name_used _ _ _ _ hsw]
  refine wpAny_bind (wpAny_standAt (wpAny_bind ?_))
  show wpAny _ A (do let _ ← comprehension (.ListComp elt [⟨.Name x px, iter, ifs, 0⟩] scope pos) scope env _ (newList []) false (eval iter env) (some (assign (.Name y py) env))) _ _ s
  refine wpAny_bind (wpAny_mono (wpAny_comprehension_free (use := some (assign (.Name y py) env)) (Q := fun _ s' => Q .next s') rfl hs hclos hkind hnames
    (wpAny_mono hi (fun xv s₁ h₁ => ?_) fun _ _ e => e)) (fun _ s' hq => wpAny_pure (wpAny_pure hq)) fun _ _ e => e)
  obtain ⟨k1, src, it⟩ := h₁
  refine it _ _ fun I St s₂ k2 hI W hst0 hfp _ => ?_
  have hb : ∀ b o, s.heap.get? b = some o → b ∉ [I] := fun b o e hb => by rw [List.mem_singleton.mp hb] at e; rw [kp_heap k1 _ _ e] at hI; cases hI
  have k02 := kp_trans k1 k2
  refine comp_block_walkC (RR := fun acc C => compPost (model prog w) A E (some (assign (.Name y py) env)) (fun _ s' => Q .next s') acc C) W (by rw [sizeLine_eq]; omega) p F hcell hkind hx hst0 hfp ⟨?_, ?_⟩ ?_
  · intro C i v s₃ m₃ E' _ hP hns hm hk _
    exact ht C i v s₃ m₃ E' hP hns hm fun b o e => hk b o (hb b o e) (kp_heap k02 _ _ e)
  · intro C i v s₃ m₃ E' _ hP hp hns hm hk _
    exact he C i v s₃ m₃ E' hP hp hns hm fun b o e => hk b o (hb b o e) (kp_heap k02 _ _ e)
  intro D C h' tk m' ys vs hD hC hDC hnC hlD hplD hlen hP hF hk
  obtain ⟨h2, t2, rfl, kk2⟩ := k02
  have none_of : ∀ a, h2.get? a = none → s.heap.get? a = none := fun a e => by
    cases q : s.heap.get? a with
    | none => rfl
    | some o => rw [kk2 _ _ q] at e; cases e
  have K' : Keeps s { s with heap := h', toks := tk } := ⟨h', tk, rfl, fun b o e => hk b o (hb b o e) (kk2 _ _ e)⟩
  obtain ⟨oc, hoc⟩ := hc
  have hcC : C ≠ c := fun q => by rw [q] at hC; rw [kk2 _ _ hoc] at hC; cases hC
  have hcD : D ≠ c := fun q => by rw [q] at hD; rw [kk2 _ _ hoc] at hD; cases hD
  show wpAny _ A (assign (.Name y py) env (.ref D)) _ _ _
  refine wpAny_assign_Name (hst D { s with heap := h', toks := tk } _ K' (none_of _ hD) ⟨ys, hplD⟩ fun h3 t3 k3 z3 => ?_)
  refine ⟨m', hnC.at' fun o e => k3 _ _ hcC e, fun h4 hs4 => ?_⟩
  refine hQ D ys vs _ ⟨h4, t3, rfl, fun b o hbc e => ?_⟩ (hZ D C _ _ z3 (none_of _ hC) hs4) ?_ hlen hP hF
  · exact hs4.extBut b o (fun q => by rw [q] at e; rw [none_of _ hC] at e; cases e) (k3 _ _ hbc (hk b o (hb b o e) (kk2 _ _ e)))
  · obtain ⟨n', e⟩ := hplD
    exact ⟨n', hs4.extBut _ _ hDC (k3 _ _ hcD e)⟩
theorem lc_cell {c : Addr} {v₀ : Option Value}
    {elt iter : Expr} {x y : Str} {px py spos : Pos} {ifs : List Expr} {scope : Scope} {cl : List (Str × Addr)} {pos : Pos} {Q : Flow → Shared → Prop} {n : Nat} {P : Nat → Value → Prop} (p : Value → Bool) (F : Value → Value → Prop)
    (hn : n < 1000)
    (hi : wpAny (model prog w) A (eval iter env) (fun xv s₁ => Keeps s s₁ ∧ ∃ src, IterOf prog w A xv src n P s₁) E s)
    (ht : ∀ C i v s₃ m₃ E', P i v → s₃.heap.Ns C m₃ → m₃ x = some v → HK s.heap s₃.heap →
      wpAny (model prog w) A (forIn ifs true fun c r => if r = true then do let ok ← isTrue c (compEnvC scope cl C env) (eval c (compEnvC scope cl C env)); pure (ForInStep.yield ok) else pure (ForInStep.yield r)) (fun ok s₄ => ok = p v ∧ Keeps s₃ s₄) E' s₃)
    (he : ∀ C i v s₃ m₃ E', P i v → p v = true → s₃.heap.Ns C m₃ → m₃ x = some v → HK s.heap s₃.heap → wpAny (model prog w) A (eval elt (compEnvC scope cl C env)) (fun y s₄ => F v y ∧ Keeps s₃ s₄) E' s₃)
    (hv : s.heap.IsCell c v₀)
    (hQ : ∀ D ys (vs : List Value) s', KeepsB c s s' → s'.heap.IsCell c (some (.ref D)) → s'.heap.PlainList D ys → vs.length = n → (∀ (j : Nat) v, vs[j]? = some v → P j v) → Paired F (vs.filter p) ys.toList → Q .next s')
    (hk' : env.scope.kind = .function := by rfl) (hy : env.kindOf y = some .cell := by rfl) (hcl : env.cells.lookup y = some c := by rfl)
    (hsw : swapsWith (.ListComp elt [⟨.Name x px, iter, ifs, 0⟩] scope pos) (some (.Name y py)) spos.line env = pure true := by rfl)
    (hclos : closureFor scope env = pure cl := by rfl) (hcell : ∀ y ∈ scope.names, y.2 ≠ .cell := by decide) (hkind : scope.kind = .function := by rfl)
    (hnames : ∀ y ∈ scope.names, y.2 = .local → scope.names.lookup y.1 = some .local := by decide) (hx : scope.names.lookup x = some .local := by rfl)
    (hs : ∀ x, foldedSetIterable iter env x = pure x := by intro _; rfl) :
    wpAny (model prog w) A (exec (.Assign [.Name y py] (.ListComp elt [⟨.Name x px, iter, ifs, 0⟩] scope pos) spos) env) Q E s := by
  refine lc_asg c (fun D h => h.IsCell c (some (.ref D))) p F hn hi ht he ?_ ?_ ?_ hQ hsw hclos hcell hkind hnames hx hs
  · intro D s' R k _ _ h
    exact wpAny_storeName_cell hk' hy hcl (hv.keeps (kp_heap k)) fun h' a b => h h' s'.toks (fun b' o hb e => (b.2 b' hb).trans e) a
  · intro D C h h' z hC hs
    exact z.sameBut hs (fun q => by obtain ⟨o, e, _⟩ := hv; rw [q, hC] at e; cases e)
  · obtain ⟨o, e, _⟩ := hv; exact ⟨o, e⟩
theorem lc_local {m : Str → Option Value}
    {elt iter : Expr} {x y : Str} {px py spos : Pos} {ifs : List Expr} {scope : Scope} {cl : List (Str × Addr)} {pos : Pos} {Q : Flow → Shared → Prop} {n : Nat} {P : Nat → Value → Prop} (p : Value → Bool) (F : Value → Value → Prop)
    (hn : n < 1000)
    (hi : wpAny (model prog w) A (eval iter env) (fun xv s₁ => Keeps s s₁ ∧ ∃ src, IterOf prog w A xv src n P s₁) E s)
    (ht : ∀ C i v s₃ m₃ E', P i v → s₃.heap.Ns C m₃ → m₃ x = some v → HK s.heap s₃.heap →
      wpAny (model prog w) A (forIn ifs true fun c r => if r = true then do let ok ← isTrue c (compEnvC scope cl C env) (eval c (compEnvC scope cl C env)); pure (ForInStep.yield ok) else pure (ForInStep.yield r)) (fun ok s₄ => ok = p v ∧ Keeps s₃ s₄) E' s₃)
    (he : ∀ C i v s₃ m₃ E', P i v → p v = true → s₃.heap.Ns C m₃ → m₃ x = some v → HK s.heap s₃.heap → wpAny (model prog w) A (eval elt (compEnvC scope cl C env)) (fun y s₄ => F v y ∧ Keeps s₃ s₄) E' s₃)
    (hv : s.heap.Ns env.locals m)
    (hQ : ∀ D ys (vs : List Value) s', KeepsB env.locals s s' → s'.heap.Ns env.locals (fun z => if z = y then some (.ref D) else m z) → s'.heap.PlainList D ys → vs.length = n → (∀ (j : Nat) v, vs[j]? = some v → P j v) → Paired F (vs.filter p) ys.toList → Q .next s')
    (hy : env.kindOf y = some .local := by rfl) (hp : (env.scope.kind == .class || (env.scope.kind == .module && env.locals != env.globals)) = false := by rfl)
    (hsw : swapsWith (.ListComp elt [⟨.Name x px, iter, ifs, 0⟩] scope pos) (some (.Name y py)) spos.line env = pure true := by rfl)
    (hclos : closureFor scope env = pure cl := by rfl) (hcell : ∀ y ∈ scope.names, y.2 ≠ .cell := by decide) (hkind : scope.kind = .function := by rfl)
    (hnames : ∀ y ∈ scope.names, y.2 = .local → scope.names.lookup y.1 = some .local := by decide) (hx : scope.names.lookup x = some .local := by rfl)
    (hs : ∀ x, foldedSetIterable iter env x = pure x := by intro _; rfl) :
    wpAny (model prog w) A (exec (.Assign [.Name y py] (.ListComp elt [⟨.Name x px, iter, ifs, 0⟩] scope pos) spos) env) Q E s := by
  refine lc_asg env.locals (fun D h => h.Ns env.locals (fun z => if z = y then some (.ref D) else m z)) p F hn hi ht he ?_ ?_ ?_ hQ hsw hclos hcell hkind hnames hx hs
  · intro D s' R k _ _ h
    exact wpAny_storeName_local hy (hv.keeps (kp_heap k)) (fun h' a b => h h' _ (fun b' o hb e => (b.2 b' hb).trans e) a) hp
  · intro D C h h' z hC hs
    exact z.sameBut hs (fun q => by obtain ⟨o, _, _, e, _⟩ := hv; rw [q, hC] at e; cases e)
  · obtain ⟨o, _, _, e, _⟩ := hv; exact ⟨o, e⟩
/-- a for over an iterator; M: what the body may change -/
theorem for_walk {target : Expr} {body : List Stmt} {I : Addr} {fp : List Addr} {n : Nat} {P : Nat → Value → Prop} {St : Nat → Heap → Prop} {R : Result → Shared → Prop} (M : List Addr) (W : Walks prog w A I fp [I] n P St) (J : Nat → Shared → Prop)
    (hst : St 0 s.heap) (hM : ∀ b ∈ fp, b ∉ M) (h0 : J 0 s)
    (hJ : ∀ i s' h' tk, St i s'.heap → J i s' → (∀ b o, b ≠ I → s'.heap.get? b = some o → h'.get? b = some o) → J i { s' with heap := h', toks := tk })
    (step : ∀ i v s₁ E', i < n → P i v → St (i + 1) s₁.heap → J i s₁ → wpAny (model prog w) A (assign target env v) (fun _ s₂ => wpAny (model prog w) A (execs body env) (fun f s₃ => f = .next ∧ J (i + 1) s₃ ∧ (∀ b o, b ∉ M → s₁.heap.get? b = some o → s₃.heap.get? b = some o)) E' s₂) E' s₁)
    (hR : ∀ s', J n s' → R (.ok .next) s') (ht : ∀ v, letOwnedTupleGo target (.ref I) v = pure () := by intro _; rfl) :
    codeAny (model prog w) A (.forLoop target (.ref I) body [] env) R s := by
  refine codeAny_forLoop (fun k s' => ∃ i, i ≤ n ∧ k = n + 1 - i ∧ St i s'.heap ∧ J i s') ?_ (n + 1) ⟨0, Nat.zero_le _, rfl, hst, h0⟩ ht
  rintro k s' ⟨i, hi, rfl, hS, hj⟩
  by_cases hlt : i < n
  · refine W.item i s' _ _ hlt hS fun v h' tk hv hS' hk => ?_
    have hj' := hJ i s' h' tk hS hj fun b o hb e => hk b o (fun q => hb (List.mem_singleton.mp q)) e
    refine wpAny_mono (step i v { s' with heap := h', toks := tk } _ hlt hv hS' hj') (fun _ s₂ h₂ => wpAny_mono h₂ (fun f s₃ h₃ => ?_) fun _ _ e => e) fun _ _ e => e
    obtain ⟨rfl, j3, k3⟩ := h₃
    exact ⟨n + 1 - (i + 1), by omega, i + 1, hlt, rfl, W.frame _ _ _ hS' fun b hb o e => k3 b o (hM b hb) e, j3⟩
  · have hin : i = n := by omega
    subst hin
    refine W.done s' _ _ hS fun h' tk hk => wpAny_execs_nil ?_
    exact hR _ (hJ i s' h' tk hS hj fun b o hb e => hk b o (fun q => hb (List.mem_singleton.mp q)) e)
/-- an item of whatever a text gives -/
theorem sub_any {value slice : Expr} {pos : Pos} {Q : Value → Shared → Prop}
    (h : wpAny (model prog w) A (eval value env) (fun o s₁ => wpAny (model prog w) A (eval slice env) (fun i s₂ => SubscriptOn (model prog w) A o i Q E s₂) E s₁) E s)
    (hs : ∀ o i, subscripted slice false o i = operate [o, i] (getItem o i) := by intro _ _; rfl) :
    wpAny (model prog w) A (eval (.Subscript value slice pos) env) Q E s := by
  rw [eval_Subscript]
  refine wpAny_bind (wpAny_mono h (fun o s₁ h₁ => wpAny_bind (wpAny_holding (wpAny_mono h₁ (fun i s₂ h₂ => wpAny_bind (wpAny_standAt ?_)) fun _ _ x => x)))
    fun _ _ x => x)
  obtain ⟨T, id, hl, hT, hg⟩ := h₂
  refine wpAny_bind ?_
  rw [getitemInPython_of_ne hT.not_modules]
  refine wpAny_bind (wpAny_specialOf hT hl ?_)
  refine wpAny_pure (wpAny_bind ?_)
  rw [hs]
  exact wpAny_operating (wpAny_mono hg (fun r s₃ h₃ => wpAny_bind (wpAny_letTemporaryGo (wpAny_pure h₃))) fun _ _ x => x)
theorem tests0 {M : Model} {cenv : Env} {E : Value → Shared → Prop} {v : Value} : wpAny M A (forIn ([] : List Expr) true fun c r => if r = true then do let ok ← isTrue c cenv (eval c cenv); pure (ForInStep.yield ok) else pure (ForInStep.yield r)) (fun ok s₄ => ok = (fun _ => true) v ∧ Keeps s s₄) E s := by
  rw [List.forIn_nil]
  exact wpAny_pure ⟨rfl, kp_refl _⟩
end
end Mine
end

-- part Moved
section
set_option maxRecDepth 100000
set_option maxHeartbeats 4000000
namespace Mine
open PySem.Calls
theorem strs_str {vs : List Value} {ss : List Str} (h : StrsAre vs ss) {v : Value} (hv : v ∈ vs) : ∃ a t, v = .str a t := by
  induction h with
  | nil => cases hv
  | cons y t _ ih => rcases List.mem_cons.mp hv with rfl | hv; exact ⟨y, t, rfl⟩; exact ih hv
theorem ints_int {vs : List Value} {ns : List Int} (h : IntsAre vs ns) {v : Value} (hv : v ∈ vs) : ∃ a t, v = .int a t := by
  induction h with
  | nil => cases hv
  | cons y t _ ih => rcases List.mem_cons.mp hv with rfl | hv; exact ⟨y, t, rfl⟩; exact ih hv
def sOf : Value → Str
  | .str a _ => a
  | _ => ⟨#[]⟩
def iOf : Value → Int
  | .int a _ => a
  | _ => 0
theorem list_eq_of {vs us : List Value} (hl : vs.length = us.length) (h : ∀ (j : Nat) v, vs[j]? = some v → us[j]? = some v) : vs = us := by
  apply List.ext_getElem? 
  intro j
  by_cases hj : j < vs.length
  · have e : vs[j]? = some vs[j] := List.getElem?_eq_getElem hj
    rw [e, h j _ e]
  · rw [List.getElem?_eq_none (by omega), List.getElem?_eq_none (by omega)]
theorem paired_eq {l1 l2 : List Value} (h : Paired (fun v y => y = v) l1 l2) : l2 = l1 := by
  induction h with
  | nil => rfl
  | cons a _ ih => rw [ih, a]
theorem strs_take {vs : List Value} {ss : List Str} (h : StrsAre vs ss) : ∀ n, StrsAre (vs.take n) (ss.take n) := by
  induction h with
  | nil => intro n; simpa using StrsAre.nil
  | cons y t _ ih =>
    intro n
    cases n with
    | zero => exact .nil
    | succ n => exact .cons y t (ih n)
theorem filter_strs {vs : List Value} {ss : List Str} (h : StrsAre vs ss) (f : Str → Bool) : (vs.filter fun v => f (sOf v)).length = (ss.filter f).length := by
  induction h with
  | nil => rfl
  | cons y t _ ih =>
    have e : sOf (.str y t) = y := rfl
    rw [List.filter_cons, List.filter_cons, e]
    cases f y
    · simpa using ih
    · simpa using ih
theorem countP_strs {k : Str} {vs : List Value} {ss : List Str} (h : StrsAre vs ss) : vs.countP (isStrOf k) = ss.count k := by
  induction h with
  | nil => rfl
  | cons y t _ ih =>
    rw [List.countP_cons, List.count_cons, ih]
    congr 1
theorem ints_mem {vs : List Value} {ns : List Int} (h : IntsAre vs ns) {a : Int} {t : Tok} (hv : Value.int a t ∈ vs) : a ∈ ns := by
  induction h with
  | nil => cases hv
  | cons y u _ ih =>
    rcases List.mem_cons.mp hv with e | hv
    · cases e; exact .head _
    · exact .tail _ (ih hv)
theorem ints_map {vs : List Value} {ns : List Int} (h : IntsAre vs ns) (g : Int → Int) {ys : List Value} (hp : Paired (fun v y => ∃ t, y = .int (g (iOf v)) t) vs ys) : IntsAre ys (ns.map g) := by
  induction h generalizing ys with
  | nil => cases hp; exact .nil
  | cons y u _ ih =>
    cases hp with
    | cons a r =>
      obtain ⟨t, rfl⟩ := a
      exact .cons _ _ (ih r)
section
variable {prog : Program} {w : World} {A : Around} {E : Value → Shared → Prop} {s : Shared} {mg mb : Str → Option Value}
def lessOf (letter : Str) (rs : List Str) : Int := ((rs.filter fun x => decide (0 < coll letter x)).length : Nat)
def movedOf (letter : Str) (rs es : List Str) (p : Int) : Int := lessOf letter rs + ((es.take p.toNat).count letter : Nat)
theorem call_moved {pl ring ends : Addr} {letter : Str} {tl : Tok} {vp vr ve : List Value} {ps : List Int} {rs es : List Str} {Q : Value → Shared → Prop} (B : Bs w mg mb s.heap) (hh : A.handled = none) (hd : A.depth + 1 < recursionLimit)
    (hp : s.heap.IsList pl vp.toArray) (ip : IntsAre vp ps) (hr : s.heap.IsList ring vr.toArray) (ir : StrsAre vr rs) (he : s.heap.IsList ends ve.toArray) (ie : StrsAre ve es)
    (lp : vp.length < 1000) (lr : vr.length < 1000) (le : ve.length < 1000) (p0 : ∀ p ∈ ps, 0 ≤ p)
    (h : ∀ D ys s', Keeps s s' → s'.heap.PlainList D ys → s.heap.get? D = none → IntsAre ys.toList (ps.map (movedOf letter rs es)) → Q (.ref D) s') :
    wpAny (model prog w) A (call (.ref 47) [.ref pl, .str letter tl, .ref ring, .ref ends]) Q E s := by
  refine wpAny_call ?_
  refine call_own (qual := "_law_moved") (scope := fScope (stm 8)) (body := fBody (stm 8)) (cdv := .ref 46) (params := fArgs (stm 8)) (Nat.lt_of_succ_lt hd) (B.X 47 _ rfl) rfl B.nolimit (codeRec_of (K := KF w) B.X (by rfl)) (BindsTo.of_eq (binds := [("places", .ref pl), ("letter", .str letter tl), ("ring", .ref ring), ("ends", .ref ends)]) rfl) rfl (fun L s1 hL x => ?_)
  have c1 : s1.heap.IsCell (L + 1) (some (.str letter tl)) := x.cell "letter" (L + 1) rfl
  have c2 : s1.heap.IsCell (L + 2) (some (.ref ends)) := x.cell "ends" (L + 2) rfl
  have c3 : s1.heap.IsCell (L + 3) none := x.cell "less" (L + 3) rfl
  have hn := x.toInCall.ns
  have k1 := x.toInCall.keep
  have K1 : Keeps s s1 := by obtain ⟨a, b, c⟩ := x.toInCall.same; exact ⟨a, b, c, by rw [c] at k1; exact k1⟩
  have B1 := B.keeps k1
  have hcl : cellsFrom (L + 1) (fScope (stm 8)).names [] = [(Str.ofString "less", L + 3), (Str.ofString "ends", L + 2), (Str.ofString "letter", L + 1)] := rfl
  rw [hcl]
  clear x
  refine wpAny_execs_cons (wpAny_Assign_Name (Call_ (nmB B1 (by rfl) (by boot_by_name) (callWith_builtin1 (args_cons ?_)))))
  refine lc_expr (n := vr.length) (P := fun i v => vr[i]? = some v) (fun v => decide (0 < coll letter (sOf v))) (fun v y => y = v) lr ?_ ?_ ?_ ?_
  · refine nmL hn (by rfl) ⟨kp_refl _, _, IterOf.list hh (hr.at fun o e => k1 _ _ e)⟩
  · intro C i v s₃ m₃ E' hP hns hm hk
    obtain ⟨a, t, rfl⟩ := strs_str ir (List.mem_of_getElem? hP)
    have B3 := B1.keeps hk
    have h21 := B3.X 21 _ rfl
    refine wpAny_tests_one (wpAny_isTrue_Compare1 (Call_ (nmG B3 (v := .ref 21) (by rfl) (callWith_F ⟨_, _, _, _, h21⟩ (args_cons (nmC (c1.keeps hk) (args_cons (nmL hns hm (args_nil ⟨⟨_, _, _, _, h21⟩, ?_⟩)))))))))
    refine call_strcoll B3 hd fun s4 t4 K4 => wpAny_Constant_int (gt_int (wpAny_truthy_bool ⟨rfl, kp_trans K4 (kp_tok _)⟩))
  · intro C i v s₃ m₃ E' hP hp hns hm hk
    exact nmL hns hm ⟨rfl, kp_refl _⟩
  · intro D ys vs s2 K2 hpl _ hlen hP hF
    have e1 := list_eq_of hlen hP
    have e2 := paired_eq hF
    rw [e1] at e2
    have B2 := B1.keeps (kp_heap K2)
    have hfl : (vr.filter fun v => decide (0 < coll letter (sOf v))).length ≤ vr.length := List.length_filter_le _ _
    have hys : ys.size = (vr.filter fun v => decide (0 < coll letter (sOf v))).length := by rw [← e2, Array.length_toList]
    refine args_nil (call_len_list hpl.isList (by rw [hys]; omega) ?_)
    have c3' := c3.keeps (kp_heap K2)
    refine wpAny_storeName_cell (c := L + 3) rfl rfl rfl c3' fun h3 c3n hs3 => ?_
    have k3 : ∀ b o, b ≠ L + 3 → s1.heap.get? b = some o → h3.get? b = some o := fun b o hb e => (hs3.2 b hb).trans (kp_heap K2 _ _ e)
    have hsz : ∀ b o, s.heap.get? b = some o → b ≠ L + 3 := fun b o e => by
      have := Heap.lt_size e; rw [← hL] at this; exact Nat.ne_of_lt (Nat.lt_of_lt_of_le this (Nat.le_add_right _ _))
    have K3 : HK s.heap h3 := fun b o e => k3 b o (hsz b o e) (k1 _ _ e)
    have hn3 : h3.Ns L _ := (hn.keeps (kp_heap K2)).sameBut hs3 (by show L ≠ L + 3; omega)
    have c13 : h3.IsCell (L + 1) _ := (c1.keeps (kp_heap K2)).sameBut hs3 (by show L + 1 ≠ L + 3; omega)
    have c23 : h3.IsCell (L + 2) _ := (c2.keeps (kp_heap K2)).sameBut hs3 (by show L + 2 ≠ L + 3; omega)
    have B3 := B.keeps K3
    obtain ⟨h2, t2, rfl, kk2⟩ := kp_trans K1 K2
    refine wp_at { s with heap := h3, toks := t2 + 1 + 1 } rfl ?_
    refine wpAny_execs_cons (wpAny_Return_some ?_)
    have elen : ((ys.size : Nat) : Int) = lessOf letter rs := by
      unfold lessOf
      rw [hys, filter_strs ir fun a => decide (0 < coll letter a)]
    refine lc_expr (n := vp.length) (P := fun i v => vp[i]? = some v) (fun _ => true) (fun v y => ∃ t, y = .int (movedOf letter rs es (iOf v)) t) lp ?_ ?_ ?_ ?_
    · exact nmL hn3 (by rfl) ⟨kp_refl _, _, IterOf.list hh (hp.at fun o e => K3 _ _ e)⟩
    · intro C i v s₃ m₃ E' hP hns hm hk
      exact tests0 (v := v)
    · intro C i v s₃ m₃ E' hP _ hns hm hk
      obtain ⟨a, t, rfl⟩ := ints_int ip (List.mem_of_getElem? hP)
      have ha : 0 ≤ a := p0 a (ints_mem ip (List.mem_of_getElem? hP))
      obtain ⟨an, rfl⟩ := Int.eq_ofNat_of_zero_le ha
      have hen : s₃.heap.IsList ends ve.toArray := he.at fun o e => hk _ _ (K3 _ _ e)
      refine wpAny_BinOp (nmC (c3n.keeps hk) ?_)
      refine wpAny_Call_method_late rfl rfl rfl rfl ?_
      refine wpAny_Subscript_list_slice (nmC (c23.keeps hk) (wpAny_evalPart_none (wpAny_evalPart_some (nmL hns hm ⟨ends, ve.toArray, none, some (an : Int), rfl, hen, by rw [List.size_toArray, sizeLine_eq]; omega, .none, .int _ _, ?_⟩))))
      rw [slicePick_upto']
      have N1 : Nw s₃.heap s₃.heap.objs.size { cls := .type "slice", data := .fields #[.none, .int (an : Int) t, .none] } _ := nw_push rfl
      have N2 : Nw (s₃.heap.push { cls := .type "slice", data := .fields #[.none, .int (an : Int) t, .none] }) (s₃.heap.objs.size + 1) { cls := .type "list", data := .seq (ve.toArray.toList.take an).toArray } ((s₃.heap.push { cls := .type "slice", data := .fields #[.none, .int (an : Int) t, .none] }).push { cls := .type "list", data := .seq (ve.toArray.toList.take an).toArray }) := by
        rw [← Heap.size_push s₃.heap { cls := .type "slice", data := .fields #[.none, .int (an : Int) t, .none] }]; exact nw_push rfl
      generalize (s₃.heap.push { cls := .type "slice", data := .fields #[.none, .int (an : Int) t, .none] }).push { cls := .type "list", data := .seq (ve.toArray.toList.take an).toArray } = h5 at *
      generalize s₃.heap.objs.size + 1 = D5 at *
      have k5 : HK s₃.heap h5 := fun b o e => N2.keep _ _ (N1.keep _ _ e)
      refine ⟨"list", "list.count", PySem.F.plainAttrs_list, PySem.F.slot_list_count, by rfl, ⟨_, N2.at_, rfl⟩, fun a e => by cases e; exact ⟨_, N2.at_, rfl⟩, ?_⟩
      refine callWith_method1 (args_cons (nmC (c13.keeps fun b o e => k5 _ _ (hk _ _ e)) (args_nil ?_)))
      refine count_list_strs (vs := ve.take an) (ys := es.take an) ⟨_, N2.at_, rfl, 0, rfl⟩ (strs_take ie an) (add_int ?_)
      have ec := countP_isStrOf_map letter (strs_take ie an)
      rw [countP_strs (strs_take ie an)] at ec
      rw [← ec, elen]
      exact ⟨⟨_, rfl⟩, ⟨h5, _, rfl, k5⟩⟩
    · intro D' ys' vs' s' K' hpl' hD' hlen' hP' hF'
      have e1' := list_eq_of hlen' hP'
      rw [e1', List.filter_eq_self.mpr (fun _ _ => rfl)] at hF'
      obtain ⟨h6, t6, rfl, k6⟩ := K'
      exact h D' ys' _ ⟨h6, t6, rfl, fun b o e => k6 _ _ (K3 _ _ e)⟩ hpl' (by cases q : s.heap.get? D' with
                                                                                  | none => rfl
                                                                                  | some o => have q2 : h3.get? D' = _ := K3 _ _ q; rw [show _ = _ from hD'] at q2; cases q2) (ints_map ip _ hF')
end
end Mine
end

-- part Heads
section
set_option maxRecDepth 100000
set_option maxHeartbeats 4000000
namespace Mine
open PySem.Calls
/-- lists of lists of ints, on the heap; the inner ones apart from some addresses -/
def LL (h : Heap) (no : List Addr) (vs : List Value) (nss : List (List Int)) : Prop :=
  vs.length = nss.length ∧ ∀ (i : Nat) ns, nss[i]? = some ns → ∃ a ys, vs[i]? = some (Value.ref a) ∧ h.PlainList a ys ∧ IntsAre ys.toList ns ∧ a ∉ no
theorem LL.mono {h h' : Heap} {no no' : List Addr} {vs : List Value} {nss : List (List Int)} (x : LL h no vs nss) (k : ∀ b o, b ∉ no → h.get? b = some o → h'.get? b = some o) (hn : ∀ b ∈ no', b ∈ no) : LL h' no' vs nss :=
  ⟨x.1, fun i ns e => let ⟨a, ys, p, q, r, t⟩ := x.2 i ns e; ⟨a, ys, p, let ⟨n, z⟩ := q; ⟨n, k _ _ t z⟩, r, fun m => t (hn _ m)⟩⟩
theorem LL.snoc {h : Heap} {no : List Addr} {vs : List Value} {nss : List (List Int)} (x : LL h no vs nss) {a : Addr} {ys : Array Value} {ns : List Int} (p : h.PlainList a ys) (q : IntsAre ys.toList ns) (r : a ∉ no) : LL h no (vs ++ [.ref a]) (nss ++ [ns]) := by
  refine ⟨by simp [x.1], fun i ns' e => ?_⟩
  by_cases hi : i < nss.length
  · rw [List.getElem?_append_left hi] at e
    obtain ⟨a', ys', p', r'⟩ := x.2 i ns' e
    exact ⟨a', ys', by rw [List.getElem?_append_left (by rw [x.1]; exact hi)]; exact p', r'⟩
  · have hi2 : i = nss.length := by
      have := (List.getElem?_eq_some_iff.mp e).1
      simp at this; omega
    subst hi2
    rw [List.getElem?_append_right (Nat.le_refl _)] at e
    simp at e
    subst e
    exact ⟨a, ys, by rw [List.getElem?_append_right (by rw [x.1]; exact Nat.le_refl _)]; simp [x.1], p, q, r⟩
/-- the number that the m letters from k on write -/
noncomputable def hRow (ds : List Int) : Nat → Nat → Int
  | 0, _ => 0
  | m + 1, k => 3 * hRow ds m k + ds.getD ((k + m) % ds.length) 0
noncomputable def hRows (ds : List Int) (m : Nat) : List Int := (List.range ds.length).map (hRow ds m)
theorem ints_len {vs : List Value} {ns : List Int} (h : IntsAre vs ns) : vs.length = ns.length := by
  induction h with
  | nil => rfl
  | cons y t _ ih => simp [ih]
theorem ints_get {vs : List Value} {ns : List Int} (h : IntsAre vs ns) {i : Nat} (hi : i < ns.length) : ∃ t, vs[i]? = some (.int (ns.getD i 0) t) := by
  obtain ⟨t, e⟩ := h.get i (ns.getD i 0) (by simp [hi])
  exact ⟨t, e⟩
/-- ints that a comprehension over a range gives -/
theorem ints_range {n : Nat} {g : Nat → Int} {vs : List Value} {ys : List Value} (hl : vs.length = n) (hP : ∀ (j : Nat) v, vs[j]? = some v → ∃ t, v = Value.int (j : Int) t) (hp : Paired (fun v y => ∃ t, y = .int (g (iOf v).toNat) t) vs ys) :
    IntsAre ys ((List.range n).map g) := by
  have e : vs.map (fun v => (iOf v).toNat) = List.range n := by
    apply List.ext_getElem?
    intro j
    rw [List.getElem?_map]
    by_cases hj : j < vs.length
    · obtain ⟨t, ht⟩ := hP j vs[j] (List.getElem?_eq_getElem hj)
      rw [List.getElem?_eq_getElem hj, ht]
      rw [List.getElem?_range (by omega)]
      simp [iOf]
    · rw [List.getElem?_eq_none (by omega), List.getElem?_eq_none (by simp; omega)]
      rfl
  rw [← e, List.map_map]
  clear e hP hl
  induction hp with
  | nil => exact .nil
  | cons a _ ih => obtain ⟨t, rfl⟩ := a; exact .cons _ _ ih
section
variable {prog : Program} {w : World} {A : Around} {E : Value → Shared → Prop} {s : Shared} {mg mb : Str → Option Value}
theorem call_heads {fg : Addr} {vf : List Value} {ds : List Int} {Q : Value → Shared → Prop} (B : Bs w mg mb s.heap) (hh : A.handled = none) (hd : A.depth + 1 < recursionLimit)
    (hf : s.heap.IsList fg vf.toArray) (ifs : IntsAre vf ds) (l0 : 0 < ds.length) (l1 : ds.length < 64)
    (h : ∀ G gs s', Keeps s s' → s'.heap.IsList G gs → LL s'.heap [] gs.toList ((List.range (ds.length + 1)).map (hRows ds)) → Q (.ref G) s') :
    wpAny (model prog w) A (call (.ref 42) [.ref fg]) Q E s := by
  have lv := ints_len ifs
  refine wpAny_call ?_
  refine call_own (qual := "_law_heads") (scope := fScope (stm 7)) (body := fBody (stm 7)) (cdv := .ref 41) (params := fArgs (stm 7)) (Nat.lt_of_succ_lt hd) (B.X 42 _ rfl) rfl B.nolimit (codeRec_of (K := KF w) B.X (by rfl)) (BindsTo.of_eq (binds := [("figures", .ref fg)]) rfl) rfl (fun L s1 hL x => ?_)
  have c1 : s1.heap.IsCell (L + 1) (some (.ref fg)) := x.cell "figures" (L + 1) rfl
  have c2 : s1.heap.IsCell (L + 2) none := x.cell "grid" (L + 2) rfl
  have c3 : s1.heap.IsCell (L + 3) none := x.cell "m" (L + 3) rfl
  have k1 := x.toInCall.keep
  have K1 : Keeps s s1 := by obtain ⟨a, b, c⟩ := x.toInCall.same; exact ⟨a, b, c, by rw [c] at k1; exact k1⟩
  have B1 := B.keeps k1
  have hcl : cellsFrom (L + 1) (fScope (stm 7)).names [] = [(Str.ofString "m", L + 3), (Str.ofString "grid", L + 2), (Str.ofString "figures", L + 1)] := rfl
  rw [hcl]
  clear x
  have hf1 : s1.heap.IsList fg vf.toArray := hf.at fun o e => k1 _ _ e
  refine wpAny_execs_cons (wpAny_Assign_Name (wpAny_List (wpAny_items_cons ?_)))
  refine lc_expr (n := vf.length) (P := fun i v => vf[i]? = some v) (fun _ => true) (fun v y => ∃ t, y = .int 0 t) (by omega) (nmC c1 ⟨kp_refl _, _, IterOf.list hh hf1⟩) (fun C i v s₃ m₃ E' hP hns hm hk => tests0 (v := v))
    (fun C i v s₃ m₃ E' hP _ hns hm hk => wpAny_Constant_int ⟨⟨_, rfl⟩, kp_tok _⟩) ?_
  intro D ys vs s2 K2 hpl hD hlen hP hF
  refine wpAny_items_nil ⟨by simp [sizeLine_eq], ?_⟩
  have iz : IntsAre ys.toList (hRows ds 0) := by
    rw [list_eq_of hlen hP, List.filter_eq_self.mpr (fun _ _ => rfl)] at hF
    have e : hRows ds 0 = ds.map fun _ => 0 := by
      unfold hRows
      apply List.ext_getElem <;> simp [hRow]
    rw [e]
    exact ints_map ifs (fun _ => 0) hF
  have NG : Nw s2.heap s2.heap.objs.size { cls := .type "list", data := .seq [Value.ref D].toArray } (s2.heap.push { cls := .type "list", data := .seq [Value.ref D].toArray }) := nw_push rfl
  generalize s2.heap.objs.size = G at *
  generalize s2.heap.push { cls := .type "list", data := .seq [Value.ref D].toArray } = h3 at *
  have k13 : HK s1.heap h3 := fun b o e => NG.keep _ _ (kp_heap K2 _ _ e)
  have hDG : D ≠ G := by obtain ⟨n, e⟩ := hpl; exact NG.new _ _ e
  refine wpAny_storeName_cell (c := L + 2) rfl rfl rfl (c2.keeps k13) fun h4 c24 hs4 => ?_
  have hold : ∀ b o, s.heap.get? b = some o → b < L := fun b o e => by have := Heap.lt_size e; rw [← hL] at this; exact this
  have nG : ∀ b o, s1.heap.get? b = some o → b ≠ G := fun b o e => NG.new _ _ (kp_heap K2 _ _ e)
  have cG : ∀ j v, s1.heap.IsCell (L + j) v → L + j ≠ G := fun j v c => by obtain ⟨o, e, _⟩ := c; exact nG _ _ e
  have k14 : ∀ b o, b ≠ L + 2 → s1.heap.get? b = some o → h4.get? b = some o := fun b o hb e => (hs4.2 b hb).trans (k13 _ _ e)
  have c14 : h4.IsCell (L + 1) _ := (c1.keeps k13).sameBut hs4 (by show L + 1 ≠ L + 2; omega)
  have c34 : h4.IsCell (L + 3) _ := (c3.keeps k13).sameBut hs4 (by show L + 3 ≠ L + 2; omega)
  have k04 : HK s.heap h4 := fun b o e => k14 b o (Nat.ne_of_lt (Nat.lt_of_lt_of_le (hold b o e) (Nat.le_add_right _ _))) (k1 _ _ e)
  have hG4 : PlainL h4 G #[.ref D] := ⟨_, 0, (hs4.2 G (cG 2 _ c2).symm).trans NG.at_, rfl, rfl, rfl⟩
  have hDc : D ≠ L + 2 := fun q => by rw [q] at hD; obtain ⟨o, e, _⟩ := c2; rw [hD] at e; cases e
  have hD3 : D ≠ L + 3 := fun q => by rw [q] at hD; obtain ⟨o, e, _⟩ := c3; rw [hD] at e; cases e
  have hD4 : h4.PlainList D ys := by obtain ⟨n, e⟩ := hpl; exact ⟨n, (hs4.2 D hDc).trans (NG.keep _ _ e)⟩
  obtain ⟨h2, t2, rfl, kk2⟩ := kp_trans K1 K2
  refine wp_at { s with heap := h4, toks := t2 } rfl ?_
  have B4 := B.keeps k04
  have hf4 : h4.IsList fg vf.toArray := hf.at fun o e => k04 _ _ e
  refine wpAny_execs_cons (wpAny_For ?_)
  refine Call_ (nmB B4 (by rfl) (by boot_by_name) (callWith_type1 (args_cons ?_)))
  refine Call_ (nmB B4 (by rfl) (by boot_by_name) (callWith_builtin1 (args_cons (nmC c14 (args_nil ?_)))))
  refine call_len_list hf4 (by simp; omega) ?_
  refine args_nil (call_range_1 ?_)
  have hvs : ((vf.toArray.size : Nat) : Int) = (ds.length : Int) := by simp [lv]
  rw [hvs]
  have hr := IsRange.new h4 0 (ds.length : Int) 1 (t2 + 1 + 1) (t2 + 1) (t2 + 1 + 1 + 1)
  refine IterOf.range (A := A.deeper _) (n := ds.length) (s₁ := { s with heap := h4.push { cls := .type "range", data := .fields #[.int 0 (t2 + 1 + 1), .int (ds.length : Int) (t2 + 1), .int 1 (t2 + 1 + 1 + 1)] }, toks := t2 + 1 + 1 + 1 + 1 }) hh (by omega) hr _ _ fun I St s5 K5 hI W hst hfp hSt => ?_
  obtain ⟨h5, t5, rfl, kk5⟩ := K5
  have k45 : HK h4 h5 := fun b o e => kk5 _ _ (Heap.get?_push_of_some _ e)
  have nI : ∀ b o, h4.get? b = some o → b ≠ I := fun b o e q => by
    rw [← q] at hI
    have e2 := Heap.get?_push_of_some { cls := .type "range", data := .fields #[.int 0 (t2 + 1 + 1), .int (ds.length : Int) (t2 + 1), .int 1 (t2 + 1 + 1 + 1)] } e
    have e3 : some _ = none := e2.symm.trans hI
    cases e3
  have cI : ∀ j v, h4.IsCell (L + j) v → L + j ≠ I := fun j v c => by obtain ⟨o, e, _⟩ := c; exact nI _ _ e
  have hGI : G ≠ I := by obtain ⟨o, n, e, _⟩ := hG4; exact nI _ _ e
  have hDI : D ≠ I := by obtain ⟨n, e⟩ := hD4; exact nI _ _ e
  refine for_walk [L + 3, G] W (J := fun i s' => ∃ h' t', s' = { s with heap := h', toks := t' } ∧ (∀ b o, b ≠ I → b ≠ L + 3 → b ≠ G → h5.get? b = some o → h'.get? b = some o) ∧ (∃ mv, h'.IsCell (L + 3) mv) ∧ ∃ gs : List Value, PlainL h' G gs.toArray ∧ LL h' [L + 3, G, I] gs ((List.range (i + 1)).map (hRows ds))) hst ?_ ?_ ?_ ?_ ?_
  · intro b hb
    rw [List.mem_singleton.mp hb]
    intro hm
    rcases List.mem_cons.mp hm with q | hm
    · exact cI 3 _ c34 q.symm
    · exact hGI (List.mem_singleton.mp hm).symm
  · refine ⟨h5, t5, rfl, fun b o _ _ _ e => e, ⟨_, c34.keeps k45⟩, [.ref D], hG4.keeps k45, ⟨rfl, fun i ns e => ?_⟩⟩
    have hi : i = 0 := by have := (List.getElem?_eq_some_iff.mp e).1; simp at this; omega
    subst hi
    simp at e
    subst e
    refine ⟨D, ys, rfl, ?_, iz, ?_⟩
    · obtain ⟨n, e⟩ := hD4; exact ⟨n, k45 _ _ e⟩
    · simp [hD3, hDG, hDI]
  · rintro i s' h' tk _ ⟨h6, t6, rfl, k6, ⟨mv, cm⟩, gs, pg, ll⟩ hk
    refine ⟨h', tk, rfl, fun b o b1 b2 b3 e => hk _ _ b1 (k6 _ _ b1 b2 b3 e), ⟨mv, ?_⟩, gs, ?_, ll.mono (fun b o hb e => hk _ _ (fun q => hb (by simp [q])) e) fun _ e => e⟩
    · obtain ⟨o, e, d⟩ := cm; exact ⟨o, hk _ _ (cI 3 _ c34) e, d⟩
    · obtain ⟨o, n, e, d⟩ := pg; exact ⟨o, n, hk _ _ hGI e, d⟩
  · rintro i v s₁ E' hi ⟨_, tv, rfl⟩ hS ⟨h6, t6, rfl, k6, ⟨mv, cm⟩, gs, pg, ll⟩
    refine wpAny_assign_Name (wpAny_storeName_cell (c := L + 3) rfl rfl rfl cm fun h7 c37 hs7 => ?_)
    have k47 : ∀ b o, b ≠ L + 3 → b ≠ G → h4.get? b = some o → h7.get? b = some o := fun b o b2 b3 e => (hs7.2 b b2).trans (k6 _ _ (nI _ _ e) b2 b3 (k45 _ _ e))
    have c17 : h7.IsCell (L + 1) (some (.ref fg)) := by obtain ⟨o, e, d⟩ := c14; exact ⟨o, k47 _ _ (by show L + 1 ≠ L + 3; omega) (cG 1 _ c1) e, d⟩
    have c27 : h7.IsCell (L + 2) (some (.ref G)) := by obtain ⟨o, e, d⟩ := c24; exact ⟨o, k47 _ _ (by show L + 2 ≠ L + 3; omega) (cG 2 _ c2) e, d⟩
    have k07 : HK s.heap h7 := fun b o e => k47 b o (Nat.ne_of_lt (Nat.lt_of_lt_of_le (hold b o e) (Nat.le_add_right _ _))) (nG _ _ (k1 _ _ e)) (k04 _ _ e)
    have B7 := B.keeps k07
    have hf7 : h7.IsList fg vf.toArray := hf.at fun o e => k07 _ _ e
    have pg7 : PlainL h7 G gs.toArray := by obtain ⟨o, n, e, d⟩ := pg; exact ⟨o, n, (hs7.2 G (cG 3 _ c3).symm).trans e, d⟩
    have ll7 : LL h7 [L + 3, G, I] gs ((List.range (i + 1)).map (hRows ds)) := ll.mono (fun b o hb e => (hs7.2 b (fun q => hb (by simp [q]))).trans e) fun _ e => e
    obtain ⟨oI, eI⟩ := hSt _ _ hS
    have eI7 : h7.get? I = some oI := (hs7.2 I (cI 3 _ c34).symm).trans eI
    have lgs : gs.length = i + 1 := by rw [ll7.1]; simp
    refine wp_at { s with heap := h7, toks := t6 } rfl ?_
    refine wpAny_execs_cons (wpAny_Expr_any (wpAny_Call_append rfl rfl rfl rfl (nmC c27 ⟨G, gs.toArray, rfl, pg7, ?_⟩)))
    refine lc_expr (n := ds.length) (P := fun i v => i < ds.length ∧ ∃ t, v = .int (i : Int) t) (fun _ => true) (fun v y => ∃ t, y = .int (hRow ds (i + 1) (iOf v).toNat) t) (by omega) ?_ (fun C i v s₃ m₃ E' hP hns hm hk => tests0 (v := v)) ?_ ?_
    · refine Call_ (nmB B7 (by rfl) (by boot_by_name) (callWith_type1 (args_cons ?_)))
      refine Call_ (nmB B7 (by rfl) (by boot_by_name) (callWith_builtin1 (args_cons (nmC c17 (args_nil ?_)))))
      refine call_len_list hf7 (by simp; omega) ?_
      refine args_nil (call_range_1 ?_)
      rw [hvs]
      refine ⟨⟨_, _, rfl, fun b o e => Heap.get?_push_of_some _ e⟩, [], ?_⟩
      exact IterOf.range hh (by omega) (IsRange.new h7 0 (ds.length : Int) 1 (t6 + 1 + 1) (t6 + 1) (t6 + 1 + 1 + 1))
    · rintro C k v s₃ m₃ E'' ⟨hkn, tk, rfl⟩ _ hns hm hk
      obtain ⟨a, rv, ea, pa, ia, _⟩ := ll7.2 i (hRows ds i) (by simp)
      have lr := ints_len ia
      have lr2 : (hRows ds i).length = ds.length := by simp [hRows]
      obtain ⟨ti, ei⟩ := ints_get ia (i := k) (by rw [lr2]; exact hkn)
      have egd : (hRows ds i).getD k 0 = hRow ds i k := by simp [hRows, hkn]
      rw [egd] at ei
      have g3 : s₃.heap.IsList G gs.toArray := pg7.isList.at fun o e => hk _ _ e
      have a3 : s₃.heap.IsList a rv.toList.toArray := by rw [Array.toArray_toList]; exact pa.isList.at fun o e => hk _ _ e
      have f3 : s₃.heap.IsList fg vf.toArray := hf7.at fun o e => hk _ _ e
      have B3 := B7.keeps hk
      refine wpAny_BinOp (wpAny_BinOp (wpAny_Constant_int ?_))
      refine sub_any (sub_any (nmC (s := { s₃ with toks := s₃.toks + 1 }) (c27.keeps hk) (nmC (s := { s₃ with toks := s₃.toks + 1 }) (c37.keeps hk) ⟨"list", _, list_getitem_lookup, g3.typeIs, getItem_listL g3 (by omega) (by omega) (by simpa using ea) ?_⟩)))
      refine nmL (s := { s₃ with toks := s₃.toks + 1 }) hns hm ⟨"list", _, list_getitem_lookup, a3.typeIs, getItem_listL a3 (by omega) (by omega) (by simpa using ei) ?_⟩
      refine mul_int ?_ (IntMulOk.of_left (by decide))
      refine sub_any (nmC (s := { s₃ with toks := s₃.toks + 1 + 1 }) (c17.keeps hk) (wpAny_BinOp (wpAny_BinOp (nmL (s := { s₃ with toks := s₃.toks + 1 + 1 }) hns hm (nmC (s := { s₃ with toks := s₃.toks + 1 + 1 }) (c37.keeps hk) (add_int ?_))))))
      refine Call_ (nmB (s := { s₃ with toks := s₃.toks + 1 + 1 + 1 }) B3 (by rfl) (by boot_by_name) (callWith_builtin1 (args_cons (nmC (s := { s₃ with toks := s₃.toks + 1 + 1 + 1 }) (c17.keeps hk) (args_nil ?_)))))
      refine call_len_list f3 (by simp; omega) (mod_int (by rw [hvs]; omega) ?_)
      rw [hvs]
      have em : ((k : Int) + (i : Int)).fmod (ds.length : Int) = (((k + i) % ds.length : Nat) : Int) := by
        rw [Int.fmod_eq_emod_of_nonneg _ (by omega)]; push_cast; rfl
      rw [em]
      have hm2 : (k + i) % ds.length < ds.length := Nat.mod_lt _ l0
      obtain ⟨tj, ej⟩ := ints_get ifs (i := (k + i) % ds.length) hm2
      refine ⟨"list", _, list_getitem_lookup, f3.typeIs, getItem_listL f3 (by omega) (by omega) (by rw [Int.toNat_natCast]; exact ej) (add_int ?_)⟩
      refine ⟨⟨_, rfl⟩, ⟨_, _, rfl, fun b o e => e⟩⟩
    · intro D' ys' vs' s' K' hpl' hD' hlen' hP' hF'
      rw [List.filter_eq_self.mpr (fun _ _ => rfl)] at hF'
      have irow : IntsAre ys'.toList (hRows ds (i + 1)) := ints_range (g := hRow ds (i + 1)) hlen' (fun j v e => (hP' j v e).2) hF'
      obtain ⟨h8, t8, rfl, k8⟩ := K'
      have pg8 : PlainL h8 G gs.toArray := pg7.keeps k8
      have dG : D' ≠ G := fun q => by rw [q] at hD'; obtain ⟨o, n, e, _⟩ := pg7; exact absurd (e.symm.trans hD') (by simp)
      have dI : D' ≠ I := fun q => by rw [q] at hD'; exact absurd (eI7.symm.trans hD') (by simp)
      have d3 : D' ≠ L + 3 := fun q => by rw [q] at hD'; obtain ⟨o, e, _⟩ := c37; exact absurd (e.symm.trans hD') (by simp)
      refine list_append_plainL pg8 (fun h9 pg9 hs9 => ?_) (by simp [lgs, sizeLine_eq]; omega)
      refine wpAny_execs_nil ⟨rfl, ⟨h9, t8, rfl, fun b o b1 b2 b3 e => (hs9.2 b b3).trans (k8 _ _ ((hs7.2 b b2).trans (k6 _ _ b1 b2 b3 e))), ⟨_, (c37.keeps k8).sameBut hs9 (cG 3 _ c3)⟩, gs ++ [.ref D'], ?_, ?_⟩, fun b o hb e => ?_⟩
      · have : (gs ++ [Value.ref D']).toArray = gs.toArray.push (.ref D') := by simp
        rw [this]; exact pg9
      · have e : (List.range (i + 1 + 1)).map (hRows ds) = (List.range (i + 1)).map (hRows ds) ++ [hRows ds (i + 1)] := by rw [List.range_succ, List.map_append]; rfl
        rw [e]
        refine LL.snoc (ys := ys') (ll7.mono (fun b o hb e => ?_) fun _ e => e) ?_ irow (by simp [d3, dG, dI])
        · exact (hs9.2 b (fun q => hb (by simp [q]))).trans (k8 _ _ e)
        · obtain ⟨n, e⟩ := hpl'; exact ⟨n, (hs9.2 _ dG).trans e⟩
      · have b2 : b ≠ L + 3 := fun q => hb (by simp [q])
        have b3 : b ≠ G := fun q => hb (by simp [q])
        exact (hs9.2 b b3).trans (k8 _ _ ((hs7.2 b b2).trans e))
  · rintro s' ⟨h6, t6, rfl, k6, ⟨mv, cm⟩, gs, pg, ll⟩
    have c26 : h6.IsCell (L + 2) (some (.ref G)) := by obtain ⟨o, e, d⟩ := c24; exact ⟨o, k6 _ _ (nI _ _ e) (by show L + 2 ≠ L + 3; omega) (cG 2 _ c2) (k45 _ _ e), d⟩
    refine wpAny_execs_cons (wpAny_Return_some (nmC c26 ?_))
    refine h G gs.toArray _ ⟨h6, t6, rfl, fun b o e => ?_⟩ pg.isList (ll.mono (fun b o hb e => e) (fun _ e => by cases e))
    exact k6 b o (nI _ _ (k04 _ _ e)) (Nat.ne_of_lt (Nat.lt_of_lt_of_le (hold b o e) (Nat.le_add_right _ _))) (nG _ _ (k1 _ _ e)) (k45 _ _ (k04 _ _ e))
end
end Mine
end

-- part Reduce
section
set_option maxRecDepth 100000
set_option maxHeartbeats 4000000
namespace Mine
open PySem.Calls
/-- what keeps the lists -/
def OL (h h' : Heap) : Prop := ∀ b ys n, h.get? b = some (seqObj "list" ys n) → h'.get? b = some (seqObj "list" ys n)
section
variable {prog : Program} {w : World} {A : Around} {E : Value → Shared → Prop} {s : Shared} {mg mb : Str → Option Value}
theorem iter_list {l : Addr} {vs : List Value} {Q : Value → Shared → Prop} (hl : s.heap.IsList l vs.toArray)
    (h : ∀ I h', Nw s.heap I { cls := .type "list_iterator", data := .fields #[.ref l, .int 0 0] } h' → Q (.ref I) { s with heap := h' }) : wpAny (model prog w) A (call (.builtin "iter") [.ref l]) Q E s := by
  refine call_function_entry (by decide +kernel) (by decide +kernel) kdk_entry_iter (kdk_args_iter _) ?_
  unfold Builtin.«iter»
  refine wpAny_bind (m := someArgs "iter" 1 2 _) (wpAny_of_eq (a := [Value.ref l]) (by first | rfl | kernel_rfl) ?_)
  show wpAny _ _ (pyIter (.ref l) >>= _) _ _ _
  refine wpAny_bind (wpAny_pyIter_list hl ?_)
  exact wpAny_pure ⟨_, rfl, h _ _ (nw_push rfl)⟩
theorem call_reduce {q sq a : Addr} {vs : List Value} {Q : Value → Shared → Prop} (J : Nat → Value → Heap → Prop) (mono : ∀ i v h h', OL h h' → J i v h → J i v h')
    (B : Bs w mg mb s.heap) (hh : A.handled = none) (hd : A.depth + 1 < recursionLimit) (hq : FnAt q s.heap) (hsq : s.heap.IsList sq vs.toArray) (hlen : vs.length < 1000) {ai : Array Value} (ha : s.heap.PlainList a ai)
    (h0 : J 0 (.ref a) s.heap)
    (hf : ∀ (i : Nat) e v s' E' env', vs[i]? = some e → HK s.heap s'.heap → J i v s'.heap → wpAny (model prog w) (A.deeper env') (call (.ref q) [v, e]) (fun v' s'' => Keeps s' s'' ∧ J (i + 1) v' s''.heap) E' s')
    (h : ∀ v s', Keeps s s' → J vs.length v s'.heap → Q v s') :
    wpAny (model prog w) A (call (.ref 37) [.ref q, .ref sq, .ref a]) Q E s := by
  refine wpAny_call ?_
  refine call_fn (qual := "reduce") (scope := fScope (stm 5)) (body := fBody (stm 5)) (cdv := .ref 36) (params := fArgs (stm 5)) (binds := [("function", .ref q), ("sequence", .ref sq), ("initial", .ref a)]) (Nat.lt_of_succ_lt hd) (B.X 37 _ rfl) rfl B.nolimit (codeRec_of (K := KF w) B.X (by rfl)) (BindsTo.of_defaults rfl (B.X 30 _ rfl) rfl rfl rfl) (locs rfl) (fun L s1 hL K1 hn => ?_)
  have B1 := B.keeps (kp_heap K1)
  obtain ⟨h1, t1, rfl, k1⟩ := K1
  have hold : ∀ b o, s.heap.get? b = some o → b ≠ L := fun b o e => by have := Heap.lt_size e; rw [← hL] at this; exact Nat.ne_of_lt this
  refine wpAny_execs_cons (wpAny_Assign_Name (Call_ (nmB B1 (by rfl) (by boot_by_name) (callWith_builtin1 (args_cons (nmL hn rfl (args_nil ?_)))))))
  refine iter_list (hsq.at fun o e => k1 _ _ e) fun I h2 N2 => ?_
  have hn2 : h2.Ns L _ := hn.keeps N2.keep
  have nI : ∀ b o, h1.get? b = some o → b ≠ I := fun b o e => N2.new _ _ e
  have hLI : L ≠ I := by obtain ⟨o, _, _, e, _⟩ := hn; exact nI _ _ e
  refine wpAny_storeName_local (m := _) rfl hn2 fun h3 hn3 hs3 => ?_
  have k03 : HK s.heap h3 := fun b o e => (hs3.2 b (hold b o e)).trans (N2.keep _ _ (k1 _ _ e))
  have B3 := B.keeps k03
  have hI3 : h3.IsListIter I sq 0 := ⟨_, (hs3.2 I hLI.symm).trans N2.at_, rfl, rfl⟩
  refine wp_at { s with heap := h3, toks := t1 + 1 } rfl ?_
  refine wpAny_execs_cons (wpAny_If (wpAny_isTrue_Compare1 (nmL hn3 rfl (nmG B3 (v := .ref 29) (by rfl) ?_))))
  have h29 := B3.X 29 _ rfl
  obtain ⟨na, hae⟩ := ha
  have ha3 := k03 _ _ hae
  have hne : a ≠ 29 := fun q => by
    rw [q, B.X 29 _ rfl] at hae
    exact absurd (congrArg Obj.cls (Option.some.inj hae)) (by intro e; exact absurd (Value.type.inj e) (by decide))
  refine wpAny_is_ref_other hne ha3 h29 (by intro e; exact absurd (Value.type.inj e) (by decide)) (wpAny_truthy_bool ?_)
  rw [if_neg (by simp)]
  refine wpAny_execs_cons (wpAny_Assign_Name (nmL hn3 rfl (wpAny_storeName_local (m := _) rfl hn3 fun h4 hn4 hs4 => wpAny_execs_nil ?_)))
  have k04 : HK s.heap h4 := fun b o e => (hs4.2 b (hold b o e)).trans (k03 _ _ e)
  have hI4 : h4.IsListIter I sq 0 := by obtain ⟨o, e, r⟩ := hI3; exact ⟨o, (hs4.2 I hLI.symm).trans e, r⟩
  have hsI : sq ≠ I := by obtain ⟨o, e, _⟩ := hsq; exact nI _ _ (k1 _ _ e)
  have hsL : sq ≠ L := by obtain ⟨o, e, _⟩ := hsq; exact hold _ _ e
  have W := Walks.list (prog := prog) (w := w) (A := A.deeper (envX (Str.ofString "reduce") (fScope (stm 5)) L 37 (.ref 36) [])) hh I sq hsI vs.toArray
  rw [show vs.toArray.size = vs.length by simp] at W
  refine wp_at { s with heap := h4, toks := t1 + 1 + 1 } rfl ?_
  refine wpAny_execs_cons (wpAny_For (nmL hn4 (by rfl) (wpAny_pyIter_listiter hI4 ?_)))
  refine for_walk [L] W (J := fun i s' => ∃ h' t' v mloc, s' = { s with heap := h', toks := t' } ∧ HK s.heap h' ∧ h'.Ns L mloc ∧ mloc "function" = some (.ref q) ∧ mloc "value" = some v ∧ J i v h') ⟨hI4, hsq.at fun o e => k04 _ _ e⟩ ?_ ?_ ?_ ?_ ?_
  · intro b hb hm
    rw [List.mem_singleton.mp hm] at hb
    rcases List.mem_cons.mp hb with e | hb
    · exact hLI e
    · exact hsL (List.mem_singleton.mp hb).symm
  · exact ⟨h4, _, .ref a, _, rfl, k04, hn4, rfl, rfl, mono _ _ _ _ (fun b ys n e => (hs4.2 b (hold _ _ e)).trans (k03 _ _ e)) h0⟩
  · rintro i s' h' tk ⟨hit, _⟩ ⟨h6, t6, v, ml, rfl, k6, n6, f6, v6, j6⟩ hk
    refine ⟨h', tk, v, ml, rfl, fun b o e => hk _ _ (nI _ _ (k1 _ _ e)) (k6 _ _ e), n6.at' fun o e => hk _ _ hLI e, f6, v6, mono _ _ _ _ (fun b ys n e => hk _ _ (fun hbI => ?_) e) j6⟩
    obtain ⟨o, e2, c2, _⟩ := hit
    rw [hbI] at e
    have e3 : h6.get? I = some o := e2
    rw [e3] at e
    cases e
    exact absurd (Value.type.inj c2) (by decide)
  · rintro i e s₁ E' hi he _ ⟨h6, t6, v, ml, rfl, k6, n6, f6, v6, j6⟩
    have he' : vs[i]? = some e := by simpa using he
    refine wpAny_assign_Name (wpAny_storeName_local (m := ml) rfl n6 fun h7 n7 hs7 => ?_)
    have k07 : HK s.heap h7 := fun b o e => (hs7.2 b (hold _ _ e)).trans (k6 _ _ e)
    have oL : ∀ h : Heap, (∃ m, h.Ns L m) → ∀ b ys n, h.get? b = some (seqObj "list" ys n) → b ≠ L := fun h hm b ys n e q => by
      obtain ⟨m, o, es, ep, e2, d2, _⟩ := hm
      rw [q, e2] at e; cases e; cases d2
    have j7 : J i v h7 := mono _ _ _ _ (fun b ys n e => (hs7.2 b (oL _ ⟨_, n6⟩ _ _ _ e)).trans e) j6
    have hq7 : FnAt q h7 := by obtain ⟨a1, a2, a3, a4, e⟩ := hq; exact ⟨a1, a2, a3, a4, k07 _ _ e⟩
    refine wp_at { s with heap := h7, toks := t6 + 1 } rfl ?_
    refine wpAny_execs_cons (wpAny_Assign_Name (Call_ (nmL n7 (by exact f6) (callWith_F hq7 (args_cons (nmL n7 (by exact v6) (args_cons (nmL n7 (by rfl) (args_nil ⟨hq7, ?_⟩)))))))))
    refine wpAny_mono (hf i e v { s with heap := h7, toks := t6 + 1 } E' _ he' k07 j7) (fun v' s8 h8 => ?_) fun _ _ z => z
    obtain ⟨⟨h8, t8, rfl, k8⟩, j8⟩ := h8
    refine wpAny_storeName_local (m := _) rfl (n7.keeps k8) fun h9 n9 hs9 => wpAny_execs_nil ⟨rfl, ⟨h9, _, v', _, rfl, fun b o e => (hs9.2 b (hold _ _ e)).trans (k8 _ _ (k07 _ _ e)), n9, by exact f6, rfl, mono _ _ _ _ (fun b ys n e => (hs9.2 b (oL _ ⟨_, n7.keeps k8⟩ _ _ _ e)).trans e) j8⟩, fun b o hb e => ?_⟩
    have hbL : b ≠ L := fun q => hb (by simp [q])
    exact (hs9.2 b hbL).trans (k8 _ _ ((hs7.2 b hbL).trans e))
  · rintro s' ⟨h6, t6, v, ml, rfl, k6, n6, f6, v6, j6⟩
    refine wpAny_execs_cons (wpAny_Return_some (nmL n6 (by exact v6) ?_))
    exact h v _ ⟨h6, t6, rfl, k6⟩ j6
end
end Mine
end

-- part LawA
section
set_option maxRecDepth 100000
set_option maxHeartbeats 4000000
namespace Mine
open PySem.Calls
theorem addr_ne1 (L i : Nat) (h : 1 ≤ i) : L + i ≠ L := by omega
theorem addr_ne2 (L i j : Nat) (h : i ≠ j) : L + i ≠ L + j := by omega
/-- what the tables of the texts made within hold, as cv tells -/
def tabIs : Option Value → Array Value → Prop
  | none, ps => ps = #[]
  | some k, ps => k = .none ∨ ps = #[] ++ #[rawInt 62, rawInt 18, k]
/-- the law's own objects -/
structure LS (h₀ : Heap) (L : Addr) (ml : Str → Option Value) (cv : Nat → Option Value) (h : Heap) : Prop where
  keep : HK h₀ h
  ns : h.Ns L ml
  cs : ∀ i, 1 ≤ i → i ≤ 7 → h.IsCell (L + i) (cv i)
  above : ∀ b o, h₀.get? b = some o → b < L
  t23 : ∃ ps, h.get? 23 = some (tabObj ps) ∧ tabIs (cv 23) ps
  t49 : ∃ ps, h.get? 49 = some (tabObj ps) ∧ tabIs (cv 49) ps
  n23 : h₀.get? 23 = none
  n49 : h₀.get? 49 = none
  l23 : 49 < L
abbrev lawEnv (L fl : Addr) : Env := envX (Str.ofString "law") (fScope (stm 9)) L fl (.ref 51) [(Str.ofString "size", L + 7), (Str.ofString "letters", L + 6), (Str.ofString "last", L + 5), (Str.ofString "heads", L + 4), (Str.ofString "wish", L + 3), (Str.ofString "number", L + 2), (Str.ofString "turned", L + 1)]
theorem cells_law (L : Addr) : cellsFrom (L + 1) (fScope (stm 9)).names [] = [(Str.ofString "size", L + 7), (Str.ofString "letters", L + 6), (Str.ofString "last", L + 5), (Str.ofString "heads", L + 4), (Str.ofString "wish", L + 3), (Str.ofString "number", L + 2), (Str.ofString "turned", L + 1)] := rfl
abbrev lawSt (i : Nat) : Stmt := nth (fBody (stm 9)) i
theorem law_sts : fBody (stm 9) = [lawSt 0, lawSt 1, lawSt 2, lawSt 3, lawSt 4, lawSt 5, lawSt 6, lawSt 7, lawSt 8, lawSt 9, lawSt 10, lawSt 11, lawSt 12, lawSt 13] := rfl
theorem PlainList.ol {h h' : Heap} {a : Addr} {ys : Array Value} (p : h.PlainList a ys) (k : OL h h') : h'.PlainList a ys := let ⟨n, e⟩ := p; ⟨n, k _ _ _ e⟩
theorem ol_hk {h h' : Heap} (k : HK h h') : OL h h' := fun b ys n e => k _ _ e
theorem ol_trans {h h' h'' : Heap} (a : OL h h') (b : OL h' h'') : OL h h'' := fun x ys n e => b _ _ _ (a _ _ _ e)
section
variable {h₀ h h' : Heap} {L fl : Addr} {ml : Str → Option Value} {cv : Nat → Option Value}
theorem LS.hk (x : LS h₀ L ml cv h) (k : HK h h') : LS h₀ L ml cv h' where
  keep := fun b o e => k _ _ (x.keep _ _ e)
  ns := x.ns.keeps k
  cs := fun i a b => (x.cs i a b).keeps k
  above := x.above
  t23 := let ⟨ps, e, q⟩ := x.t23; ⟨ps, k _ _ e, q⟩
  t49 := let ⟨ps, e, q⟩ := x.t49; ⟨ps, k _ _ e, q⟩
  n23 := x.n23
  n49 := x.n49
  l23 := x.l23
/-- a local bound anew -/
theorem LS.loc (x : LS h₀ L ml cv h) {ml' : Str → Option Value} (n : h'.Ns L ml') (k : ∀ b o, b ≠ L → h.get? b = some o → h'.get? b = some o) : LS h₀ L ml' cv h' ∧ OL h h' := by
  refine ⟨⟨fun b o e => k _ _ (Nat.ne_of_lt (x.above _ _ e)) (x.keep _ _ e), n, fun i a b => ?_, x.above, ?_, ?_, x.n23, x.n49, x.l23⟩, fun b ys n e => k _ _ (fun q => ?_) e⟩
  · obtain ⟨o, e, d⟩ := x.cs i a b
    exact ⟨o, k _ _ (addr_ne1 L i a) e, d⟩
  · obtain ⟨ps, e, q⟩ := x.t23; exact ⟨ps, k _ _ (Nat.ne_of_lt (Nat.lt_trans (by decide) x.l23)) e, q⟩
  · obtain ⟨ps, e, q⟩ := x.t49; exact ⟨ps, k _ _ (Nat.ne_of_lt x.l23) e, q⟩
  · obtain ⟨o, es, ep, e2, d2, _⟩ := x.ns
    rw [q, e2] at e; cases e; cases d2
/-- a cell filled -/
theorem LS.cel (x : LS h₀ L ml cv h) {j : Nat} (j1 : 1 ≤ j) (j7 : j ≤ 7) {v : Option Value} (c : h'.IsCell (L + j) v) (k : ∀ b o, b ≠ L + j → h.get? b = some o → h'.get? b = some o) : LS h₀ L ml (fun i => if i = j then v else cv i) h' ∧ OL h h' := by
  refine ⟨⟨fun b o e => k _ _ (Nat.ne_of_lt (Nat.lt_of_lt_of_le (x.above _ _ e) (Nat.le_add_right _ _))) (x.keep _ _ e), x.ns.at' fun o e => k _ _ (addr_ne1 L j j1).symm e, fun i a b => ?_, x.above, ?_, ?_, x.n23, x.n49, x.l23⟩, fun b ys n e => k _ _ (fun q => ?_) e⟩
  · by_cases hij : i = j
    · rw [hij, if_pos rfl]; exact c
    · rw [if_neg hij]
      obtain ⟨o, e, d⟩ := x.cs i a b
      exact ⟨o, k _ _ (addr_ne2 L i j hij) e, d⟩
  · obtain ⟨ps, e, q⟩ := x.t23; exact ⟨ps, k _ _ (Nat.ne_of_lt (Nat.lt_of_lt_of_le (Nat.lt_trans (by decide) x.l23) (Nat.le_add_right _ _))) e, by rw [if_neg (by omega)]; exact q⟩
  · obtain ⟨ps, e, q⟩ := x.t49; exact ⟨ps, k _ _ (Nat.ne_of_lt (Nat.lt_of_lt_of_le x.l23 (Nat.le_add_right _ _))) e, by rw [if_neg (by omega)]; exact q⟩
  · obtain ⟨o, e2, d2⟩ := x.cs j j1 j7
    rw [q, e2] at e; cases e; cases d2
end
section
variable {prog : Program} {w : World} {A : Around} {E : Value → Shared → Prop} {s : Shared} {mg mb : Str → Option Value} {h₀ : Heap} {L fl : Addr} {ml : Str → Option Value} {cv : Nat → Option Value}
theorem ints_take {vs : List Value} {ns : List Int} (h : IntsAre vs ns) : ∀ n, IntsAre (vs.take n) (ns.take n) := by
  induction h with
  | nil => intro n; simpa using IntsAre.nil
  | cons y t _ ih =>
    intro n
    cases n with
    | zero => exact .nil
    | succ n => exact .cons y t (ih n)
theorem law1 {sc : Addr} {vs : List Value} {Q : Flow → Shared → Prop} (x : LS h₀ L ml cv s.heap) (hm : ml "script" = some (.ref sc)) (hs : s.heap.IsList sc vs.toArray) (hl : vs.length ≤ 63)
    (h : ∀ a s' h' t', s' = { s with heap := h', toks := t' } → OL s.heap h' → LS h₀ L (fun y => if y = "first" then some (.ref a) else ml y) cv h' → h'.PlainList a (vs.take 8).toArray → Q .next s') :
    wpAny (model prog w) A (exec (lawSt 0) (lawEnv L fl)) Q E s := by
  refine wpAny_Assign_Name (wpAny_Subscript_list_slice (nmL x.ns hm (wpAny_evalPart_none (wpAny_evalPart_some (wpAny_Constant_int ⟨sc, vs.toArray, none, some ((8 : Nat) : Int), rfl, hs, by rw [List.size_toArray, sizeLine_eq]; omega, .none, .int _ _, ?_⟩)))))
  rw [slicePick_upto']
  have N1 : Nw s.heap s.heap.objs.size { cls := .type "slice", data := .fields #[.none, .int 8 s.toks, .none] } (s.heap.push { cls := .type "slice", data := .fields #[.none, .int 8 s.toks, .none] }) := nw_push rfl
  have N2 : Nw (s.heap.push { cls := .type "slice", data := .fields #[.none, .int 8 s.toks, .none] }) (s.heap.objs.size + 1) { cls := .type "list", data := .seq (vs.toArray.toList.take 8).toArray } ((s.heap.push { cls := .type "slice", data := .fields #[.none, .int 8 s.toks, .none] }).push { cls := .type "list", data := .seq (vs.toArray.toList.take 8).toArray }) := by
    rw [← Heap.size_push s.heap { cls := .type "slice", data := .fields #[.none, .int 8 s.toks, .none] }]; exact nw_push rfl
  have k2 : HK s.heap _ := fun b o e => N2.keep _ _ (N1.keep _ _ e)
  have x2 := x.hk k2
  refine wpAny_storeName_local (m := _) rfl x2.ns fun h3 n3 hs3 => ?_
  obtain ⟨x3, o3⟩ := x2.loc n3 fun b o hb e => (hs3.2 b hb).trans e
  exact h _ _ h3 _ rfl (ol_trans (ol_hk k2) o3) x3 ⟨0, o3 _ _ _ N2.at_⟩
end
end Mine
end

-- part LawB
section
set_option maxRecDepth 100000
set_option maxHeartbeats 4000000
namespace Mine
open PySem.Calls
section
variable {prog : Program} {w : World} {A : Around} {E : Value → Shared → Prop} {s : Shared} {mg mb : Str → Option Value} {h₀ : Heap} {L fl : Addr} {ml : Str → Option Value} {cv : Nat → Option Value} {env : Env}
/-- a part of a list, whatever gave the list -/
theorem sub_slice {value : Expr} {lower upper : Option Expr} {p pos : Pos} {Q : Value → Shared → Prop}
    (h : wpAny (model prog w) A (eval value env) (fun o s₁ => wpAny (model prog w) A (evalPart lower env) (fun vl s₂ => wpAny (model prog w) A (evalPart upper env) (fun vu s₃ =>
      ∃ l items lo hi, o = .ref l ∧ s₃.heap.IsList l items ∧ items.size ≤ sizeLine ∧ IsPart vl lo ∧ IsPart vu hi ∧
        ∀ D h', HK s₃.heap h' → s₃.heap.get? D = none → h'.PlainList D (slicePick items lo hi none) → Q (.ref D) { s₃ with heap := h' }) E s₂) E s₁) E s) :
    wpAny (model prog w) A (eval (.Subscript value (.Slice lower upper none p) pos) env) Q E s := by
  rw [eval_Subscript]
  refine wpAny_bind (wpAny_mono h (fun o s₁ h₁ => wpAny_bind (wpAny_holding (wpAny_Slice (wpAny_mono h₁ (fun vl s₂ h₂ => wpAny_mono h₂ (fun vu s₃ h₃ => ?_) fun _ _ e => e) fun _ _ e => e)))) fun _ _ x => x)
  obtain ⟨l, items, lo, hi, rfl, hl, hsz, pl, pu, hQ⟩ := h₃
  refine wpAny_evalPart_none (wpAny_bind (wpAny_standAt (wpAny_bind ?_)))
  have hT : Shared.TypeIs { s₃ with heap := s₃.heap.push { cls := .type "slice", data := .fields #[vl, vu, .none] } } (.ref l) "list" := (hl.push _).typeIs
  rw [getitemInPython_of_ne hT.not_modules]
  refine wpAny_bind (wpAny_specialOf hT list_getitem_lookup (wpAny_pure (wpAny_bind ?_)))
  refine wpAny_operating (wpAny_getItem_list_slice (hl.push _) (Heap.IsSliceOf.new ..) pl pu .none (by simp) ?_ hsz)
  refine wpAny_bind (wpAny_letTemporaryGo (wpAny_pure ?_))
  rw [Heap.size_push]
  have N1 : Nw s₃.heap s₃.heap.objs.size { cls := .type "slice", data := .fields #[vl, vu, .none] } (s₃.heap.push { cls := .type "slice", data := .fields #[vl, vu, .none] }) := nw_push rfl
  have N2 : Nw (s₃.heap.push { cls := .type "slice", data := .fields #[vl, vu, .none] }) (s₃.heap.objs.size + 1) { cls := .type "list", data := .seq (slicePick items lo hi none) } ((s₃.heap.push { cls := .type "slice", data := .fields #[vl, vu, .none] }).push { cls := .type "list", data := .seq (slicePick items lo hi none) }) := by
    rw [← Heap.size_push s₃.heap { cls := .type "slice", data := .fields #[vl, vu, .none] }]; exact nw_push rfl
  exact hQ _ _ (fun b o e => N2.keep _ _ (N1.keep _ _ e)) (get_none (Nat.le_succ _)) ⟨0, N2.at_⟩
theorem add_pl {a b : Addr} {xs ys : List Value} {Q : Value → Shared → Prop} (ha : s.heap.PlainList a xs.toArray) (hb : s.heap.PlainList b ys.toArray) (hl : xs.length + ys.length ≤ 1000)
    (h : ∀ D h', HK s.heap h' → s.heap.get? D = none → h'.PlainList D (xs ++ ys).toArray → Q (.ref D) { s with heap := h' }) : wpAny (model prog w) A (binaryOp .Add (.ref a) (.ref b)) Q E s := by
  obtain ⟨n, ea⟩ := ha
  obtain ⟨m, eb⟩ := hb
  refine P.add_list ea eb ?_ (by simp [sizeLine_eq]; omega)
  have N : Nw s.heap s.heap.objs.size { cls := .type "list", data := .seq (xs.toArray ++ ys.toArray) } (s.heap.push { cls := .type "list", data := .seq (xs.toArray ++ ys.toArray) }) := nw_push rfl
  refine h _ _ N.keep (get_none (Nat.le_refl _)) ⟨0, ?_⟩
  have e : xs.toArray ++ ys.toArray = (xs ++ ys).toArray := by simp
  rw [← e]; exact N.at_
def digitsOf (fs : List Int) : List Int := (fs ++ [1, 0, 2, 0].drop fs.length).map fun x : Int => x.fmod 3
theorem ints_app {xs ys : List Value} {ns ms : List Int} (a : IntsAre xs ns) (b : IntsAre ys ms) : IntsAre (xs ++ ys) (ns ++ ms) := by
  induction a with
  | nil => exact b
  | cons y t _ ih => exact .cons _ _ ih
theorem ints_drop {vs : List Value} {ns : List Int} (h : IntsAre vs ns) : ∀ n, IntsAre (vs.drop n) (ns.drop n) := by
  induction h with
  | nil => intro n; simpa using IntsAre.nil
  | cons y t r ih =>
    intro n
    cases n with
    | zero => exact .cons y t r
    | succ n => exact ih n
theorem law2 {a : Addr} {vs : List Value} {fs : List Int} {Q : Flow → Shared → Prop} (hh : A.handled = none) (B : Bs w mg mb h₀) (x : LS h₀ L ml cv s.heap) (hm : ml "first" = some (.ref a)) (ha : s.heap.PlainList a vs.toArray) (ia : IntsAre vs fs) (hl : vs.length ≤ 8)
    (h : ∀ D ys s' h' t', s' = { s with heap := h', toks := t' } → OL s.heap h' → LS h₀ L (fun y => if y = "digits" then some (.ref D) else ml y) cv h' → h'.PlainList D ys → IntsAre ys.toList (digitsOf fs) → Q .next s') :
    wpAny (model prog w) A (exec (lawSt 1) (lawEnv L fl)) Q E s := by
  have B1 := B.keeps x.keep
  have lf := ints_len ia
  have iv : IntsAre (vs ++ [Value.int 1 s.toks, .int 0 (s.toks + 1), .int 2 (s.toks + 1 + 1), .int 0 (s.toks + 1 + 1 + 1)].drop vs.length) (fs ++ [1, 0, 2, 0].drop fs.length) :=
    ints_app ia (by rw [lf]; exact ints_drop (.cons _ _ (.cons _ _ (.cons _ _ (.cons _ _ .nil)))) _)
  have lv : (vs ++ [Value.int 1 s.toks, .int 0 (s.toks + 1), .int 2 (s.toks + 1 + 1), .int 0 (s.toks + 1 + 1 + 1)].drop vs.length).length ≤ 12 := by
    rw [List.length_append, List.length_drop]; simp; omega
  generalize hVS : vs ++ [Value.int 1 s.toks, .int 0 (s.toks + 1), .int 2 (s.toks + 1 + 1), .int 0 (s.toks + 1 + 1 + 1)].drop vs.length = VS at *
  refine lc_local (n := VS.length) (P := fun i v => VS[i]? = some v) (fun _ => true) (fun v y => ∃ t, y = .int ((fun z : Int => z.fmod 3) (iOf v)) t) (by omega) ?_ (fun C i v s₃ m₃ E' hP hns hm hk => tests0 (v := v)) ?_ x.ns ?_
  · refine wpAny_BinOp (nmL x.ns hm (sub_slice (wpAny_List (wpAny_items_cons (wpAny_Constant_int (wpAny_items_cons (wpAny_Constant_int (wpAny_items_cons (wpAny_Constant_int (wpAny_items_cons (wpAny_Constant_int (wpAny_items_nil ⟨by simp [sizeLine_eq], ?_⟩))))))))))))
    have N1 : Nw s.heap s.heap.objs.size { cls := .type "list", data := .seq [Value.int 1 s.toks, .int 0 (s.toks + 1), .int 2 (s.toks + 1 + 1), .int 0 (s.toks + 1 + 1 + 1)].toArray } (s.heap.push { cls := .type "list", data := .seq [Value.int 1 s.toks, .int 0 (s.toks + 1), .int 2 (s.toks + 1 + 1), .int 0 (s.toks + 1 + 1 + 1)].toArray }) := nw_push rfl
    refine wp_at { s with heap := s.heap.push { cls := .type "list", data := .seq [Value.int 1 s.toks, .int 0 (s.toks + 1), .int 2 (s.toks + 1 + 1), .int 0 (s.toks + 1 + 1 + 1)].toArray }, toks := s.toks + 1 + 1 + 1 + 1 } rfl ?_
    generalize s.heap.push { cls := .type "list", data := .seq [Value.int 1 s.toks, .int 0 (s.toks + 1), .int 2 (s.toks + 1 + 1), .int 0 (s.toks + 1 + 1 + 1)].toArray } = h1 at *
    generalize hD1 : s.heap.objs.size = D1 at *
    have a1 : h1.PlainList a vs.toArray := by obtain ⟨n, e⟩ := ha; exact ⟨n, N1.keep _ _ e⟩
    have B2 := B1.keeps N1.keep
    refine wpAny_evalPart_some (Call_ (nmB B2 (by rfl) (by boot_by_name) (callWith_builtin1 (args_cons (nmL (x.ns.keeps N1.keep) hm (args_nil ?_))))))
    refine call_len_list a1.isList (by simp; omega) (wpAny_evalPart_none ?_)
    refine ⟨D1, _, some ((vs.toArray.size : Nat) : Int), none, rfl, ⟨_, N1.at_, rfl, 0, rfl⟩, by simp [sizeLine_eq], .int _ _, .none, fun D2 h2 k2 hD2 p2 => ?_⟩
    rw [slicePick_from'] at p2
    have a2 : h2.PlainList a vs.toArray := by obtain ⟨n, e⟩ := a1; exact ⟨n, k2 _ _ e⟩
    refine add_pl a2 p2 (by rw [List.length_drop]; simp; omega) fun D3 h3 k3 hD3 p3 => ?_
    have e3 : vs ++ List.drop vs.toArray.size [Value.int 1 s.toks, .int 0 (s.toks + 1), .int 2 (s.toks + 1 + 1), .int 0 (s.toks + 1 + 1 + 1)].toArray.toList = VS := by rw [← hVS]; simp
    rw [e3] at p3
    exact ⟨⟨h3, _, rfl, fun b o e => k3 _ _ (k2 _ _ (N1.keep _ _ e))⟩, _, IterOf.list hh p3.isList⟩
  · rintro C i v s₃ m₃ E' hP _ hns hm3 hk
    obtain ⟨z, t, rfl⟩ := ints_int iv (List.mem_of_getElem? hP)
    refine wpAny_BinOp (nmL hns hm3 (wpAny_Constant_int (mod_int (by decide) ⟨⟨_, rfl⟩, ⟨_, _, rfl, fun b o e => e⟩⟩)))
  · rintro D ys us s' ⟨h', t', rfl, kb⟩ hn hpl hlen hP hF
    obtain ⟨x', o'⟩ := x.loc hn kb
    rw [list_eq_of hlen hP, List.filter_eq_self.mpr (fun _ _ => rfl)] at hF
    exact h D ys _ h' t' rfl o' x' hpl (ints_map iv _ hF)
end
end Mine
end

-- part LawC
section
set_option maxRecDepth 100000
set_option maxHeartbeats 4000000
namespace Mine
open PySem.Calls
/-- the letter of a figure -/
def ltr (d : Int) : Str := if d = 0 then ⟨#[66]⟩ else if d = 1 then ⟨#[95]⟩ else ⟨#[97]⟩
section
variable {prog : Program} {w : World} {A : Around} {E : Value → Shared → Prop} {s : Shared} {mg mb : Str → Option Value} {h₀ : Heap} {L fl : Addr} {ml : Str → Option Value} {cv : Nat → Option Value} {env : Env}
theorem law3 {D : Addr} {ys : Array Value} {Q : Flow → Shared → Prop} (B : Bs w mg mb h₀) (x : LS h₀ L ml cv s.heap) (hm : ml "digits" = some (.ref D)) (hD : s.heap.PlainList D ys) (hl : ys.size ≤ 12)
    (h : ∀ c s' h' t', s' = { s with heap := h', toks := t' } → OL s.heap h' → LS h₀ L ml (fun i => if i = 7 then some (.int (ys.size : Nat) c) else cv i) h' → Q .next s') :
    wpAny (model prog w) A (exec (lawSt 2) (lawEnv L fl)) Q E s := by
  have B1 := B.keeps x.keep
  refine wpAny_Assign_Name (Call_ (nmB B1 (by rfl) (by boot_by_name) (callWith_builtin1 (args_cons (nmL x.ns hm (args_nil (call_len_list hD.isList (by omega) ?_)))))))
  refine wpAny_storeName_cell (c := L + 7) rfl rfl rfl (x.cs 7 (by decide) (by decide)) fun h3 c3 hs3 => ?_
  obtain ⟨x3, o3⟩ := x.cel (j := 7) (by decide) (by decide) c3 fun b o hb e => (hs3.2 b hb).trans e
  exact h _ _ h3 _ rfl o3 x3
theorem item_ltr {d : Int} {t u : Tok} {Q : Value → Shared → Prop} (hd : d = 0 ∨ d = 1 ∨ d = 2) (h : Q (.str (ltr d) s.toks) { s with toks := s.toks + 1 }) : SubscriptOn (model prog w) A (.str (Str.ofString "B_a") t) (.int d u) Q E s := by
  refine ⟨"str", _, F.slot_str_getitem.lookup, typeIs_str s _ _, ?_⟩
  rcases hd with rfl | rfl | rfl
  · exact P.getItem_str (c := 66) (by decide) (by decide) h
  · exact P.getItem_str (c := 95) (by decide) (by decide) h
  · exact P.getItem_str (c := 97) (by decide) (by decide) h
theorem strs_map {vs : List Value} {ns : List Int} (h : IntsAre vs ns) (g : Int → Str) {ys : List Value} (hp : Paired (fun v y => ∃ t, y = .str (g (iOf v)) t) vs ys) : StrsAre ys (ns.map g) := by
  induction h generalizing ys with
  | nil => cases hp; exact .nil
  | cons y u _ ih =>
    cases hp with
    | cons a r =>
      obtain ⟨t, rfl⟩ := a
      exact .cons _ _ (ih r)
theorem law4 {D : Addr} {vs : List Value} {ds : List Int} {Q : Flow → Shared → Prop} (hh : A.handled = none) (x : LS h₀ L ml cv s.heap) (hm : ml "digits" = some (.ref D)) (hD : s.heap.PlainList D vs.toArray) (ia : IntsAre vs ds) (hl : vs.length ≤ 12)
    (h3 : ∀ d ∈ ds, d = 0 ∨ d = 1 ∨ d = 2)
    (h : ∀ D' ys s' h' t', s' = { s with heap := h', toks := t' } → OL s.heap h' → LS h₀ L ml (fun i => if i = 6 then some (.ref D') else cv i) h' → h'.PlainList D' ys → StrsAre ys.toList (ds.map ltr) → Q .next s') :
    wpAny (model prog w) A (exec (lawSt 3) (lawEnv L fl)) Q E s := by
  refine wpAny_Assign_Name (lc_expr (n := vs.length) (P := fun i v => vs[i]? = some v) (fun _ => true) (fun v y => ∃ t, y = .str (ltr (iOf v)) t) (by omega) (nmL x.ns hm ⟨kp_refl _, _, IterOf.list hh hD.isList⟩) (fun C i v s₃ m₃ E' hP hns hm hk => tests0 (v := v)) ?_ ?_)
  · rintro C i v s₃ m₃ E' hP _ hns hm3 hk
    have hmem := List.mem_of_getElem? hP
    obtain ⟨z, t, rfl⟩ := ints_int ia hmem
    refine sub_any (wpAny_Constant_str (nmL hns hm3 (item_ltr (h3 z (ints_mem ia hmem)) ⟨⟨_, rfl⟩, ⟨_, _, rfl, fun b o e => e⟩⟩)))
  · rintro D' ys us s' ⟨h', t', rfl, kb⟩ hpl _ hlen hP hF
    have x1 := x.hk kb
    refine wpAny_storeName_cell (c := L + 6) rfl rfl rfl (x1.cs 6 (by decide) (by decide)) fun h3 c3 hs3 => ?_
    obtain ⟨x', o'⟩ := x1.cel (j := 6) (by decide) (by decide) c3 fun b o hb e => (hs3.2 b hb).trans e
    rw [list_eq_of hlen hP, List.filter_eq_self.mpr (fun _ _ => rfl)] at hF
    exact h D' ys _ h3 t' rfl (ol_trans (ol_hk kb) o') x' (PlainList.ol hpl o') (strs_map ia _ hF)
end
end Mine
end

-- part LawD
section
set_option maxRecDepth 100000
set_option maxHeartbeats 4000000
namespace Mine
open PySem.Calls
/-- the letters from the i-th on, round the ring -/
def rotS (ls : List Str) (i : Nat) : Str := Txt.join ⟨#[]⟩ (ls.drop i ++ ls.take i)
theorem strs_range {n : Nat} {g : Nat → Str} {vs : List Value} {ys : List Value} (hl : vs.length = n) (hP : ∀ (j : Nat) v, vs[j]? = some v → ∃ t, v = Value.int (j : Int) t) (hp : Paired (fun v y => ∃ t, y = .str (g (iOf v).toNat) t) vs ys) :
    StrsAre ys ((List.range n).map g) := by
  have e : vs.map (fun v => (iOf v).toNat) = List.range n := by
    apply List.ext_getElem?
    intro j
    rw [List.getElem?_map]
    by_cases hj : j < vs.length
    · obtain ⟨t, ht⟩ := hP j vs[j] (List.getElem?_eq_getElem hj)
      rw [List.getElem?_eq_getElem hj, ht]
      rw [List.getElem?_range (by omega)]
      simp [iOf]
    · rw [List.getElem?_eq_none (by omega), List.getElem?_eq_none (by simp; omega)]
      rfl
  rw [← e, List.map_map]
  clear e hP hl
  induction hp with
  | nil => exact .nil
  | cons a _ ih => obtain ⟨t, rfl⟩ := a; exact .cons _ _ ih
theorem strs_app {xs ys : List Value} {ns ms : List Str} (a : StrsAre xs ns) (b : StrsAre ys ms) : StrsAre (xs ++ ys) (ns ++ ms) := by
  induction a with
  | nil => exact b
  | cons y t _ ih => exact .cons _ _ ih
theorem strs_drop {vs : List Value} {ns : List Str} (h : StrsAre vs ns) : ∀ n, StrsAre (vs.drop n) (ns.drop n) := by
  induction h with
  | nil => intro n; simpa using StrsAre.nil
  | cons y t r ih =>
    intro n
    cases n with
    | zero => exact .cons y t r
    | succ n => exact ih n
theorem strs_len {vs : List Value} {ns : List Str} (h : StrsAre vs ns) : vs.length = ns.length := by
  induction h with
  | nil => rfl
  | cons y t _ ih => simp [ih]
theorem sum_ones : ∀ {l : List Str}, (∀ a ∈ l, a.length = 1) → (l.map (·.length)).sum = l.length
  | [], _ => rfl
  | a :: l, h => by
    rw [List.map_cons, List.sum_cons, sum_ones fun b hb => h b (.tail _ hb), h a (.head _), List.length_cons]; omega
section
variable {prog : Program} {w : World} {A : Around} {E : Value → Shared → Prop} {s : Shared} {mg mb : Str → Option Value} {h₀ : Heap} {L fl : Addr} {ml : Str → Option Value} {cv : Nat → Option Value} {env : Env}
/-- range(n), as a comprehension's source -/
theorem it_range {e : Expr} {n : Nat} {rp rpos : Pos} (hh : A.handled = none) (B : Bs w mg mb s.heap) (hn : n < 1000)
    (he : wpAny (model prog w) A (eval e env) (fun v s' => (∃ t, v = .int (n : Int) t) ∧ Keeps s s') E s)
    (hg : env.globals = mainGlobals := by rfl) (hb : env.builtins = builtinsNs := by rfl) (hk : env.scope.kind = .function := by rfl) (hx : env.kindOf "range" = some .globalImplicit := by rfl)
    (hst : starEach [e] env = (false, eval e env) :: starEach [] env := by rfl)
    (hce : eval (.Call (.Name "range" rp) [e] [] rpos) env = (do callWith rpos (← eval (.Name "range" rp) env) [] (backTo rpos (starEach [e] env)) (backToKw rpos (keywordEach [] env))) := by rfl) :
    wpAny (model prog w) A (eval (.Call (.Name "range" rp) [e] [] rpos) env) (fun xv s₁ => Keeps s s₁ ∧ ∃ src, IterOf prog w A xv src n (fun i v => i < n ∧ ∃ t, v = .int (i : Int) t) s₁) E s := by
  refine Call_ (nmB B (by rfl) (by boot_by_name) (callWith_type1 (args_cons (wpAny_mono he (fun v s₁ h₁ => ?_) fun _ _ z => z) hst) hst) hg hb (by decide) hk hx) hce
  obtain ⟨⟨t, rfl⟩, k1⟩ := h₁
  refine args_nil (call_range_1 ?_)
  obtain ⟨h1, t1, rfl, kk1⟩ := k1
  exact ⟨⟨_, _, rfl, fun b o e => Heap.get?_push_of_some _ (kk1 _ _ e)⟩, [], IterOf.range hh hn (IsRange.new h1 0 (n : Int) 1 t1 t (t1 + 1))⟩
theorem law5 {D : Addr} {vs : List Value} {ls : List Str} {c : Tok} {Q : Flow → Shared → Prop} (hh : A.handled = none) (B : Bs w mg mb h₀) (x : LS h₀ L ml cv s.heap) (c6 : cv 6 = some (.ref D)) (c7 : cv 7 = some (.int (vs.length : Int) c)) (hD : s.heap.PlainList D vs.toArray) (ia : StrsAre vs ls) (hl : vs.length ≤ 12)
    (h1 : ∀ a ∈ ls, a.length = 1)
    (h : ∀ D' ys s' h' t', s' = { s with heap := h', toks := t' } → OL s.heap h' → LS h₀ L ml (fun i => if i = 1 then some (.ref D') else cv i) h' → h'.PlainList D' ys → StrsAre ys.toList ((List.range vs.length).map (rotS ls)) → Q .next s') :
    wpAny (model prog w) A (exec (lawSt 4) (lawEnv L fl)) Q E s := by
  have B1 := B.keeps x.keep
  have k7 := x.cs 7 (by decide) (by decide)
  rw [c7] at k7
  have k6 := x.cs 6 (by decide) (by decide)
  rw [c6] at k6
  refine wpAny_Assign_Name (lc_expr (n := vs.length) (P := fun i v => i < vs.length ∧ ∃ t, v = .int (i : Int) t) (fun _ => true) (fun v y => ∃ t, y = .str (rotS ls (iOf v).toNat) t) (by omega) ?_ (fun C i v s₃ m₃ E' hP hns hm hk => tests0 (v := v)) ?_ ?_)
  · exact it_range hh B1 (by omega) (nmC k7 ⟨⟨_, rfl⟩, kp_refl _⟩)
  · rintro C i v s₃ m₃ E' ⟨hi, t, rfl⟩ _ hns hm3 hk
    have p3 : s₃.heap.PlainList D vs.toArray := PlainList.ol hD (ol_hk hk)
    refine wpAny_Call_method_late rfl rfl rfl rfl (wpAny_Constant_str ⟨"str", "str.join", PySem.F.plainAttrs_str, PySem.F.slot_str_join, PySem.F.type_str_join, typeIs_str _ _ _, fun a e => (by cases e), ?_⟩)
    refine callWith_method1 (args_cons (wpAny_BinOp ?_))
    refine sub_slice (nmC (s := { s₃ with toks := s₃.toks + 1 }) (k6.keeps hk) (wpAny_evalPart_some (nmL (s := { s₃ with toks := s₃.toks + 1 }) hns hm3 (wpAny_evalPart_none ⟨D, vs.toArray, some (i : Int), none, rfl, p3.isList, by rw [List.size_toArray, sizeLine_eq]; omega, .int _ _, .none, fun D1 h1' kk1 _ p1 => ?_⟩))))
    rw [slicePick_from'] at p1
    refine sub_slice (nmC (s := { s₃ with heap := h1', toks := s₃.toks + 1 }) ((k6.keeps hk).keeps kk1) (wpAny_evalPart_none (wpAny_evalPart_some (nmL (s := { s₃ with heap := h1', toks := s₃.toks + 1 }) (hns.keeps kk1) hm3 ⟨D, vs.toArray, none, some (i : Int), rfl, (PlainList.ol p3 (ol_hk kk1)).isList, by rw [List.size_toArray, sizeLine_eq]; omega, .none, .int _ _, fun D2 h2 kk2 _ p2 => ?_⟩))))
    rw [slicePick_upto'] at p2
    refine add_pl (PlainList.ol p1 (ol_hk kk2)) p2 (by simp; omega) fun D3 h3 kk3 _ p3' => args_nil ?_
    refine join_list (ys := ls.drop i ++ ls.take i) p3'.isList (strs_app (strs_drop ia i) (strs_take ia i)) ?_ fun t' k' => ?_
    · have hlen := strs_len ia
      have e1 : ((ls.drop i ++ ls.take i).map (·.length)).sum = (ls.drop i ++ ls.take i).length := sum_ones fun a ha => h1 a (by
        rcases List.mem_append.mp ha with q | q
        · exact List.mem_of_mem_drop q
        · exact List.mem_of_mem_take q)
      rw [e1, List.length_append, List.length_drop, List.length_take]
      show _ + _ * 0 ≤ _
      omega
    · exact ⟨⟨_, rfl⟩, ⟨_, _, rfl, fun b o e => kk3 _ _ (kk2 _ _ (kk1 _ _ e))⟩⟩
  · rintro D' ys us s' ⟨h', t', rfl, kb⟩ hpl _ hlen hP hF
    have x1 := x.hk kb
    refine wpAny_storeName_cell (c := L + 1) rfl rfl rfl (x1.cs 1 (by decide) (by decide)) fun h3 c3 hs3 => ?_
    obtain ⟨x', o'⟩ := x1.cel (j := 1) (by decide) (by decide) c3 fun b o hb e => (hs3.2 b hb).trans e
    rw [List.filter_eq_self.mpr (fun _ _ => rfl)] at hF
    exact h D' ys _ h3 t' rfl (ol_trans (ol_hk kb) o') x' (PlainList.ol hpl o') (strs_range hlen (fun j v e => (hP j v e).2) hF)
end
end Mine
end

-- part LawE
section
set_option maxRecDepth 100000
set_option maxHeartbeats 4000000
namespace Mine
open PySem.Calls
section
variable {prog : Program} {w : World} {A : Around} {E : Value → Shared → Prop} {s : Shared} {mg mb : Str → Option Value} {h₀ : Heap} {L fl : Addr} {ml : Str → Option Value} {cv : Nat → Option Value} {env : Env}
theorem LS.tab23 {h h' : Heap} (x : LS h₀ L ml cv h) (e : ∃ ps, h'.get? 23 = some (tabObj ps)) (k : ∀ b o, b ≠ 23 → h.get? b = some o → h'.get? b = some o) : LS h₀ L ml (fun i => if i = 23 then some .none else cv i) h' ∧ OL h h' := by
  refine ⟨⟨fun b o q => k _ _ (fun z => by rw [z, x.n23] at q; cases q) (x.keep _ _ q), x.ns.at' fun o q => k _ _ (Nat.ne_of_gt (Nat.lt_trans (by decide) x.l23)) q, fun i a b => ?_, x.above, let ⟨ps, e⟩ := e; ⟨ps, e, .inl rfl⟩, ?_, x.n23, x.n49, x.l23⟩, fun b ys n q => k _ _ (fun z => ?_) q⟩
  · rw [if_neg (show ¬ i = 23 from fun q => absurd b (by rw [q]; decide))]
    obtain ⟨o, q, d⟩ := x.cs i a b
    exact ⟨o, k _ _ (Nat.ne_of_gt (Nat.lt_of_lt_of_le (Nat.lt_trans (by decide) x.l23) (Nat.le_add_right _ _))) q, d⟩
  · obtain ⟨ps, q, t⟩ := x.t49; exact ⟨ps, k _ _ (by decide) q, t⟩
  · obtain ⟨ps, q2, _⟩ := x.t23
    rw [z, q2] at q
    exact absurd (congrArg Obj.data (Option.some.inj q)) (by intro e; cases e)
theorem law6 {D : Addr} {vs : List Value} {rank : Nat → Int} {Q : Flow → Shared → Prop} (hh : A.handled = none) (B : Bs w mg mb h₀) (C27 : CodeHd h₀ 27 23) (x : LS h₀ L ml cv s.heap) (c23 : cv 23 = none) (c1 : cv 1 = some (.ref D)) (hD : s.heap.PlainList D vs.toArray) (hl : vs.length ≤ 12) (hl2 : 2 ≤ vs.length)
    (hstr : ∀ v ∈ vs, ∃ a t, v = .str a t)
    (hr : ∀ i j a b ta tb, vs[i]? = some (.str a ta) → vs[j]? = some (.str b tb) → (coll a b < 0 ↔ rank i < rank j))
    (hu : A.in1.in1.units < cLine) (hd : A.depth + 1 < recursionLimit)
    (h : ∀ D' p s' h' t', s' = { s with heap := h', toks := t' } → OL s.heap h' → LS h₀ L (fun y => if y = "row" then some (.ref D') else ml y) (fun i => if i = 23 then some .none else cv i) h' → Gp vs.length p → SoT rank p vs.length → h'.PlainList D' (p.map fun i => vs.getD i Value.none) → Q .next s') :
    wpAny (model prog w) A (exec (lawSt 5) (lawEnv L fl)) Q E s := by
  have h23 : s.heap.get? 23 = some (tabObj #[]) := by
    obtain ⟨ps, q, t⟩ := x.t23
    rw [c23] at t
    rw [q, show ps = #[] from t]
  have B1 := B.keeps x.keep
  have k1 := x.cs 1 (by decide) (by decide)
  rw [c1] at k1
  refine wpAny_Assign_Name (wpAny_Call_Name_kw (nmB B1 (by rfl) (by boot_by_name) (callWith_kw (args_cons (nmC k1 (args_nil ?_))))))
  refine kws_cons ?_
  refine Call_ (nmG B1 (v := .ref 28) (by rfl) (callWith_F ⟨_, _, _, _, B1.X 28 _ rfl⟩ (args_cons (nmG B1 (v := .ref 21) (by rfl) (args_nil ⟨⟨_, _, _, _, B1.X 28 _ rfl⟩, ?_⟩)))))
  refine call_ctk B x.keep x.n23 h23 C27 hd fun C ns Dd f1 f2 c sl es n ps h' tk kk IK t23 => ?_
  obtain ⟨x2, o2⟩ := x.tab23 ⟨ps, t23⟩ kk
  refine kws_nil ?_
  refine sorted_K (s := { s with heap := h', toks := tk }) (B.keeps x2.keep) IK (PlainList.ol hD o2).isList hl2 (by omega) hstr hr hu hd fun D' p s3 c3 K3 g o3 e3 => ?_
  obtain ⟨h3, t3, rfl, k3⟩ := K3
  have x3 := x2.hk k3
  refine wpAny_storeName_local (m := _) rfl x3.ns fun h4 n4 hs4 => ?_
  obtain ⟨x4, o4⟩ := x3.loc n4 fun b o hb e => (hs4.2 b hb).trans e
  exact h D' p _ h4 _ rfl (ol_trans o2 (ol_trans (ol_hk k3) o4)) x4 g o3 ⟨c3, o4 _ _ _ e3⟩
end
end Mine
end

-- part LawF
section
set_option maxRecDepth 100000
set_option maxHeartbeats 4000000
namespace Mine
open PySem.Calls
def lastS (a : Str) : Str := ⟨#[a.cps.getD (a.cps.size - 1) 0]⟩
theorem strs_mem {vs : List Value} {ns : List Str} (h : StrsAre vs ns) {a : Str} {t : Tok} (hv : Value.str a t ∈ vs) : a ∈ ns := by
  induction h with
  | nil => cases hv
  | cons y u _ ih =>
    rcases List.mem_cons.mp hv with e | hv
    · cases e; exact .head _
    · exact .tail _ (ih hv)
theorem strs_mapS {vs : List Value} {ns : List Str} (h : StrsAre vs ns) (g : Str → Str) {ys : List Value} (hp : Paired (fun v y => ∃ t, y = .str (g (sOf v)) t) vs ys) : StrsAre ys (ns.map g) := by
  induction h generalizing ys with
  | nil => cases hp; exact .nil
  | cons y u _ ih =>
    cases hp with
    | cons a r =>
      obtain ⟨t, rfl⟩ := a
      exact .cons _ _ (ih r)
section
variable {prog : Program} {w : World} {A : Around} {E : Value → Shared → Prop} {s : Shared} {mg mb : Str → Option Value} {h₀ : Heap} {L fl : Addr} {ml : Str → Option Value} {cv : Nat → Option Value} {env : Env}
theorem law7 {R : Addr} {vs : List Value} {rs : List Str} {Q : Flow → Shared → Prop} (hh : A.handled = none) (x : LS h₀ L ml cv s.heap) (hm : ml "row" = some (.ref R)) (hR : s.heap.PlainList R vs.toArray) (ia : StrsAre vs rs) (hl : vs.length ≤ 12)
    (h0 : ∀ a ∈ rs, 0 < a.cps.size)
    (h : ∀ D' ys s' h' t', s' = { s with heap := h', toks := t' } → OL s.heap h' → LS h₀ L ml (fun i => if i = 5 then some (.ref D') else cv i) h' → h'.PlainList D' ys → StrsAre ys.toList (rs.map lastS) → Q .next s') :
    wpAny (model prog w) A (exec (lawSt 6) (lawEnv L fl)) Q E s := by
  refine wpAny_Assign_Name (lc_expr (n := vs.length) (P := fun i v => vs[i]? = some v) (fun _ => true) (fun v y => ∃ t, y = .str (lastS (sOf v)) t) (by omega) (nmL x.ns hm ⟨kp_refl _, _, IterOf.list hh hR.isList⟩) (fun C i v s₃ m₃ E' hP hns hm hk => tests0 (v := v)) ?_ ?_)
  · rintro C i v s₃ m₃ E' hP _ hns hm3 hk
    have hmem := List.mem_of_getElem? hP
    obtain ⟨z, t, rfl⟩ := strs_str ia hmem
    have hz := h0 z (strs_mem ia hmem)
    refine sub_any (nmL hns hm3 ?_)
    have hc : (seqIndex? (-1) z.length).bind (z.cps[·]?) = some (z.cps.getD (z.cps.size - 1) 0) := by
      have e1 : seqIndex? (-1) z.length = some (z.cps.size - 1) := by
        have e0 : z.length = z.cps.size := rfl
        unfold seqIndex?
        rw [e0]
        simp only [show ((-1 : Int) < 0) from by decide, if_true]
        rw [if_pos (by simp; omega)]
        congr 1
        omega
      rw [e1]
      simp only [Option.bind_some]
      rw [Array.getElem?_eq_getElem (by omega)]
      simp [Array.getD]
      intro q
      omega
    refine wpAny_UnaryOp (wpAny_Constant_int (neg_int ?_))
    exact ⟨"str", _, F.slot_str_getitem.lookup, typeIs_str _ _ _, P.getItem_str (by decide) hc ⟨⟨_, rfl⟩, ⟨_, _, rfl, fun b o e => e⟩⟩⟩
  · rintro D' ys us s' ⟨h', t', rfl, kb⟩ hpl _ hlen hP hF
    have x1 := x.hk kb
    refine wpAny_storeName_cell (c := L + 5) rfl rfl rfl (x1.cs 5 (by decide) (by decide)) fun h3 c3 hs3 => ?_
    obtain ⟨x', o'⟩ := x1.cel (j := 5) (by decide) (by decide) c3 fun b o hb e => (hs3.2 b hb).trans e
    rw [list_eq_of hlen hP, List.filter_eq_self.mpr (fun _ _ => rfl)] at hF
    exact h D' ys _ h3 t' rfl (ol_trans (ol_hk kb) o') x' (PlainList.ol hpl o') (strs_mapS ia _ hF)
end
end Mine
end

-- part LawG
section
set_option maxRecDepth 100000
set_option maxHeartbeats 4000000
namespace Mine
open PySem.Calls
theorem preSum_take (ns : List Int) : ∀ n, n ≤ ns.length → preSum (fun i => ns.getD i 0) n = (ns.take n).sum
  | 0, _ => rfl
  | n + 1, h => by
    have e : ns.take (n + 1) = ns.take n ++ [ns.getD n 0] := by
      rw [List.take_add_one]
      simp [show n < ns.length by omega]
    rw [e, List.sum_append, ← preSum_take ns n (by omega)]
    simp [preSum]
section
variable {prog : Program} {w : World} {A : Around} {E : Value → Shared → Prop} {s : Shared} {mg mb : Str → Option Value} {h₀ : Heap} {L fl : Addr} {ml : Str → Option Value} {cv : Nat → Option Value} {env : Env}
theorem sum_list {a : Addr} {vs : List Value} {ns : List Int} {Q : Value → Shared → Prop} (hh : A.handled = none) (ha : s.heap.IsList a vs.toArray) (ia : IntsAre vs ns) (h : ∀ t s', Keeps s s' → Q (.int ns.sum t) s') : wpAny (model prog w) A (call (.builtin "sum") [.ref a]) Q E s := by
  refine call_sum_walkG ?_
  refine IterOf.list (A := A.in1) hh ha _ _ fun I St s2 K2 hI W hst hfp _ => ?_
  refine ⟨I, [I, a], [I], vs.length, _, St, fun i => ns.getD i 0, rfl, W, hst, hfp, fun i v hv => ?_, fun h' tk t' hk => ?_⟩
  · have hi : i < ns.length := by rw [← ints_len ia]; exact (List.getElem?_eq_some_iff.mp hv).1
    obtain ⟨t, e⟩ := ints_get ia hi
    rw [hv] at e
    exact ⟨t, Option.some.inj e⟩
  · rw [ints_len ia, preSum_take ns _ (Nat.le_refl _), List.take_length]
    obtain ⟨h2, t2, rfl, k2⟩ := K2
    exact h _ _ ⟨h', tk, rfl, fun b o e => hk b o (fun q => by rw [List.mem_singleton.mp q] at e; rw [hI] at e; cases e) (k2 _ _ e)⟩
def numberOf (fs : List Int) (n : Nat) : Int := (fs.sum.fdiv 3 + 57).fmod (3 ^ n)
theorem law8 {a : Addr} {vs : List Value} {fs : List Int} {n : Nat} {c : Tok} {Q : Flow → Shared → Prop} (hh : A.handled = none) (B : Bs w mg mb h₀) (x : LS h₀ L ml cv s.heap) (hm : ml "first" = some (.ref a)) (ha : s.heap.PlainList a vs.toArray) (ia : IntsAre vs fs) (c7 : cv 7 = some (.int (n : Int) c)) (hn : n ≤ 12) (hpy : ∀ s', HK h₀ s'.heap → PylongRoom (model prog w) A s')
    (h : ∀ c s' h' t', s' = { s with heap := h', toks := t' } → OL s.heap h' → LS h₀ L ml (fun i => if i = 2 then some (.int (numberOf fs n) c) else cv i) h' → Q .next s') :
    wpAny (model prog w) A (exec (lawSt 7) (lawEnv L fl)) Q E s := by
  have B1 := B.keeps x.keep
  refine wpAny_Assign_Name (wpAny_BinOp (wpAny_BinOp (wpAny_BinOp (Call_ (nmB B1 (by rfl) (by boot_by_name) (callWith_builtin1 (args_cons (nmL x.ns hm (args_nil ?_)))))))))
  refine sum_list hh ha.isList ia fun t s2 K2 => ?_
  have x2 := x.hk (kp_heap K2)
  have k7 := x2.cs 7 (by decide) (by decide)
  rw [c7] at k7
  refine wpAny_Constant_int (floordiv_int (by decide) (wpAny_Constant_int (add_int (wpAny_BinOp (wpAny_Constant_int ?_)))) ?_)
  · refine nmC (s := { s2 with toks := s2.toks + 1 + 1 + 1 + 1 + 1 }) k7 (pow_int_small (by omega) (by omega) (by decide) (mod_int ?_ ?_))
    · have : (3 : Int) ^ (Int.toNat (n : Int)) ≠ 0 := Int.pow_ne_zero (by decide)
      exact this
    · rw [Int.toNat_natCast]
      obtain ⟨h2, t2, rfl, k2⟩ := K2
      refine wpAny_storeName_cell (c := L + 2) rfl rfl rfl (x2.cs 2 (by decide) (by decide)) fun h3 c3 hs3 => ?_
      obtain ⟨x', o'⟩ := x2.cel (j := 2) (by decide) (by decide) c3 fun b o hb e => (hs3.2 b hb).trans e
      exact h _ _ h3 _ rfl (ol_trans (ol_hk k2) o') x'
  · exact .inr (hpy _ x2.keep)
end
end Mine
end

-- part LawH
section
set_option maxRecDepth 100000
set_option maxHeartbeats 4000000
namespace Mine
open PySem.Calls
theorem fmod3 (z : Int) : z.fmod 3 = 0 ∨ z.fmod 3 = 1 ∨ z.fmod 3 = 2 := by
  rw [Int.fmod_eq_emod_of_nonneg _ (by decide)]
  omega
section
variable {prog : Program} {w : World} {A : Around} {E : Value → Shared → Prop} {s : Shared} {mg mb : Str → Option Value} {h₀ : Heap} {L fl : Addr} {ml : Str → Option Value} {cv : Nat → Option Value} {env : Env}
def figAt (N : Int) (m : Nat) : Int := (N.fdiv (3 ^ m)).fmod 3
theorem law9 {N : Int} {n : Nat} {c c' : Tok} {Q : Flow → Shared → Prop} (hh : A.handled = none) (B : Bs w mg mb h₀) (x : LS h₀ L ml cv s.heap) (c7 : cv 7 = some (.int (n : Int) c)) (c2 : cv 2 = some (.int N c')) (hn : n ≤ 12) (hpy : ∀ s', HK h₀ s'.heap → PylongRoom (model prog w) A s')
    (h : ∀ D ys s' h' t', s' = { s with heap := h', toks := t' } → OL s.heap h' → LS h₀ L (fun y => if y = "sought" then some (.ref D) else ml y) cv h' → h'.PlainList D ys → StrsAre ys.toList ((List.range n).map fun m => ltr (figAt N m)) → Q .next s') :
    wpAny (model prog w) A (exec (lawSt 8) (lawEnv L fl)) Q E s := by
  have B1 := B.keeps x.keep
  have k7 := x.cs 7 (by decide) (by decide)
  rw [c7] at k7
  have k2 := x.cs 2 (by decide) (by decide)
  rw [c2] at k2
  refine lc_local (n := n) (P := fun i v => i < n ∧ ∃ t, v = .int (i : Int) t) (fun _ => true) (fun v y => ∃ t, y = .str ((fun m => ltr (figAt N m)) (iOf v).toNat) t) (by omega) (it_range hh B1 (by omega) (nmC k7 ⟨⟨_, rfl⟩, kp_refl _⟩)) (fun C i v s₃ m₃ E' hP hns hm hk => tests0 (v := v)) ?_ x.ns ?_
  · rintro C i v s₃ m₃ E' ⟨hi, t, rfl⟩ _ hns hm3 hk
    refine sub_any (wpAny_Constant_str (wpAny_BinOp (wpAny_BinOp (nmC (s := { s₃ with toks := s₃.toks + 1 }) (k2.keeps hk) (wpAny_BinOp (wpAny_Constant_int (nmL (s := { s₃ with toks := s₃.toks + 1 + 1 }) hns hm3 ?_)))))))
    refine pow_int_small (by omega) (by omega) (by decide) (floordiv_int (Int.pow_ne_zero (by decide)) (wpAny_Constant_int (mod_int (by decide) ?_)) (.inr (hpy _ fun b o e => hk _ _ (x.keep _ _ e))))
    rw [Int.toNat_natCast]
    exact item_ltr (fmod3 _) ⟨⟨_, rfl⟩, ⟨_, _, rfl, fun b o e => e⟩⟩
  · rintro D ys us s' ⟨h', t', rfl, kb⟩ hn' hpl hlen hP hF
    obtain ⟨x', o'⟩ := x.loc hn' kb
    rw [List.filter_eq_self.mpr (fun _ _ => rfl)] at hF
    exact h D ys _ h' t' rfl o' x' hpl (strs_range (g := fun m => ltr (figAt N m)) hlen (fun j v e => (hP j v e).2) hF)
theorem law11 {D : Addr} {vs : List Value} {ds : List Int} {Q : Flow → Shared → Prop} (hh : A.handled = none) (hd : A.depth + 1 < recursionLimit) (B : Bs w mg mb h₀) (x : LS h₀ L ml cv s.heap) (hm : ml "digits" = some (.ref D)) (hD : s.heap.PlainList D vs.toArray) (ia : IntsAre vs ds) (l0 : 0 < ds.length) (l1 : ds.length ≤ 12)
    (h : ∀ G gs s' h' t', s' = { s with heap := h', toks := t' } → OL s.heap h' → LS h₀ L ml (fun i => if i = 4 then some (.ref G) else cv i) h' → h'.IsList G gs → LL h' [] gs.toList ((List.range (ds.length + 1)).map (hRows ds)) → Q .next s') :
    wpAny (model prog w) A (exec (lawSt 10) (lawEnv L fl)) Q E s := by
  have B1 := B.keeps x.keep
  refine wpAny_Assign_Name (Call_ (nmG B1 (v := .ref 42) (by rfl) (callWith_F ⟨_, _, _, _, B1.X 42 _ rfl⟩ (args_cons (nmL x.ns hm (args_nil ⟨⟨_, _, _, _, B1.X 42 _ rfl⟩, ?_⟩))))))
  refine call_heads B1 hh hd hD.isList ia l0 (by omega) fun G gs s2 K2 hG ll => ?_
  obtain ⟨h2, t2, rfl, k2⟩ := K2
  have x2 := x.hk k2
  refine wpAny_storeName_cell (c := L + 4) rfl rfl rfl (x2.cs 4 (by decide) (by decide)) fun h3 c3 hs3 => ?_
  have k23 : ∀ b o, b ≠ L + 4 → h2.get? b = some o → h3.get? b = some o := fun b o hb e => (hs3.2 b hb).trans e
  obtain ⟨x', o'⟩ := x2.cel (j := 4) (by decide) (by decide) c3 k23
  refine h G gs _ h3 _ rfl (ol_trans (ol_hk k2) o') x' ?_ ⟨ll.1, fun i ns e => ?_⟩
  · obtain ⟨o, e, c, n, d⟩ := hG
    refine ⟨o, k23 _ _ (fun q => ?_) e, c, n, d⟩
    obtain ⟨oc, ec, dc⟩ := x2.cs 4 (by decide) (by decide)
    have e' : h2.get? (L + 4) = some o := by rw [← q]; exact e
    rw [ec] at e'
    cases e'
    rw [dc] at d; cases d
  · obtain ⟨a, ys, p, q, r⟩ := ll.2 i ns e
    exact ⟨a, ys, p, PlainList.ol q o', r⟩
theorem law12 {Q : Flow → Shared → Prop} (x : LS h₀ L ml cv s.heap)
    (h : ∀ D s' h' t', s' = { s with heap := h', toks := t' } → OL s.heap h' → s.heap.get? D = none → LS h₀ L (fun y => if y = "due" then some (.ref D) else ml y) cv h' → h'.PlainList D #[] → Q .next s') :
    wpAny (model prog w) A (exec (lawSt 11) (lawEnv L fl)) Q E s := by
  refine wpAny_Assign_Name (wpAny_List (wpAny_items_nil ⟨Nat.zero_le _, ?_⟩))
  have N1 : Nw s.heap s.heap.objs.size { cls := .type "list", data := .seq ([] : List Value).toArray } (s.heap.push { cls := .type "list", data := .seq ([] : List Value).toArray }) := nw_push rfl
  have x1 := x.hk N1.keep
  refine wpAny_storeName_local (m := _) rfl x1.ns fun h3 n3 hs3 => ?_
  obtain ⟨x3, o3⟩ := x1.loc n3 fun b o hb e => (hs3.2 b hb).trans e
  exact h _ _ h3 _ rfl (ol_trans (ol_hk N1.keep) o3) (get_none (Nat.le_refl _)) x3 ⟨0, o3 _ _ _ N1.at_⟩
end
end Mine
end

-- part Lam
section
set_option maxRecDepth 100000
set_option maxHeartbeats 4000000
namespace Mine
open PySem.Calls
section
variable {prog : Program} {w : World} {A : Around} {E : Value → Shared → Prop} {s : Shared} {mg mb : Str → Option Value} {h₀ : Heap} {L fl : Addr} {ml : Str → Option Value} {cv : Nat → Option Value}
theorem eval_lam {params : Arguments} {body : Expr} {scope : Scope} {pos : Pos} {clos : List (Str × Addr)} {ps : Array Value} {Q : Value → Shared → Prop} (B : Bs w mg mb h₀) (x : LS h₀ L ml cv s.heap) (C51 : CodeHd h₀ 51 49) (h49 : s.heap.get? 49 = some (tabObj ps)) (ht : TriplesOk ps.toList) (hnf : codeAmong pos ps.toList = none)
    (hcl : closureFor scope (lawEnv L fl) = pure clos) (hdef : defaultsOf params (lawEnv L fl) = ([], []))
    (h : ∀ f c' ctv pm h' tk, (∀ b o, b ≠ 49 → s.heap.get? b = some o → h'.get? b = some o) → h'.get? f = some (kla_obj "<lambda>" ((lawEnv L fl).qual ++ Str.ofString "<lambda>") params body scope clos pm c' ctv) → h'.CodeRec (.ref c') ((lawEnv L fl).qual ++ Str.ofString "<lambda>") →
      h'.get? 49 = some (tabObj (ps ++ #[rawInt pos.line, rawInt pos.col, .ref c'])) → Q (.ref f) { s with heap := h', toks := tk }) :
    wpAny (model prog w) A (eval (.Lambda params body scope pos) (lawEnv L fl)) Q E s := by
  refine kla_eval hdef ?_
  have B1 := B.keeps x.keep
  obtain ⟨bm, ob, b1, b2, b3, b4, b5, b6⟩ := B1.bmain
  have hbP : bm ≠ 49 := fun q => by rw [q, h49] at b3; cases b3; cases b4
  have hbG : bm ≠ mainGlobals := fun q => by
    obtain ⟨o, es, ep, e, hd, _⟩ := B1.g
    rw [q, e] at b3; cases b3; rw [hd] at b6; cases b6
  refine kla_makeFunction (mg := mg) hcl rfl B1.g rfl (C51.keeps x.keep) h49 ht hnf (by decide) ⟨bm, ob, b1, b2, hbG, hbP, b3, b4, b5, b6⟩ fun c' ctv h' tk hx hge hlt hrec htb => ?_
  have N : Nw h' h'.objs.size (kla_obj "<lambda>" ((lawEnv L fl).qual ++ Str.ofString "<lambda>") params body scope clos ((mg "__name__").getD .none) c' ctv) (h'.push (kla_obj "<lambda>" ((lawEnv L fl).qual ++ Str.ofString "<lambda>") params body scope clos ((mg "__name__").getD .none) c' ctv)) := nw_push rfl
  exact h _ c' ctv _ _ tk (fun b o hb e => N.keep _ _ (hx b o hb e)) N.at_ (hrec.keeps N.keep) (N.keep _ _ htb)
theorem call_lam {name qual : Str} {params : Arguments} {body : Expr} {scope : Scope} {cl : List (Str × Addr)} {pm ctv : Value} {c' f : Addr} {args : Args} {binds : List (Str × Value)} {R : Result → Shared → Prop}
    (hroom : A.depth < recursionLimit) (ho : s.heap.get? f = some (kla_obj name qual params body scope cl pm c' ctv)) (hlim : s.heap.NoLimit) (hcd : s.heap.CodeRec (.ref c') qual)
    (hbind : bindArgs (kla_fn name qual params body scope cl pm (.ref c') ctv) args = pure binds) (hloc : ∀ y ∈ binds, scope.names.lookup y.1 = some .local)
    (h : ∀ L' s1, Keeps s s1 → s1.heap.Ns L' (fun y => binds.reverse.lookup y) → wpAny (model prog w) (A.deeper (envX qual scope L' f (.ref c') cl)) (eval body (envX qual scope L' f (.ref c') cl)) (fun v s' => R (.ok (.ret v)) s') (fun _ _ => False) s1)
    (hcell : ∀ x ∈ scope.names, x.2 ≠ .cell := by decide) (hco : scope.isCoroutine = false := by rfl) (hgen : scope.isGenerator = false := by rfl) (hk : scope.kind = .function := by rfl) : codeAny (model prog w) A (.call (.ref f) args) R s := by
  refine kla_callFunE hroom ho rfl hco hgen rfl hcd ?_
  rw [hbind]
  refine wpAny_pure (wpAny_newFunctionEnv hcell hloc (fun h₁ hns hsb => ⟨hlim.fresh _ hsb, ?_⟩) hk)
  show codeAny _ _ (.expr body (envX qual scope s.heap.objs.size f (.ref c') cl)) _ _
  have hk₁ : ∀ b o, s.heap.get? b = some o → h₁.get? b = some o := fun b o e => hsb.extBut b o (Nat.ne_of_lt (Heap.lt_size e)) (Heap.get?_push_of_some _ e)
  exact kla_codeExpr (wpAny_mono (h s.heap.objs.size _ ⟨h₁, _, rfl, hk₁⟩ hns) (fun _ _ y => y) fun _ _ y => y.elim)
end
end Mine
end

-- part LawI
section
set_option maxRecDepth 100000
set_option maxHeartbeats 4000000
namespace Mine
open PySem.Calls
/-- the two places behind i letters -/
noncomputable def posAt (so rs es : List Str) (n : Int) : Nat → List Int
  | 0 => [0, n]
  | i + 1 => (posAt so rs es n i).map (movedOf (so.getD i ⟨#[]⟩) rs es)
theorem lessOf_nonneg (l : Str) (rs : List Str) : 0 ≤ lessOf l rs := by unfold lessOf; omega
theorem posAt_nonneg {so rs es : List Str} {n : Int} (hn : 0 ≤ n) : ∀ i, ∀ p ∈ posAt so rs es n i, 0 ≤ p
  | 0, p, hp => by
    simp [posAt] at hp; omega
  | i + 1, p, hp => by
    simp only [posAt, List.mem_map] at hp
    obtain ⟨q, _, rfl⟩ := hp
    unfold movedOf
    have := lessOf_nonneg (so.getD i ⟨#[]⟩) rs
    omega
theorem posAt_len {so rs es : List Str} {n : Int} : ∀ i, (posAt so rs es n i).length = 2
  | 0 => rfl
  | i + 1 => by simp only [posAt, List.length_map]; exact posAt_len i
theorem LL.ol {h h' : Heap} {vs : List Value} {nss : List (List Int)} (x : LL h [] vs nss) (k : OL h h') : LL h' [] vs nss :=
  ⟨x.1, fun i ns e => let ⟨a, ys, p, q, r, t⟩ := x.2 i ns e; ⟨a, ys, p, PlainList.ol q k, r, t⟩⟩
section
variable {prog : Program} {w : World} {A : Around} {E : Value → Shared → Prop} {s : Shared} {mg mb : Str → Option Value} {h₀ : Heap} {L fl : Addr} {ml : Str → Option Value} {cv : Nat → Option Value}
theorem LS.tab49 {h h' : Heap} (x : LS h₀ L ml cv h) (v : Value) (e : ∃ ps, h'.get? 49 = some (tabObj ps) ∧ tabIs (some v) ps) (k : ∀ b o, b ≠ 49 → h.get? b = some o → h'.get? b = some o) : LS h₀ L ml (fun i => if i = 49 then some v else cv i) h' ∧ OL h h' := by
  refine ⟨⟨fun b o q => k _ _ (fun z => by rw [z, x.n49] at q; cases q) (x.keep _ _ q), x.ns.at' fun o q => k _ _ (Nat.ne_of_gt x.l23) q, fun i a b => ?_, x.above, ?_, e, x.n23, x.n49, x.l23⟩, fun b ys n q => k _ _ (fun z => ?_) q⟩
  · rw [if_neg (show ¬ i = 49 from fun q => absurd b (by rw [q]; decide))]
    obtain ⟨o, q, d⟩ := x.cs i a b
    exact ⟨o, k _ _ (Nat.ne_of_gt (Nat.lt_of_lt_of_le x.l23 (Nat.le_add_right _ _))) q, d⟩
  · obtain ⟨ps, q, t⟩ := x.t23; exact ⟨ps, k _ _ (by decide) q, t⟩
  · obtain ⟨ps, q2, _⟩ := x.t49
    rw [z, q2] at q
    exact absurd (congrArg Obj.data (Option.some.inj q)) (by intro e; cases e)
theorem law10 {R T S : Addr} {vr ve vs : List Value} {rs es so : List Str} {n : Nat} {c : Tok} {Q : Flow → Shared → Prop} (hh : A.handled = none) (hd : A.depth + 4 < recursionLimit) (B : Bs w mg mb h₀) (C51 : CodeHd h₀ 51 49) (x : LS h₀ L ml cv s.heap) (c49 : cv 49 = none)
    (c6 : cv 6 = some (.ref R)) (hR : s.heap.PlainList R vr.toArray) (ir : StrsAre vr rs) (c5 : cv 5 = some (.ref T)) (hT : s.heap.PlainList T ve.toArray) (ie : StrsAre ve es) (hm : ml "sought" = some (.ref S)) (hS : s.heap.PlainList S vs.toArray) (is : StrsAre vs so) (c7 : cv 7 = some (.int (n : Int) c))
    (lr : vr.length ≤ 12) (le : ve.length ≤ 12) (ls : vs.length ≤ 12) (hn : n ≤ 12)
    (h : ∀ D gs s' h' t' c', s' = { s with heap := h', toks := t' } → OL s.heap h' → LS h₀ L (fun y => if y = "told" then some (.ref D) else ml y) (fun i => if i = 49 then some (.ref c') else cv i) h' → h'.PlainList D gs → LL h' [] gs.toList ((List.range (vs.length + 1)).map (posAt so rs es n)) → Q .next s') :
    wpAny (model prog w) A (exec (lawSt 9) (lawEnv L fl)) Q E s := by
  have h49 : s.heap.get? 49 = some (tabObj #[]) := by
    obtain ⟨ps, q, t⟩ := x.t49
    rw [c49] at t
    rw [q, show ps = #[] from t]
  have B1 := B.keeps x.keep
  refine wpAny_Assign_Name (Call_ (nmG B1 (v := .ref 37) (by rfl) (callWith_F ⟨_, _, _, _, B1.X 37 _ rfl⟩ (args_cons ?_))))
  refine eval_lam B x C51 h49 trivial rfl (by rfl) (by rfl) fun f c' ctv pm h1 t1 k1 hf hc t49 => ?_
  obtain ⟨x1, o1⟩ := x.tab49 (.ref c') ⟨_, t49, .inr rfl⟩ k1
  have k7 : h1.IsCell (L + 7) (cv 7) := x1.cs 7 (by decide) (by decide)
  rw [c7] at k7
  refine args_cons (nmL x1.ns hm (args_cons (wpAny_List (wpAny_items_cons (wpAny_List (wpAny_items_cons (wpAny_Constant_int (wpAny_items_cons (nmC (s := { s with heap := h1, toks := t1 + 1 }) k7 (wpAny_items_nil ⟨by simp [sizeLine_eq], ?_⟩))))))))))
  have N2 : Nw h1 h1.objs.size { cls := .type "list", data := .seq [Value.int 0 t1, .int (n : Int) c].toArray } (h1.push { cls := .type "list", data := .seq [Value.int 0 t1, .int (n : Int) c].toArray }) := nw_push rfl
  refine wp_at { s with heap := h1.push { cls := .type "list", data := .seq [Value.int 0 t1, .int (n : Int) c].toArray }, toks := t1 + 1 } rfl ?_
  generalize h1.objs.size = D1 at *
  generalize h1.push { cls := .type "list", data := .seq [Value.int 0 t1, .int (n : Int) c].toArray } = h2 at *
  refine wpAny_items_nil ⟨by simp [sizeLine_eq], ?_⟩
  have N3 : Nw h2 h2.objs.size { cls := .type "list", data := .seq [Value.ref D1].toArray } (h2.push { cls := .type "list", data := .seq [Value.ref D1].toArray }) := nw_push rfl
  refine args_nil ?_
  generalize h2.objs.size = D2 at *
  generalize h2.push { cls := .type "list", data := .seq [Value.ref D1].toArray } = h3 at *
  have k13 : HK h1 h3 := fun b o e => N3.keep _ _ (N2.keep _ _ e)
  have x3 := x1.hk k13
  have B3 := B.keeps x3.keep
  refine ⟨⟨_, _, _, _, B3.X 37 _ rfl⟩, ?_⟩
  have o3 : OL s.heap h3 := ol_trans o1 (ol_hk k13)
  have p1 : h3.PlainList D1 [Value.int 0 t1, .int (n : Int) c].toArray := ⟨0, N3.keep _ _ N2.at_⟩
  have p2 : h3.PlainList D2 [Value.ref D1].toArray := ⟨0, N3.at_⟩
  refine wp_at { s with heap := h3, toks := t1 + 1 } rfl ?_
  refine call_reduce (s := { s with heap := h3, toks := t1 + 1 }) (fun i v h => ∃ a gs, v = .ref a ∧ h.PlainList a gs ∧ LL h [] gs.toList ((List.range (i + 1)).map (posAt so rs es n))) ?_ B3 hh (by omega) ⟨_, _, _, _, k13 _ _ hf⟩ (PlainList.ol hS o3).isList (by omega) p2 ?_ ?_ ?_
  · rintro i v h h' k ⟨a, gs, rfl, p, l⟩
    exact ⟨a, gs, rfl, PlainList.ol p k, l.ol k⟩
  · refine ⟨D2, _, rfl, p2, ⟨rfl, fun i ns e => ?_⟩⟩
    have hi : i = 0 := by have := (List.getElem?_eq_some_iff.mp e).1; simp at this; omega
    subst hi
    simp at e
    subst e
    exact ⟨D1, _, rfl, p1, .cons _ _ (.cons _ _ .nil), by simp⟩
  · rintro i e v s' E' env' hei hk ⟨a, gs, rfl, pa, lla⟩
    have hmem := List.mem_of_getElem? hei
    have hi : i < so.length := by rw [← strs_len is]; exact (List.getElem?_eq_some_iff.mp hei).1
    obtain ⟨te, he⟩ := is.get i (so.getD i ⟨#[]⟩) (by simp [hi])
    rw [hei] at he
    have he' : e = .str (so.getD i ⟨#[]⟩) te := Option.some.inj he
    subst he'
    have Bs' := B3.keeps hk
    refine wpAny_call (call_lam (binds := [("so_far", .ref a), ("letter", .str (so.getD i ⟨#[]⟩) te)]) (by show A.depth + 1 < _; omega) (hk _ _ (k13 _ _ hf)) Bs'.nolimit ((hc.keeps k13).keeps hk) rfl (locs rfl) fun L' s1 K1 hn => ?_)
    have hk1 : HK h3 s1.heap := fun b o e => kp_heap K1 _ _ (hk _ _ e)
    have B1' := B3.keeps hk1
    have ks6 : s1.heap.IsCell (L + 6) (cv 6) := (x3.cs 6 (by decide) (by decide)).keeps hk1
    rw [c6] at ks6
    have ks5 : s1.heap.IsCell (L + 5) (cv 5) := (x3.cs 5 (by decide) (by decide)).keeps hk1
    rw [c5] at ks5
    have pa1 := PlainList.ol pa (ol_hk (kp_heap K1))
    have lla1 := lla.ol (ol_hk (kp_heap K1))
    have lgs : gs.size = i + 1 := by have := lla.1; simpa using this
    obtain ⟨b, ys, eb, pb, ib, _⟩ := lla1.2 i (posAt so rs es n i) (by simp)
    have eb' : gs[((-1 : Int) + gs.size).toNat]? = some (.ref b) := by
      have : ((-1 : Int) + gs.size).toNat = i := by omega
      rw [this, ← Array.getElem?_toList]; exact eb
    refine wpAny_BinOp (nmL hn rfl (wpAny_List (wpAny_items_cons ?_)))
    refine Call_ (nmG B1' (v := .ref 47) (by rfl) (callWith_F ⟨_, _, _, _, B1'.X 47 _ rfl⟩ (args_cons (sub_any (nmL hn rfl (wpAny_UnaryOp (wpAny_Constant_int (neg_int ?_))))))))
    refine ⟨"list", _, list_getitem_lookup, pa1.isList.typeIs, wpAny_getItem_list_neg pa1.isList (by decide) (by rw [lgs]; omega) (by decide) eb' ?_⟩
    refine args_cons (nmL (s := { s1 with toks := s1.toks + 1 + 1 }) hn rfl (args_cons (nmF (s := { s1 with toks := s1.toks + 1 + 1 }) ks6 (args_cons (nmF (s := { s1 with toks := s1.toks + 1 + 1 }) ks5 (args_nil ⟨⟨_, _, _, _, B1'.X 47 _ rfl⟩, ?_⟩))))))
    have oR := ol_trans o3 (ol_hk hk1)
    have lps : ys.toList.length = 2 := by rw [ints_len ib]; exact posAt_len i
    refine call_moved (s := { s1 with toks := s1.toks + 1 + 1 }) (vp := ys.toList) (ps := posAt so rs es n i) (vr := vr) (ve := ve) B1' hh (by show A.depth + 1 + 1 + 1 < _; omega) (by rw [Array.toArray_toList]; exact pb.isList) ib (PlainList.ol hR oR).isList ir (PlainList.ol hT oR).isList ie (by omega) (by omega) (by omega) (posAt_nonneg (by omega) i) fun D ys' s2 K2 pD hD0 iD => ?_
    refine wpAny_items_nil ⟨by simp [sizeLine_eq], ?_⟩
    have N4 : Nw s2.heap s2.heap.objs.size { cls := .type "list", data := .seq [Value.ref D].toArray } (s2.heap.push { cls := .type "list", data := .seq [Value.ref D].toArray }) := nw_push rfl
    generalize s2.heap.objs.size = D4 at *
    generalize s2.heap.push { cls := .type "list", data := .seq [Value.ref D].toArray } = h4 at *
    have o24 : OL s2.heap h4 := ol_hk N4.keep
    have o14 : OL s1.heap h4 := ol_trans (ol_hk (kp_heap K2)) o24
    have pa4 : h4.PlainList a gs.toList.toArray := by rw [Array.toArray_toList]; exact PlainList.ol pa1 o14
    refine add_pl (s := { s2 with heap := h4 }) pa4 ⟨0, N4.at_⟩ (by have := strs_len is; simp; omega) fun D5 h5 k5 _ p5 => ?_
    obtain ⟨h2', t2', rfl, kk2⟩ := K2
    obtain ⟨h1', t1', rfl, kk1⟩ := K1
    refine ⟨⟨h5, _, rfl, fun b o e => k5 _ _ (N4.keep _ _ (kk2 _ _ (kk1 _ _ e)))⟩, D5, _, rfl, p5, ?_⟩
    have e6 : (List.range (i + 1 + 1)).map (posAt so rs es n) = (List.range (i + 1)).map (posAt so rs es n) ++ [posAt so rs es n (i + 1)] := by rw [List.range_succ, List.map_append]; rfl
    rw [e6]
    exact (lla1.ol (ol_trans o14 (ol_hk k5))).snoc (PlainList.ol pD (ol_trans o24 (ol_hk k5))) iD (by simp)
  · rintro v s' K ⟨a, gs, rfl, pa, lla⟩
    obtain ⟨h4, t4, rfl, k4⟩ := K
    have x4 := x3.hk k4
    refine wpAny_storeName_local (m := _) rfl x4.ns fun h5 n5 hs5 => ?_
    have kb : ∀ b o, b ≠ L → h4.get? b = some o → h5.get? b = some o := fun b o hb e => (hs5.2 b hb).trans e
    obtain ⟨x5, o5⟩ := x4.loc n5 kb
    exact h a gs _ h5 _ c' rfl (ol_trans o3 (ol_trans (ol_hk k4) o5)) x5 (PlainList.ol pa o5) (lla.ol o5)
end
end Mine
end

-- part PlainA
section
namespace Mine
/-- the letter at a place of the ring, as a figure -/
def dg (ds : List Int) (k : Nat) : Int := ds.getD (k % ds.length) 0
theorem dg_add (ds : List Int) (k : Nat) : dg ds (k + ds.length) = dg ds k := by unfold dg; rw [Nat.add_mod_right]
theorem hRow_succ (ds : List Int) (m k : Nat) : hRow ds (m + 1) k = 3 * hRow ds m k + dg ds (k + m) := rfl
theorem hRow_head (ds : List Int) : ∀ m k, hRow ds (m + 1) k = dg ds k * 3 ^ m + hRow ds m (k + 1)
  | 0, k => by rw [hRow_succ]; simp [hRow]
  | m + 1, k => by
    rw [hRow_succ, hRow_head ds m k, hRow_succ ds m (k + 1), Int.pow_succ, Int.mul_add, ← Int.mul_assoc, show k + 1 + m = k + (m + 1) by omega]
    have : 3 * dg ds k * 3 ^ m = dg ds k * (3 ^ m * 3) := by rw [Int.mul_comm 3, Int.mul_assoc, Int.mul_comm 3]
    omega
theorem hRow_period (ds : List Int) : ∀ m k, hRow ds m (k + ds.length) = hRow ds m k
  | 0, _ => rfl
  | m + 1, k => by rw [hRow_succ, hRow_succ, hRow_period ds m k, show k + ds.length + m = k + m + ds.length by omega, dg_add]
section
variable {ds : List Int} (h3 : ∀ d ∈ ds, d = 0 ∨ d = 1 ∨ d = 2)
include h3
theorem dg_range (l0 : 0 < ds.length) (k : Nat) : dg ds k = 0 ∨ dg ds k = 1 ∨ dg ds k = 2 := by
  have hk : k % ds.length < ds.length := Nat.mod_lt _ l0
  unfold dg
  have e : ds.getD (k % ds.length) 0 = ds[k % ds.length] := by simp [hk]
  rw [e]
  exact h3 _ (List.getElem_mem hk)
theorem hRow_bound (l0 : 0 < ds.length) : ∀ m k, 0 ≤ hRow ds m k ∧ hRow ds m k < 3 ^ m
  | 0, k => by simp [hRow]
  | m + 1, k => by
    have := hRow_bound l0 m k
    have h := dg_range h3 l0 (k + m)
    rw [hRow_succ, Int.pow_succ]
    omega
theorem hRow_lt_iff (l0 : 0 < ds.length) {m k : Nat} {d t : Int} (t0 : 0 ≤ t) (t1 : t ≤ 3 ^ m) (hd : d = 0 ∨ d = 1 ∨ d = 2) :
    hRow ds (m + 1) k < d * 3 ^ m + t ↔ dg ds k < d ∨ (dg ds k = d ∧ hRow ds m (k + 1) < t) := by
  rw [hRow_head]
  have hb := hRow_bound h3 l0 m (k + 1)
  have h := dg_range h3 l0 k
  generalize dg ds k = x at *
  generalize hRow ds m (k + 1) = y at *
  have hp : (0 : Int) < 3 ^ m := by omega
  generalize (3 : Int) ^ m = z at *
  rcases h with rfl | rfl | rfl <;> rcases hd with rfl | rfl | rfl <;> omega
/-- words in order have their heads in order -/
theorem hRow_mono (l0 : 0 < ds.length) {i j : Nat} : ∀ {e m}, hRow ds (m + e) i ≤ hRow ds (m + e) j → hRow ds m i ≤ hRow ds m j
  | 0, m, h => h
  | e + 1, m, h => by
    refine hRow_mono l0 (e := e) (m := m) ?_
    have h' : hRow ds (m + e + 1) i ≤ hRow ds (m + e + 1) j := h
    rw [hRow_succ, hRow_succ] at h'
    have a := dg_range h3 l0 (i + (m + e))
    have b := dg_range h3 l0 (j + (m + e))
    omega
end
/-- how many heads of m figures write less than t -/
noncomputable def cnt (ds : List Int) (m : Nat) (t : Int) : Nat := (List.range ds.length).countP fun k => decide (hRow ds m k < t)
theorem countP_or {α : Type} (f a b : α → Bool) (l : List α) (h : ∀ x ∈ l, f x = true ↔ a x = true ∨ b x = true) (hx : ∀ x ∈ l, ¬ (a x = true ∧ b x = true)) : l.countP f = l.countP a + l.countP b := by
  induction l with
  | nil => rfl
  | cons x l ih =>
    rw [List.countP_cons, List.countP_cons, List.countP_cons, ih (fun y hy => h y (.tail _ hy)) fun y hy => hx y (.tail _ hy)]
    have h1 := h x (.head _)
    have h2 := hx x (.head _)
    cases hf : f x <;> cases ha : a x <;> cases hb : b x <;> simp [hf, ha, hb] at h1 h2 ⊢ <;> omega
/-- round the ring -/
theorem countP_ring (g : Nat → Bool) (n : Nat) (h : g n = g 0) : (List.range n).countP (fun k => g (k + 1)) = (List.range n).countP g := by
  have e1 : (List.range (n + 1)).countP g = (if g 0 = true then 1 else 0) + (List.range n).countP (fun k => g (k + 1)) := by
    rw [List.range_succ_eq_map, List.countP_cons, List.countP_map]
    show List.countP (fun k => g (k + 1)) _ + _ = _
    omega
  have e2 : (List.range (n + 1)).countP g = (List.range n).countP g + (if g n = true then 1 else 0) := by
    rw [List.range_succ, List.countP_append, List.countP_cons, List.countP_nil]; omega
  rw [h] at e2
  omega
/-- the first ones of a sorted row -/
theorem countP_take {key : Nat → Int} (g : Nat → Bool) (t : Int) : ∀ {q : List Nat}, q.Pairwise (fun a b => key a ≤ key b) →
    (q.take (q.countP fun x => decide (key x < t))).countP g = q.countP fun x => g x && decide (key x < t)
  | [], _ => rfl
  | x :: q, h => by
    obtain ⟨h1, h2⟩ := List.pairwise_cons.mp h
    by_cases hx : key x < t
    · have e : (x :: q).countP (fun x => decide (key x < t)) = q.countP (fun x => decide (key x < t)) + 1 := by
        rw [List.countP_cons]; simp [hx]
      rw [e, List.take_succ_cons, List.countP_cons, List.countP_cons, countP_take g t h2]
      simp [hx]
    · have e : (x :: q).countP (fun x => decide (key x < t)) = 0 := by
        rw [List.countP_eq_zero]
        intro y hy
        rcases List.mem_cons.mp hy with rfl | hy
        · simp [hx]
        · have := h1 y hy; simp; omega
      have e2 : (x :: q).countP (fun x => g x && decide (key x < t)) = 0 := by
        rw [List.countP_eq_zero]
        intro y hy
        rcases List.mem_cons.mp hy with rfl | hy
        · simp [hx]
        · have := h1 y hy; simp; omega
      rw [e, e2]; rfl
/-- one step of the search -/
theorem cnt_step {ds : List Int} (h3 : ∀ d ∈ ds, d = 0 ∨ d = 1 ∨ d = 2) (l0 : 0 < ds.length) {q : List Nat} (hq : q.Perm (List.range ds.length)) {m : Nat} (hs : q.Pairwise fun a b => hRow ds m a ≤ hRow ds m b) {d t : Int} (t0 : 0 ≤ t) (t1 : t ≤ 3 ^ m) (hd : d = 0 ∨ d = 1 ∨ d = 2) :
    cnt ds (m + 1) (d * 3 ^ m + t) = (List.range ds.length).countP (fun k => decide (dg ds k < d)) + (q.take (cnt ds m t)).countP (fun j => decide (dg ds (j + ds.length - 1) = d)) := by
  have e1 : cnt ds m t = q.countP fun k => decide (hRow ds m k < t) := (hq.countP_eq _).symm
  rw [e1, countP_take _ t hs, hq.countP_eq, ← countP_ring (fun x => decide (dg ds (x + ds.length - 1) = d) && decide (hRow ds m x < t))]
  · unfold cnt
    refine countP_or _ _ _ _ (fun k _ => ?_) fun k _ => ?_
    · have e : k + 1 + ds.length - 1 = k + ds.length := by omega
      simp only [e, dg_add, decide_eq_true_eq, Bool.and_eq_true]
      exact hRow_lt_iff h3 l0 t0 t1 hd
    · have e : k + 1 + ds.length - 1 = k + ds.length := by omega
      simp only [e, dg_add, decide_eq_true_eq, Bool.and_eq_true]
      omega
  · have e : dg ds (ds.length + ds.length - 1) = dg ds (0 + ds.length - 1) := by
      rw [show ds.length + ds.length - 1 = (0 + ds.length - 1) + ds.length by omega, dg_add]
    have e2 : hRow ds m ds.length = hRow ds m 0 := by
      have := hRow_period ds m 0
      rw [Nat.zero_add] at this
      exact this
    simp only [e, e2]
theorem cnt_zero (ds : List Int) : cnt ds 0 0 = 0 ∧ cnt ds 0 1 = ds.length := by
  constructor
  · unfold cnt; rw [List.countP_eq_zero]; intro k _; simp [hRow]
  · unfold cnt
    rw [show (ds.length = (List.range ds.length).length) by simp, List.countP_eq_length.mpr]
    · simp
    · intro k _; simp [hRow]
theorem wish_succ (N : Int) (m : Nat) : N.fmod (3 ^ (m + 1)) = (N.fdiv (3 ^ m)).fmod 3 * 3 ^ m + N.fmod (3 ^ m) := by
  have hp : (0 : Int) < 3 ^ m := Int.pow_pos (by decide)
  have hp1 : (0 : Int) < 3 ^ (m + 1) := Int.pow_pos (by decide)
  rw [Int.fmod_eq_emod_of_nonneg _ (by omega), Int.fmod_eq_emod_of_nonneg _ (by omega), Int.fmod_eq_emod_of_nonneg _ (by omega), Int.fdiv_eq_ediv_of_nonneg _ (by omega)]
  have e1 := Int.mul_ediv_add_emod N (3 ^ m)
  have e2 := Int.mul_ediv_add_emod (N / 3 ^ m) 3
  have e3 : N / 3 ^ (m + 1) = N / 3 ^ m / 3 := by rw [Int.pow_succ, Int.ediv_ediv_of_nonneg (by omega)]
  have e4 := Int.mul_ediv_add_emod N (3 ^ (m + 1))
  rw [e3, Int.pow_succ] at e4
  generalize N / 3 ^ m = x at *
  rw [Int.pow_succ]
  have e5 : (3 : Int) ^ m * x = 3 ^ m * (3 * (x / 3)) + 3 ^ m * (x % 3) := by rw [← Int.mul_add, e2]
  have e6 : (3 : Int) ^ m * 3 * (x / 3) = 3 ^ m * (3 * (x / 3)) := by rw [Int.mul_assoc]
  have e7 : x % 3 * 3 ^ m = 3 ^ m * (x % 3) := Int.mul_comm _ _
  omega
theorem wish_bound (N : Int) (m : Nat) : 0 ≤ N.fmod (3 ^ m) ∧ N.fmod (3 ^ m) < 3 ^ m := by
  have hp : (0 : Int) < 3 ^ m := Int.pow_pos (by decide)
  rw [Int.fmod_eq_emod_of_nonneg _ (by omega)]
  exact ⟨Int.emod_nonneg _ (by omega), Int.emod_lt_of_pos _ hp⟩
end Mine
end

-- part PlainB
section
namespace Mine
def code (d : Int) : Nat := if d = 0 then 66 else if d = 1 then 95 else 97
theorem ltr_code (d : Int) : ltr d = ⟨#[code d]⟩ := by unfold ltr code; split; rfl; split <;> rfl
theorem code_lt {a b : Int} (ha : a = 0 ∨ a = 1 ∨ a = 2) (hb : b = 0 ∨ b = 1 ∨ b = 2) : code a < code b ↔ a < b := by
  rcases ha with rfl | rfl | rfl <;> rcases hb with rfl | rfl | rfl <;> decide
theorem code_inj {a b : Int} (ha : a = 0 ∨ a = 1 ∨ a = 2) (hb : b = 0 ∨ b = 1 ∨ b = 2) : code a = code b ↔ a = b := by
  rcases ha with rfl | rfl | rfl <;> rcases hb with rfl | rfl | rfl <;> decide
theorem ltr_inj {a b : Int} (ha : a = 0 ∨ a = 1 ∨ a = 2) (hb : b = 0 ∨ b = 1 ∨ b = 2) : ltr a = ltr b ↔ a = b := by
  rcases ha with rfl | rfl | rfl <;> rcases hb with rfl | rfl | rfl <;> decide
theorem coll_neg (a b : Str) : coll a b < 0 ↔ a.cps.toList < b.cps.toList := by
  unfold coll b2i
  by_cases h1 : a.cps.toList < b.cps.toList
  · have h2 : ¬ b.cps.toList < a.cps.toList := fun h => List.lt_irrefl _ (List.lt_trans h h1)
    simp [h1, h2]
  · by_cases h2 : b.cps.toList < a.cps.toList
    · simp [h1, h2]
    · simp [h1, h2]
theorem coll_pos (a b : Str) : 0 < coll a b ↔ b.cps.toList < a.cps.toList := by
  unfold coll b2i
  by_cases h1 : a.cps.toList < b.cps.toList
  · have h2 : ¬ b.cps.toList < a.cps.toList := fun h => List.lt_irrefl _ (List.lt_trans h h1)
    simp [h1, h2]
  · by_cases h2 : b.cps.toList < a.cps.toList
    · simp [h1, h2]
    · simp [h1, h2]
/-- the codes of m letters from i on -/
noncomputable def cw (ds : List Int) : Nat → Nat → List Nat
  | 0, _ => []
  | m + 1, i => code (dg ds i) :: cw ds m (i + 1)
theorem cw_map (ds : List Int) : ∀ m i, cw ds m i = (List.range m).map fun k => code (dg ds (i + k))
  | 0, _ => rfl
  | m + 1, i => by
    rw [List.range_succ_eq_map, List.map_cons, List.map_map, cw, cw_map ds m (i + 1)]
    congr 1
    apply List.map_congr_left
    intro k _
    show _ = code (dg ds (i + (k + 1)))
    rw [show i + 1 + k = i + (k + 1) by omega]
theorem cw_lt {ds : List Int} (h3 : ∀ d ∈ ds, d = 0 ∨ d = 1 ∨ d = 2) (l0 : 0 < ds.length) : ∀ m i j, cw ds m i < cw ds m j ↔ hRow ds m i < hRow ds m j
  | 0, i, j => by simp [cw, hRow]
  | m + 1, i, j => by
    have hi := dg_range h3 l0 i
    have hj := dg_range h3 l0 j
    rw [cw, cw, List.cons_lt_cons_iff, cw_lt h3 l0 m, code_lt hi hj, code_inj hi hj, hRow_head, hRow_head]
    have bi := hRow_bound h3 l0 m (i + 1)
    have bj := hRow_bound h3 l0 m (j + 1)
    generalize hRow ds m (i + 1) = x at *
    generalize hRow ds m (j + 1) = y at *
    generalize (3 : Int) ^ m = z at *
    generalize dg ds i = a at *
    generalize dg ds j = b at *
    rcases hi with rfl | rfl | rfl <;> rcases hj with rfl | rfl | rfl <;> omega
theorem cw_eq {ds : List Int} (h3 : ∀ d ∈ ds, d = 0 ∨ d = 1 ∨ d = 2) (l0 : 0 < ds.length) : ∀ m i j, hRow ds m i = hRow ds m j → cw ds m i = cw ds m j
  | 0, i, j, _ => rfl
  | m + 1, i, j, h => by
    have hi := dg_range h3 l0 i
    have hj := dg_range h3 l0 j
    rw [hRow_head, hRow_head] at h
    have bi := hRow_bound h3 l0 m (i + 1)
    have bj := hRow_bound h3 l0 m (j + 1)
    have hd : dg ds i = dg ds j ∧ hRow ds m (i + 1) = hRow ds m (j + 1) := by
      generalize hRow ds m (i + 1) = x at *
      generalize hRow ds m (j + 1) = y at *
      generalize (3 : Int) ^ m = z at *
      generalize dg ds i = a at *
      generalize dg ds j = b at *
      rcases hi with rfl | rfl | rfl <;> rcases hj with rfl | rfl | rfl <;> omega
    rw [cw, cw, hd.1, cw_eq h3 l0 m _ _ hd.2]
theorem cps_joinS : ∀ l : List Str, (Str.join ⟨#[]⟩ l).cps.toList = l.flatMap fun a => a.cps.toList
  | [] => rfl
  | [x] => by simp [Str.join]
  | x :: y :: r => by
    have h := cps_joinS (y :: r)
    rw [List.flatMap_cons, ← h]
    show ((x.cps ++ #[]) ++ (Str.join ⟨#[]⟩ (y :: r)).cps).toList = _
    simp
theorem cps_join (l : List Str) : (Txt.join ⟨#[]⟩ l).cps.toList = l.flatMap fun a => a.cps.toList := by
  show (Builtin.Str.glued ⟨#[]⟩ l).cps.toList = _
  rw [StrLaws.glued_eq_join, cps_joinS]
theorem rot_map {ds : List Int} {i : Nat} (hi : i < ds.length) : ds.drop i ++ ds.take i = (List.range ds.length).map fun k => dg ds (i + k) := by
  apply List.ext_getElem
  · simp; omega
  · intro k h1 h2
    simp at h2
    have hk : k < ds.length := h2
    simp only [List.getElem_map, List.getElem_range]
    unfold dg
    have hm : (i + k) % ds.length < ds.length := Nat.mod_lt _ (by omega)
    have e : ds.getD ((i + k) % ds.length) 0 = ds[(i + k) % ds.length] := by simp [hm]
    rw [e, List.getElem_append]
    split
    · rename_i h
      rw [List.length_drop] at h
      rw [List.getElem_drop]
      congr 1
      rw [Nat.mod_eq_of_lt (by omega)]
    · rename_i h
      rw [List.length_drop] at h
      rw [List.getElem_take]
      congr 1
      rw [List.length_drop]
      have : (i + k) % ds.length = (i + k - ds.length) % ds.length := by rw [Nat.mod_eq_sub_mod (by omega)]
      rw [this, Nat.mod_eq_of_lt (by omega)]
      omega
theorem rotS_cps {ds : List Int} {i : Nat} (hi : i < ds.length) : (rotS (ds.map ltr) i).cps.toList = cw ds ds.length i := by
  unfold rotS
  rw [cps_join, ← List.map_drop, ← List.map_take, ← List.map_append, rot_map hi, cw_map, List.map_map, List.flatMap_map]
  generalize List.range ds.length = l
  induction l with
  | nil => rfl
  | cons x l ih => rw [List.flatMap_cons, ih, List.map_cons]; simp [ltr_code]
end Mine
end

-- part PlainC
section
namespace Mine
section
variable {ds : List Int} (h3 : ∀ d ∈ ds, d = 0 ∨ d = 1 ∨ d = 2) (l0 : 0 < ds.length)
include h3 l0
theorem rot_rank {i j : Nat} (hi : i < ds.length) (hj : j < ds.length) : coll (rotS (ds.map ltr) i) (rotS (ds.map ltr) j) < 0 ↔ hRow ds ds.length i < hRow ds ds.length j := by
  rw [coll_neg, rotS_cps hi, rotS_cps hj, cw_lt h3 l0]
theorem rot_eq {i j : Nat} (hi : i < ds.length) (hj : j < ds.length) (h : hRow ds ds.length i = hRow ds ds.length j) : rotS (ds.map ltr) i = rotS (ds.map ltr) j := by
  have e := cw_eq h3 l0 _ _ _ h
  rw [← rotS_cps hi, ← rotS_cps hj] at e
  cases ha : rotS (ds.map ltr) i
  cases hb : rotS (ds.map ltr) j
  rw [ha, hb] at e
  congr 1
  exact Array.toList_inj.mp e
omit h3 in
theorem rot_size {i : Nat} (hi : i < ds.length) : (rotS (ds.map ltr) i).cps.size = ds.length := by
  rw [← Array.length_toList, rotS_cps hi, cw_map]; simp
omit h3 in
theorem rot_last {i : Nat} (hi : i < ds.length) : lastS (rotS (ds.map ltr) i) = ltr (dg ds (i + ds.length - 1)) := by
  have hs := rot_size (ds := ds) l0 hi
  have hc := rotS_cps hi
  unfold lastS
  rw [ltr_code, hs]
  congr 1
  have e : (rotS (ds.map ltr) i).cps.getD (ds.length - 1) 0 = code (dg ds (i + ds.length - 1)) := by
    have e1 : (rotS (ds.map ltr) i).cps[ds.length - 1]? = some (code (dg ds (i + ds.length - 1))) := by
      rw [← Array.getElem?_toList, hc, cw_map, List.getElem?_map, List.getElem?_range (by omega)]
      simp only [Option.map_some]
      rw [show i + (ds.length - 1) = i + ds.length - 1 by omega]
    simp [e1]
  rw [e]
omit l0 in
theorem less_count {d : Int} (hd : d = 0 ∨ d = 1 ∨ d = 2) : lessOf (ltr d) (ds.map ltr) = ((List.range ds.length).countP (fun k => decide (dg ds k < d)) : Nat) := by
  have e1 : (List.range ds.length).map (dg ds) = ds := by
    apply List.ext_getElem
    · simp
    · intro k h1 h2
      simp only [List.getElem_map, List.getElem_range]
      unfold dg
      rw [Nat.mod_eq_of_lt h2]; simp [h2]
  have e2 : (List.range ds.length).countP (fun k => decide (dg ds k < d)) = ds.countP fun x => decide (x < d) := by
    conv => rhs; rw [← e1]
    rw [List.countP_map]; rfl
  rw [e2]
  unfold lessOf
  congr 1
  rw [← List.countP_eq_length_filter, List.countP_map]
  apply List.countP_congr
  intro x hx
  have hx3 := h3 x hx
  simp only [Function.comp, decide_eq_true_eq, coll_pos, ltr_code]
  show [code x] < [code d] ↔ _
  rw [List.cons_lt_cons_iff, code_lt hx3 hd]
  simp
theorem count_last {q : List Nat} (hq : ∀ j ∈ q, j < ds.length) {d : Int} (hd : d = 0 ∨ d = 1 ∨ d = 2) (P : Nat) :
    (((q.map (rotS (ds.map ltr))).map lastS).take P).count (ltr d) = (q.take P).countP (fun j => decide (dg ds (j + ds.length - 1) = d)) := by
  rw [List.map_map, ← List.map_take, List.count, List.countP_map]
  apply List.countP_congr
  intro j hj
  have hjl := hq j (List.mem_of_mem_take hj)
  simp only [Function.comp, rot_last l0 hjl, beq_iff_eq, decide_eq_true_eq]
  exact ltr_inj (dg_range h3 l0 _) hd
theorem posAt_eq {q : List Nat} (hq : q.Perm (List.range ds.length)) (hs : q.Pairwise fun a b => hRow ds ds.length a ≤ hRow ds ds.length b) (N : Int) : ∀ m, m ≤ ds.length →
    posAt ((List.range ds.length).map fun m => ltr (figAt N m)) (ds.map ltr) ((q.map (rotS (ds.map ltr))).map lastS) (ds.length : Nat) m = [(cnt ds m (N.fmod (3 ^ m)) : Int), (cnt ds m (N.fmod (3 ^ m) + 1) : Int)]
  | 0, _ => by
    have e : N.fmod (3 ^ 0) = 0 := by have := wish_bound N 0; simp at this ⊢
    rw [e, (cnt_zero ds).1, show (0 : Int) + 1 = 1 from rfl, (cnt_zero ds).2]
    rfl
  | m + 1, hm => by
    rw [posAt, posAt_eq hq hs N m (by omega)]
    have hlt : ∀ j ∈ q, j < ds.length := fun j hj => by simpa using hq.mem_iff.mp hj
    have hsm : q.Pairwise fun a b => hRow ds m a ≤ hRow ds m b := hs.imp fun {a b} h => hRow_mono h3 l0 (e := ds.length - m) (m := m) (by rw [show m + (ds.length - m) = ds.length by omega]; exact h)
    have eg : ((List.range ds.length).map fun m => ltr (figAt N m)).getD m ⟨#[]⟩ = ltr (figAt N m) := by simp [show m < ds.length by omega]
    have hf : figAt N m = 0 ∨ figAt N m = 1 ∨ figAt N m = 2 := fmod3 _
    have hw := wish_bound N m
    have hstep : ∀ t : Int, 0 ≤ t → t ≤ 3 ^ m → movedOf (ltr (figAt N m)) (ds.map ltr) ((q.map (rotS (ds.map ltr))).map lastS) (cnt ds m t : Nat) = (cnt ds (m + 1) (figAt N m * 3 ^ m + t) : Nat) := by
      intro t t0 t1
      rw [cnt_step h3 l0 hq hsm t0 t1 hf]
      unfold movedOf
      rw [less_count h3 hf, Int.toNat_natCast, count_last h3 l0 hlt hf]
      push_cast
      rfl
    rw [eg, List.map_cons, List.map_cons, List.map_nil, hstep _ hw.1 (by omega), hstep _ (by omega) (by omega)]
    rw [wish_succ N m]
    have e : figAt N m * 3 ^ m + (N.fmod (3 ^ m) + 1) = figAt N m * 3 ^ m + N.fmod (3 ^ m) + 1 := by omega
    rw [e]
    rfl
omit h3 l0 in
theorem due_lt (m : Nat) (t : Int) : ((hRows ds m).filter fun h => decide (h < t)).length = cnt ds m t := by
  unfold hRows cnt
  rw [← List.countP_eq_length_filter, List.countP_map]
  rfl
omit h3 l0 in
theorem due_le (m : Nat) (t : Int) : ((hRows ds m).filter fun h => decide (h ≤ t)).length = cnt ds m (t + 1) := by
  unfold hRows cnt
  rw [← List.countP_eq_length_filter, List.countP_map]
  apply List.countP_congr
  intro k _
  simp only [Function.comp, decide_eq_true_eq]
  omega
end
/-- two rows of the same words, both in order -/
theorem sorted_same {key : Nat → Int} : ∀ {a b : List Nat}, a.Perm b → a.Pairwise (fun x y => key x ≤ key y) → b.Pairwise (fun x y => key x ≤ key y) → a.map key = b.map key := by
  intro a b h ha hb
  have pa : (a.map key).Pairwise (· ≤ ·) := List.pairwise_map.mpr ha
  have pb : (b.map key).Pairwise (· ≤ ·) := List.pairwise_map.mpr hb
  exact List.Perm.eq_of_pairwise (fun x y _ _ h1 h2 => Int.le_antisymm h1 h2) pa pb (h.map key)
theorem gp_list {n : Nat} {p : Array Nat} (g : Gp n p) : p.toList.Perm (List.range n) := by
  have := g.toList
  simpa using this
theorem so_pair {n : Nat} {rank : Nat → Int} {p : Array Nat} (g : Gp n p) (s : SoT rank p n) : p.toList.Pairwise fun a b => rank a ≤ rank b := by
  rw [List.pairwise_iff_getElem]
  intro i j hi hj hij
  have hz := g.size
  rw [Array.length_toList] at hi hj
  have := s i j (by omega) (by omega)
  unfold Rk at this
  simpa [Array.getD, hi, hj] using this
end Mine
end

-- part LawJ
section
set_option maxRecDepth 100000
set_option maxHeartbeats 4000000
namespace Mine
open PySem.Calls
/-- what the law awaits behind m letters -/
noncomputable def dueOf (ds : List Int) (N : Int) (m : Nat) : List Int := [(((hRows ds m).filter fun h => decide (h < N.fmod (3 ^ m))).length : Nat), (((hRows ds m).filter fun h => decide (h ≤ N.fmod (3 ^ m))).length : Nat)]
theorem filter_ints {vs : List Value} {ns : List Int} (h : IntsAre vs ns) (f : Int → Bool) : (vs.filter fun v => f (iOf v)).length = (ns.filter f).length := by
  induction h with
  | nil => rfl
  | cons y t _ ih =>
    have e : iOf (.int y t) = y := rfl
    rw [List.filter_cons, List.filter_cons, e]
    cases f y
    · simpa using ih
    · simpa using ih
section
variable {prog : Program} {w : World} {A : Around} {E : Value → Shared → Prop} {s : Shared} {mg mb : Str → Option Value} {h₀ : Heap} {L fl : Addr} {ml : Str → Option Value} {cv : Nat → Option Value}
theorem LS.apart {h : Heap} {a : Addr} {its : Array Value} (x : LS h₀ L ml cv h) (p : h.IsList a its) : a ≠ L ∧ ∀ i, 1 ≤ i → i ≤ 7 → a ≠ L + i := by
  obtain ⟨o, e, c, n, d⟩ := p
  refine ⟨fun q => ?_, fun i i1 i7 q => ?_⟩
  · obtain ⟨o2, es, ep, e2, d2, _⟩ := x.ns
    rw [q, e2] at e; cases e; rw [d] at d2; cases d2
  · obtain ⟨o2, e2, d2⟩ := x.cs i i1 i7
    rw [q, e2] at e; cases e; rw [d] at d2; cases d2
theorem law12' {Q : Flow → Shared → Prop} (x : LS h₀ L ml cv s.heap)
    (h : ∀ D s' h' t', s' = { s with heap := h', toks := t' } → (∀ b o, b ≠ L → s.heap.get? b = some o → h'.get? b = some o) → s.heap.get? D = none → LS h₀ L (fun y => if y = "due" then some (.ref D) else ml y) cv h' → h'.PlainList D #[] → Q .next s') :
    wpAny (model prog w) A (exec (lawSt 11) (lawEnv L fl)) Q E s := by
  refine wpAny_Assign_Name (wpAny_List (wpAny_items_nil ⟨Nat.zero_le _, ?_⟩))
  have N1 : Nw s.heap s.heap.objs.size { cls := .type "list", data := .seq ([] : List Value).toArray } (s.heap.push { cls := .type "list", data := .seq ([] : List Value).toArray }) := nw_push rfl
  have x1 := x.hk N1.keep
  refine wpAny_storeName_local (m := _) rfl x1.ns fun h3 n3 hs3 => ?_
  obtain ⟨x3, o3⟩ := x1.loc n3 fun b o hb e => (hs3.2 b hb).trans e
  exact h _ _ h3 _ rfl (fun b o hb e => (hs3.2 b hb).trans (N1.keep _ _ e)) (get_none (Nat.le_refl _)) x3 ⟨0, o3 _ _ _ N1.at_⟩
theorem law13 {G D : Addr} {gs : Array Value} {ds : List Int} {N : Int} {c c' : Tok} {Q : Flow → Shared → Prop} (hh : A.handled = none) (B : Bs w mg mb h₀) (x : LS h₀ L ml cv s.heap) (c7 : cv 7 = some (.int (ds.length : Nat) c)) (c2 : cv 2 = some (.int N c')) (c4 : cv 4 = some (.ref G))
    (hG : s.heap.IsList G gs) (ll : LL s.heap [D] gs.toList ((List.range (ds.length + 1)).map (hRows ds))) (hm : ml "due" = some (.ref D)) (hD : s.heap.PlainList D #[]) (hGD : G ≠ D) (h0D : h₀.get? D = none) (hl : ds.length ≤ 12)
    (h : ∀ mloc wv vs s' h' t', s' = { s with heap := h', toks := t' } → (∀ b o, b ≠ L → b ≠ L + 3 → b ≠ D → s.heap.get? b = some o → h'.get? b = some o) → (∀ y, y ≠ Str.ofString "m" → mloc y = ml y) →
      LS h₀ L mloc (fun i => if i = 3 then wv else cv i) h' → h'.IsList D vs → LL h' [] vs.toList ((List.range (ds.length + 1)).map (dueOf ds N)) → Q .next s') :
    wpAny (model prog w) A (exec (lawSt 12) (lawEnv L fl)) Q E s := by
  have B1 := B.keeps x.keep
  have k7 := x.cs 7 (by decide) (by decide)
  rw [c7] at k7
  have k2 := x.cs 2 (by decide) (by decide)
  rw [c2] at k2
  have k4 := x.cs 4 (by decide) (by decide)
  rw [c4] at k4
  have k3 := x.cs 3 (by decide) (by decide)
  have lgs : gs.size = ds.length + 1 := by have := ll.1; simpa using this
  have aD := x.apart hD.isList
  have aG := x.apart hG
  refine wpAny_For ?_
  refine Call_ (nmB B1 (by rfl) (by boot_by_name) (callWith_type1 (args_cons (wpAny_BinOp (nmC k7 (wpAny_Constant_int (add_int (args_nil (call_range_1 ?_)))))))))
  rw [show ((ds.length : Nat) : Int) + 1 = ((ds.length + 1 : Nat) : Int) by push_cast; rfl]
  have hr := IsRange.new s.heap 0 ((ds.length + 1 : Nat) : Int) 1 (s.toks + 1 + 1) (s.toks + 1) (s.toks + 1 + 1 + 1)
  refine IterOf.range (A := A) (n := ds.length + 1) (s₁ := { s with heap := s.heap.push { cls := .type "range", data := .fields #[.int 0 (s.toks + 1 + 1), .int ((ds.length + 1 : Nat) : Int) (s.toks + 1), .int 1 (s.toks + 1 + 1 + 1)] }, toks := s.toks + 1 + 1 + 1 + 1 }) hh (by omega) hr _ _ fun I St s5 K5 hI W hst hfp hSt => ?_
  obtain ⟨h5, t5, rfl, kk5⟩ := K5
  have k45 : HK s.heap h5 := fun b o e => kk5 _ _ (Heap.get?_push_of_some _ e)
  have nI : ∀ b o, s.heap.get? b = some o → b ≠ I := fun b o e q => by
    rw [← q] at hI
    have e2 := Heap.get?_push_of_some { cls := .type "range", data := .fields #[.int 0 (s.toks + 1 + 1), .int ((ds.length + 1 : Nat) : Int) (s.toks + 1), .int 1 (s.toks + 1 + 1 + 1)] } e
    have e3 : some _ = none := e2.symm.trans hI
    cases e3
  have hLI : L ≠ I := by obtain ⟨o, _, _, e, _⟩ := x.ns; exact nI _ _ e
  have h3I : L + 3 ≠ I := by obtain ⟨o, e, _⟩ := k3; exact nI _ _ e
  have hDI : D ≠ I := by obtain ⟨n, e⟩ := hD; exact nI _ _ e
  have hL3 : L ≠ L + 3 := (addr_ne1 L 3 (by decide)).symm
  refine for_walk [L, L + 3, D] W (J := fun i s' => ∃ h' t' mloc wv gsD, s' = { s with heap := h', toks := t' } ∧ (∀ b o, b ≠ I → b ≠ L → b ≠ L + 3 → b ≠ D → h5.get? b = some o → h'.get? b = some o) ∧ h'.Ns L mloc ∧ (∀ y, y ≠ Str.ofString "m" → mloc y = ml y) ∧ h'.IsCell (L + 3) wv ∧ PlainL h' D (List.toArray gsD) ∧ LL h' [L, L + 3, D, I] gsD ((List.range i).map (dueOf ds N))) hst ?_ ?_ ?_ ?_ ?_
  · intro b hb
    rw [List.mem_singleton.mp hb]
    intro hm
    simp only [List.mem_cons, List.not_mem_nil, or_false] at hm
    rcases hm with q | q | q
    · exact hLI q.symm
    · exact h3I q.symm
    · exact hDI q.symm
  · refine ⟨h5, t5, ml, cv 3, [], rfl, fun b o _ _ _ _ e => e, x.ns.keeps k45, fun _ _ => rfl, k3.keeps k45, ?_, rfl, fun i ns e => by simp at e⟩
    obtain ⟨n, e⟩ := hD
    exact ⟨_, n, k45 _ _ e, rfl, rfl, rfl⟩
  · rintro i s' h' tk _ ⟨h6, t6, mloc, wv, gsD, rfl, k6, n6, m6, w6, p6, l6⟩ hk
    refine ⟨h', tk, mloc, wv, gsD, rfl, fun b o b1 b2 b3 b4 e => hk _ _ b1 (k6 _ _ b1 b2 b3 b4 e), n6.at' fun o e => hk _ _ hLI e, m6, ?_, ?_, l6.mono (fun b o hb e => hk _ _ (fun q => hb (by simp [q])) e) fun _ e => e⟩
    · obtain ⟨o, e, d⟩ := w6; exact ⟨o, hk _ _ h3I e, d⟩
    · obtain ⟨o, n, e, d⟩ := p6; exact ⟨o, n, hk _ _ hDI e, d⟩
  · rintro i v s₁ E' hi ⟨_, tv, rfl⟩ hS ⟨h6, t6, mloc, wv, gsD, rfl, k6, n6, m6, w6, p6, l6⟩
    have w6' : h6.IsCell (L + 3) wv := w6
    refine wpAny_assign_Name (wpAny_storeName_local (m := mloc) rfl n6 fun h7 n7 hs7 => ?_)
    have k57 : ∀ b o, b ≠ I → b ≠ L → b ≠ L + 3 → b ≠ D → h5.get? b = some o → h7.get? b = some o := fun b o b1 b2 b3 b4 e => (hs7.2 b b2).trans (k6 _ _ b1 b2 b3 b4 e)
    have ks7 : ∀ b o, b ≠ L → b ≠ L + 3 → b ≠ D → s.heap.get? b = some o → h7.get? b = some o := fun b o b2 b3 b4 e => k57 b o (nI _ _ e) b2 b3 b4 (k45 _ _ e)
    have k07 : HK h₀ h7 := fun b o e => ks7 b o (Nat.ne_of_lt (x.above _ _ e)) (Nat.ne_of_lt (Nat.lt_of_lt_of_le (x.above _ _ e) (Nat.le_add_right _ _))) (fun q => by rw [q, h0D] at e; cases e) (x.keep _ _ e)
    have B7 := B.keeps k07
    have cel : ∀ j v, 1 ≤ j → j ≤ 7 → j ≠ 3 → s.heap.IsCell (L + j) v → h7.IsCell (L + j) v := fun j v j1 j7 j3 q => by
      obtain ⟨o, e, d⟩ := q
      exact ⟨o, ks7 _ _ (addr_ne1 L j j1) (addr_ne2 L j 3 j3) (aD.2 j j1 j7).symm e, d⟩
    have c27 := cel 2 _ (by decide) (by decide) (by decide) k2
    have c47 := cel 4 _ (by decide) (by decide) (by decide) k4
    have c37 : h7.IsCell (L + 3) wv := by obtain ⟨o, e, d⟩ := w6'; exact ⟨o, (hs7.2 _ hL3.symm).trans e, d⟩
    have p7 : PlainL h7 D gsD.toArray := by obtain ⟨o, n, e, d⟩ := p6; exact ⟨o, n, (hs7.2 D aD.1).trans e, d⟩
    have l7 : LL h7 [L, L + 3, D, I] gsD ((List.range i).map (dueOf ds N)) := l6.mono (fun b o hb e => (hs7.2 b (fun q => hb (by simp [q]))).trans e) fun _ e => e
    have g7 : h7.IsList G gs := hG.at fun o e => ks7 _ _ aG.1 (aG.2 3 (by decide) (by decide)) hGD e
    have ll7 : LL h7 [L + 3, D] gs.toList ((List.range (ds.length + 1)).map (hRows ds)) := by
      refine ⟨ll.1, fun j ns e => ?_⟩
      obtain ⟨a, ys, p, q, r, t⟩ := ll.2 j ns e
      have aa := x.apart q.isList
      have hne : a ≠ D := fun z => t (by simp [z])
      obtain ⟨m, q'⟩ := q
      exact ⟨a, ys, p, ⟨m, ks7 _ _ aa.1 (aa.2 3 (by decide) (by decide)) hne q'⟩, r, by simp [hne, aa.2 3 (by decide) (by decide)]⟩
    refine wp_at { s with heap := h7, toks := t6 + 1 } rfl ?_
    refine wpAny_execs_cons (wpAny_Assign_Name (wpAny_BinOp (nmC (s := { s with heap := h7, toks := t6 + 1 }) c27 (wpAny_BinOp (wpAny_Constant_int (nmL (s := { s with heap := h7, toks := t6 + 1 + 1 }) n7 (by rfl) (pow_int_small (by omega) (by omega) (by decide) (mod_int (Int.pow_ne_zero (by decide)) ?_))))))))
    rw [Int.toNat_natCast]
    generalize hW : N.fmod (3 ^ i) = V at *
    refine wpAny_storeName_cell (c := L + 3) rfl rfl rfl c37 fun h8 c38 hs8 => ?_
    have k78 : ∀ b o, b ≠ L + 3 → h7.get? b = some o → h8.get? b = some o := fun b o hb e => (hs8.2 b hb).trans e
    have B8 : Bs w mg mb h8 := B.keeps fun b o e => k78 b o (Nat.ne_of_lt (Nat.lt_of_lt_of_le (x.above _ _ e) (Nat.le_add_right _ _))) (k07 _ _ e)
    have n8 : h8.Ns L _ := n7.at' fun o e => k78 _ _ hL3 e
    have c48 : h8.IsCell (L + 4) (some (.ref G)) := by obtain ⟨o, e, d⟩ := c47; exact ⟨o, k78 _ _ (addr_ne2 L 4 3 (by decide)) e, d⟩
    have p8 : PlainL h8 D gsD.toArray := by obtain ⟨o, n, e, d⟩ := p7; exact ⟨o, n, k78 _ _ (aD.2 3 (by decide) (by decide)) e, d⟩
    have l8 : LL h8 [L, L + 3, D, I] gsD ((List.range i).map (dueOf ds N)) := l7.mono (fun b o hb e => k78 _ _ (fun q => hb (by simp [q])) e) fun _ e => e
    have g8 : h8.IsList G gs.toList.toArray := by rw [Array.toArray_toList]; exact g7.at fun o e => k78 _ _ (aG.2 3 (by decide) (by decide)) e
    have ll8 : LL h8 [L + 3, D] gs.toList ((List.range (ds.length + 1)).map (hRows ds)) := ll7.mono (fun b o hb e => k78 _ _ (fun q => hb (by simp [q])) e) fun _ e => e
    obtain ⟨a, ya, ea, pa, ia, na⟩ := ll8.2 i (hRows ds i) (by simp [hi])
    have lya : ya.toList.length = ds.length := by rw [ints_len ia]; simp [hRows]
    have hmd : (fun y => if y = Str.ofString "m" then some (Value.int (i : Int) tv) else mloc y) (Str.ofString "due") = some (.ref D) := by
      show (if Str.ofString "due" = Str.ofString "m" then _ else _) = _
      rw [if_neg (by decide), m6 _ (by decide)]
      exact hm
    obtain ⟨oI, eI⟩ := hSt _ _ hS
    have eI8 : h8.get? I = some oI := k78 _ _ h3I.symm ((hs7.2 I hLI.symm).trans eI)
    refine wp_at { s with heap := h8, toks := t6 + 1 + 1 + 1 + 1 } rfl ?_
    refine wpAny_execs_cons (wpAny_Expr_any (wpAny_Call_append rfl rfl rfl rfl (nmL (s := { s with heap := h8, toks := t6 + 1 + 1 + 1 + 1 }) n8 (by exact hmd) ⟨D, gsD.toArray, rfl, p8, ?_⟩)))
    refine wpAny_List (wpAny_items_cons (Call_ (nmB (s := { s with heap := h8, toks := t6 + 1 + 1 + 1 + 1 }) B8 (by rfl) (by boot_by_name) (callWith_builtin1 (args_cons ?_)))))
    refine lc_expr (n := ya.toList.length) (P := fun i v => ya.toList[i]? = some v) (fun v => decide (iOf v < V)) (fun v y => y = v) (by omega) ?_ ?_ (fun C i v s₃ m₃ E' hP hp hns hm hk => nmL hns hm ⟨rfl, kp_refl _⟩) ?_
    · refine sub_any (nmC (s := { s with heap := h8, toks := t6 + 1 + 1 + 1 + 1 }) c48 (nmL (s := { s with heap := h8, toks := t6 + 1 + 1 + 1 + 1 }) n8 (by rfl) ⟨"list", _, list_getitem_lookup, g8.typeIs, getItem_listL g8 (by omega) (by simp; omega) (by simpa using ea) ?_⟩))
      refine ⟨kp_refl _, _, IterOf.list hh ?_⟩
      rw [Array.toArray_toList]; exact pa.isList
    · intro C j v s₃ m₃ E' hP hns hm hk
      obtain ⟨z, t, rfl⟩ := ints_int ia (List.mem_of_getElem? hP)
      exact wpAny_tests_one (wpAny_isTrue_Compare1 (nmL hns hm (nmC (c38.keeps hk) (lt_int (wpAny_truthy_bool ⟨rfl, kp_refl _⟩)))))
    intro D1 y1 v1 s9 K9 hpl9 hD9 hlen9 hP9 hF9
    obtain ⟨h9, t9, rfl, k9⟩ := K9
    have e9 := paired_eq hF9
    rw [list_eq_of hlen9 hP9] at e9
    have z1 : y1.size = ((hRows ds i).filter fun h => decide (h < V)).length := by rw [← filter_ints ia (fun z => decide (z < V)), ← e9, Array.length_toList]
    have hrl : (hRows ds i).length = ds.length := by simp [hRows]
    have b1 : ((hRows ds i).filter fun h => decide (h < V)).length ≤ (hRows ds i).length := List.length_filter_le _ _
    have b2 : ((hRows ds i).filter fun h => decide (h ≤ V)).length ≤ (hRows ds i).length := List.length_filter_le _ _
    refine args_nil (call_len_list hpl9.isList (by rw [z1]; omega) ?_)
    have B9 := B8.keeps k9
    have g9 : h9.IsList G gs.toList.toArray := g8.at fun o e => k9 _ _ e
    refine wp_at { s with heap := h9, toks := t9 + 1 + 1 } rfl ?_
    refine wpAny_items_cons (Call_ (nmB (s := { s with heap := h9, toks := t9 + 1 + 1 }) B9 (by rfl) (by boot_by_name) (callWith_builtin1 (args_cons ?_))))
    refine lc_expr (n := ya.toList.length) (P := fun i v => ya.toList[i]? = some v) (fun v => decide (iOf v ≤ V)) (fun v y => y = v) (by omega) ?_ ?_ (fun C i v s₃ m₃ E' hP hp hns hm hk => nmL hns hm ⟨rfl, kp_refl _⟩) ?_
    · refine sub_any (nmC (s := { s with heap := h9, toks := t9 + 1 + 1 }) (c48.keeps k9) (nmL (s := { s with heap := h9, toks := t9 + 1 + 1 }) (n8.keeps k9) (by rfl) ⟨"list", _, list_getitem_lookup, g9.typeIs, getItem_listL g9 (by omega) (by simp; omega) (by simpa using ea) ?_⟩))
      refine ⟨kp_refl _, _, IterOf.list hh ?_⟩
      rw [Array.toArray_toList]; exact pa.isList.at fun o e => k9 _ _ e
    · intro C j v s₃ m₃ E' hP hns hm hk
      obtain ⟨z, t, rfl⟩ := ints_int ia (List.mem_of_getElem? hP)
      exact wpAny_tests_one (wpAny_isTrue_Compare1 (nmL hns hm (nmC ((c38.keeps k9).keeps hk) (le_int (wpAny_truthy_bool ⟨rfl, kp_refl _⟩)))))
    intro D2 y2 v2 s10 K10 hpl10 hD10 hlen10 hP10 hF10
    obtain ⟨h10, t10, rfl, k10⟩ := K10
    have e10 := paired_eq hF10
    rw [list_eq_of hlen10 hP10] at e10
    have z2 : y2.size = ((hRows ds i).filter fun h => decide (h ≤ V)).length := by rw [← filter_ints ia (fun z => decide (z ≤ V)), ← e10, Array.length_toList]
    refine args_nil (call_len_list hpl10.isList (by rw [z2]; omega) ?_)
    refine wpAny_items_nil ⟨by simp [sizeLine_eq], ?_⟩
    have N11 : Nw h10 h10.objs.size { cls := .type "list", data := .seq [Value.int (y1.size : Nat) (t9 + 1), .int (y2.size : Nat) (t10 + 1)].toArray } (h10.push { cls := .type "list", data := .seq [Value.int (y1.size : Nat) (t9 + 1), .int (y2.size : Nat) (t10 + 1)].toArray }) := nw_push rfl
    refine wp_at { s with heap := h10.push { cls := .type "list", data := .seq [Value.int (y1.size : Nat) (t9 + 1), .int (y2.size : Nat) (t10 + 1)].toArray }, toks := t10 + 1 + 1 } rfl ?_
    show wpAny _ _ (call (.builtin "list.append") [.ref D, .ref h10.objs.size]) _ _ _
    generalize h10.objs.size = D3 at *
    generalize h10.push { cls := .type "list", data := .seq [Value.int (y1.size : Nat) (t9 + 1), .int (y2.size : Nat) (t10 + 1)].toArray } = h11 at *
    have k811 : HK h8 h11 := fun b o e => N11.keep _ _ (k10 _ _ (k9 _ _ e))
    have nD3 : ∀ b o, h8.get? b = some o → D3 ≠ b := fun b o e q => N11.new _ _ (k10 _ _ (k9 _ _ e)) q.symm
    have d3D : D3 ≠ D := by obtain ⟨o, n, e, _⟩ := p8; exact nD3 _ _ e
    have d3L : D3 ≠ L := by obtain ⟨o, _, _, e, _⟩ := n8; exact nD3 _ _ e
    have d33 : D3 ≠ L + 3 := by obtain ⟨o, e, _⟩ := c38; exact nD3 _ _ e
    have d3I : D3 ≠ I := nD3 _ _ eI8
    have p11 : PlainL h11 D gsD.toArray := p8.keeps k811
    have lgD : gsD.length = i := by rw [l8.1]; simp
    refine list_append_plainL (s := { s with heap := h11, toks := t10 + 1 + 1 }) p11 (fun h12 p12 hs12 => ?_) (by simp [lgD, sizeLine_eq]; omega)
    have k12 : ∀ b o, b ≠ D → h8.get? b = some o → h12.get? b = some o := fun b o hb e => (hs12.2 b hb).trans (k811 _ _ e)
    obtain ⟨wv', c312⟩ : ∃ q, h12.IsCell (L + 3) q := by obtain ⟨o, e, d⟩ := c38; exact ⟨_, o, k12 _ _ (aD.2 3 (by decide) (by decide)).symm e, d⟩
    refine wpAny_execs_nil ⟨rfl, ⟨h12, _, _, wv', gsD ++ [.ref D3], rfl, fun b o b1 b2 b3 b4 e => k12 b o b4 (k78 _ _ b3 (k57 _ _ b1 b2 b3 b4 e)), n8.at' fun o e => k12 _ _ aD.1.symm e, ?_, c312, ?_, ?_⟩, fun b o hb e => ?_⟩
    · intro y hy
      show (if y = Str.ofString "m" then _ else _) = _
      rw [if_neg hy, m6 y hy]
    · have : (gsD ++ [Value.ref D3]).toArray = gsD.toArray.push (.ref D3) := by simp
      rw [this]; exact p12
    · have e : (List.range (i + 1)).map (dueOf ds N) = (List.range i).map (dueOf ds N) ++ [dueOf ds N i] := by rw [List.range_succ, List.map_append]; rfl
      rw [e]
      refine LL.snoc (ys := [Value.int (y1.size : Nat) (t9 + 1), .int (y2.size : Nat) (t10 + 1)].toArray) (l8.mono (fun b o hb e => k12 _ _ (fun q => hb (by simp [q])) e) fun _ e => e) ⟨0, (hs12.2 _ d3D).trans N11.at_⟩ ?_ (by simp [d3L, d33, d3D, d3I])
      unfold dueOf
      rw [hW, ← z1, ← z2]
      exact .cons _ _ (.cons _ _ .nil)
    · have b2 : b ≠ L := fun q => hb (by simp [q])
      have b3 : b ≠ L + 3 := fun q => hb (by simp [q])
      have b4 : b ≠ D := fun q => hb (by simp [q])
      exact k12 _ _ b4 (k78 _ _ b3 ((hs7.2 b b2).trans e))
  · rintro s' ⟨h6, t6, mloc, wv, gsD, rfl, k6, n6, m6, w6, p6, l6⟩
    have ks6 : ∀ b o, b ≠ L → b ≠ L + 3 → b ≠ D → s.heap.get? b = some o → h6.get? b = some o := fun b o b2 b3 b4 e => k6 b o (nI _ _ e) b2 b3 b4 (k45 _ _ e)
    refine h mloc wv gsD.toArray _ h6 t6 rfl ks6 m6 ?_ p6.isList (l6.mono (fun b o hb e => e) (fun _ e => by cases e))
    refine ⟨fun b o e => ks6 b o (Nat.ne_of_lt (x.above _ _ e)) (Nat.ne_of_lt (Nat.lt_of_lt_of_le (x.above _ _ e) (Nat.le_add_right _ _))) (fun q => by rw [q, h0D] at e; cases e) (x.keep _ _ e), n6, fun j j1 j7 => ?_, x.above, ?_, ?_, x.n23, x.n49, x.l23⟩
    · by_cases hj : j = 3
      · rw [if_pos hj, hj]; exact w6
      · rw [if_neg hj]
        obtain ⟨o, e, d⟩ := x.cs j j1 j7
        exact ⟨o, ks6 _ _ (addr_ne1 L j j1) (addr_ne2 L j 3 hj) (aD.2 j j1 j7).symm e, d⟩
    · obtain ⟨ps, e, t⟩ := x.t23
      refine ⟨ps, ?_, t⟩
      refine (ks6 _ _ (Nat.ne_of_lt (Nat.lt_trans (by decide) x.l23)) (Nat.ne_of_lt (Nat.lt_of_lt_of_le (Nat.lt_trans (by decide) x.l23) (Nat.le_add_right _ _))) (fun q => ?_) e)
      obtain ⟨n, e2⟩ := hD
      rw [← q, e] at e2
      exact absurd (congrArg Obj.data (Option.some.inj e2)) (by intro e; cases e)
    · obtain ⟨ps, e, t⟩ := x.t49
      refine ⟨ps, ?_, t⟩
      refine (ks6 _ _ (Nat.ne_of_lt x.l23) (Nat.ne_of_lt (Nat.lt_of_lt_of_le x.l23 (Nat.le_add_right _ _))) (fun q => ?_) e)
      obtain ⟨n, e2⟩ := hD
      rw [← q, e] at e2
      exact absurd (congrArg Obj.data (Option.some.inj e2)) (by intro e; cases e)
end
end Mine
end

-- part SortR
section
set_option maxRecDepth 100000
set_option maxHeartbeats 4000000
namespace Mine
open PySem.Calls
section
variable {prog : Program} {w : World} {A : Around} {E : Value → Shared → Prop} {s : Shared}
theorem collect_code {r : Addr} {n : Nat} {t u v : Tok} {R : Result → Shared → Prop} (hh : A.handled = none) (hr : IsRange s.heap r 0 (n : Int) 1 t u v) (hn : n < 1000)
    (h : ∀ h' tk acc c', HK s.heap h' → h'.get? s.heap.objs.size = some { cls := .type "list", dict := none, data := .seq acc c', slots := #[] } → ItemsOf (fun i v => ∃ t, v = Value.int (0 + (i : Int) * 1) t) acc n → R (.ok (.ret (.ref s.heap.objs.size))) { s with heap := h', toks := tk }) :
    codeAny (model prog w) A (.builtin "proto.collect" ⟨[.ref r], []⟩) R s := by
  refine codeAny_builtin PySem.F.entry_proto_collect ?_
  rw [Around.under_plainId PySem.F.plain_proto_collect _]
  show wpAny _ A.in1 (newList [] >>= fun l => again (.builtin "list.__iadd__" ⟨[l, .ref r], []⟩)) _ _ s
  refine wpAny_bind (wpAny_newObj_type ?_)
  refine wpAny_pure ⟨plainId_quiet PySem.F.plain_list_iadd _, codeAny_builtin PySem.F.entry_list_iadd ?_⟩
  rw [Around.under_plainId PySem.F.plain_list_iadd _]
  show wpAny _ A.in1 (Builtin.List.listExtendWith (.ref s.heap.objs.size) (.ref r) (.ref s.heap.objs.size)) _ _ _
  have hsz : Builtin.Range.rangeSize 0 (n : Int) 1 = (n : Int) := by rw [rangeSize_one]; split <;> omega
  have hS₁ : (s.heap.push { cls := .type "list", data := .seq ([] : List Value).toArray }).get? s.heap.objs.size = some { cls := .type "list", data := .seq ([] : List Value).toArray } := Heap.get?_push_size _ rfl
  refine wpAny_extend_range (R := R) (s := { s with heap := s.heap.push { cls := .type "list", data := .seq ([] : List Value).toArray } }) (n := n) (t := t) (u := u) (v := v) hh (Heap.get?_push_of_some _ hr) (small_one (by decide) (by decide) (by omega) (by omega)) hsz (by omega) s.heap.objs.size _ 0 hS₁ fun h' tk acc c' hk hS' hacc => ?_
  exact h h' tk acc c' (fun b o e => hk b o (Nat.ne_of_lt (Heap.lt_size e)) (Heap.get?_push_of_some _ e)) hS' hacc
theorem collect_rng {r : Addr} {n : Nat} {t u v : Tok} {Q : List Value → Shared → Prop} (hh : A.handled = none) (hr : IsRange s.heap r 0 (n : Int) 1 t u v) (hn : n < 1000)
    (h : ∀ vs h' tk, HK s.heap h' → List.length vs = n → (∀ (i : Nat) v, vs[i]? = some v → ∃ t, v = Value.int (i : Int) t) → Q vs { s with heap := h', toks := tk }) :
    wpAny (model prog w) A (collect (.ref r)) Q E s := by
  unfold collect
  refine wpAny_bind (wpAny_runValue (collect_code hh hr hn fun h' tk acc c' hk hS' hacc => ?_))
  show wpAny _ A (load s.heap.objs.size >>= _) _ _ _
  refine wpAny_bind (wpAny_load hS' ?_)
  refine wpAny_pure (h acc.toList h' tk hk ?_ ?_)
  · rw [Array.length_toList]; exact hacc.1
  · intro i v e
    obtain ⟨t, ht⟩ := hacc.2 i v (by rw [← Array.getElem?_toList]; exact e)
    exact ⟨t, by rw [ht]; congr 1; omega⟩
theorem sorted_R {r q : Addr} {n : Nat} {t u v : Tok} {ks : List Int} {Q : Value → Shared → Prop} (hh : A.handled = none) (hr : IsRange s.heap r 0 (n : Int) 1 t u v) (h2 : 2 ≤ n) (h64 : n < 64) (hks : ks.length = n)
    (hkey : ∀ (i : Nat) t s', i < n → Keeps s s' → wpAny (model prog w) A.in1.in1 (call (.ref q) [.int (i : Int) t]) (fun r s'' => Keeps s' s'' ∧ ∃ t, r = .int (ks.getD i 0) t) (fun _ _ => False) s')
    (h : ∀ D p vs s'' c, Keeps s s'' → List.length vs = n → (∀ (i : Nat) v, vs[i]? = some v → ∃ t, v = Value.int (i : Int) t) → Gp n p → SoT (fun i => ks.getD i 0) p n → s''.heap.get? D = some (seqObj "list" (p.map fun i => vs.getD i Value.none) c) → Q (.ref D) s'') :
    wpAny (model prog w) A (call (.builtin "sorted") [.ref r] [(Str.ofString "key", .ref q)]) Q E s := by
  refine call_function_entry_kw kind_sorted plain_sorted entry_sorted (ksk_s1 _ _) ?_
  unfold Builtin.«sorted»
  refine wpAny_bind (m := checkCount "sorted" 1 1 _) (wpAny_pure ?_)
  refine wpAny_bind (collect_rng (A := A.in1) hh hr (by omega) fun vs h' tk hk hlen hvs => ?_)
  refine wpAny_bind (wpAny_newList ?_ (by rw [sizeLine_eq]; omega))
  have N1 : Nw h' h'.objs.size (seqObj "list" vs.toArray 0) (h'.push (seqObj "list" vs.toArray 0)) := nw_push rfl
  show wpAny _ _ _ _ _ { s with heap := h'.push (seqObj "list" vs.toArray 0), toks := tk }
  have keep : HK h' (h'.push (seqObj "list" vs.toArray 0)) := fun b o e => N1.keep _ _ e
  have K0 : Keeps s { s with heap := h', toks := tk } := ⟨h', tk, rfl, hk⟩
  have hoL := N1.at_
  generalize h'.push (seqObj "list" vs.toArray 0) = h1 at *
  refine wpAny_bind (wpAny_holding (wpAny_call_entry_kw slot_list_sort ⟨_, hoL, rfl⟩ entry_list_sort ?body (ksk_l1 _ _)))
  case body =>
    have ht' : Builtin.«list.sort» ⟨[.ref h'.objs.size], [(Str.ofString "key", .ref q)]⟩ = ksk_tree h'.objs.size (.ref q) false := ksk_t1 _ _
    show wpAny (model prog w) A.in1.in1 (Builtin.«list.sort» ⟨[.ref h'.objs.size], [(Str.ofString "key", .ref q)]⟩) _ _ _
    rw [ht']
    refine sk_tree (s := { s with heap := h', toks := tk }) (KR := fun h i k => ∃ t, k = .int (ks.getD i 0) t) (rank := fun i => ks.getD i 0) (vs := vs) ⟨h1, tk, rfl, keep⟩ hoL (Nat.le_refl _) (by omega) (by omega) ?_ ?_ ?_ ?_ fun p s'' c k g o e => ⟨_, rfl, ?_⟩
    · rintro h h' i k nl ⟨t, rfl⟩
      exact ⟨t, rfl⟩
    · intro i v s' hv kp
      obtain ⟨ti, rfl⟩ := hvs i v hv
      have hi : i < n := by rw [← hlen]; exact (List.getElem?_eq_some_iff.mp hv).1
      exact hkey i ti s' hi (kp_trans K0 kp)
    · intro keys s' hz kp hK
      have he : keys = keys.toList.toArray := by simp
      rw [he]
      refine kas_kind (T := .type "int") (by simp [hz]; omega) (fun v hv => ?_) (by decide +kernel) (by simp) ⟨rfl, rfl⟩
      obtain ⟨i, hi⟩ := List.getElem?_of_mem hv
      obtain ⟨t, rfl⟩ := hK i v (by rw [← Array.getElem?_toList]; exact hi)
      exact Looks.of_pure rfl
    · rintro i j ki kj s' hi hj kp ⟨t, rfl⟩ ⟨u, rfl⟩ Cc hC
      rw [keyLt'_oneType]
      exact oneLt_int (hC s' (kp_refl _))
    · rw [hlen] at g o
      exact wpAny_pure ⟨_, rfl, h _ p vs s'' c (kp_trans K0 k) hlen hvs g o e⟩
end
end Mine
end

-- part LawK
section
set_option maxRecDepth 100000
set_option maxHeartbeats 4000000
namespace Mine
open PySem.Calls
section
variable {prog : Program} {w : World} {A : Around} {E : Value → Shared → Prop} {s : Shared} {mg mb : Str → Option Value} {h₀ : Heap} {L fl : Addr} {ml : Str → Option Value} {cv : Nat → Option Value} {env : Env}
/-- a comprehension whose source changes what it will: all told from the source's state on -/
theorem lc_exprS {elt iter : Expr} {x : Str} {px : Pos} {ifs : List Expr} {scope : Scope} {cl : List (Str × Addr)} {pos : Pos} {Q : Value → Shared → Prop} (p : Value → Bool) (F : Value → Value → Prop)
    (hi : wpAny (model prog w) A (eval iter env) (fun xv s₁ => ∃ src n P, n < 1000 ∧ IterOf prog w A xv src n P s₁ ∧
      (∀ C i v s₃ m₃ E', P i v → s₃.heap.Ns C m₃ → m₃ x = some v → HK s₁.heap s₃.heap →
        wpAny (model prog w) A (forIn ifs true fun c r => if r = true then do let ok ← isTrue c (compEnvC scope cl C env) (eval c (compEnvC scope cl C env)); pure (ForInStep.yield ok) else pure (ForInStep.yield r)) (fun ok s₄ => ok = p v ∧ Keeps s₃ s₄) E' s₃) ∧
      (∀ C i v s₃ m₃ E', P i v → p v = true → s₃.heap.Ns C m₃ → m₃ x = some v → HK s₁.heap s₃.heap → wpAny (model prog w) A (eval elt (compEnvC scope cl C env)) (fun y s₄ => F v y ∧ Keeps s₃ s₄) E' s₃) ∧
      (∀ D ys (vs : List Value) s', Keeps s₁ s' → s'.heap.PlainList D ys → vs.length = n → (∀ (j : Nat) v, vs[j]? = some v → P j v) → Paired F (vs.filter p) ys.toList → Q (.ref D) s')) E s)
    (hclos : closureFor scope env = pure cl := by rfl) (hcell : ∀ y ∈ scope.names, y.2 ≠ .cell := by decide) (hkind : scope.kind = .function := by rfl)
    (hnames : ∀ y ∈ scope.names, y.2 = .local → scope.names.lookup y.1 = some .local := by decide) (hx : scope.names.lookup x = some .local := by rfl)
    (hs : ∀ x, foldedSetIterable iter env x = pure x := by intro _; rfl) :
    wpAny (model prog w) A (eval (.ListComp elt [⟨.Name x px, iter, ifs, 0⟩] scope pos) env) Q E s := by
  refine wpAny_ListComp_free p F hclos hcell hkind hnames hx (wpAny_mono hi (fun xv s₁ h₁ => ?_) fun _ _ e => e) hs
  obtain ⟨src, n, P, hn, it, ht, he, hQ⟩ := h₁
  refine it _ _ fun I St s₂ k2 hI W hst hfp _ => ⟨I, I :: src, [I], n, P, St, rfl, W, by rw [sizeLine_eq]; omega, hst, hfp, ⟨?_, ?_⟩, ?_⟩
  · intro C i v s₃ m₃ E' _ hP hns hm hk _
    exact ht C i v s₃ m₃ E' hP hns hm fun b o e => hk b o (fun hb => by rw [List.mem_singleton.mp hb] at e; rw [e] at hI; cases hI) (kp_heap k2 _ _ e)
  · intro C i v s₃ m₃ E' _ hP hp hns hm hk _
    exact he C i v s₃ m₃ E' hP hp hns hm fun b o e => hk b o (fun hb => by rw [List.mem_singleton.mp hb] at e; rw [e] at hI; cases hI) (kp_heap k2 _ _ e)
  · intro D h' tk ys vs hD _ hpl hlen hP hF hk
    obtain ⟨h2, t2, rfl, kk2⟩ := k2
    exact hQ D ys vs _ ⟨h', tk, rfl, fun b o e => hk b o (fun hb => by rw [List.mem_singleton.mp hb] at e; rw [e] at hI; cases hI) (kk2 _ _ e)⟩ hpl hlen hP hF
theorem all_true {n : Nat} {e : Nat → Bool} (h : ∀ j, j < n → e j = true) : (List.range n).all e = true := by
  rw [List.all_eq_true]
  intro j hj
  exact h j (by simpa using hj)
/-- two lists of the same texts -/
theorem eq_strs {a b : Addr} {vs us : Array Value} {ss : List Str} {Q : Value → Shared → Prop} (ha : s.heap.IsList a vs) (hb : s.heap.IsList b us) (ia : StrsAre vs.toList ss) (ib : StrsAre us.toList ss) (hu : A.units < cLine)
    (h : Q (.bool true) s) : wpAny (model prog w) A (compareOp .Eq (.ref a) (.ref b)) Q E s := by
  have l1 : vs.size = ss.length := by rw [← Array.length_toList, strs_len ia]
  have l2 : us.size = ss.length := by rw [← Array.length_toList, strs_len ib]
  refine SeqAt.eq_listAt (e := fun _ => true) ha hb (by omega) hu (fun j h1 h2 => ?_) (by rw [all_true fun _ _ => rfl]; exact h)
  obtain ⟨t1, e1⟩ := ia.get j (ss.getD j ⟨#[]⟩) (by simp [show j < ss.length by omega])
  obtain ⟨t2, e2⟩ := ib.get j (ss.getD j ⟨#[]⟩) (by simp [show j < ss.length by omega])
  rw [Array.getElem?_toList, Array.getElem?_eq_getElem h1] at e1
  rw [Array.getElem?_toList, Array.getElem?_eq_getElem h2] at e2
  rw [Option.some.inj e1, Option.some.inj e2]
  have g := SeqRoads2.EqGives.str (ss.getD j ⟨#[]⟩) (ss.getD j ⟨#[]⟩) t1 t2
  rw [beq_self_eq_true] at g
  exact g.at _ _
/-- two lists of the same lists of ints -/
theorem eq_LL {a b : Addr} {vs us : Array Value} {nss : List (List Int)} {Q : Value → Shared → Prop} (ha : s.heap.IsList a vs) (hb : s.heap.IsList b us) (ia : LL s.heap [] vs.toList nss) (ib : LL s.heap [] us.toList nss) (hu : A.in1.units + 64 < cLine)
    (h : Q (.bool true) s) : wpAny (model prog w) A (compareOp .Eq (.ref a) (.ref b)) Q E s := by
  have l1 : vs.size = nss.length := by rw [← Array.length_toList, ia.1]
  have l2 : us.size = nss.length := by rw [← Array.length_toList, ib.1]
  refine SeqAt.eq_listAt (e := fun _ => true) ha hb (by omega) (by have : A.in1.units = A.units + 1 := rfl; omega) (fun j h1 h2 => ?_) (by rw [all_true fun _ _ => rfl]; exact h)
  obtain ⟨a1, y1, e1, p1, i1, _⟩ := ia.2 j (nss.getD j []) (by simp [show j < nss.length by omega])
  obtain ⟨a2, y2, e2, p2, i2, _⟩ := ib.2 j (nss.getD j []) (by simp [show j < nss.length by omega])
  rw [Array.getElem?_toList, Array.getElem?_eq_getElem h1] at e1
  rw [Array.getElem?_toList, Array.getElem?_eq_getElem h2] at e2
  rw [Option.some.inj e1, Option.some.inj e2]
  have g := keq_ints (A := A) (s := s) (vs := y1.toList) (us := y2.toList) (by rw [Array.toArray_toList]; exact p1.isList) i1 (by rw [Array.toArray_toList]; exact p2.isList) i2 hu
  rw [decide_eq_true rfl] at g
  exact g
end
end Mine
end

-- part LawL
section
set_option maxRecDepth 100000
set_option maxHeartbeats 4000000
namespace Mine
open PySem.Calls
section
variable {prog : Program} {w : World} {A : Around} {E : Value → Shared → Prop} {s : Shared} {mg mb : Str → Option Value} {h₀ : Heap} {L fl : Addr} {ml : Str → Option Value} {cv : Nat → Option Value}
theorem paired_map {f : Value → Value} {l1 l2 : List Value} (h : Paired (fun v y => y = f v) l1 l2) : l2 = l1.map f := by
  induction h with
  | nil => rfl
  | cons a _ ih => rw [ih, a]; rfl
theorem strs_pick {l : List Nat} {g : Nat → Value} {k : Nat → Str} (h : ∀ q ∈ l, ∃ t, g q = .str (k q) t) : StrsAre (l.map g) (l.map k) := by
  induction l with
  | nil => exact .nil
  | cons q l ih =>
    obtain ⟨t, e⟩ := h q (.head _)
    rw [List.map_cons, List.map_cons, e]
    exact .cons _ _ (ih fun q' hq => h q' (.tail _ hq))
theorem law14 {T D R V G : Addr} {gt gd rv gs : Array Value} {tv : List Value} {tss : List (List Int)} {ds : List Int} {ls rs : List Str} {c c' : Tok} {k0 : Addr} {Q : Flow → Shared → Prop} (hh : A.handled = none) (hu : A.in1.units + 64 < cLine) (hd : A.depth + 1 < recursionLimit) (B : Bs w mg mb h₀) (C51 : CodeHd h₀ 51 49) (x : LS h₀ L ml cv s.heap)
    (c49 : cv 49 = some (.ref k0))
    (mT : ml "told" = some (.ref T)) (hT : s.heap.IsList T gt) (lT : LL s.heap [] gt.toList tss)
    (mD : ml "due" = some (.ref D)) (hD : s.heap.IsList D gd) (lD : LL s.heap [] gd.toList tss)
    (mR : ml "row" = some (.ref R)) (hR : s.heap.PlainList R rv) (iR : StrsAre rv.toList rs)
    (c1 : cv 1 = some (.ref V)) (hV : s.heap.PlainList V tv.toArray) (iV : StrsAre tv ((List.range ds.length).map (rotS ls)))
    (c4 : cv 4 = some (.ref G)) (hG : s.heap.IsList G gs) (lG : LL s.heap [] gs.toList ((List.range (ds.length + 1)).map (hRows ds)))
    (c7 : cv 7 = some (.int (ds.length : Nat) c)) (n2 : 2 ≤ ds.length) (n12 : ds.length ≤ 12)
    (hrow : ∀ p : Array Nat, Gp ds.length p → SoT (fun i => (hRows ds ds.length).getD i 0) p ds.length → rs = p.toList.map (rotS ls))
    (h : ∀ s' h' t', s' = { s with heap := h', toks := t' } → HK h₀ h' → (∃ ps, h'.get? 23 = some (tabObj ps)) → (∃ ps, h'.get? 49 = some (tabObj ps)) → Q (.ret (.bool true)) s') :
    wpAny (model prog w) A (exec (lawSt 13) (lawEnv L fl)) Q E s := by
  have h49 : s.heap.get? 49 = some (tabObj (#[] ++ #[rawInt 62, rawInt 18, .ref k0])) := by
    obtain ⟨ps, q, t⟩ := x.t49
    rw [c49] at t
    rcases t with t | t
    · cases t
    · rw [q, t]
  have B1 := B.keeps x.keep
  have k7 := x.cs 7 (by decide) (by decide)
  rw [c7] at k7
  refine wpAny_Return_some (wpAny_And2 (wpAny_Compare1 (nmL x.ns mT (nmL x.ns mD (eq_LL hT hD lT lD hu (wpAny_truthy_bool ?_))))))
  rw [if_pos rfl]
  refine wpAny_Compare1 (nmL x.ns mR ?_)
  refine lc_exprS (fun _ => true) (fun v y => y = (fun v => tv.getD (iOf v).toNat Value.none) v) ?_
  refine wpAny_Call_Name_kw (nmB B1 (by rfl) (by boot_by_name) (callWith_kw (args_cons (Call_ (nmB B1 (by rfl) (by boot_by_name) (callWith_type1 (args_cons (nmC k7 (args_nil (call_range_1 ?_))))))))))
  have hr0 := IsRange.new s.heap 0 ((ds.length : Nat) : Int) 1 s.toks c (s.toks + 1)
  have N1 : Nw s.heap s.heap.objs.size { cls := .type "range", data := .fields #[.int 0 s.toks, .int ((ds.length : Nat) : Int) c, .int 1 (s.toks + 1)] } (s.heap.push { cls := .type "range", data := .fields #[.int 0 s.toks, .int ((ds.length : Nat) : Int) c, .int 1 (s.toks + 1)] }) := nw_push rfl
  refine wp_at { s with heap := s.heap.push { cls := .type "range", data := .fields #[.int 0 s.toks, .int ((ds.length : Nat) : Int) c, .int 1 (s.toks + 1)] }, toks := s.toks + 1 + 1 } rfl ?_
  generalize s.heap.objs.size = r at *
  generalize s.heap.push { cls := .type "range", data := .fields #[.int 0 s.toks, .int ((ds.length : Nat) : Int) c, .int 1 (s.toks + 1)] } = h1 at *
  have x1 := x.hk N1.keep
  refine args_nil (kws_cons ?_)
  refine eval_lam (s := { s with heap := h1, toks := s.toks + 1 + 1 }) B x1 C51 (N1.keep _ _ h49) trivial rfl (by rfl) (by rfl) fun f cc ctv pm h2 t2 k2 hf hc t49 => ?_
  obtain ⟨x2, o2⟩ := x1.tab49 .none ⟨_, t49, .inl rfl⟩ k2
  have h9 : ∀ a its, s.heap.IsList a its → h2.IsList a its := fun a its q => by
    obtain ⟨o, e, cl, n, d⟩ := q
    refine ⟨o, k2 _ _ (fun z => ?_) (N1.keep _ _ e), cl, n, d⟩
    obtain ⟨ps, e2, _⟩ := x.t49
    rw [z, e2] at e
    cases e; cases d
  have o02 : OL s.heap h2 := ol_trans (ol_hk N1.keep) o2
  have B2 := B.keeps x2.keep
  have hr2 : IsRange h2 r 0 ((ds.length : Nat) : Int) 1 s.toks c (s.toks + 1) := by
    exact k2 _ _ (N1.new _ _ h49).symm hr0
  refine kws_nil ?_
  have k7' : h2.IsCell (L + 7) (cv 7) := x2.cs 7 (by decide) (by decide)
  rw [c7] at k7'
  have k4' : h2.IsCell (L + 4) (cv 4) := x2.cs 4 (by decide) (by decide)
  rw [c4] at k4'
  have k1' : h2.IsCell (L + 1) (cv 1) := x2.cs 1 (by decide) (by decide)
  rw [c1] at k1'
  have g2 : h2.IsList G gs.toList.toArray := by rw [Array.toArray_toList]; exact h9 _ _ hG
  have lG2 := lG.ol o02
  have lgs : gs.size = ds.length + 1 := by have := lG.1; simpa using this
  obtain ⟨a, ya, ea, pa, ia, _⟩ := lG2.2 ds.length (hRows ds ds.length) (by simp)
  have lr2 : (hRows ds ds.length).length = ds.length := by simp [hRows]
  have lya := ints_len ia
  refine wp_at { s with heap := h2, toks := t2 } rfl ?_
  refine sorted_R (s := { s with heap := h2, toks := t2 }) (ks := hRows ds ds.length) hh hr2 n2 (by omega) lr2 ?_ ?_
  · intro i ti s' hi K'
    have hk := kp_heap K'
    refine wpAny_call (call_lam (binds := [("i", .int (i : Int) ti)]) (Nat.lt_of_succ_lt hd) (hk _ _ hf) (B2.keeps hk).nolimit (hc.keeps hk) rfl (locs rfl) fun L' s1 K1 hn => ?_)
    have hk1 : HK h2 s1.heap := fun b o e => kp_heap K1 _ _ (hk _ _ e)
    have g1 : s1.heap.IsList G gs.toList.toArray := g2.at fun o e => hk1 _ _ e
    have a1 : s1.heap.IsList a ya.toList.toArray := by rw [Array.toArray_toList]; exact pa.isList.at fun o e => hk1 _ _ e
    obtain ⟨tk, ek⟩ := ints_get ia (i := i) (by omega)
    refine sub_any (sub_any (nmF (k4'.keeps hk1) (nmF (k7'.keeps hk1) ⟨"list", _, list_getitem_lookup, g1.typeIs, getItem_listL g1 (by omega) (by simp; omega) (by simpa using ea) ?_⟩)))
    refine nmL hn rfl ⟨"list", _, list_getitem_lookup, a1.typeIs, getItem_listL a1 (by omega) (by omega) (by simpa using ek) ?_⟩
    exact ⟨K1, _, rfl⟩
  · intro D1 p vs s3 c3 K3 hlen hvs g so e3
    obtain ⟨h3, t3, rfl, k3⟩ := K3
    have hp := gp_list g
    have hlt : ∀ q ∈ p.toList, q < ds.length := fun q hq => by simpa using hp.mem_iff.mp hq
    have hvq : ∀ q, q < ds.length → ∃ t, vs.getD q Value.none = .int (q : Int) t := fun q hq => by
      have e : vs[q]? = some (vs.getD q Value.none) := by simp [show q < vs.length by omega]
      exact hvs q _ e
    have ltv : tv.length = ds.length := by rw [strs_len iV]; simp
    have htq : ∀ q, q < ds.length → ∃ t, tv.getD q Value.none = .str (rotS ls q) t := fun q hq => by
      obtain ⟨t, e⟩ := iV.get q (rotS ls q) (by simp [hq])
      exact ⟨t, by simp [e]⟩
    have e3' : h3.PlainList D1 (p.toList.map fun i => vs.getD i Value.none).toArray := ⟨c3, by rw [e3, ← Array.toList_map, Array.toArray_toList]⟩
    have lp : p.toList.length = ds.length := by rw [hp.length_eq]; simp
    have hV3 : h3.IsList V tv.toArray := (PlainList.ol hV (ol_trans o02 (ol_hk k3))).isList
    refine ⟨_, _, _, ?_, IterOf.list hh e3'.isList, fun C i v s₃ m₃ E' hP hns hm hk => tests0 (v := v), ?_, ?_⟩
    · rw [List.length_map, lp]; omega
    · intro C i v s₃ m₃ E' hP _ hns hm hk
      obtain ⟨q, hq, rfl⟩ := List.mem_map.mp (List.mem_of_getElem? hP)
      obtain ⟨t, et⟩ := hvq q (hlt q hq)
      rw [et] at hm ⊢
      have v3 : s₃.heap.IsList V tv.toArray := hV3.at fun o e => hk _ _ e
      refine sub_any (nmC ((k1'.keeps k3).keeps hk) (nmL hns hm ⟨"list", _, list_getitem_lookup, v3.typeIs, getItem_listL v3 (Int.natCast_nonneg q) (by have := hlt q hq; omega) (x := tv.getD q Value.none) (by rw [Int.toNat_natCast]; simp [show q < tv.length by rw [ltv]; exact hlt q hq]) ?_⟩))
      exact ⟨rfl, kp_refl _⟩
    · rintro D4 ys us s4 ⟨h4, t4, rfl, k4⟩ hpl hlen4 hP4 hF4
      have e4 := paired_map hF4
      rw [list_eq_of hlen4 hP4, List.filter_eq_self.mpr (fun _ _ => rfl), List.map_map] at e4
      have iy : StrsAre ys.toList rs := by
        rw [hrow p g so, e4]
        refine strs_pick fun q hq => ?_
        obtain ⟨t, et⟩ := hvq q (hlt q hq)
        obtain ⟨t', et'⟩ := htq q (hlt q hq)
        exact ⟨t', by simp only [Function.comp, et, iOf, Int.toNat_natCast]; exact et'⟩
      have x4 := x2.hk fun b o e => k4 _ _ (k3 _ _ e)
      refine eq_strs (s := { s with heap := h4, toks := t4 }) (PlainList.ol hR (ol_trans o02 (ol_hk fun b o e => k4 _ _ (k3 _ _ e)))).isList hpl.isList iR iy (by have : A.in1.units = A.units + 1 := rfl; omega) ?_
      exact h _ h4 t4 rfl x4.keep (let ⟨ps, e, _⟩ := x4.t23; ⟨ps, e⟩) (let ⟨ps, e, _⟩ := x4.t49; ⟨ps, e⟩)
end
end Mine
end

-- part Body
section
set_option maxRecDepth 100000
set_option maxHeartbeats 4000000
namespace Mine
open PySem.Calls
theorem digits_len (fs : List Int) (h : fs.length ≤ 8) : 4 ≤ (digitsOf fs).length ∧ (digitsOf fs).length ≤ 8 := by
  unfold digitsOf
  rw [List.length_map, List.length_append, List.length_drop]
  simp
  omega
theorem digits_range (fs : List Int) : ∀ d ∈ digitsOf fs, d = 0 ∨ d = 1 ∨ d = 2 := by
  intro d hd
  unfold digitsOf at hd
  obtain ⟨z, _, rfl⟩ := List.mem_map.mp hd
  exact fmod3 z
theorem ltr_len (d : Int) : (ltr d).length = 1 := by rw [ltr_code]; rfl
theorem map_same {key : Nat → Int} {f : Nat → Str} {n : Nat} (hf : ∀ i j, i < n → j < n → key i = key j → f i = f j) : ∀ {a b : List Nat}, (∀ x ∈ a, x < n) → (∀ x ∈ b, x < n) → a.map key = b.map key → a.map f = b.map f
  | [], [], _, _, _ => rfl
  | [], _ :: _, _, _, h => by simp at h
  | _ :: _, [], _, _, h => by simp at h
  | x :: a, y :: b, ha, hb, h => by
    rw [List.map_cons, List.map_cons] at h ⊢
    obtain ⟨h1, h2⟩ := List.cons.inj h
    rw [hf x y (ha x (.head _)) (hb y (.head _)) h1, map_same hf (fun z hz => ha z (.tail _ hz)) (fun z hz => hb z (.tail _ hz)) h2]
section
variable {prog : Program} {w : World} {A : Around} {E : Value → Shared → Prop} {s : Shared} {mg mb : Str → Option Value} {h₀ : Heap} {L fl : Addr} {ml : Str → Option Value} {cv : Nat → Option Value}
theorem law_body {sc : Addr} {vs : List Value} {zs : List Int} {Q : Flow → Shared → Prop} (hh : A.handled = none) (hd : A.depth + 4 < recursionLimit) (hu : A.units + 100 < cLine) (hpy : ∀ s', HK h₀ s'.heap → PylongRoom (model prog w) A s')
    (B : Bs w mg mb h₀) (C27 : CodeHd h₀ 27 23) (C51 : CodeHd h₀ 51 49) (x : LS h₀ L ml cv s.heap) (c23 : cv 23 = none) (c49 : cv 49 = none) (hm : ml "script" = some (.ref sc)) (hs : s.heap.IsList sc vs.toArray) (iv : IntsAre vs zs) (hl : vs.length ≤ 63)
    (h : ∀ s' h' t', s' = { s with heap := h', toks := t' } → HK h₀ h' → (∃ ps, h'.get? 23 = some (tabObj ps)) → (∃ ps, h'.get? 49 = some (tabObj ps)) → Q (.ret (.bool true)) s') :
    wpAny (model prog w) A (execs (fBody (stm 9)) (lawEnv L fl)) Q E s := by
  rw [law_sts]
  have lv := ints_len iv
  have lfs : (zs.take 8).length ≤ 8 := by rw [List.length_take]; omega
  have i1 := ints_take iv 8
  have lf := ints_len i1
  obtain ⟨n4, n8⟩ := digits_len (zs.take 8) lfs
  have h3 := digits_range (zs.take 8)
  refine wpAny_execs_cons (law1 x hm hs hl fun a s1 h1 t1 e1 o1 x1 p1 => ?_)
  subst e1
  generalize hfs : zs.take 8 = fs at *
  refine wpAny_execs_cons (law2 (s := { s with heap := h1, toks := t1 }) hh B x1 (by rfl) p1 i1 (by omega) fun D s2v s2 h2 t2 e2 o2 x2 p2 i2 => ?_)
  subst e2
  generalize hds : digitsOf fs = ds at *
  have l2 := ints_len i2
  rw [Array.length_toList] at l2
  refine wpAny_execs_cons (law3 (s := { s with heap := h2, toks := t2 }) B x2 (by rfl) p2 (by omega) fun c s3 h3' t3 e3 o3 x3 => ?_)
  subst e3
  have p23 : h3'.PlainList D s2v.toList.toArray := by rw [Array.toArray_toList]; exact PlainList.ol p2 o3
  refine wpAny_execs_cons (law4 (s := { s with heap := h3', toks := t3 }) hh x3 (by rfl) p23 i2 (by rw [Array.length_toList]; omega) h3 fun D4 y4 s4 h4 t4 e4 o4 x4 p4 i4 => ?_)
  subst e4
  have l4 := strs_len i4
  rw [List.length_map] at l4
  have p4' : h4.PlainList D4 y4.toList.toArray := by rw [Array.toArray_toList]; exact p4
  refine wpAny_execs_cons (law5 (s := { s with heap := h4, toks := t4 }) (c := c) hh B x4 (by rfl) (by show some (Value.int ((s2v.size : Nat) : Int) c) = _; rw [l4, l2]) p4' i4 (by omega) (fun a ha => by obtain ⟨d, _, rfl⟩ := List.mem_map.mp ha; exact ltr_len d) fun D5 y5 s5 h5 t5 e5 o5 x5 p5 i5 => ?_)
  subst e5
  rw [l4] at i5
  have l5 := strs_len i5
  rw [List.length_map, List.length_range] at l5
  have p5' : h5.PlainList D5 y5.toList.toArray := by rw [Array.toArray_toList]; exact p5
  have h5q : ∀ q, q < ds.length → ∃ t, y5.toList.getD q Value.none = .str (rotS (ds.map ltr) q) t := fun q hq => by
    obtain ⟨t, e⟩ := i5.get q (rotS (ds.map ltr) q) (by simp [hq])
    exact ⟨t, by rw [List.getD_eq_getElem?_getD, e]; rfl⟩
  have h5e : ∀ i a ta, y5.toList[i]? = some (.str a ta) → i < ds.length ∧ a = rotS (ds.map ltr) i := fun i a ta e => by
    have hi : i < ds.length := by rw [← l5]; exact (List.getElem?_eq_some_iff.mp e).1
    obtain ⟨t, e'⟩ := i5.get i (rotS (ds.map ltr) i) (by simp [hi])
    rw [e] at e'
    cases e'
    exact ⟨hi, rfl⟩
  have l0 : 0 < ds.length := by omega
  refine wpAny_execs_cons (law6 (s := { s with heap := h5, toks := t5 }) (vs := y5.toList) (rank := hRow ds ds.length) hh B C27 x5 c23 (by rfl) p5' (by omega) (by omega) (fun v hv => strs_str i5 hv) ?_ (by show A.units + 1 + 1 < _; omega) (by omega) fun R p s6 h6 t6 e6 o6 x6 g so p6 => ?_)
  · intro i j a b ta tb ea eb
    obtain ⟨hi, rfl⟩ := h5e i a ta ea
    obtain ⟨hj, rfl⟩ := h5e j b tb eb
    exact rot_rank h3 l0 hi hj
  subst e6
  rw [l5] at g so
  have hp := gp_list g
  have hlt : ∀ q ∈ p.toList, q < ds.length := fun q hq => by simpa using hp.mem_iff.mp hq
  have hso := so_pair g so
  have lp : p.toList.length = ds.length := by rw [hp.length_eq]; simp
  have i6 : StrsAre (p.toList.map fun i => y5.toList.getD i Value.none) (p.toList.map (rotS (ds.map ltr))) := strs_pick fun q hq => h5q q (hlt q hq)
  have p6' : h6.PlainList R (p.toList.map fun i => y5.toList.getD i Value.none).toArray := by rw [← Array.toList_map, Array.toArray_toList]; exact p6
  refine wpAny_execs_cons (law7 (s := { s with heap := h6, toks := t6 }) hh x6 (by rfl) p6' i6 (by rw [List.length_map]; omega) (fun a ha => by obtain ⟨q, hq, rfl⟩ := List.mem_map.mp ha; rw [rot_size l0 (hlt q hq)]; exact l0) fun D7 y7 s7 h7 t7 e7 o7 x7 p7 i7 => ?_)
  subst e7
  have o17 : OL h1 h7 := ol_trans o2 (ol_trans o3 (ol_trans o4 (ol_trans o5 (ol_trans o6 o7))))
  have c7' : ((s2v.size : Nat) : Int) = (ds.length : Int) := by rw [l2]
  refine wpAny_execs_cons (law8 (s := { s with heap := h7, toks := t7 }) (n := ds.length) (c := c) hh B x7 (by rfl) (PlainList.ol p1 o17) i1 (by show some (Value.int ((s2v.size : Nat) : Int) c) = _; rw [l2]) (by omega) hpy fun c8 s8 h8 t8 e8 o8 x8 => ?_)
  subst e8
  generalize hN : numberOf fs ds.length = N at *
  refine wpAny_execs_cons (law9 (s := { s with heap := h8, toks := t8 }) (n := ds.length) (N := N) (c := c) (c' := c8) hh B x8 (by show some (Value.int ((s2v.size : Nat) : Int) c) = _; rw [l2]) (by rfl) (by omega) hpy fun S y9 s9 h9 t9 e9 o9 x9 p9 i9 => ?_)
  subst e9
  have l9 := strs_len i9
  rw [List.length_map, List.length_range] at l9
  have l7 := strs_len i7
  rw [List.length_map, List.length_map] at l7
  have p9' : h9.PlainList S y9.toList.toArray := by rw [Array.toArray_toList]; exact p9
  have p4'' : h9.PlainList D4 y4.toList.toArray := PlainList.ol p4' (ol_trans o5 (ol_trans o6 (ol_trans o7 (ol_trans o8 o9))))
  have p7' : h9.PlainList D7 y7.toList.toArray := by rw [Array.toArray_toList]; exact PlainList.ol p7 (ol_trans o8 o9)
  refine wpAny_execs_cons (law10 (s := { s with heap := h9, toks := t9 }) (n := ds.length) (c := c) hh hd B C51 x9 c49 (by rfl) p4'' i4 (by rfl) p7' i7 (by rfl) p9' i9 (by show some (Value.int ((s2v.size : Nat) : Int) c) = _; rw [l2]) (by omega) (by omega) (by omega) (by omega) fun T gt s10 h10 t10 c10 e10 o10 x10 p10 ll10 => ?_)
  subst e10
  rw [l9] at ll10
  have p2' : h10.PlainList D s2v.toList.toArray := PlainList.ol p23 (ol_trans o4 (ol_trans o5 (ol_trans o6 (ol_trans o7 (ol_trans o8 (ol_trans o9 o10))))))
  refine wpAny_execs_cons (law11 (s := { s with heap := h10, toks := t10 }) hh (by omega) B x10 (by rfl) p2' i2 l0 (by omega) fun G gs s11 h11 t11 e11 o11 x11 hG11 ll11 => ?_)
  subst e11
  refine wpAny_execs_cons (law12' (s := { s with heap := h11, toks := t11 }) x11 fun D12 s12 h12 t12 e12 kb12 nD x12 p12 => ?_)
  subst e12
  have nD' : h11.get? D12 = none := nD
  have aG := x11.apart hG11
  have hG12 : h12.IsList G gs := hG11.at fun o e => kb12 _ _ aG.1 e
  have hGD : G ≠ D12 := fun q => by obtain ⟨o, e, _⟩ := hG11; rw [q, nD'] at e; cases e
  have ll12 : LL h12 [D12] gs.toList ((List.range (ds.length + 1)).map (hRows ds)) := by
    refine ⟨ll11.1, fun j ns e => ?_⟩
    obtain ⟨a, ys, q1, q2, q3, _⟩ := ll11.2 j ns e
    have aa := x11.apart q2.isList
    obtain ⟨m, q2'⟩ := q2
    refine ⟨a, ys, q1, ⟨m, kb12 _ _ aa.1 q2'⟩, q3, fun hb => ?_⟩
    rw [List.mem_singleton.mp hb, nD'] at q2'
    cases q2'
  have h0D : h₀.get? D12 = none := by
    cases q : h₀.get? D12 with
    | none => rfl
    | some o => have q2 := x11.keep _ _ q; rw [show _ = _ from nD'] at q2; cases q2
  refine wpAny_execs_cons (law13 (s := { s with heap := h12, toks := t12 }) (ds := ds) (N := N) (c := c) (c' := c8) hh B x12 (by show some (Value.int ((s2v.size : Nat) : Int) c) = _; rw [l2]) (by rfl) (by rfl) hG12 ll12 (by rfl) p12 hGD h0D (by omega) fun mloc wv vd s13 h13 t13 e13 kk13 hml x13 hD13 ll13 => ?_)
  subst e13
  have k1113 : ∀ b o, b ≠ L → b ≠ L + 3 → h11.get? b = some o → h13.get? b = some o := fun b o b1 b2 e => kk13 b o b1 b2 (fun q => by rw [q, nD'] at e; cases e) (kb12 _ _ b1 e)
  have o13 : OL h11 h13 := fun b ys m e => by
    have ab := x11.apart (a := b) (its := ys) ⟨_, e, rfl, m, rfl⟩
    exact k1113 b _ ab.1 (ab.2 3 (by decide) (by decide)) e
  have hG13 : h13.IsList G gs := hG11.at fun o e => k1113 _ _ aG.1 (aG.2 3 (by decide) (by decide)) e
  have htd : (List.range (ds.length + 1)).map (posAt ((List.range ds.length).map fun m => ltr (figAt N m)) (ds.map ltr) ((p.toList.map (rotS (ds.map ltr))).map lastS) (ds.length : Nat)) = (List.range (ds.length + 1)).map (dueOf ds N) := by
    apply List.map_congr_left
    intro m hm
    have hm' : m ≤ ds.length := by have := List.mem_range.mp hm; omega
    rw [posAt_eq h3 l0 hp hso N m hm']
    unfold dueOf
    rw [due_lt, due_le]
  rw [htd] at ll10
  have o613 : OL h6 h13 := ol_trans o7 (ol_trans o8 (ol_trans o9 (ol_trans o10 (ol_trans o11 o13))))
  have hrow : ∀ p' : Array Nat, Gp ds.length p' → SoT (fun i => (hRows ds ds.length).getD i 0) p' ds.length → p.toList.map (rotS (ds.map ltr)) = p'.toList.map (rotS (ds.map ltr)) := by
    intro p' g' so'
    have hp' := gp_list g'
    have hlt' : ∀ q ∈ p'.toList, q < ds.length := fun q hq => by simpa using hp'.mem_iff.mp hq
    have hk : ∀ q, q < ds.length → (hRows ds ds.length).getD q 0 = hRow ds ds.length q := fun q hq => by simp [hRows, hq]
    have hso' : p'.toList.Pairwise fun a b => hRow ds ds.length a ≤ hRow ds ds.length b := (so_pair g' so').imp_of_mem fun {a b} ha hb q => by
      simp only [hk a (hlt' a ha), hk b (hlt' b hb)] at q
      exact q
    exact map_same (fun i j hi hj e => rot_eq h3 l0 hi hj e) hlt hlt' (sorted_same (hp.trans hp'.symm) hso hso')
  refine wpAny_execs_cons (law14 (s := { s with heap := h13, toks := t13 }) (ds := ds) (ls := ds.map ltr) (c := c) (c' := c) (k0 := c10) hh (by show A.units + 1 + 64 < _; omega) (by omega) B C51 x13 (by rfl) (by rw [hml _ (by decide)]; rfl) (PlainList.ol p10 (ol_trans o11 o13)).isList (ll10.ol (ol_trans o11 o13)) (by rw [hml _ (by decide)]; rfl) hD13 ll13
    (by rw [hml _ (by decide)]; rfl) (PlainList.ol p6' o613) i6 (by rfl) (PlainList.ol p5' (ol_trans o6 o613)) i5 (by rfl) hG13 (ll11.ol o13) (by show some (Value.int ((s2v.size : Nat) : Int) c) = _; rw [l2]) (by omega) (by omega) hrow fun s14 h14 t14 e14 k14 q23 q49 => ?_)
  exact h s14 h14 t14 e14 k14 q23 q49
end
end Mine
end

-- part Fin1
section
set_option maxRecDepth 100000
set_option maxHeartbeats 8000000
namespace Mine
open PySem.Calls
theorem ghost_seer {h : Heap} {tabs : List (Addr × Addr)} (hT : TabsAt tabs h) (x : h.NoSeer) : (ghostOf h tabs).NoSeer where
  statics := let ⟨mc, a, r⟩ := x.statics; ⟨mc, ghost_ns hT a, r⟩
  mods := let ⟨mc, a, r⟩ := x.mods; ⟨mc, ghost_ns hT a, r⟩
  imp := let ⟨mc, a, r⟩ := x.imp; ⟨mc, ghost_ns hT a, r⟩
  main := let ⟨mg, bm, ob, a1, a2, a3, a4, r⟩ := x.main; ⟨mg, bm, ob, ghost_ns hT a1, a2, ghost_get hT a3 (fun q => by rw [q] at a4; cases a4), a4, r⟩
theorem post_true (args : List WData) : Challenge.rw_nb0053_01.row.claim.post args (.bool true) args = true := by
  show (WShape.has [] (.bool true) .bool && WTm.holds [] (.eq .res (.lit (.bool true))) { args := args, res := some (.bool true), after := args }) = true
  have e : WTm.holds [] (.eq .res (.lit (.bool true))) { args := args, res := some (.bool true), after := args } = true := by
    unfold WTm.holds
    simp [WTm.value]
    have e2 : same (WData.bool true) (WData.bool true) = true := by first | decide +kernel | rfl | simp [same]
    rw [e2]
  rw [e]
  decide
theorem good_true {cl : Str → Option Addr} {mean : ExcName → Option Value} {args : List WData} {s₁ s' : Shared} (k : ∀ b o, s₁.heap.get? b = some o → s'.heap.get? b = some o) (ho : s'.os = s₁.os) (hg : s'.gens = #[]) :
    GoodW Challenge.rw_nb0053_01.row.claim cl mean args s₁ (.ok (.ret (.bool true))) s' :=
  ⟨.inl ⟨.bool true, .bool true, [], rfl, fun _ => rfl, .bool true, post_true args, fun _ => ⟨List.nodup_nil, fun a ha => by cases ha⟩⟩, k, ho, hg⟩
/-- the cells of a fresh call -/
theorem cells7 {h : Heap} {L : Addr} (h1 : h.IsCell (L + 1) none) (h2 : h.IsCell (L + 2) none) (h3 : h.IsCell (L + 3) none) (h4 : h.IsCell (L + 4) none) (h5 : h.IsCell (L + 5) none) (h6 : h.IsCell (L + 6) none) (h7 : h.IsCell (L + 7) none) :
    ∀ i, 1 ≤ i → i ≤ 7 → h.IsCell (L + i) ((fun _ => none : Nat → Option Value) i)
  | 0, a, _ => absurd a (by decide)
  | 1, _, _ => h1
  | 2, _, _ => h2
  | 3, _, _ => h3
  | 4, _, _ => h4
  | 5, _, _ => h5
  | 6, _, _ => h6
  | 7, _, _ => h7
  | n + 8, _, b => absurd b (Nat.not_le.mpr (Nat.lt_of_lt_of_le (by decide) (Nat.le_add_left 8 n)))
end Mine
end

set_option maxRecDepth 100000 in
set_option maxHeartbeats 8000000 in
theorem PySem.Challenge.cw_nb0053_01_holds : PySem.Challenge.rw_nb0053_01.Holds := by
  refine Mine.hd ?_
  k_go0
  rename_i w s0 s1 mg mb G Y fa o pm doc ho hg X V T B TE TW hcd zs hs hlay0 hL1 hr1 hl2 a1 a2 sc vs a3 hL ra w1 r0 hI hr hc1 hc0 hD h1 tk o7 o6 o5 o4 o3 o2 o1 d7 d6 d5 d4 d3 d2 d1 X0 X' T' K' F' cH27 N' l0
  generalize hL : s1.heap.objs.size = L at *
  have LSx : Mine.LS (ghostOf s1.heap [(27, 23), (51, 49)]) L _ (fun _ => none) h1 := ⟨F'.keep, F'.ns, Mine.cells7 ⟨o1, N'.get (by simp), d1⟩ ⟨o2, N'.get (by simp), d2⟩ ⟨o3, N'.get (by simp), d3⟩ ⟨o4, N'.get (by simp), d4⟩ ⟨o5, N'.get (by simp), d5⟩ ⟨o6, N'.get (by simp), d6⟩ ⟨o7, N'.get (by simp), d7⟩,
    fun b o e => Nat.lt_of_lt_of_le (Heap.lt_size e) F'.above, ⟨#[], N'.get (by simp), rfl⟩, ⟨#[], N'.get (by simp), rfl⟩, (N' (23, tabObj #[]) (by simp)).2.2, (N' (49, tabObj #[]) (by simp)).2.2, l0.2⟩
  have Bx := Mine.Bs.of_top X' T'
  have lv := Mine.ints_len hI
  refine Mine.law_body (w := w) (mg := mg) (mb := mb) (h₀ := ghostOf s1.heap [(27, 23), (51, 49)]) (L := L) (fl := fa) (sc := sc) (vs := vs) (zs := zs) (cv := fun _ => none) rfl (by show callerA.depth + 1 + 4 < recursionLimit; decide) (by show callerA.units + 3 + 100 < cLine; decide) ?_ Bx cH27 codeHd LSx rfl rfl ?_ (lifted.at fun o e => F'.keep _ _ e) hI (by omega) ?_
  · intro s' hk
    exact PylongRoom.of (Bx.nolimit.keeps hk) (by show callerA.depth + 1 + Builtin.pylongFrames < recursionLimit; decide) (SeerAt.of ((Mine.ghost_seer hT9 (T.seer (by decide +kernel))).keeps hk) rfl rfl rfl rfl rfl rfl)
  · rfl
  · intro s' h' t' e k q23 q49
    subst e
    exact ⟨Mine.good_true k rfl hg, q23, q49, trivial⟩
