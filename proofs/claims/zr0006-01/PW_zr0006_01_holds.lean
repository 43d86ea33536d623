import PyProof.Rows.All
import Wide.All
import OpenK.AllK
import Wide.FinOn
import Lean
import PySem.Challenge.RW_zr0006_01
open PySem PySem.W PySem.Spec PySem.Calls PyProof.Rows
set_option Elab.async false
set_option maxRecDepth 100000
namespace Mine
set_option maxHeartbeats 8000000 in
open_top hd for PySem.Challenge.rw_zr0006_01
/-- open_top leaves the walk's lines for the top on: off again, as in a text that only imports the head -/
theorem walk_off : True := by
  w_top off
  exact trivial
theorem slot_int_divmod : Slot "int" (dunder "divmod") "int.__divmod__" :=
  .of (owner := "int") (n := "__divmod__") (by rw [typeLookup_type, builtinLookup_eq_fast]; kernel_rfl) (by decide +kernel) (by decide +kernel) (by decide +kernel)
    (by first | exact .inl (by decide +kernel) | exact .inr (by decide +kernel)) (by rw [isSubtype_type]; kernel_rfl)
theorem fills_int_divmod : fillsNumberSlot (.type "int") "divmod" = pure true :=
  fillsNumberSlot_of (id := "int.__divmod__") (r := some (.builtin "int.__rdivmod__")) (by rw [typeLookup_type, builtinLookup_eq_fast]; kernel_rfl) (by decide +kernel) (by rw [typeLookup_type, builtinLookup_eq_fast]; kernel_rfl)
theorem entry_int_divmod : entryFor table "int.__divmod__" = some Builtin.«int.__divmod__» := entryFor_of_tree (by kernel_rfl)
theorem args_int_divmod_2 (a b : Value) : argsOk "int.__divmod__" ⟨[a, b], []⟩ := by
  unfold argsOk; rw [signature?_of (id := "int.__divmod__") (n := ['_', '_', 'd', 'o', 'm', 'v', 'i', 'd', '_', '_']) (o := ['t', 'n', 'i']) (by kernel_rfl) F.owner_int]; kernel_rfl
theorem kind_divmod : builtinKind "divmod" = none := by decide +kernel
theorem plain_divmod : plainId "divmod" = true := by decide +kernel
theorem entry_divmod : entryFor table "divmod" = some Builtin.«divmod» := entryFor_of_fast (by kernel_rfl)
theorem args_divmod (a b : Value) : argsOk "divmod" ⟨[a, b], []⟩ := by unfold argsOk; kernel_rfl

section
variable {prog : Program} {w : World} {A : Around} {E : Value → Shared → Prop} {s : Shared} {a b : Int} {t u : Tok}
theorem int_divmod_body (hc0 : ¬(b == 0) = true) (hc1 : ¬(Builtin.divisionGoesByPylong a b) = true) {Q : Fin → Shared → Prop}
    (h : Q (.done (.ret (.ref s.heap.objs.size))) { s with heap := s.heap.push { cls := .type "tuple", data := .seq #[.int (a.fdiv b) s.toks, .int (a.fmod b) (s.toks + 1)] }, toks := s.toks + 1 + 1 }) :
    wpAny (model prog w) A (Builtin.«int.__divmod__» ⟨[.int a t, .int b u], []⟩) Q E s := by
  obtain ⟨hp, g, d, tk, os⟩ := s
  wp_walk
  exact h
theorem call_divmod (hb : b ≠ 0) (hs : b.natAbs < 1073741824) {Q : Value → Shared → Prop}
    (h : ∀ t1 t2, Q (.ref s.heap.objs.size) { s with heap := s.heap.push { cls := .type "tuple", data := .seq #[.int (a.fdiv b) t1, .int (a.fmod b) t2] }, toks := s.toks + 1 + 1 }) :
    wpAny (model prog w) A (call (.builtin "divmod") [.int a t, .int b u]) Q E s := by
  refine call_function_entry kind_divmod plain_divmod entry_divmod (args_divmod _ _) ?_
  have e : (Builtin.«divmod» ⟨[.int a t, .int b u], []⟩) = (do ret (← Builtin.Builtins.binaryNamed "divmod()" "divmod" (.int a t) (.int b u))) := by
    unfold Builtin.«divmod»
    simp only [someArgs, oneArg]
    rfl
  rw [e]
  refine wpAny_bind (m := Builtin.Builtins.binaryNamed "divmod()" "divmod" (.int a t) (.int b u)) ?_
  unfold Builtin.Builtins.binaryNamed
  refine wpAny_holding ?_
  refine wpAny_bind (m := binaryOp1 "divmod" (.int a t) (.int b u)) ?_
  refine wpAny_binaryOp1_same (T := "int") (nm := "divmod") (id := "int.__divmod__") (typeIs_int s a t) (typeIs_int s b u) fills_int_divmod slot_int_divmod ?_
  refine wpAny_call_entry (T := "int") (name := dunder "divmod") slot_int_divmod (typeIs_int s a t) entry_int_divmod ?_ (args_int_divmod_2 _ _)
  refine int_divmod_body (by simpa using hb) (by rw [PyProof.noPylong_small hs]; simp) ?_
  refine ⟨_, rfl, by nofun, ?_⟩
  exact wpAny_pure (wpAny_pure ⟨_, rfl, h _ _⟩)

theorem divmod_N {h₀ : Heap} {L : Addr} {m : Str → Option Value} {news : List (Addr × Obj)} (F : Fr h₀ L s.heap m) (N : News h₀ L s.heap news) (hb : b ≠ 0) (hs : b.natAbs < 1073741824) {Q : Value → Shared → Prop}
    (h : ∀ D h' t1 t2 tk, Fr h₀ L h' m → News h₀ L h' ((D, ({ cls := .type "tuple", data := .seq ([.int (a.fdiv b) t1, .int (a.fmod b) t2] : List Value).toArray } : Obj)) :: news) → (∀ p ∈ news, p.1 < D) → Q (.ref D) { s with heap := h', toks := tk }) :
    wpAny (model prog w) A (call (.builtin "divmod") [.int a t, .int b u]) Q E s :=
  call_divmod hb hs fun _ _ => h _ _ _ _ _ (F.push _) (N.push F _) fun p hp => Heap.lt_size (N p hp).1
end
/-- two addresses differ, said as numbers -/
abbrev NeN (a b : Nat) : Prop := a ≠ b
theorem neSymm {a b : Nat} (h : NeN a b) : NeN b a := fun e => h e.symm
theorem nin_nil {a : Addr} : a ∉ ([] : List Addr) := List.not_mem_nil
theorem nin_cons {a b : Addr} {l : List Addr} (h : NeN a b) (t : a ∉ l) : a ∉ b :: l := fun m => (List.mem_cons.mp m).elim h t
abbrev tupO (vs : List Value) : Obj := { cls := .type "tuple", data := .seq vs.toArray }
abbrev lstO (vs : List Value) : Obj := { cls := .type "list", data := .seq vs.toArray }

section
variable {prog : Program} {w : World} {A A₀ : Around} {s : Shared} {K : Frag} {L : Addr} {h₀ base : Heap} {m mg mb : Str → Option Value} {pre rest : List (Addr × Obj)} {p : Program} {loose : List Str} {mean : ExcName → Option Value}

theorem leaveRest {R : Result → Shared → Prop} {g : Heap} {v : Value} {s' : Shared}
    (hg : ∀ q ∈ rest, g.get? q.1 = some q.2)
    (hr : ∀ q ∈ rest, q.1 ≠ L ∧ h₀.get? q.1 = none)
    (h : LeaveK h₀ L m g (fun r s' => News h₀ L s'.heap rest → R r s') v s') : LeaveK h₀ L m g R v s' := by
  obtain ⟨L', m', news', F', N', k⟩ := h
  refine ⟨L', m', news', F', N', fun F N => k F N fun q hq => ⟨F'.keep _ _ (hg q hq), hr q hq⟩⟩

/-- a plain def of the written part is entered; what the caller made and the def does not touch lies in its ground -/
theorem code_def_rest {env : Env} {outer : List Env} {R : Result → Shared → Prop} {name qual : Str} {params : Arguments} {body : List Stmt} {scope : Scope} {dV kV doc pm cdv ct oc : Value} {an od : Option Addr} {osl : Array (Option Value)} {f : Addr} {args : Args} {binds : List (Str × Value)}
    (B : Below A₀ base outer h₀) (F : Fr h₀ L s.heap m) (X₀ : K.In h₀) (N : News h₀ L s.heap (pre ++ rest)) (hdis : ∀ q ∈ rest, q.1 ∉ pre.map (·.1)) (T : Top p loose mean mg mb h₀) (hA : A.frames = some (env :: outer)) (hf : env.frame = some L) (hke : env.scope.kind = .function)
    (ho : K.lookup f = some ⟨oc, od, .func (fnOf name qual params body scope dV kV doc pm an cdv ct), osl⟩) (hcd : codeIn K cdv qual = true) (hroom : A.depth < recursionLimit)
    (hbind : BindsTo s (fnOf name qual params body scope dV kV doc pm an cdv ct) args binds) (hloc : ∀ y ∈ binds, scope.names.lookup y.1 = some .local)
    (h : ∀ g L' h₁, Fr h₀ L g m → Fr g L' h₁ (fun y => binds.reverse.lookup y) → News g L' h₁ pre → Below A base (env :: outer) g → K.In g → Top p loose mean mg mb g → (∀ q ∈ pre, q.1 < L') →
      (∀ q ∈ rest, g.get? q.1 = some q.2) → h₀.StaysIn g →
      wpAny (model prog w) (A.deeper (envOf qual scope L' f cdv)) (execs body (envOf qual scope L' f cdv))
        (fun fl s' => LeaveK h₀ L m g (fun r s' => News h₀ L s'.heap rest → R r s') (match fl with | .ret v => v | _ => .none) s')
        (fun e s' => wpAny (model prog w) (A.deeper (envOf qual scope L' f cdv)) (leaving (envOf qual scope L' f cdv) e) (fun _ s'' => R (.error e) s'') (fun e' s'' => R (.error e') s'') s')
        { s with heap := h₁, toks := s.toks + binds.length })
    (hco : scope.isCoroutine = false) (hgen : scope.isGenerator = false) (hk : scope.kind = .function)
    (hcell : ∀ x ∈ scope.names, x.2 ≠ .cell) : codeAny (model prog w) A (.call (.ref f) args) R s := by
  have Np : News h₀ L s.heap pre := fun q hq => N q (List.mem_append_left _ hq)
  have Nr : News h₀ L s.heap rest := fun q hq => N q (List.mem_append_right _ hq)
  have hg : ∀ q ∈ rest, (hideAll s.heap (pre.map (·.1))).get? q.1 = some q.2 := fun q hq => hideAll_get _ (Nr q hq).1 (hdis q hq)
  obtain ⟨FG, BG, st, lv⟩ := groundX (R := R) B F Np hA hf hke
  refine codeAny_call_def (fd := fnOf name qual params body scope dV kV doc pm an cdv ct) (body := body) (binds := binds) hroom ((X₀.keeps F.keep) _ _ ho) rfl (T.nolimit.keeps F.keep) (codeRec_of (X₀.keeps F.keep) hcd) rfl hbind hcell hloc (fun h₁ hns hk₁ => ?_) hco hgen hk
  refine wpAny_mono (h _ s.heap.objs.size h₁ FG ⟨hns, fun b o e => hk₁ b o (of_hideAll _ e), Nat.le_of_eq (hideAll_size _ _)⟩
    (fun p hp => ⟨hk₁ _ _ (Np p hp).1, Nat.ne_of_lt (Heap.lt_size (Np p hp).1), hideAll_none _ (List.mem_map_of_mem hp)⟩) BG (X₀.keeps st) (T.keeps st) (fun p hp => Heap.lt_size (Np p hp).1) hg st) (fun fl s' hl => lv _ _ ?_) fun _ _ y => y
  exact leaveRest hg (fun q hq => (Nr q hq).2) hl

/-- the same for a def made in a body: it lies on the ledger -/
theorem code_nest_rest {env : Env} {outer : List Env} {R : Result → Shared → Prop} {name qual : Str} {params : Arguments} {body : List Stmt} {scope : Scope} {cl : List (Str × Addr)} {doc pm ctv : Value} {c' : Addr} {f : Addr} {args : Args} {binds : List (Str × Value)}
    (B : Below A₀ base outer h₀) (F : Fr h₀ L s.heap m) (X₀ : K.In h₀) (N : News h₀ L s.heap (pre ++ rest)) (hdis : ∀ q ∈ rest, q.1 ∉ pre.map (·.1)) (T : Top p loose mean mg mb h₀) (hA : A.frames = some (env :: outer)) (hf : env.frame = some L) (hke : env.scope.kind = .function)
    (ho : (f, fnMade name qual params body scope cl doc pm c' ctv) ∈ pre) (hcd : s.heap.CodeRec (.ref c') qual) (hroom : A.depth < recursionLimit)
    (hbind : BindsTo s (fnX name qual params body scope cl .none .none doc pm none (.ref c') ctv) args binds) (hloc : ∀ y ∈ binds, scope.names.lookup y.1 = some .local)
    (h : ∀ g L' h₁, Fr h₀ L g m → Fr g L' h₁ (fun y => binds.reverse.lookup y) → News g L' h₁ pre → Below A base (env :: outer) g → K.In g → Top p loose mean mg mb g → (∀ q ∈ pre, q.1 < L') →
      (∀ q ∈ rest, g.get? q.1 = some q.2) → h₀.StaysIn g →
      wpAny (model prog w) (A.deeper (envX qual scope L' f (.ref c') cl)) (execs body (envX qual scope L' f (.ref c') cl))
        (fun fl s' => LeaveK h₀ L m g (fun r s' => News h₀ L s'.heap rest → R r s') (match fl with | .ret v => v | _ => .none) s')
        (fun e s' => wpAny (model prog w) (A.deeper (envX qual scope L' f (.ref c') cl)) (leaving (envX qual scope L' f (.ref c') cl) e) (fun _ s'' => R (.error e) s'') (fun e' s'' => R (.error e') s'') s')
        { s with heap := h₁, toks := s.toks + binds.length })
    (hco : scope.isCoroutine = false) (hgen : scope.isGenerator = false) (hk : scope.kind = .function)
    (hcell : ∀ x ∈ scope.names, x.2 ≠ .cell) : codeAny (model prog w) A (.call (.ref f) args) R s := by
  have Np : News h₀ L s.heap pre := fun q hq => N q (List.mem_append_left _ hq)
  have Nr : News h₀ L s.heap rest := fun q hq => N q (List.mem_append_right _ hq)
  have hg : ∀ q ∈ rest, (hideAll s.heap (pre.map (·.1))).get? q.1 = some q.2 := fun q hq => hideAll_get _ (Nr q hq).1 (hdis q hq)
  obtain ⟨FG, BG, st, lv⟩ := groundX (R := R) B F Np hA hf hke
  refine codeAny_call_def (fd := fnX name qual params body scope cl .none .none doc pm none (.ref c') ctv) (body := body) (binds := binds) hroom (Np _ ho).1 rfl (T.nolimit.keeps F.keep) hcd rfl hbind hcell hloc (fun h₁ hns hk₁ => ?_) hco hgen hk
  refine wpAny_mono (h _ s.heap.objs.size h₁ FG ⟨hns, fun b o e => hk₁ b o (of_hideAll _ e), Nat.le_of_eq (hideAll_size _ _)⟩
    (fun p hp => ⟨hk₁ _ _ (Np p hp).1, Nat.ne_of_lt (Heap.lt_size (Np p hp).1), hideAll_none _ (List.mem_map_of_mem hp)⟩) BG (X₀.keeps st) (T.keeps st) (fun p hp => Heap.lt_size (Np p hp).1) hg st) (fun fl s' hl => lv _ _ ?_) fun _ _ y => y
  exact leaveRest hg (fun q hq => (Nr q hq).2) hl

/-- a plain def with cells of its own -/
theorem code_defC_rest {env : Env} {outer : List Env} {R : Result → Shared → Prop} {name qual : Str} {params : Arguments} {body : List Stmt} {scope : Scope} {dV kV doc pm cdv ct oc : Value} {an od : Option Addr} {osl : Array (Option Value)} {f : Addr} {args : Args} {binds : List (Str × Value)}
    (B : Below A₀ base outer h₀) (F : Fr h₀ L s.heap m) (X₀ : K.In h₀) (N : News h₀ L s.heap (pre ++ rest)) (hdis : ∀ q ∈ rest, q.1 ∉ pre.map (·.1)) (T : Top p loose mean mg mb h₀) (hA : A.frames = some (env :: outer)) (hf : env.frame = some L) (hke : env.scope.kind = .function)
    (ho : K.lookup f = some ⟨oc, od, .func (fnOf name qual params body scope dV kV doc pm an cdv ct), osl⟩) (hcd : codeIn K cdv qual = true) (hroom : A.depth < recursionLimit)
    (hbind : BindsTo s (fnOf name qual params body scope dV kV doc pm an cdv ct) args binds) (hkind : (binds.all fun y => scope.names.lookup y.1 == some .local || scope.names.lookup y.1 == some .cell) = true)
    (hnd : ((cellsFrom 0 scope.names []).map (·.1)).Nodup)
    (h : ∀ g L' h₁ tk cells, Fr h₀ L g m → Fr g L' h₁ (bindL (envOfC qual scope L' f cdv).kindOf binds fun _ => none) → News g L' h₁ (cells ++ pre) →
      CellsAre (bindC (envOfC qual scope L' f cdv).kindOf binds fun _ => none) (cellsFrom (L' + 1) scope.names []) cells → Below A base (env :: outer) g → K.In g → Top p loose mean mg mb g → (∀ q ∈ pre, q.1 < L') →
      (∀ q ∈ rest, g.get? q.1 = some q.2) → h₀.StaysIn g →
      wpAny (model prog w) (A.deeper (envOfC qual scope L' f cdv)) (execs body (envOfC qual scope L' f cdv))
        (fun fl s' => LeaveK h₀ L m g (fun r s' => News h₀ L s'.heap rest → R r s') (match fl with | .ret v => v | _ => .none) s')
        (fun e s' => wpAny (model prog w) (A.deeper (envOfC qual scope L' f cdv)) (leaving (envOfC qual scope L' f cdv) e) (fun _ s'' => R (.error e) s'') (fun e' s'' => R (.error e') s'') s')
        { s with heap := h₁, toks := tk })
    (hco : scope.isCoroutine = false) (hgen : scope.isGenerator = false) (hk : scope.kind = .function) : codeAny (model prog w) A (.call (.ref f) args) R s := by
  have Np : News h₀ L s.heap pre := fun q hq => N q (List.mem_append_left _ hq)
  have Nr : News h₀ L s.heap rest := fun q hq => N q (List.mem_append_right _ hq)
  have hg : ∀ q ∈ rest, (hideAll s.heap (pre.map (·.1))).get? q.1 = some q.2 := fun q hq => hideAll_get _ (Nr q hq).1 (hdis q hq)
  obtain ⟨FG, BG, st, lv⟩ := groundX (R := R) B F Np hA hf hke
  refine codeAny_call_function hroom ((X₀.keeps F.keep) _ _ ho) rfl hco hgen rfl (codeRec_of (X₀.keeps F.keep) hcd) (hbind _ _ _ _ ?_)
  refine wpAny_newFunctionEnv_cells hk (kindsX hkind _) fun env' he s' x => ?_
  subst he
  refine ⟨(T.nolimit.keeps F.keep).keeps x.toInCall.keep, codeAny_func ?_⟩
  obtain ⟨h₁, tk, rfl, _⟩ := x.done
  have hk₁ := x.toInCall.keep
  obtain ⟨cells, NC, Y⟩ := Cl.news (h₀ := s.heap) (Nat.le_refl _) fun n c hm => ⟨x.cell n c (lookup_of_mem_nodup (cellsFrom_names scope.names 0 (s.heap.objs.size + 1) [] [] rfl ▸ hnd) hm), x.above n c hm⟩
  refine wpAny_mono (h _ s.heap.objs.size h₁ tk cells FG ⟨x.toInCall.ns, fun b o e => hk₁ b o (of_hideAll _ e), Nat.le_of_eq (hideAll_size _ _)⟩ (fun p hp => ?_) Y BG (X₀.keeps st) (T.keeps st) (fun p hp => Heap.lt_size (Np p hp).1) hg st) (fun fl s' hl => lv _ _ (leaveRest hg (fun q hq => (Nr q hq).2) hl)) fun _ _ y => y
  rcases List.mem_append.mp hp with hp | hp
  · refine ⟨(NC p hp).1, (NC p hp).2.1, ?_⟩
    cases q : (hideAll s.heap (pre.map (·.1))).get? p.1 with
    | none => rfl
    | some o => have := of_hideAll _ q; rw [(NC p hp).2.2] at this; cases this
  · exact ⟨hk₁ _ _ (Np p hp).1, Nat.ne_of_lt (Heap.lt_size (Np p hp).1), hideAll_none _ (List.mem_map_of_mem hp)⟩
end

theorem rest_ne {g h : Heap} {L r : Addr} {o : Obj} {news rest : List (Addr × Obj)} (N : News g L h news) (hG : ∀ q ∈ rest, g.get? q.1 = some q.2) (hm : (r, o) ∈ news) : ∀ q ∈ rest, NeN q.1 r :=
  fun q hq (e : q.1 = r) => by have h1 := (N _ hm).2.2; rw [← e, hG q hq] at h1; cases h1
theorem news_app {h₀ h : Heap} {L : Addr} {a b : List (Addr × Obj)} (N : News h₀ L h a) (N' : News h₀ L h b) : News h₀ L h (a ++ b) :=
  fun q hq => (List.mem_append.mp hq).elim (N q) (N' q)
theorem news_sub {h₀ h : Heap} {L : Addr} {a b : List (Addr × Obj)} (N : News h₀ L h a) (hs : ∀ q ∈ b, q ∈ a) : News h₀ L h b := fun q hq => N q (hs q hq)
def stBody : Stmt → List Stmt | .FunctionDef _ _ b _ _ _ _ _ _ _ => b | _ => []
def stArgs : Stmt → Arguments | .FunctionDef _ a _ _ _ _ _ _ _ _ => a | _ => { posonlyargs := [], args := [], vararg := none, kwonlyargs := [], kw_defaults := [], kwarg := none, defaults := [] }
def stScope : Stmt → Scope | .FunctionDef _ _ _ _ _ _ s _ _ _ => s | _ => { kind := .function, names := [], isGenerator := false, isCoroutine := false, more := [] }
def dfltS : Stmt := .Pass ⟨0, 0, 0, 0⟩
/-- the first def within the k-th statement of the text -/
def innerOf (k : Nat) : Stmt := ((stBody (PySem.Challenge.pw_zr0006_01.main.body.getD k dfltS)).find? fun | .FunctionDef .. => true | _ => false).getD dfltS

section
variable {prog : Program} {w : World} {A : Around} {E : Value → Shared → Prop} {s : Shared} {a n : Int} {t u : Tok} {Q : Value → Shared → Prop}
theorem div_p {b : Int} (hb : 0 < b) (hs : b < 1073741824) (h : Q (.int (a / b) s.toks) { s with toks := s.toks + 1 }) : wpAny (model prog w) A (binaryOp .FloorDiv (.int a t) (.int b u)) Q E s :=
  floordiv_int (by omega) (by rw [Int.fdiv_eq_ediv_of_nonneg a (by omega)]; exact h) (Or.inl (PyProof.noPylong_small (by omega)))
theorem mod_p {b : Int} (hb : 0 < b) (h : Q (.int (a % b) s.toks) { s with toks := s.toks + 1 }) : wpAny (model prog w) A (binaryOp .Mod (.int a t) (.int b u)) Q E s :=
  mod_int' (by omega) (by rw [Int.fmod_eq_emod_of_nonneg a (by omega)]; exact h)
theorem shr_one (h : Q (.int (a / 2) s.toks) { s with toks := s.toks + 1 }) : wpAny (model prog w) A (binaryOp .RShift (.int a t) (.int 1 u)) Q E s :=
  rshift_int (by decide) (by rw [show a.fdiv (2 ^ Int.toNat 1) = a / 2 from Int.fdiv_eq_ediv_of_nonneg a (by decide)]; exact h)
theorem shr_n (hn : 0 ≤ n) (h : Q (.int (a / 2 ^ n.toNat) s.toks) { s with toks := s.toks + 1 }) : wpAny (model prog w) A (binaryOp .RShift (.int a t) (.int n u)) Q E s :=
  rshift_int hn (by rw [Int.fdiv_eq_ediv_of_nonneg a (Int.le_of_lt (Int.pow_pos (by decide)))]; exact h)
theorem shl_n (hn : 0 ≤ n) (hn2 : n ≤ 1000000) (h0 : 0 ≤ a) (h1 : a < 2 ^ 60) (h : Q (.int (a * 2 ^ n.toNat) s.toks) { s with toks := s.toks + 1 }) : wpAny (model prog w) A (binaryOp .LShift (.int a t) (.int n u)) Q E s :=
  lshift_int_small hn hn2 (by omega) h
end
/-- a code table with room for one def: empty (then the second entry says the first again), or with the def's code -/
def TabS (P : Addr) (ln cl : Nat) (q : Str) (ps : Array Value) (c : Addr) (oc : Obj) : Prop :=
  (ps = #[] ∧ c = P ∧ oc = tabObj #[]) ∨ (ps = #[] ++ #[rawInt (ln : Int), rawInt (cl : Int), .ref c] ∧ NeN c P ∧ ∃ vs t, oc.data = .fields vs ∧ vs[1]? = some (.str q t))
section
variable {prog : Program} {w : World} {A : Around} {E : Value → Shared → Prop} {s : Shared} {env : Env} {h₀ : Heap} {x : Str} {body : List Stmt} {Q : Flow → Shared → Prop}
/-- what a turn of a loop must leave: the iterator, what is walked, a frame and a ledger of which J holds -/
def TurnAt (h₀ : Heap) (L I : Addr) (it : Obj) (keep : List (Addr × Obj)) (J : (Str → Option Value) → List (Addr × Obj) → Prop) (s₁ s₂ : Shared) : Prop :=
  ∃ h' tk m' news', s₂ = { s₁ with heap := h', toks := tk } ∧ Fr h₀ L h' m' ∧ News h₀ L h' ((I, it) :: (keep ++ news')) ∧ (∀ q ∈ news', NeN q.1 I) ∧ J m' news'
def TurnEnd (h₀ : Heap) (L I : Addr) (it : Obj) (keep : List (Addr × Obj)) (J : (Str → Option Value) → List (Addr × Obj) → Prop) (s₁ : Shared) (Q : Flow → Shared → Prop) (f : Flow) (s₂ : Shared) : Prop :=
  match f with
  | .ret v => Q (.ret v) s₂
  | .brk => Q .next s₂
  | _ => TurnAt h₀ L I it keep J s₁ s₂
theorem TurnAt.of {L I : Addr} {it : Obj} {keep news' : List (Addr × Obj)} {J : (Str → Option Value) → List (Addr × Obj) → Prop} {s₁ : Shared} {h' : Heap} {tk : Nat} {m' : Str → Option Value}
    (F : Fr h₀ L h' m') (N : News h₀ L h' ((I, it) :: (keep ++ news'))) (ho : ∀ q ∈ news', NeN q.1 I) (hJ : J m' news') : TurnAt h₀ L I it keep J s₁ { s₁ with heap := h', toks := tk } :=
  ⟨h', tk, m', news', rfl, F, N, ho, hJ⟩
theorem loop_walk {I : Addr} {n : Nat} {P : Nat → Value → Prop} {St : Nat → Heap → Prop} {keep news : List (Addr × Obj)} {m₀ : Str → Option Value} (J : Nat → (Str → Option Value) → List (Addr × Obj) → Prop)
    (W : Walks prog w A I (I :: keep.map (·.1)) [I] n P St) (F : Fr h₀ env.locals s.heap m₀) (hIL : I ≠ env.locals) (hI0 : h₀.get? I = none) (hlive : ∀ i h, St i h → ∃ o, h.get? I = some o)
    (N : News h₀ env.locals s.heap (keep ++ news)) (hof : ∀ q ∈ keep ++ news, NeN q.1 I) (hst : St 0 s.heap) (hJ : J 0 m₀ news)
    (turn : ∀ i v m₁ news₁ h tk it, i < n → P i v → J i m₁ news₁ → (∀ q ∈ news₁, NeN q.1 I) → Fr h₀ env.locals h (fun y => if y = x then some v else m₁ y) → News h₀ env.locals h ((I, it) :: (keep ++ news₁)) →
      wpAny (model prog w) A (execs body env) (TurnEnd h₀ env.locals I it keep (J (i + 1)) { s with heap := h, toks := tk } Q) E { s with heap := h, toks := tk })
    (done : ∀ m₁ news₁ h tk, J n m₁ news₁ → Fr h₀ env.locals h m₁ → News h₀ env.locals h (keep ++ news₁) → Q .next { s with heap := h, toks := tk }) :
    LoopAtV prog w A h₀ env x body Q E (.ref I) s := by
  let J' : Nat → (Str → Option Value) → List (Addr × Obj) → Prop := fun i m₁ n₁ => ∃ n₂, n₁ = keep ++ n₂ ∧ J i m₁ n₂
  refine ⟨I, _, _, n, _, _, m₀, keep ++ news, J', rfl, W, ?_, ?_, ?_, hst, F, N, ⟨news, rfl, hJ⟩, ?_, ?_⟩
  · intro hm
    rcases List.mem_cons.mp hm with e | hm
    · exact hIL e.symm
    · obtain ⟨q, hq, e⟩ := List.mem_map.mp hm
      exact (N q (List.mem_append_left _ hq)).2.1 e
  · intro b hb
    rw [List.mem_singleton.mp hb]; exact hI0
  · intro q hq hb
    exact hof q hq (List.mem_singleton.mp hb)
  · rintro i v m₁ news₁ s₁ own ⟨h, tk, rfl⟩ hin hP ⟨n₂, rfl, hJ₂⟩ hofs hown hget hall hst₁ F₁ N₁
    obtain ⟨it, hit⟩ := hlive _ _ hst₁
    have hmemI := hall I (List.mem_cons_self ..) hI0 _ hit
    have N₂ : News h₀ env.locals h ((I, it) :: (keep ++ n₂)) := fun q hq => by
      rcases List.mem_cons.mp hq with rfl | hq
      · exact N₁ _ (List.mem_append_left _ hmemI)
      · exact N₁ _ (List.mem_append_right _ hq)
    refine wpAny_mono (turn i v m₁ n₂ h tk it hin hP hJ₂ (fun q hq e => hofs q (List.mem_append_right _ hq) (List.mem_singleton.mpr e)) F₁ N₂) (fun f s₂ p => ?_) fun _ _ e => e
    have fin : TurnAt h₀ env.locals I it keep (J (i + 1)) { s with heap := h, toks := tk } s₂ → LoopStepU h₀ env.locals [I] own (J' (i + 1)) { s with heap := h, toks := tk } .next s₂ := by
      rintro ⟨h', tk', m', news', e, F', N', ho, hj⟩
      refine ⟨rfl, h', tk', m', keep ++ news', e, F', fun q hq => ?_, fun q hq hb => ?_, news', rfl, hj⟩
      · rcases List.mem_append.mp hq with hq | hq
        · have h2 : h.get? q.1 = some q.2 := hget q hq
          rcases List.mem_cons.mp (hown q hq) with h1 | h1
          · have h3 : q = (I, it) := by
              rw [h1, hit] at h2
              exact Prod.ext h1 (Option.some.inj h2).symm
            rw [h3]; exact N' _ (List.mem_cons_self ..)
          · obtain ⟨r, hr, e1⟩ := List.mem_map.mp h1
            have h4 : q = r := by
              rw [← e1, (N₂ r (List.mem_cons_of_mem _ (List.mem_append_left _ hr))).1] at h2
              exact Prod.ext e1.symm (Option.some.inj h2).symm
            rw [h4]; exact N' _ (List.mem_cons_of_mem _ (List.mem_append_left _ hr))
        · exact N' _ (List.mem_cons_of_mem _ hq)
      · have hb := List.mem_singleton.mp hb
        rcases List.mem_append.mp hq with hq | hq
        · exact hof q (List.mem_append_left _ hq) hb
        · exact ho q hq hb
    cases f with
    | ret v => exact .ret p
    | brk => exact .brk p
    | next => exact .next (fin p)
    | cont => exact .cont (fin p)
  · rintro h' tk m' news' F' N' _ ⟨n₂, rfl, hJ₂⟩
    exact done m' n₂ h' tk hJ₂ F' N'

theorem loop_rev {I l : Addr} {vs : List Value} {ns : List Int} {nv : Nat} {news : List (Addr × Obj)} {m₀ : Str → Option Value} (J : (Str → Option Value) → Nat → (Str → Option Value) → List (Addr × Obj) → Prop)
    (hh : A.handled = none) (hi : IntsAre vs ns) (F : Fr h₀ env.locals s.heap m₀) (N : News h₀ env.locals s.heap ((I, revObj l ((vs.length : Int) - 1)) :: (l, listOf vs.toArray nv) :: news)) (hlI : NeN l I) (hof : ∀ q ∈ news, NeN q.1 I) (hJ : J m₀ 0 m₀ news)
    (turn : ∀ i y t m₁ news₁ h tk it, ns.reverse[i]? = some y → J m₀ i m₁ news₁ → (∀ q ∈ news₁, NeN q.1 I) → Fr h₀ env.locals h (fun z => if z = x then some (.int y t) else m₁ z) → News h₀ env.locals h ((I, it) :: ([(l, listOf vs.toArray nv)] ++ news₁)) →
      wpAny (model prog w) A (execs body env) (TurnEnd h₀ env.locals I it [(l, listOf vs.toArray nv)] (J m₀ (i + 1)) { s with heap := h, toks := tk } Q) E { s with heap := h, toks := tk })
    (done : ∀ m₁ news₁ h tk, J m₀ ns.length m₁ news₁ → Fr h₀ env.locals h m₁ → News h₀ env.locals h ((l, listOf vs.toArray nv) :: news₁) → Q .next { s with heap := h, toks := tk }) :
    wpAny (model prog w) A (pyIter (.ref I)) (fun it s₂ => LoopAtV prog w A h₀ env x body Q E it s₂) E s := by
  have hI := N _ (List.mem_cons_self ..)
  have hax := N _ (List.mem_cons_of_mem _ (List.mem_cons_self ..))
  have hl : s.heap.IsList l vs.toArray := ⟨_, hax.1, rfl, nv, rfl⟩
  have hit : s.heap.IsRevIter I l ((vs.length : Int) - 1) := ⟨_, hI.1, rfl, rfl⟩
  refine wpAny_pyIter_revIter hit ?_
  have W := Walks.listRev (prog := prog) (w := w) hh I l hlI vs.toArray
  have hlen : vs.toArray.size = ns.length := by simp [hi.length]
  have hlen2 : vs.toArray.size = vs.length := by simp
  have hlen3 : ns.length = vs.length := by rw [← hlen, hlen2]
  have hst0 : s.heap.IsRevIter I l ((vs.toArray.size : Int) - 1 - ((0 : Nat) : Int)) := by
    rw [hlen2, show (vs.length : Int) - 1 - ((0 : Nat) : Int) = (vs.length : Int) - 1 by omega]; exact hit
  refine loop_walk (keep := [(l, listOf vs.toArray nv)]) (n := vs.toArray.size) (J m₀) W F hI.2.1 hI.2.2 (fun i h st => ?_) (fun q hq => N q (.tail _ hq)) (fun q hq => ?_) ⟨Nat.zero_le _, hst0, hl⟩ hJ ?_ (hlen ▸ done)
  · obtain ⟨_, ⟨o, ho, _⟩, _⟩ := st; exact ⟨o, ho⟩
  · rcases List.mem_cons.mp hq with rfl | hq
    · exact hlI
    · exact hof q hq
  · intro i v m₁ news₁ h tk it hin hP hJ₁ ho F₁ N₁
    have hlt : vs.length - 1 - i < ns.length := by omega
    have e1 : ns.reverse[i]? = some ns[vs.length - 1 - i] := by
      rw [List.getElem?_reverse (by omega), hlen3, List.getElem?_eq_getElem hlt]
    obtain ⟨t, hx⟩ := hi.get (vs.length - 1 - i) _ (List.getElem?_eq_getElem hlt)
    have hv : v = .int ns[vs.length - 1 - i] t := by
      rw [hlen2] at hP
      have hP2 : vs[vs.length - 1 - i]? = some v := by simpa using hP
      rw [hx] at hP2; exact (Option.some.inj hP2).symm
    subst hv
    exact turn i _ t m₁ news₁ h tk it e1 hJ₁ ho F₁ N₁

theorem loop_list {l : Addr} {vs : List Value} {ns : List Int} {nv : Nat} {news : List (Addr × Obj)} {m₀ : Str → Option Value} (J : (Str → Option Value) → Nat → (Str → Option Value) → List (Addr × Obj) → Prop)
    (hh : A.handled = none) (hi : IntsAre vs ns) (F : Fr h₀ env.locals s.heap m₀) (N : News h₀ env.locals s.heap ((l, listOf vs.toArray nv) :: news)) (hJ : J m₀ 0 m₀ news)
    (turn : ∀ I i y t m₁ news₁ h tk it, ns[i]? = some y → J m₀ i m₁ news₁ → NeN l I → (∀ q ∈ news₁, NeN q.1 I) → Fr h₀ env.locals h (fun z => if z = x then some (.int y t) else m₁ z) → News h₀ env.locals h ((I, it) :: ([(l, listOf vs.toArray nv)] ++ news₁)) →
      wpAny (model prog w) A (execs body env) (TurnEnd h₀ env.locals I it [(l, listOf vs.toArray nv)] (J m₀ (i + 1)) { s with heap := h, toks := tk } Q) E { s with heap := h, toks := tk })
    (done : ∀ m₁ news₁ h tk, J m₀ ns.length m₁ news₁ → Fr h₀ env.locals h m₁ → News h₀ env.locals h ((l, listOf vs.toArray nv) :: news₁) → Q .next { s with heap := h, toks := tk }) :
    wpAny (model prog w) A (pyIter (.ref l)) (fun it s₂ => LoopAtV prog w A h₀ env x body Q E it s₂) E s := by
  have hax := N _ (List.mem_cons_self ..)
  have hl : s.heap.IsList l vs.toArray := ⟨_, hax.1, rfl, nv, rfl⟩
  have hne : l ≠ s.heap.objs.size := Nat.ne_of_lt (Heap.lt_size hax.1)
  refine wpAny_pyIter_list hl ?_
  have W := Walks.list (prog := prog) (w := w) hh s.heap.objs.size l hne vs.toArray
  have hlen : vs.toArray.size = ns.length := by simp [hi.length]
  refine loop_walk (keep := [(l, listOf vs.toArray nv)]) (n := ns.length) (J m₀) (hlen ▸ W) (F.push _) (fun e => absurd F.ns.lt (e ▸ Nat.lt_irrefl _)) (next_is_new F) (fun i h st => ?_) (fun q hq => ⟨Heap.get?_push_of_some _ (N q hq).1, (N q hq).2⟩) (fun q hq => Nat.ne_of_lt (Heap.lt_size (N q hq).1)) ⟨⟨_, Heap.get?_push_size _ rfl, rfl, rfl⟩, hl.at fun o e => Heap.get?_push_of_some _ e⟩ hJ ?_ done
  · obtain ⟨⟨o, ho, _⟩, _⟩ := st; exact ⟨o, ho⟩
  · intro i v m₁ news₁ h tk it hin hP hJ₁ ho F₁ N₁
    obtain ⟨t, hx⟩ := hi.get i ns[i] (List.getElem?_eq_getElem hin)
    have hv : v = .int ns[i] t := by
      have hP2 : vs[i]? = some v := by simpa using hP
      rw [hx] at hP2; exact (Option.some.inj hP2).symm
    subst hv
    exact turn _ i _ t m₁ news₁ h tk it (List.getElem?_eq_getElem hin) hJ₁ hne ho F₁ N₁

theorem loop_range {r : Addr} {a b c : Int} {t u v : Tok} {n : Nat} {news : List (Addr × Obj)} {m₀ : Str → Option Value} (J : (Str → Option Value) → Nat → (Str → Option Value) → List (Addr × Obj) → Prop)
    (hh : A.handled = none) (hr : IsRange s.heap r a b c t u v) (hsmall : Builtin.Range.small a b c = true) (hn : Builtin.Range.rangeSize a b c = (n : Int)) (F : Fr h₀ env.locals s.heap m₀) (N : News h₀ env.locals s.heap news) (hJ : J m₀ 0 m₀ news)
    (turn : ∀ I i t m₁ news₁ h tk it, i < n → J m₀ i m₁ news₁ → (∀ q ∈ news₁, NeN q.1 I) → Fr h₀ env.locals h (fun z => if z = x then some (.int (a + (i : Int) * c) t) else m₁ z) → News h₀ env.locals h ((I, it) :: ([] ++ news₁)) →
      wpAny (model prog w) A (execs body env) (TurnEnd h₀ env.locals I it [] (J m₀ (i + 1)) { s with heap := h, toks := tk } Q) E { s with heap := h, toks := tk })
    (done : ∀ m₁ news₁ h tk, J m₀ n m₁ news₁ → Fr h₀ env.locals h m₁ → News h₀ env.locals h news₁ → Q .next { s with heap := h, toks := tk }) :
    wpAny (model prog w) A (pyIter (.ref r)) (fun it s₂ => LoopAtV prog w A h₀ env x body Q E it s₂) E s := by
  refine wpAny_pyIter_range hr hsmall ?_
  have W := Walks.range (prog := prog) (w := w) hh s.heap.objs.size a c n
  refine loop_walk (keep := []) (n := n) (J m₀) W (F.push _) (fun e => absurd F.ns.lt (e ▸ Nat.lt_irrefl _)) (next_is_new F) (fun i h st => ⟨_, st⟩) (fun q hq => ⟨Heap.get?_push_of_some _ (N q hq).1, (N q hq).2⟩) (fun q hq => Nat.ne_of_lt (Heap.lt_size (N q hq).1)) ?_ hJ ?_ done
  · show IsRangeIter _ _ _ _ _
    rw [show a + ((0 : Nat) : Int) * c = a by simp, show (n : Int) - ((0 : Nat) : Int) = n by simp, ← hn]
    exact Heap.get?_push_size _ rfl
  · rintro i v m₁ news₁ h tk it hin ⟨t, rfl⟩ hJ₁ ho F₁ N₁
    exact turn _ i t m₁ news₁ h tk it hin hJ₁ ho F₁ N₁
end
section
variable {prog : Program} {w : World} {A : Around} {E : Value → Shared → Prop} {s : Shared} {h₀ : Heap} {L D : Addr} {m : Str → Option Value} {news news' : List (Addr × Obj)} {vs : List Value} {n : Nat} {x : Value} {Q : Value → Shared → Prop}
theorem append_V (F : Fr h₀ L s.heap m) (N : News h₀ L s.heap news) (U : Upd D (listOf vs.toArray n) (listOf (vs ++ [x]).toArray (n + 1)) news news') (hz : vs.length ≤ 1000)
    (h : ∀ h', Fr h₀ L h' m → News h₀ L h' news' → Q .none { s with heap := h' }) : wpAny (model prog w) A (call (.builtin "list.append") [.ref D, x]) Q E s :=
  append_K (its := vs.toArray) F N (by rw [List.push_toArray]; exact U) h (by rw [List.size_toArray]; exact Nat.le_trans hz (by decide))
theorem reverse_V (F : Fr h₀ L s.heap m) (N : News h₀ L s.heap news) (U : Upd D (listOf vs.toArray n) (listOf vs.reverse.toArray n) news news') (hz : vs.length ≤ 1000)
    (h : ∀ h', Fr h₀ L h' m → News h₀ L h' news' → Q .none { s with heap := h' }) : wpAny (model prog w) A (call (.builtin "list.reverse") [.ref D]) Q E s :=
  kl_reverse (its := vs.toArray) (l := vs.reverse) F N (by simp) U (by simpa using Nat.le_trans hz (by decide)) h
theorem ints_reverse {ns : List Int} (h : IntsAre vs ns) : IntsAre vs.reverse ns.reverse := by
  induction h with
  | nil => exact .nil
  | cons i t _ ih => rw [List.reverse_cons, List.reverse_cons]; exact ih.append (.cons _ _ .nil)
theorem ints_snoc {ns : List Int} {i : Int} {t : Tok} (h : IntsAre vs ns) : IntsAre (vs ++ [.int i t]) (ns ++ [i]) := h.append (.cons _ _ .nil)
end
section
variable {prog : Program} {w : World} {A : Around} {E : Value → Shared → Prop} {Q : Flow → Shared → Prop} {s : Shared} {env : Env} {h₀ : Heap} {L : Addr}
theorem while_J {test : Expr} {body : List Stmt} {pos : Pos} {m : Str → Option Value} {news : List (Addr × Obj)} (J : (Str → Option Value) → Nat → (Str → Option Value) → List (Addr × Obj) → Prop) {n₀ : Nat}
    (F : Fr h₀ L s.heap m) (N : News h₀ L s.heap news) (hJ : J m n₀ m news)
    (turn : ∀ n m₁ news₁ h₁ tk₁, Fr h₀ L h₁ m₁ → News h₀ L h₁ news₁ → J m n m₁ news₁ →
      wpAny (model prog w) A (isTrue test env (eval test env)) (fun b s₂ =>
        if b = true then wpAny (model prog w) A (execs body env) (WhileStep2 h₀ L s (J m) Q n) E s₂ else Q .next s₂) E { s with heap := h₁, toks := tk₁ })
    (hE : PassesOwn (model prog w) A env E := by passes_own) :
    wpAny (model prog w) A (exec (.While test body [] pos) env) Q E s := While_inv2 (J m) F N hJ turn hE
theorem WhileAt {h' : Heap} {tk : Nat} {m' : Str → Option Value} {news' : List (Addr × Obj)} {J : Nat → (Str → Option Value) → List (Addr × Obj) → Prop} {n n' : Nat} (F : Fr h₀ L h' m') (N : News h₀ L h' news') (hn : n' < n) (hJ : J n' m' news') :
    WhileStep2 h₀ L s J Q n .next { s with heap := h', toks := tk } := ⟨h', tk, m', news', n', rfl, F, N, hn, hJ⟩
end
theorem over1 {M m' : Str → Option Value} {x₁ : Str} (h : ∀ y, y ≠ x₁ → m' y = M y) : m' = fun y => if y = x₁ then m' x₁ else M y := by
  funext y
  by_cases h1 : y = x₁
  · subst h1; rw [if_pos rfl]
  · rw [if_neg h1]; exact h y h1
theorem over2 {M m' : Str → Option Value} {x₁ x₂ : Str} (h : ∀ y, y ≠ x₁ → y ≠ x₂ → m' y = M y) : m' = fun y => if y = x₁ then m' x₁ else if y = x₂ then m' x₂ else M y :=
  (over1 fun y h1 => by
    by_cases h2 : y = x₂
    · subst h2; rw [if_pos rfl]
    · rw [if_neg h2]; exact h y h1 h2)
theorem over3 {M m' : Str → Option Value} {x₁ x₂ x₃ : Str} (h : ∀ y, y ≠ x₁ → y ≠ x₂ → y ≠ x₃ → m' y = M y) : m' = fun y => if y = x₁ then m' x₁ else if y = x₂ then m' x₂ else if y = x₃ then m' x₃ else M y :=
  (over2 fun y h1 h2 => by
    by_cases h3 : y = x₃
    · subst h3; rw [if_pos rfl]
    · rw [if_neg h3]; exact h y h1 h2 h3)
--MACROS
local macro_rules | `(tactic| walk_at "call builtin:divmod") => `(tactic| (k_here; k_dflt (refine' divmod_N ?k1 ?k2 ?k3 ?k4 ?_; (case k1 => k_asm); (case k2 => k_asm); (case k3 => omega); (case k4 => omega)); intro D' h' t1' t2' tk' F' N' l1; (try k_lt l1); (try k_sweep)))
local macro_rules | `(tactic| walk_at "binaryOp FloorDiv int int") => `(tactic| (k_here; refine' div_p ?k1 ?k2 ?_; (case k1 => omega); (case k2 => omega); k_whole))
local macro_rules | `(tactic| walk_at "binaryOp Mod int int") => `(tactic| (k_here; refine' mod_p ?k1 ?_; (case k1 => omega); k_whole))
local macro_rules | `(tactic| walk_at "binaryOp RShift int int") => `(tactic| (k_here; first | (refine' shr_one ?_; k_whole) | (refine' shr_n ?k1 ?_; (case k1 => omega); k_whole)))
local macro_rules | `(tactic| walk_at "binaryOp LShift int int") => `(tactic| (k_here; refine' shl_n ?k1 ?k2 ?k3 ?k4 ?_; (case k1 => omega); (case k2 => omega); (case k3 => omega); (case k4 => omega); k_whole))
local macro_rules | `(tactic| walk_at "call ref") => `(tactic| (k_here; k_extra "mine"))
local macro_rules | `(tactic| walk_at "Sub") => `(tactic| (repeat' (first | exact List.forall_mem_nil _ | exact (fun _ h9 => List.mem_append.mpr (Or.inr h9)) | (refine List.forall_mem_cons.mpr ⟨by k_mem, ?_⟩))))
local macro_rules | `(tactic| walk_at "Nin") => `(tactic| ((try simp only [List.map_cons, List.map_nil]); (repeat' (first | exact nin_nil | (refine nin_cons ?_ ?_; (first | assumption | ((try dsimp only); omega)))))))
local macro_rules | `(tactic| walk_at "pyIter ref") => `(tactic| (k_here; k_extra "loop"))
local macro_rules | `(tactic| walk_at "Ne") => `(tactic| ((repeat' (refine And.intro ?_ ?_)) <;> (first | assumption | (refine neSymm ?_; assumption) | omega)))
local macro_rules | `(tactic| walk_at "Fa") => `(tactic| (repeat' (first | exact List.forall_mem_nil _ | (refine List.forall_mem_cons.mpr ⟨?_, ?_⟩; ((try dsimp only); walk_at "Ne")))))
local macro_rules | `(tactic| walk_at "call builtin:list.append") => `(tactic| (k_here; (with_reducible show wpAny _ _ (call (Value.builtin _) [Value.ref _, _]) _ _ _); k_dflt (refine' append_V ?F ?N ?U ?z ?_; (case F => k_asm); (case N => k_asm); (case U => k_upd); (case z => ((try simp only [List.length_append, List.length_cons, List.length_nil]); omega)); k_whole); intro h' F' N'; (try k_sweep)))
local macro_rules | `(tactic| walk_at "call builtin:list.reverse") => `(tactic| (k_here; (with_reducible show wpAny _ _ (call (Value.builtin _) [Value.ref _]) _ _ _); k_dflt (refine' reverse_V ?F ?N ?U ?z ?_; (case F => k_asm); (case N => k_asm); (case U => k_upd); (case z => ((try simp only [List.length_append, List.length_cons, List.length_nil]); omega)); k_whole); intro h' F' N'; (try k_sweep)))
local macro_rules | `(tactic| walk_at "exec While Compare cons nil") => `(tactic| (k_here; k_extra "while"))
local macro_rules | `(tactic| walk_at "call builtin:list.insert") => `(tactic| (k_here; k_extra "insert"))
local macro_rules | `(tactic| walk_at "execs cons") => `(tactic| (k_here; k_extra "seg"))
--END
theorem intBits_le {a : Int} {k : Nat} (h0 : 0 ≤ a) (h : a < 2 ^ k) : ((Builtin.Int.intBits a : Nat) : Int) ≤ (k : Int) := by
  unfold Builtin.Int.intBits
  by_cases hz : a = 0
  · simp [hz]
  · have h1 : a.natAbs ≠ 0 := by omega
    have h2 : a.natAbs < 2 ^ k := by
      have : ((a.natAbs : Nat) : Int) = a := by omega
      have h3 : ((a.natAbs : Nat) : Int) < ((2 ^ k : Nat) : Int) := by rw [this]; push_cast; exact h
      exact Int.ofNat_lt.mp h3
    have h4 := (Nat.log2_lt h1).mpr h2
    have h5 : (a == 0) = false := by simp [hz]
    rw [h5]
    simp only [Bool.false_eq_true, if_false]
    omega
section
variable (w : World)
set_option maxHeartbeats 4000000 in
theorem div2n1n_ok {a b n : Int} {ta tb tn : Tok} (ha : 0 ≤ a) (ha2 : a < 2 ^ 60) (hb : 0 < b) (hb2 : b < 2 ^ 29) (hn : 0 ≤ n) (hn2 : n < 2 ^ 60)
    {loose mean mg mb} {dp un : Nat} {gd : Option (List Code)} {cn : Str} {cs : Scope} {L ca : Addr} {ccd : Value} {cl : List (Str × Addr)} {outer : List Env} {A₀ : Around} {base h₀ : Heap} {m : Str → Option Value} {rest : List (Addr × Obj)} {s : Shared} {Q E : Value → Shared → Prop}
    (B : Below A₀ base outer h₀) (F : Fr h₀ L s.heap m) (X : (hd.heap_39 w.params).In h₀) (N : News h₀ L s.heap rest) (T : Top topProg loose mean mg mb h₀) (hck : cs.kind = .function) (hd : dp + 1 < recursionLimit) (hu : un + 8 < cLine)
    (hret : ∀ (r : Addr) (t1 t2 : Tok) h' tk', (∀ q ∈ rest, NeN q.1 r) → Fr h₀ L h' m → News h₀ L h' ((r, tupO [.int (a / b) t1, .int (a % b) t2]) :: rest) → Q (.ref r) { s with heap := h', toks := tk' }) :
    wpAny (model PySem.Challenge.rw_zr0006_01.row.prog w) (ktrTop dp un gd cn cs L ca ccd cl outer) (call (.ref 21) [.int a ta, .int b tb, .int n tn]) Q E s := by
  have hbl : ((Builtin.Int.intBits a : Nat) : Int) ≤ 60 := intBits_le ha ha2
  revert X; k_fill; intro X
  refine wpAny_call ?_
  k_dflt (refine' code_def_rest (pre := []) (rest := rest) ?k1 ?k2 ?k3 ?k4 ?kd ?k5 ?kA ?kF ?kK ?k6 ?k7 ?k8 ?k9 ?kB ?_ ?c2 ?c3 ?c4 ?c5; (case kA => exact rfl); (case kF => exact rfl); (case kK => assumption); (case k1 => k_asm); (case k2 => k_asm); (case k3 => k_asm); (case k4 => k_asm); (case kd => simp); (case k5 => k_asm); (case k6 => k_is); (case k7 => k_is); (case k8 => ktr_room); (case k9 => exact BindsTo.of_eq rfl); (case c5 => decide); (case kB => exact locs rfl); (case c2 => exact rfl); (case c3 => exact rfl); (case c4 => exact rfl); k_whole; intro g' L' h' FG' F' N' B' X' T' _ hG' hst'; (try dsimp only); (try k_fold))
  k_steps
  rename_i N1 _ kF kN _ _ N2
  have N3 := news_app kN N2
  rw [Int.fdiv_eq_ediv_of_nonneg a (by omega), Int.fmod_eq_emod_of_nonneg a (by omega)] at N3
  exact hret _ _ _ _ _ (rest_ne N1 hG' (.head _)) kF N3
end
def dig (n : Nat) : List Int → Int
  | [] => 0
  | d :: r => d + 2 ^ n * dig n r
def dg (n : Int) (ns : List Int) (i j : Int) : Int := dig n.toNat ((ns.drop i.toNat).take (j.toNat - i.toNat))
theorem dig_append (n : Nat) : ∀ xs ys : List Int, dig n (xs ++ ys) = dig n xs + 2 ^ (n * xs.length) * dig n ys
  | [], ys => by simp [dig]
  | d :: r, ys => by
    rw [List.cons_append, dig, dig, dig_append n r ys, List.length_cons, Nat.mul_succ, Int.pow_add, Int.mul_add]
    rw [← Int.mul_assoc, Int.mul_comm (2 ^ n) (2 ^ (n * r.length)), ← Int.add_assoc]
theorem dg_one {n : Int} {ns : List Int} {i j : Int} (h0 : 0 ≤ i) (h1 : i + 1 = j) (h2 : j ≤ ns.length) : dg n ns i j = ns.getD i.toNat 0 := by
  have h3 : j.toNat - i.toNat = 1 := by omega
  have h4 : i.toNat < ns.length := by omega
  unfold dg
  rw [h3, List.drop_eq_getElem_cons h4, List.take_succ_cons, List.take_zero, List.getD_eq_getElem?_getD, List.getElem?_eq_getElem h4]
  simp [dig]
theorem dg_split {n : Int} {ns : List Int} {i m j : Int} (hn : 0 ≤ n) (h0 : 0 ≤ i) (h1 : i ≤ m) (h2 : m ≤ j) (h3 : j ≤ ns.length) : dg n ns m j * 2 ^ ((m - i) * n).toNat + dg n ns i m = dg n ns i j := by
  unfold dg
  have e : (ns.drop i.toNat).take (j.toNat - i.toNat) = (ns.drop i.toNat).take (m.toNat - i.toNat) ++ (ns.drop m.toNat).take (j.toNat - m.toNat) := by
    have e1 : j.toNat - i.toNat = (m.toNat - i.toNat) + (j.toNat - m.toNat) := by omega
    rw [e1, List.take_add, List.drop_drop]
    congr 3
    omega
  rw [e, dig_append]
  have hl : ((ns.drop i.toNat).take (m.toNat - i.toNat)).length = m.toNat - i.toNat := by
    rw [List.length_take, List.length_drop]; omega
  have hp : ((m - i) * n).toNat = n.toNat * (m.toNat - i.toNat) := by
    have a1 : m - i = ((m.toNat - i.toNat : Nat) : Int) := by omega
    have a2 : n = ((n.toNat : Nat) : Int) := by omega
    rw [a1, a2, ← Int.natCast_mul, Int.toNat_natCast, Int.toNat_natCast, Nat.mul_comm]
  rw [hl, hp, Int.mul_comm, Int.add_comm]

section
variable (w : World)
abbrev innO (k : Nat) (nm qual : Str) (clos : List (Str × Addr)) (doc pm : Value) (c' : Addr) (ctv : Value) : Obj := fnMade nm qual (stArgs (innerOf k)) (stBody (innerOf k)) (stScope (innerOf k)) clos doc pm c' ctv
/-- what _digits2int's inner def asks of the ledger -/
abbrev d2iPre (f c' cd ci cn l : Addr) (oc ocd oci ocn : Obj) (nm qual : Str) (doc pm ctv : Value) (vs : List Value) (nv : Nat) : List (Addr × Obj) :=
  [(f, innO 5 nm qual [("n", cn), ("inner", ci), ("digits", cd)] doc pm c' ctv), (c', oc), (cd, ocd), (ci, oci), (cn, ocn), (l, listOf vs.toArray nv)]
def d2iClaim (K : Nat) (f : Addr) (n : Int) (ns : List Int) (pre : List (Addr × Obj)) : Prop :=
  ∀ (i j : Int) (ti tj : Tok), 0 ≤ i → i < j → j ≤ ns.length → (j - i).toNat < K →
    ∀ (loose : List Str) (mean : ExcName → Option Value) (mg mb : Str → Option Value) (dp un : Nat) (gd : Option (List Code)) (cn' : Str) (cs : Scope) (L ca : Addr) (ccd : Value) (cl : List (Str × Addr)) (outer : List Env) (A₀ : Around) (base h₀ : Heap) (m : Str → Option Value) (rest : List (Addr × Obj)) (s : Shared) (Q E : Value → Shared → Prop),
    Below A₀ base outer h₀ → Fr h₀ L s.heap m → (hd.heap_39 w.params).In h₀ → News h₀ L s.heap (pre ++ rest) → (∀ q ∈ rest, q.1 ∉ pre.map (·.1)) → Top topProg loose mean mg mb h₀ → CodeHd h₀ 41 37 → cs.kind = .function → dp + K < recursionLimit → un + 8 * K < cLine →
    (∀ t h' tk', Fr h₀ L h' m → News h₀ L h' (pre ++ rest) → Q (.int (dg n ns i j) t) { s with heap := h', toks := tk' }) →
    wpAny (model PySem.Challenge.rw_zr0006_01.row.prog w) (ktrTop dp un gd cn' cs L ca ccd cl outer) (call (.ref f) [.int i ti, .int j tj]) Q E s
set_option maxHeartbeats 4000000 in
theorem d2i_inner {n : Int} {tn : Tok} {ns : List Int} {vs : List Value} {nv : Nat} {f c' cd ci cn l : Addr} {oc ocd oci ocn : Obj} {nm qual : Str} {doc pm ctv : Value} {vsc : Array Value} {tq : Tok}
    (hn0 : 0 < n) (hn1 : n < 100) (hlen : ns.length < 100) (hI : IntsAre vs ns) (hsl : ∀ i j : Int, 0 ≤ i → i < j → j ≤ ns.length → 0 ≤ dg n ns i j ∧ dg n ns i j < 2 ^ 60)
    (h1 : oc.data = .fields vsc) (h2 : vsc[1]? = some (.str qual tq)) (h3 : ocd.data = .cell (some (.ref l))) (h4 : oci.data = .cell (some (.ref f))) (h5 : ocn.data = .cell (some (.int n tn))) :
    ∀ K, d2iClaim w K f n ns (d2iPre f c' cd ci cn l oc ocd oci ocn nm qual doc pm ctv vs nv) := by
  intro K
  induction K with
  | zero => intro i j _ _ _ _ _ hk; omega
  | succ K IH =>
    intro i j ti tj hi hij hj hk loose mean mg mb dp un gd cn' cs L ca ccd cl outer A₀ base h₀ m rest s Q E B F X N hdis T C hck hd hu hret
    revert X; k_fill; intro X
    have hcr : s.heap.CodeRec (.ref c') qual := codeRec_news N (.tail _ (.head _)) h1 h2
    refine wpAny_call ?_
    refine' (fun (hb : stBody (innerOf 5) = _) => ?_) ?hb0
    case hb0 => conv => lhs; whnf
    refine' (fun (hs : stScope (innerOf 5) = _) => ?_) ?hs0
    case hs0 => conv => lhs; whnf
    refine' (fun (ha : stArgs (innerOf 5) = _) => ?_) ?ha0
    case ha0 => conv => lhs; whnf
    k_dflt (refine' code_nest_rest (binds := [(Str.ofString "L", .int i ti), (Str.ofString "R", .int j tj)]) (pre := d2iPre f c' cd ci cn l oc ocd oci ocn nm qual doc pm ctv vs nv) (rest := rest) ?k1 ?k2 ?k3 ?k4 ?kd ?k5 ?kA ?kF ?kK ?k6 ?k7 ?k8 ?k9 ?kB ?_ ?c2 ?c3 ?c4 ?c5; (case kA => exact rfl); (case kF => exact rfl); (case kK => assumption); (case k1 => k_asm); (case k2 => k_asm); (case k3 => k_asm); (case k4 => k_asm); (case kd => assumption); (case k5 => k_asm); (case k6 => exact .head _); (case k7 => exact hcr); (case k8 => ktr_room); (case k9 => exact BindsTo.of_eq rfl); (case c5 => (rw [hs]; decide)); (case kB => exact locs rfl); (case c2 => exact rfl); (case c3 => exact rfl); (case c4 => exact rfl); k_whole; intro g' L' h' FG' F' N' B' X' T' _ hG' hst'; have C' := CodeHd.keeps C hst'; (try dsimp only); rw [hb, hs]; clear hb hs ha; (try dsimp only); (try k_fold))
    k_with_none
    k_with "mine" => (
      refine' IH _ _ _ _ ?q1 ?q2 ?q3 ?q4 _ _ _ _ _ _ _ _ _ _ _ _ _ _ _ _ _ _ [] _ _ _ ?k1 ?k2 ?k3 ?k4 ?kd ?k5 ?kc ?kK ?r1 ?r2 ?_
      (case q1 => omega)
      (case q2 => omega)
      (case q3 => omega)
      (case q4 => omega)
      (case k1 => k_asm)
      (case k2 => k_asm)
      (case k3 => k_asm)
      (case k4 => rw [List.append_nil]; k_asm)
      (case kd => exact fun _ h => nomatch h)
      (case k5 => k_asm)
      (case kc => kn_code)
      (case kK => first | exact rfl | assumption)
      (case r1 => ktr_room)
      (case r2 => ktr_units)
      intro t9 h9 tk9 F9 N9
      rw [List.append_nil] at N9
      (try dsimp only)
      (try k_fold))
    by_cases hone : i + 1 = j
    · k_steps
      all_goals (try (exfalso; omega))
      rename_i kF kN _ _ N2
      rw [← dg_one (n := n) hi hone (by omega)]
      exact hret _ _ _ kF (news_app kN N2)
    · have hm := hsl ((i + j) / 2) j (by omega) (by omega) hj
      have hp0 : 0 ≤ ((i + j) / 2 - i) * n := Int.mul_nonneg (by omega) (by omega)
      have hp1 : ((i + j) / 2 - i) * n ≤ 100 * 100 := Int.mul_le_mul (by omega) (by omega) (by omega) (by omega)
      k_steps
      all_goals (try (exfalso; omega))
      rename_i kF kN _ _ N2
      rw [dg_split (by omega) hi (by omega) (by omega) hj]
      exact hret _ _ _ kF (news_app kN N2)
end
section
variable (w : World)
abbrev q5 : Str := Str.ofString "_digits2int.<locals>.inner"
set_option maxHeartbeats 4000000 in
theorem d2i_ok {n : Int} {tn : Tok} {ns : List Int} {vs : List Value} {nv : Nat} {l c : Addr} {ps : Array Value} {oc : Obj} (hT : TabS 37 47 4 q5 ps c oc)
    (hn0 : 0 < n) (hn1 : n < 100) (hlen : ns.length < 100) (hI : IntsAre vs ns) (hsl : ∀ i j : Int, 0 ≤ i → i < j → j ≤ ns.length → 0 ≤ dg n ns i j ∧ dg n ns i j < 2 ^ 60)
    {loose : List Str} {mean : ExcName → Option Value} {mg mb : Str → Option Value} {dp un : Nat} {gd : Option (List Code)} {cn' : Str} {cs : Scope} {L ca : Addr} {ccd : Value} {cl : List (Str × Addr)} {outer : List Env} {A₀ : Around} {base h₀ : Heap} {m : Str → Option Value} {rest : List (Addr × Obj)} {s : Shared} {Q E : Value → Shared → Prop}
    (B : Below A₀ base outer h₀) (F : Fr h₀ L s.heap m) (X : (hd.heap_39 w.params).In h₀) (N : News h₀ L s.heap ((37, tabObj ps) :: (c, oc) :: (l, listOf vs.toArray nv) :: rest)) (hdis : ∀ q ∈ rest, NeN q.1 37 ∧ NeN q.1 c ∧ NeN q.1 l) (hl : NeN l 37) (hlc : NeN l c) (T : Top topProg loose mean mg mb h₀) (C : CodeHd h₀ 41 37) (hck : cs.kind = .function) (hd : dp + 110 < recursionLimit) (hu : un + 1000 < cLine)
    (hret : ∀ t ps' c' oc' h' tk', TabS 37 47 4 q5 ps' c' oc' → (∀ q ∈ rest, NeN q.1 c') → NeN l c' → Fr h₀ L h' m → News h₀ L h' ((37, tabObj ps') :: (c', oc') :: (l, listOf vs.toArray nv) :: rest) → Q (.int (dg n ns 0 ns.length) t) { s with heap := h', toks := tk' }) :
    wpAny (model PySem.Challenge.rw_zr0006_01.row.prog w) (ktrTop dp un gd cn' cs L ca ccd cl outer) (call (.ref 42) [.ref l, .int n tn]) Q E s := by
  revert X; k_fill; intro X
  have h00 : dg n ns 0 0 = 0 := by simp [dg, dig]
  rcases hT with ⟨rfl, rfl, rfl⟩ | ⟨rfl, hcP, vsc, tq, h1, h2⟩
  · refine wpAny_call ?_
    k_dflt (refine' code_defC_rest (binds := [(Str.ofString "digits", .ref l), (Str.ofString "n", .int n tn)]) (pre := [(37, tabObj #[]), (l, listOf vs.toArray nv)]) (rest := rest) ?k1 ?k2 ?k3 ?k4 ?kd ?k5 ?kA ?kF ?kK ?k6 ?k7 ?k8 ?k9 ?kB ?kD ?_ ?c2 ?c3 ?c4; (case kA => exact rfl); (case kF => exact rfl); (case kK => assumption); (case k1 => k_asm); (case k2 => k_asm); (case k3 => k_asm); (case k4 => exact fun q hq => N q (.tail _ hq)); (case kd => (intro q hq; have h8 := hdis q hq; walk_at "Nin")); (case k5 => k_asm); (case k6 => k_is); (case k7 => k_is); (case k8 => ktr_room); (case k9 => exact BindsTo.of_eq rfl); (case kB => exact rfl); (case kD => decide +kernel); (case c2 => exact rfl); (case c3 => exact rfl); (case c4 => exact rfl); k_whole; intro g' L' h' tk' cells' FG' F' N' Y' B' X' T' l1 hG' hst'; have C' := CodeHd.keeps C hst'; (try k_lt l1); k_cells Y'; (try simp only [List.cons_append, List.nil_append] at N'); (try dsimp only); (try k_fold))
    k_with_none
    k_steps
    · rename_i o1 o2 o3 dd1 dd2 dd3 f9 c9 oc9 vs9 t9 ct9 dc9 h9a tk9 d19 d29 l19 l29 h9 o9 F9 N9 d9 hpos9
      refine' d2i_inner w (cd := L' + 1) (cn := L' + 1 + 1) (ci := L' + 1 + 1 + 1) (oc := oc9) (oci := o9) (ocn := o2) (ocd := o3) (nv := nv) (l := l) hn0 hn1 hlen hI hsl d19 d29 dd3 d9 dd2 101 _ _ _ _ ?q1 ?q2 ?q3 ?q4 _ _ _ _ _ _ _ _ _ _ _ _ _ _ _ _ _ _ [(37, tabObj (#[] ++ #[rawInt 47, rawInt 4, Value.ref c9]))] _ _ _ ?k1 ?k2 ?k3 ?k4 ?kd ?k5 ?kc ?kK ?r1 ?r2 ?_
      case q1 => omega
      case q2 => omega
      case q3 => omega
      case q4 => omega
      case k1 => k_asm
      case k2 => k_asm
      case k3 => k_asm
      case k4 => exact news_sub N9 (by walk_at "Sub")
      case kd => (intro q hq; rw [List.mem_singleton.mp hq]; walk_at "Nin")
      case k5 => k_asm
      case kc => kn_code
      case kK => first | exact rfl | assumption
      case r1 => ktr_room
      case r2 => ktr_units
      intro t8 h8 tk8 F8 N8
      k_steps
      rename_i kF kN _ _ N2
      exact hret _ _ c9 oc9 _ _ (.inr ⟨rfl, (by (try dsimp only); omega : NeN c9 37), vs9, t9, d19, d29⟩) (rest_ne N8 hG' (.tail _ (.head _))) (by (try dsimp only); omega : NeN l c9) kF (news_sub (news_app kN N2) (by walk_at "Sub"))
    · rename_i o1 o2 o3 dd1 dd2 dd3 f9 c9 oc9 vs9 t9 ct9 dc9 h9a tk9 d19 d29 l19 l29 h9 o9 F9 N9 d9 hpos9 kF kN _ _ N2
      have hz : ns.length = 0 := by omega
      rw [hz] at hret
      rw [← h00]
      exact hret _ _ c9 oc9 _ _ (.inr ⟨rfl, (by (try dsimp only); omega : NeN c9 37), vs9, t9, d19, d29⟩) (rest_ne N9 hG' (.tail _ (.head _))) (by (try dsimp only); omega : NeN l c9) kF (news_sub (news_app kN N2) (by walk_at "Sub"))
  · refine wpAny_call ?_
    k_dflt (refine' code_defC_rest (binds := [(Str.ofString "digits", .ref l), (Str.ofString "n", .int n tn)]) (pre := [(37, tabObj (#[] ++ #[rawInt 47, rawInt 4, Value.ref c])), (c, oc), (l, listOf vs.toArray nv)]) (rest := rest) ?k1 ?k2 ?k3 ?k4 ?kd ?k5 ?kA ?kF ?kK ?k6 ?k7 ?k8 ?k9 ?kB ?kD ?_ ?c2 ?c3 ?c4; (case kA => exact rfl); (case kF => exact rfl); (case kK => assumption); (case k1 => k_asm); (case k2 => k_asm); (case k3 => k_asm); (case k4 => k_asm); (case kd => (intro q hq; have h8 := hdis q hq; walk_at "Nin")); (case k5 => k_asm); (case k6 => k_is); (case k7 => k_is); (case k8 => ktr_room); (case k9 => exact BindsTo.of_eq rfl); (case kB => exact rfl); (case kD => decide +kernel); (case c2 => exact rfl); (case c3 => exact rfl); (case c4 => exact rfl); k_whole; intro g' L' h' tk' cells' FG' F' N' Y' B' X' T' l1 hG' hst'; have C' := CodeHd.keeps C hst'; (try k_lt l1); k_cells Y'; (try simp only [List.cons_append, List.nil_append] at N'); (try dsimp only); (try k_fold))
    k_with_none
    k_steps
    · rename_i o1 o2 o3 dd1 dd2 dd3 f9 ct9 dc9 h9a tk9 l19 h9 o9 F9 N9 d9 hpos9
      refine' d2i_inner w (cd := L' + 1) (cn := L' + 1 + 1) (ci := L' + 1 + 1 + 1) (oc := oc) (oci := o9) (ocn := o2) (ocd := o3) (nv := nv) (l := l) hn0 hn1 hlen hI hsl h1 h2 dd3 d9 dd2 101 _ _ _ _ ?q1 ?q2 ?q3 ?q4 _ _ _ _ _ _ _ _ _ _ _ _ _ _ _ _ _ _ [(37, tabObj (#[] ++ #[rawInt 47, rawInt 4, Value.ref c]))] _ _ _ ?k1 ?k2 ?k3 ?k4 ?kd ?k5 ?kc ?kK ?r1 ?r2 ?_
      case q1 => omega
      case q2 => omega
      case q3 => omega
      case q4 => omega
      case k1 => k_asm
      case k2 => k_asm
      case k3 => k_asm
      case k4 => exact news_sub N9 (by walk_at "Sub")
      case kd => (intro q hq; rw [List.mem_singleton.mp hq]; walk_at "Nin")
      case k5 => k_asm
      case kc => kn_code
      case kK => first | exact rfl | assumption
      case r1 => ktr_room
      case r2 => ktr_units
      intro t8 h8 tk8 F8 N8
      k_steps
      rename_i kF kN _ _ N2
      exact hret _ _ c oc _ _ (.inr ⟨rfl, hcP, vsc, tq, h1, h2⟩) (fun q hq => (hdis q hq).2.1) hlc kF (news_sub (news_app kN N2) (by walk_at "Sub"))
    · rename_i o1 o2 o3 dd1 dd2 dd3 f9 ct9 dc9 h9a tk9 l19 h9 o9 F9 N9 d9 hpos9 kF kN _ _ N2
      have hz : ns.length = 0 := by omega
      rw [hz] at hret
      rw [← h00]
      exact hret _ _ c oc _ _ (.inr ⟨rfl, hcP, vsc, tq, h1, h2⟩) (fun q hq => (hdis q hq).2.1) hlc kF (news_sub (news_app kN N2) (by walk_at "Sub"))
end
def dgs (n : Nat) : Nat → Int → List Int
  | 0, _ => []
  | k + 1, x => x % 2 ^ n :: dgs n k (x / 2 ^ n)
theorem pow_cast (k : Nat) : ((2 : Int) ^ k) = ((2 ^ k : Nat) : Int) := by rw [Int.natCast_pow]; rfl
theorem dgs_add (n : Nat) (b : Nat) : ∀ (a x : Nat), dgs n (a + b) (x : Int) = dgs n a ((x : Int) % 2 ^ (n * a)) ++ dgs n b ((x : Int) / 2 ^ (n * a))
  | 0, x => by simp [dgs]
  | a + 1, x => by
    have e1 : ((x : Int) / 2 ^ n) = ((x / 2 ^ n : Nat) : Int) := by rw [pow_cast]; rfl
    have e2 : ((x : Int) % 2 ^ (n * (a + 1))) % 2 ^ n = (x : Int) % 2 ^ n := by
      rw [pow_cast, pow_cast]
      have : x % 2 ^ (n * (a + 1)) % 2 ^ n = x % 2 ^ n := by
        rw [Nat.mul_succ, Nat.pow_add, Nat.mul_comm (2 ^ (n * a)), Nat.mod_mul_right_mod]
      exact congrArg Int.ofNat this
    have e3 : ((x : Int) % 2 ^ (n * (a + 1))) / 2 ^ n = (((x / 2 ^ n : Nat) : Int)) % 2 ^ (n * a) := by
      rw [pow_cast, pow_cast, pow_cast]
      have : x % 2 ^ (n * (a + 1)) / 2 ^ n = x / 2 ^ n % 2 ^ (n * a) := by
        rw [Nat.mul_succ, Nat.pow_add, Nat.mul_comm (2 ^ (n * a)), Nat.mod_mul_right_div_self]
      exact congrArg Int.ofNat this
    have e4 : ((x : Int) / 2 ^ (n * (a + 1))) = ((x / 2 ^ n : Nat) : Int) / 2 ^ (n * a) := by
      rw [pow_cast, pow_cast]
      have : x / 2 ^ (n * (a + 1)) = x / 2 ^ n / 2 ^ (n * a) := by
        rw [Nat.mul_succ, Nat.pow_add, Nat.mul_comm (2 ^ (n * a)), Nat.div_div_eq_div_mul]
      exact congrArg Int.ofNat this
    rw [show a + 1 + b = (a + b) + 1 by omega, dgs, dgs, e1, dgs_add n b a (x / 2 ^ n), e2, e3, e4, List.cons_append]
theorem dgs_length (n : Nat) : ∀ k x, (dgs n k x).length = k
  | 0, _ => rfl
  | k + 1, x => by rw [dgs, List.length_cons, dgs_length n k]
theorem dig_dgs (n : Nat) : ∀ (k x : Nat), dig n (dgs n k (x : Int)) = (x : Int) % 2 ^ (n * k)
  | 0, x => by simp [dgs, dig]
  | k + 1, x => by
    have e1 : ((x : Int) / 2 ^ n) = ((x / 2 ^ n : Nat) : Int) := by rw [pow_cast]; rfl
    rw [dgs, dig, e1, dig_dgs n k (x / 2 ^ n), pow_cast, pow_cast, pow_cast]
    have : x % 2 ^ n + 2 ^ n * (x / 2 ^ n % 2 ^ (n * k)) = x % 2 ^ (n * (k + 1)) := by
      rw [Nat.mul_succ, Nat.pow_add, Nat.mul_comm (2 ^ (n * k)), Nat.mod_mul]
    exact congrArg Int.ofNat this
theorem dgs_range (n : Nat) : ∀ (k : Nat) (x : Int), ∀ d ∈ dgs n k x, 0 ≤ d ∧ d < 2 ^ n
  | 0, _, d, h => by cases h
  | k + 1, x, d, h => by
    rcases List.mem_cons.mp h with rfl | h
    · have hp : (0 : Int) < 2 ^ n := Int.pow_pos (by decide)
      exact ⟨Int.emod_nonneg _ (by omega), Int.emod_lt_of_pos _ hp⟩
    · exact dgs_range n k _ d h
theorem nat_and_low (x s : Nat) : x &&& (x / 2 ^ s * 2 ^ s) = x / 2 ^ s * 2 ^ s := by
  apply Nat.eq_of_testBit_eq
  intro i
  rw [Nat.testBit_and, Nat.testBit_mul_two_pow, Nat.testBit_div_two_pow]
  by_cases h : s ≤ i
  · simp [h, show i - s + s = i by omega]
  · simp [h]
theorem nat_or_low (x s : Nat) : x ||| (x / 2 ^ s * 2 ^ s) = x := by
  apply Nat.eq_of_testBit_eq
  intro i
  rw [Nat.testBit_or, Nat.testBit_mul_two_pow, Nat.testBit_div_two_pow]
  by_cases h : s ≤ i
  · simp [h, show i - s + s = i by omega]
  · simp [h]
theorem bitAnd_nat (x y : Nat) : Builtin.bitAnd (x : Int) (y : Int) = ((x &&& y : Nat) : Int) := by
  unfold Builtin.bitAnd
  rw [show decide (0 ≤ (x : Int)) = true by simp, show decide (0 ≤ (y : Int)) = true by simp]
  simp
theorem bitOr_nat (x y : Nat) : Builtin.bitOr (x : Int) (y : Int) = ((x ||| y : Nat) : Int) := by
  have nn : ∀ z : Nat, Builtin.bitNot (Builtin.bitNot (z : Int)) = (z : Int) := fun z => by unfold Builtin.bitNot; omega
  have ng : ∀ z : Nat, decide (0 ≤ Builtin.bitNot (z : Int)) = false := fun z => by unfold Builtin.bitNot; simp; omega
  unfold Builtin.bitOr Builtin.bitAnd
  rw [ng x, ng y]
  simp only [nn, Int.toNat_natCast]
theorem xor_low {x s : Nat} : Builtin.bitXor (x : Int) ((x : Int) / 2 ^ s * 2 ^ s) = (x : Int) % 2 ^ s := by
  have e : ((x : Int) / 2 ^ s * 2 ^ s) = ((x / 2 ^ s * 2 ^ s : Nat) : Int) := by rw [pow_cast]; rfl
  unfold Builtin.bitXor
  rw [e, bitAnd_nat, bitOr_nat, nat_and_low, nat_or_low, pow_cast]
  have h := Nat.mod_add_div x (2 ^ s)
  have h2 : x % 2 ^ s = x - x / 2 ^ s * 2 ^ s := by rw [Nat.mul_comm]; omega
  have h3 : x / 2 ^ s * 2 ^ s ≤ x := Nat.div_mul_le_self x (2 ^ s)
  have : ((x % 2 ^ s : Nat) : Int) = (x : Int) - ((x / 2 ^ s * 2 ^ s : Nat) : Int) := by rw [h2]; omega
  rw [← this]; rfl
theorem set_one {n : Nat} {ns : List Int} {i j : Int} {x : Int} (h0 : 0 ≤ i) (h1 : i + 1 = j) (h2 : j ≤ ns.length) (hx : 0 ≤ x) (hx2 : x < 2 ^ n) :
    ns.set i.toNat x = ns.take i.toNat ++ dgs n (j - i).toNat x ++ ns.drop j.toNat := by
  have e : (j - i).toNat = 1 := by omega
  have e2 : j.toNat = i.toNat + 1 := by omega
  rw [e, e2, dgs, dgs, Int.emod_eq_of_lt hx hx2]
  rw [List.set_eq_take_append_cons_drop, if_pos (by omega)]
  simp
theorem set_two {n : Nat} {ns : List Int} {i mid j : Int} {x : Nat} (h0 : 0 ≤ i) (h1 : i ≤ mid) (h2 : mid ≤ j) (h3 : j ≤ ns.length) :
    ((ns.take i.toNat ++ dgs n (mid - i).toNat ((x : Int) % 2 ^ (n * (mid - i).toNat)) ++ ns.drop mid.toNat).take mid.toNat ++ dgs n (j - mid).toNat ((x : Int) / 2 ^ (n * (mid - i).toNat)) ++
      (ns.take i.toNat ++ dgs n (mid - i).toNat ((x : Int) % 2 ^ (n * (mid - i).toNat)) ++ ns.drop mid.toNat).drop j.toNat) = ns.take i.toNat ++ dgs n (j - i).toNat (x : Int) ++ ns.drop j.toNat := by
  have hl : (ns.take i.toNat ++ dgs n (mid - i).toNat ((x : Int) % 2 ^ (n * (mid - i).toNat))).length = mid.toNat := by
    rw [List.length_append, dgs_length, List.length_take]; omega
  have e : (j - i).toNat = (mid - i).toNat + (j - mid).toNat := by omega
  rw [e, dgs_add, List.take_left' hl]
  have ed : (ns.take i.toNat ++ dgs n (mid - i).toNat ((x : Int) % 2 ^ (n * (mid - i).toNat)) ++ ns.drop mid.toNat).drop j.toNat = ns.drop j.toNat := by
    rw [List.drop_append, hl, List.drop_of_length_le (by omega), List.nil_append, List.drop_drop]
    congr 1; omega
  rw [ed, List.append_assoc, List.append_assoc, List.append_assoc, List.append_assoc]
theorem mul_toNat {a n : Int} (ha : 0 ≤ a) (hn : 0 ≤ n) : (a * n).toNat = n.toNat * a.toNat := by
  have a1 : a = ((a.toNat : Nat) : Int) := by omega
  have a2 : n = ((n.toNat : Nat) : Int) := by omega
  rw [a1, a2, ← Int.natCast_mul, Int.toNat_natCast, Int.toNat_natCast, Int.toNat_natCast, Nat.mul_comm]
theorem bx_low {x : Int} {s : Nat} (h : 0 ≤ x) : Builtin.bitXor x (x / 2 ^ s * 2 ^ s) = x % 2 ^ s := by
  obtain ⟨y, rfl⟩ := Int.eq_ofNat_of_zero_le h
  exact xor_low
theorem emod_le_self {x P : Int} (h : 0 ≤ x) (hp : 0 < P) : x % P ≤ x := by
  have h1 := Int.mul_nonneg (Int.le_of_lt hp) (Int.ediv_nonneg h (Int.le_of_lt hp))
  rw [Int.emod_def]; omega
theorem up_bound {x a b : Int} (n : Int) (ha : 0 ≤ a) (hb : 0 ≤ b) (hn : 0 ≤ n) (h : x < 2 ^ ((a + b) * n).toNat) : x / 2 ^ (a * n).toNat < 2 ^ (b * n).toNat := by
  rw [mul_toNat ha hn, mul_toNat hb hn]
  rw [mul_toNat (by omega) hn, show (a + b).toNat = b.toNat + a.toNat by omega, Nat.mul_add, Int.pow_add] at h
  exact Int.ediv_lt_of_lt_mul (Int.pow_pos (by decide)) h
section
variable (w : World)
abbrev i2dPre (f c' cd ci cn l : Addr) (oc ocd oci ocn : Obj) (nm qual : Str) (doc pm ctv : Value) (vs : List Value) (nv : Nat) : List (Addr × Obj) :=
  [(l, listOf vs.toArray nv), (f, innO 4 nm qual [("n", cn), ("inner", ci), ("a_digits", cd)] doc pm c' ctv), (c', oc), (cd, ocd), (ci, oci), (cn, ocn)]
def i2dClaim (K : Nat) (f : Addr) (n : Int) (len : Nat) (pre : List Value → Nat → List (Addr × Obj)) : Prop :=
  ∀ (x i j : Int) (tx ti tj : Tok) (vs : List Value) (nv : Nat) (ns : List Int), 0 ≤ i → i < j → j ≤ len → (j - i).toNat < K → 0 ≤ x → x < 2 ^ 60 → x < 2 ^ ((j - i) * n).toNat → IntsAre vs ns → ns.length = len →
    ∀ (loose : List Str) (mean : ExcName → Option Value) (mg mb : Str → Option Value) (dp un : Nat) (gd : Option (List Code)) (cn' : Str) (cs : Scope) (L ca : Addr) (ccd : Value) (cl : List (Str × Addr)) (outer : List Env) (A₀ : Around) (base h₀ : Heap) (m : Str → Option Value) (rest : List (Addr × Obj)) (s : Shared) (Q E : Value → Shared → Prop),
    Below A₀ base outer h₀ → Fr h₀ L s.heap m → (hd.heap_39 w.params).In h₀ → News h₀ L s.heap (pre vs nv ++ rest) → (∀ q ∈ rest, q.1 ∉ (pre vs nv).map (·.1)) → Top topProg loose mean mg mb h₀ → CodeHd h₀ 34 30 → cs.kind = .function → dp + K < recursionLimit → un + 8 * K < cLine →
    (∀ vs' nv' h' tk', IntsAre vs' (ns.take i.toNat ++ dgs n.toNat (j - i).toNat x ++ ns.drop j.toNat) → Fr h₀ L h' m → News h₀ L h' (pre vs' nv' ++ rest) → Q .none { s with heap := h', toks := tk' }) →
    wpAny (model PySem.Challenge.rw_zr0006_01.row.prog w) (ktrTop dp un gd cn' cs L ca ccd cl outer) (call (.ref f) [.int x tx, .int i ti, .int j tj]) Q E s
set_option maxHeartbeats 4000000 in
theorem i2d_inner {n : Int} {tn : Tok} {len : Nat} {f c' cd ci cn l : Addr} {oc ocd oci ocn : Obj} {nm qual : Str} {doc pm ctv : Value} {vsc : Array Value} {tq : Tok}
    (hn0 : 0 < n) (hn1 : n < 100) (hlen : len < 100) (hne : NeN l f ∧ NeN l c' ∧ NeN l cd ∧ NeN l ci ∧ NeN l cn)
    (h1 : oc.data = .fields vsc) (h2 : vsc[1]? = some (.str qual tq)) (h3 : ocd.data = .cell (some (.ref l))) (h4 : oci.data = .cell (some (.ref f))) (h5 : ocn.data = .cell (some (.int n tn))) :
    ∀ K, i2dClaim w K f n len (i2dPre f c' cd ci cn l oc ocd oci ocn nm qual doc pm ctv) := by
  intro K
  induction K with
  | zero => intro x i j _ _ _ vs nv ns _ _ _ hk; omega
  | succ K IH =>
    intro x i j tx ti tj vs nv ns hi hij hj hk hx0 hx60 hxb hI hln loose mean mg mb dp un gd cn' cs L ca ccd cl outer A₀ base h₀ m rest s Q E B F X N hdis T C hck hd hu hret
    revert X; k_fill; intro X
    have hcr : s.heap.CodeRec (.ref c') qual := codeRec_news N (.tail _ (.tail _ (.head _))) h1 h2
    refine wpAny_call ?_
    refine' (fun (hb : stBody (innerOf 4) = _) => ?_) ?hb0
    case hb0 => conv => lhs; whnf
    refine' (fun (hs : stScope (innerOf 4) = _) => ?_) ?hs0
    case hs0 => conv => lhs; whnf
    k_dflt (refine' code_nest_rest (binds := [(Str.ofString "x", .int x tx), (Str.ofString "L", .int i ti), (Str.ofString "R", .int j tj)]) (pre := i2dPre f c' cd ci cn l oc ocd oci ocn nm qual doc pm ctv vs nv) (rest := rest) ?k1 ?k2 ?k3 ?k4 ?kd ?k5 ?kA ?kF ?kK ?k6 ?k7 ?k8 ?k9 ?kB ?_ ?c2 ?c3 ?c4 ?c5; (case kA => exact rfl); (case kF => exact rfl); (case kK => assumption); (case k1 => k_asm); (case k2 => k_asm); (case k3 => k_asm); (case k4 => k_asm); (case kd => assumption); (case k5 => k_asm); (case k6 => exact .tail _ (.head _)); (case k7 => exact hcr); (case k8 => ktr_room); (case k9 => exact BindsTo.of_eq rfl); (case c5 => (rw [hs]; decide)); (case kB => exact locs rfl); (case c2 => exact rfl); (case c3 => exact rfl); (case c4 => exact rfl); k_whole; intro g' L' h' FG' F' N' B' X' T' _ hG' hst'; have C' := CodeHd.keeps C hst'; (try dsimp only); rw [hb, hs]; clear hb hs; (try dsimp only); (try k_fold))
    k_with_none
    by_cases hone : i + 1 = j
    · k_steps
      all_goals (try (exfalso; omega))
      rename_i h9 F9 N9 hi9 hl9 hs9 kF kN _ _ N2
      rw [mul_toNat (by omega) (by omega), show (j - i).toNat = 1 by omega, Nat.mul_one] at hxb
      rw [set_one (n := n.toNat) hi hone (by omega) hx0 hxb] at hi9
      exact hret _ _ _ _ hi9 kF (news_app kN N2)
    · have hp0 : 0 ≤ ((i + j) / 2 - i) * n := Int.mul_nonneg (by omega) (by omega)
      have hp1 : ((i + j) / 2 - i) * n ≤ 100 * 100 := Int.mul_le_mul (by omega) (by omega) (by omega) (by omega)
      have hP : (0 : Int) < 2 ^ (((i + j) / 2 - i) * n).toNat := Int.pow_pos (by decide)
      have hu0 : 0 ≤ x / 2 ^ (((i + j) / 2 - i) * n).toNat := Int.ediv_nonneg hx0 (by omega)
      have hu1 : x / 2 ^ (((i + j) / 2 - i) * n).toNat ≤ x := Int.ediv_le_self _ hx0
      have hu2 : x / 2 ^ (((i + j) / 2 - i) * n).toNat < 2 ^ ((j - (i + j) / 2) * n).toNat := up_bound n (by omega) (by omega) (by omega) (by rw [show (i + j) / 2 - i + (j - (i + j) / 2) = j - i by omega]; exact hxb)
      have hlow := bx_low (s := (((i + j) / 2 - i) * n).toNat) hx0
      have hl0 : 0 ≤ x % 2 ^ (((i + j) / 2 - i) * n).toNat := Int.emod_nonneg _ (by omega)
      have hl1 : x % 2 ^ (((i + j) / 2 - i) * n).toNat < 2 ^ (((i + j) / 2 - i) * n).toNat := Int.emod_lt_of_pos _ hP
      have hl2 : x % 2 ^ (((i + j) / 2 - i) * n).toNat < 2 ^ 60 := Int.lt_of_le_of_lt (emod_le_self hx0 hP) hx60
      k_steps
      all_goals (try (exfalso; omega))
      rw [hlow]
      refine' IH _ _ _ _ _ _ _ _ _ ?q1 ?q2 ?q3 ?q4 ?q5 ?q6 ?q7 ?q8 ?q9 _ _ _ _ _ _ _ _ _ _ _ _ _ _ _ _ _ _ [] _ _ _ ?k1 ?k2 ?k3 ?k4 ?kd ?k5 ?kc ?kK ?r1 ?r2 ?_
      case q1 => omega
      case q2 => omega
      case q3 => omega
      case q4 => omega
      case q5 => omega
      case q6 => omega
      case q7 => assumption
      case q8 => assumption
      case q9 => assumption
      case k1 => k_asm
      case k2 => k_asm
      case k3 => k_asm
      case k4 => (rw [List.append_nil]; k_asm)
      case kd => exact fun _ h => nomatch h
      case k5 => k_asm
      case kc => kn_code
      case kK => first | exact rfl | assumption
      case r1 => ktr_room
      case r2 => ktr_units
      intro vs1 nv1 h1' tk1 hI1 F1 N1
      rw [List.append_nil] at N1
      have hln1 : (List.take i.toNat ns ++ dgs n.toNat ((i + j) / 2 - i).toNat (x % 2 ^ (((i + j) / 2 - i) * n).toNat) ++ List.drop ((i + j) / 2).toNat ns).length = len := by
        rw [List.length_append, List.length_append, dgs_length, List.length_take, List.length_drop]; omega
      k_steps
      refine' IH _ _ _ _ _ _ _ _ _ ?q1 ?q2 ?q3 ?q4 ?q5 ?q6 ?q7 ?q8 ?q9 _ _ _ _ _ _ _ _ _ _ _ _ _ _ _ _ _ _ [] _ _ _ ?k1 ?k2 ?k3 ?k4 ?kd ?k5 ?kc ?kK ?r1 ?r2 ?_
      case q1 => omega
      case q2 => omega
      case q3 => omega
      case q4 => omega
      case q5 => omega
      case q6 => omega
      case q7 => assumption
      case q8 => assumption
      case q9 => exact hln1
      case k1 => k_asm
      case k2 => k_asm
      case k3 => k_asm
      case k4 => (rw [List.append_nil]; k_asm)
      case kd => exact fun _ h => nomatch h
      case k5 => k_asm
      case kc => kn_code
      case kK => first | exact rfl | assumption
      case r1 => ktr_room
      case r2 => ktr_units
      intro vs2 nv2 h2' tk2 hI2 F2 N2
      rw [List.append_nil] at N2
      rw [mul_toNat (by omega) (by omega)] at hI2
      obtain ⟨y, rfl⟩ := Int.eq_ofNat_of_zero_le hx0
      rw [set_two hi (by omega) (by omega) (by omega)] at hI2
      k_steps
      rename_i kF kN _ _ N3
      exact hret _ _ _ _ hI2 kF (news_app kN N3)
end
theorem lt_bits {a : Int} (h0 : 0 ≤ a) : a < 2 ^ (Builtin.Int.intBits a) := by
  unfold Builtin.Int.intBits
  by_cases hz : a = 0
  · subst hz; decide
  · have h1 : a.natAbs ≠ 0 := by omega
    have h5 : (a == 0) = false := by simp [hz]
    rw [h5]
    simp only [Bool.false_eq_true, if_false]
    have h2 : a.natAbs < 2 ^ (a.natAbs.log2 + 1) := (Nat.log2_lt h1).mp (Nat.lt_succ_self _)
    rw [pow_cast]
    omega
theorem bits_pos {a : Int} (h0 : 0 < a) : 0 < Builtin.Int.intBits a := by
  unfold Builtin.Int.intBits
  have h5 : (a == 0) = false := by simp; omega
  rw [h5]; simp
theorem len_ok {a n : Int} (h0 : 0 ≤ a) (hn : 0 < n) : a < 2 ^ (((((Builtin.Int.intBits a : Nat) : Int) + n - 1) / n) * n).toNat := by
  refine Int.lt_of_lt_of_le (lt_bits h0) ?_
  rw [pow_cast, pow_cast]
  refine Int.ofNat_le.mpr (Nat.pow_le_pow_right (by decide) ?_)
  have h1 := Int.emod_add_mul_ediv (((Builtin.Int.intBits a : Nat) : Int) + n - 1) n
  have h2 := Int.emod_lt_of_pos (((Builtin.Int.intBits a : Nat) : Int) + n - 1) hn
  have h3 : n * ((((Builtin.Int.intBits a : Nat) : Int) + n - 1) / n) = ((((Builtin.Int.intBits a : Nat) : Int) + n - 1) / n) * n := Int.mul_comm _ _
  omega
section
variable (w : World)
abbrev q4 : Str := Str.ofString "_int2digits.<locals>.inner"
set_option maxHeartbeats 4000000 in
theorem i2d_ok {a n : Int} {ta tn : Tok} {c : Addr} {ps : Array Value} {oc : Obj} (hT : TabS 30 32 4 q4 ps c oc)
    (ha0 : 0 ≤ a) (ha1 : a < 2 ^ 20) (hn0 : 0 < n) (hn1 : n < 100)
    {loose : List Str} {mean : ExcName → Option Value} {mg mb : Str → Option Value} {dp un : Nat} {gd : Option (List Code)} {cn' : Str} {cs : Scope} {L ca : Addr} {ccd : Value} {cl : List (Str × Addr)} {outer : List Env} {A₀ : Around} {base h₀ : Heap} {m : Str → Option Value} {rest : List (Addr × Obj)} {s : Shared} {Q E : Value → Shared → Prop}
    (B : Below A₀ base outer h₀) (F : Fr h₀ L s.heap m) (X : (hd.heap_39 w.params).In h₀) (N : News h₀ L s.heap ((30, tabObj ps) :: (c, oc) :: rest)) (hdis : ∀ q ∈ rest, NeN q.1 30 ∧ NeN q.1 c) (T : Top topProg loose mean mg mb h₀) (C : CodeHd h₀ 34 30) (hck : cs.kind = .function) (hd : dp + 110 < recursionLimit) (hu : un + 1000 < cLine)
    (hret : ∀ l vs nv ps' c' oc' h' tk', TabS 30 32 4 q4 ps' c' oc' → IntsAre vs (dgs n.toNat ((((Builtin.Int.intBits a : Nat) : Int) + n - 1) / n).toNat a) → (∀ q ∈ rest, NeN q.1 c' ∧ NeN q.1 l) → NeN l 30 → NeN l c' → Fr h₀ L h' m → News h₀ L h' ((30, tabObj ps') :: (c', oc') :: (l, listOf vs.toArray nv) :: rest) → Q (.ref l) { s with heap := h', toks := tk' }) :
    wpAny (model PySem.Challenge.rw_zr0006_01.row.prog w) (ktrTop dp un gd cn' cs L ca ccd cl outer) (call (.ref 35) [.int a ta, .int n tn]) Q E s := by
  revert X; k_fill; intro X
  rcases hT with ⟨rfl, rfl, rfl⟩ | ⟨rfl, hcP, vsc, tq, h1, h2⟩
  · refine wpAny_call ?_
    k_dflt (refine' code_defC_rest (binds := [(Str.ofString "a", .int a ta), (Str.ofString "n", .int n tn)]) (pre := [(30, tabObj #[])]) (rest := rest) ?k1 ?k2 ?k3 ?k4 ?kd ?k5 ?kA ?kF ?kK ?k6 ?k7 ?k8 ?k9 ?kB ?kD ?_ ?c2 ?c3 ?c4; (case kA => exact rfl); (case kF => exact rfl); (case kK => assumption); (case k1 => k_asm); (case k2 => k_asm); (case k3 => k_asm); (case k4 => exact fun q hq => N q (.tail _ hq)); (case kd => (intro q hq; have h8 := hdis q hq; walk_at "Nin")); (case k5 => k_asm); (case k6 => k_is); (case k7 => k_is); (case k8 => ktr_room); (case k9 => exact BindsTo.of_eq rfl); (case kB => exact rfl); (case kD => decide +kernel); (case c2 => exact rfl); (case c3 => exact rfl); (case c4 => exact rfl); k_whole; intro g' L' h' tk' cells' FG' F' N' Y' B' X' T' l1 hG' hst'; have C' := CodeHd.keeps C hst'; (try k_lt l1); k_cells Y'; (try simp only [List.cons_append, List.nil_append] at N'); (try dsimp only); (try k_fold))
    k_with_none
    have hb0 : (0 : Int) ≤ ((Builtin.Int.intBits a : Nat) : Int) := by omega
    have hb1 : ((Builtin.Int.intBits a : Nat) : Int) ≤ 20 := intBits_le ha0 ha1
    have hk0 : 0 ≤ (((Builtin.Int.intBits a : Nat) : Int) + n - 1) / n := Int.ediv_nonneg (by omega) (by omega)
    have hk1 : (((Builtin.Int.intBits a : Nat) : Int) + n - 1) / n < 30 := Int.ediv_lt_of_lt_mul hn0 (by omega)
    rename_i o1 o2 o3 dd1 dd2 dd3
    k_steps
    · rename_i l0 h01 l10 D9 h02 i19 n19 s19 e19 e29 e39 l11 h03 oa da f9 c9 oc9 vs9 t9 ct9 dc9 h9a tk9 d19 d29 l19 l29 h9 o9 F9 N9 d9 hpos9
      have hkk := e39 hk0
      have hn19 : (n19 : Int) = (((Builtin.Int.intBits a : Nat) : Int) + n - 1) / n := by rw [hkk]; omega
      have hbp := bits_pos (a := a) (by omega)
      have hkp : 1 ≤ (((Builtin.Int.intBits a : Nat) : Int) + n - 1) / n := Int.le_ediv_of_mul_le hn0 (by omega)
      refine' i2d_inner w (c' := c9) (cd := L' + 1 + 1) (cn := L' + 1) (ci := L' + 1 + 1 + 1) (oc := oc9) (oci := o9) (ocn := o3) (ocd := oa) (l := D9) (len := n19) hn0 hn1 ?hl ?hne d19 d29 da d9 dd3 101 _ _ _ _ _ _ _ _ _ ?q1 ?q2 ?q3 ?q4 ?q5 ?q6 ?q7 ?q8 ?q9 _ _ _ _ _ _ _ _ _ _ _ _ _ _ _ _ _ _ [(30, tabObj (#[] ++ #[rawInt 32, rawInt 4, Value.ref c9]))] _ _ _ ?k1 ?k2 ?k3 ?k4 ?kd ?k5 ?kc ?kK ?r1 ?r2 ?_
      case hl => omega
      case hne => (dsimp only [NeN]; omega)
      case q1 => omega
      case q2 => omega
      case q3 => omega
      case q4 => omega
      case q5 => omega
      case q6 => omega
      case q7 => (rw [Int.sub_zero, hn19]; exact len_ok ha0 hn0)
      case q8 => exact i19
      case q9 => exact e19
      case k1 => k_asm
      case k2 => k_asm
      case k3 => k_asm
      case k4 => exact news_sub N9 (by walk_at "Sub")
      case kd => (intro q hq; rw [List.mem_singleton.mp hq]; walk_at "Nin")
      case k5 => k_asm
      case kc => kn_code
      case kK => first | exact rfl | assumption
      case r1 => ktr_room
      case r2 => ktr_units
      intro vs8 nv8 h8 tk8 hI8 F8 N8
      have hdrop : List.drop ((((Builtin.Int.intBits a : Nat) : Int) + n - 1) / n).toNat (List.replicate ((((Builtin.Int.intBits a : Nat) : Int) + n - 1) / n).toNat [(0 : Int)]).flatten = [] := List.drop_eq_nil_of_le (by rw [e19]; omega)
      simp only [hn19, Int.sub_zero, Int.toNat_zero, List.take_zero, List.nil_append, hdrop, List.append_nil] at hI8
      k_steps
      rename_i kF kN _ _ N2
      exact hret _ _ _ _ c9 oc9 _ _ (.inr ⟨rfl, (by (try dsimp only); omega : NeN c9 30), vs9, t9, d19, d29⟩) hI8 (fun q hq => ⟨rest_ne N8 hG' (.tail _ (.tail _ (.head _))) q hq, rest_ne N8 hG' (.head _) q hq⟩) (by (try dsimp only); omega : NeN D9 30) (by (try dsimp only); omega : NeN D9 c9) kF (news_sub (news_app kN N2) (by walk_at "Sub"))
    · rename_i l0 h01 l10 D9 h02 i19 n19 s19 e19 e29 e39 l11 h03 oa da f9 c9 oc9 vs9 t9 ct9 dc9 h9a tk9 d19 d29 l19 l29 h9 o9 F9 N9 d9 hpos9 kF kN _ _ N2
      have hz : a = 0 := by omega
      subst hz
      have hk00 : (((Builtin.Int.intBits 0 : Nat) : Int) + n - 1) / n = 0 := Int.ediv_eq_zero_of_lt (by show 0 ≤ (0 : Int) + n - 1; omega) (by show (0 : Int) + n - 1 < n; omega)
      have hI8 : IntsAre (List.replicate ((((Builtin.Int.intBits 0 : Nat) : Int) + n - 1) / n).toNat [Value.int 0 tk']).flatten (dgs n.toNat ((((Builtin.Int.intBits 0 : Nat) : Int) + n - 1) / n).toNat 0) := by
        rw [hk00]; exact IntsAre.nil
      exact hret _ _ _ _ c9 oc9 _ _ (.inr ⟨rfl, (by (try dsimp only); omega : NeN c9 30), vs9, t9, d19, d29⟩) hI8 (fun q hq => ⟨rest_ne N9 hG' (.tail _ (.head _)) q hq, rest_ne N9 hG' (.tail _ (.tail _ (.head _))) q hq⟩) (by (try dsimp only); omega : NeN D9 30) (by (try dsimp only); omega : NeN D9 c9) kF (news_sub (news_app kN N2) (by walk_at "Sub"))
  · refine wpAny_call ?_
    k_dflt (refine' code_defC_rest (binds := [(Str.ofString "a", .int a ta), (Str.ofString "n", .int n tn)]) (pre := [(30, tabObj (#[] ++ #[rawInt 32, rawInt 4, Value.ref c])), (c, oc)]) (rest := rest) ?k1 ?k2 ?k3 ?k4 ?kd ?k5 ?kA ?kF ?kK ?k6 ?k7 ?k8 ?k9 ?kB ?kD ?_ ?c2 ?c3 ?c4; (case kA => exact rfl); (case kF => exact rfl); (case kK => assumption); (case k1 => k_asm); (case k2 => k_asm); (case k3 => k_asm); (case k4 => k_asm); (case kd => (intro q hq; have h8 := hdis q hq; walk_at "Nin")); (case k5 => k_asm); (case k6 => k_is); (case k7 => k_is); (case k8 => ktr_room); (case k9 => exact BindsTo.of_eq rfl); (case kB => exact rfl); (case kD => decide +kernel); (case c2 => exact rfl); (case c3 => exact rfl); (case c4 => exact rfl); k_whole; intro g' L' h' tk' cells' FG' F' N' Y' B' X' T' l1 hG' hst'; have C' := CodeHd.keeps C hst'; (try k_lt l1); k_cells Y'; (try simp only [List.cons_append, List.nil_append] at N'); (try dsimp only); (try k_fold))
    k_with_none
    have hb0 : (0 : Int) ≤ ((Builtin.Int.intBits a : Nat) : Int) := by omega
    have hb1 : ((Builtin.Int.intBits a : Nat) : Int) ≤ 20 := intBits_le ha0 ha1
    have hk0 : 0 ≤ (((Builtin.Int.intBits a : Nat) : Int) + n - 1) / n := Int.ediv_nonneg (by omega) (by omega)
    have hk1 : (((Builtin.Int.intBits a : Nat) : Int) + n - 1) / n < 30 := Int.ediv_lt_of_lt_mul hn0 (by omega)
    rename_i o1 o2 o3 dd1 dd2 dd3
    k_steps
    · rename_i l0 h01 l10 D9 h02 i19 n19 s19 e19 e29 e39 l11 h03 oa da f9 ct9 dc9 h9a tk9 l19 h9 o9 F9 N9 d9 hpos9
      have hkk := e39 hk0
      have hn19 : (n19 : Int) = (((Builtin.Int.intBits a : Nat) : Int) + n - 1) / n := by rw [hkk]; omega
      have hbp := bits_pos (a := a) (by omega)
      have hkp : 1 ≤ (((Builtin.Int.intBits a : Nat) : Int) + n - 1) / n := Int.le_ediv_of_mul_le hn0 (by omega)
      refine' i2d_inner w (c' := c) (cd := L' + 1 + 1) (cn := L' + 1) (ci := L' + 1 + 1 + 1) (oc := oc) (oci := o9) (ocn := o3) (ocd := oa) (l := D9) (len := n19) hn0 hn1 ?hl ?hne h1 h2 da d9 dd3 101 _ _ _ _ _ _ _ _ _ ?q1 ?q2 ?q3 ?q4 ?q5 ?q6 ?q7 ?q8 ?q9 _ _ _ _ _ _ _ _ _ _ _ _ _ _ _ _ _ _ [(30, tabObj (#[] ++ #[rawInt 32, rawInt 4, Value.ref c]))] _ _ _ ?k1 ?k2 ?k3 ?k4 ?kd ?k5 ?kc ?kK ?r1 ?r2 ?_
      case hl => omega
      case hne => (dsimp only [NeN]; omega)
      case q1 => omega
      case q2 => omega
      case q3 => omega
      case q4 => omega
      case q5 => omega
      case q6 => omega
      case q7 => (rw [Int.sub_zero, hn19]; exact len_ok ha0 hn0)
      case q8 => exact i19
      case q9 => exact e19
      case k1 => k_asm
      case k2 => k_asm
      case k3 => k_asm
      case k4 => exact news_sub N9 (by walk_at "Sub")
      case kd => (intro q hq; rw [List.mem_singleton.mp hq]; walk_at "Nin")
      case k5 => k_asm
      case kc => kn_code
      case kK => first | exact rfl | assumption
      case r1 => ktr_room
      case r2 => ktr_units
      intro vs8 nv8 h8 tk8 hI8 F8 N8
      have hdrop : List.drop ((((Builtin.Int.intBits a : Nat) : Int) + n - 1) / n).toNat (List.replicate ((((Builtin.Int.intBits a : Nat) : Int) + n - 1) / n).toNat [(0 : Int)]).flatten = [] := List.drop_eq_nil_of_le (by rw [e19]; omega)
      simp only [hn19, Int.sub_zero, Int.toNat_zero, List.take_zero, List.nil_append, hdrop, List.append_nil] at hI8
      k_steps
      rename_i kF kN _ _ N2
      exact hret _ _ _ _ c oc _ _ (.inr ⟨rfl, hcP, vsc, tq, h1, h2⟩) hI8 (fun q hq => ⟨(hdis q hq).2, rest_ne N8 hG' (.head _) q hq⟩) (by (try dsimp only); omega : NeN D9 30) (by (try dsimp only); omega : NeN D9 c) kF (news_sub (news_app kN N2) (by walk_at "Sub"))
    · rename_i l0 h01 l10 D9 h02 i19 n19 s19 e19 e29 e39 l11 h03 oa da f9 ct9 dc9 h9a tk9 l19 h9 o9 F9 N9 d9 hpos9 kF kN _ _ N2
      have hz : a = 0 := by omega
      subst hz
      have hk00 : (((Builtin.Int.intBits 0 : Nat) : Int) + n - 1) / n = 0 := Int.ediv_eq_zero_of_lt (by show 0 ≤ (0 : Int) + n - 1; omega) (by show (0 : Int) + n - 1 < n; omega)
      have hI8 : IntsAre (List.replicate ((((Builtin.Int.intBits 0 : Nat) : Int) + n - 1) / n).toNat [Value.int 0 tk']).flatten (dgs n.toNat ((((Builtin.Int.intBits 0 : Nat) : Int) + n - 1) / n).toNat 0) := by
        rw [hk00]; exact IntsAre.nil
      exact hret _ _ _ _ c oc _ _ (.inr ⟨rfl, hcP, vsc, tq, h1, h2⟩) hI8 (fun q hq => ⟨(hdis q hq).2, rest_ne N9 hG' (.tail _ (.head _)) q hq⟩) (by (try dsimp only); omega : NeN D9 30) (by (try dsimp only); omega : NeN D9 c) kF (news_sub (news_app kN N2) (by walk_at "Sub"))
end
theorem dig_nonneg {n : Nat} : ∀ {xs : List Int}, (∀ d ∈ xs, 0 ≤ d) → 0 ≤ dig n xs
  | [], _ => Int.le_refl _
  | d :: r, h => by
    have h1 := h d (.head _)
    have h2 := dig_nonneg (n := n) (xs := r) fun e he => h e (.tail _ he)
    have h3 : (0 : Int) < 2 ^ n := Int.pow_pos (by decide)
    have h4 := Int.mul_nonneg (Int.le_of_lt h3) h2
    rw [dig]; omega
theorem dig_right {n : Nat} {xs ys : List Int} (hx : ∀ d ∈ xs, 0 ≤ d) (hy : ∀ d ∈ ys, 0 ≤ d) : dig n ys ≤ dig n (xs ++ ys) := by
  rw [dig_append]
  have h1 := dig_nonneg (n := n) hx
  have h2 := dig_nonneg (n := n) hy
  have h3 : (1 : Int) ≤ 2 ^ (n * xs.length) := Int.pow_pos (by decide)
  have h4 := Int.mul_le_mul_of_nonneg_right h3 h2
  omega
theorem dig_left {n : Nat} {xs ys : List Int} (hy : ∀ d ∈ ys, 0 ≤ d) : dig n xs ≤ dig n (xs ++ ys) := by
  rw [dig_append]
  have h2 := dig_nonneg (n := n) hy
  have h3 : (0 : Int) < 2 ^ (n * xs.length) := Int.pow_pos (by decide)
  have h4 := Int.mul_nonneg (Int.le_of_lt h3) h2
  omega
theorem dg_bounds {n : Int} {xs : List Int} {i j : Int} (h : ∀ d ∈ xs, 0 ≤ d) : 0 ≤ dg n xs i j ∧ dg n xs i j ≤ dig n.toNat xs := by
  unfold dg
  have hd : ∀ d ∈ xs.drop i.toNat, 0 ≤ d := fun d hd => h d (List.mem_of_mem_drop hd)
  refine ⟨dig_nonneg fun d hm => hd d (List.mem_of_mem_take hm), ?_⟩
  have h1 : dig n.toNat ((xs.drop i.toNat).take (j.toNat - i.toNat)) ≤ dig n.toNat (xs.drop i.toNat) := by
    conv => rhs; rw [← List.take_append_drop (j.toNat - i.toNat) (xs.drop i.toNat)]
    exact dig_left fun d hm => hd d (List.mem_of_mem_drop hm)
  have h2 : dig n.toNat (xs.drop i.toNat) ≤ dig n.toNat xs := by
    conv => rhs; rw [← List.take_append_drop i.toNat xs]
    exact dig_right (fun d hm => h d (List.mem_of_mem_take hm)) hd
  omega
theorem dg_whole {n : Int} {xs : List Int} : dg n xs 0 xs.length = dig n.toNat xs := by
  unfold dg; simp
/-- one turn of the long division -/
theorem div_turn {n : Nat} {pre qs : List Int} {y r b : Int} (hb : 0 < b) (h : dig n pre.reverse = dig n qs.reverse * b + r) :
    dig n (pre ++ [y]).reverse = dig n (qs ++ [(r * 2 ^ n + y) / b]).reverse * b + (r * 2 ^ n + y) % b := by
  rw [List.reverse_append, List.reverse_append, List.reverse_singleton, List.reverse_singleton, List.singleton_append, List.singleton_append, dig, dig, h]
  have h1 := Int.emod_add_mul_ediv (r * 2 ^ n + y) b
  have h2 : ((r * 2 ^ n + y) / b + 2 ^ n * dig n qs.reverse) * b = b * ((r * 2 ^ n + y) / b) + 2 ^ n * (dig n qs.reverse * b) := by
    rw [Int.add_mul, Int.mul_comm ((r * 2 ^ n + y) / b) b, Int.mul_assoc]
  rw [h2, Int.mul_add, Int.mul_comm (2 ^ n) r]
  omega
theorem div_is {a b q r : Int} (hb : 0 < b) (h : a = q * b + r) (h0 : 0 ≤ r) (h1 : r < b) : q = a / b ∧ r = a % b := by
  have e : a / b = q := by
    rw [h, Int.add_comm, Int.add_mul_ediv_right r q (by omega), Int.ediv_eq_zero_of_lt h0 h1, Int.zero_add]
  refine ⟨e.symm, ?_⟩
  rw [Int.emod_def, e, Int.mul_comm]; omega
section
variable (w : World)
set_option maxHeartbeats 4000000 in
theorem dpos_ok {a b : Int} {ta tb : Tok} {c c2 : Addr} {ps ps2 : Array Value} {oc oc2 : Obj} (hT : TabS 30 32 4 q4 ps c oc) (hT2 : TabS 37 47 4 q5 ps2 c2 oc2) (hc : NeN c 37 ∧ NeN c2 30 ∧ NeN c c2)
    (ha0 : 0 ≤ a) (ha1 : a < 2 ^ 20) (hb0 : 0 < b) (hb1 : b < 2 ^ 20)
    {loose : List Str} {mean : ExcName → Option Value} {mg mb : Str → Option Value} {dp un : Nat} {gd : Option (List Code)} {cn' : Str} {cs : Scope} {L ca : Addr} {ccd : Value} {cl : List (Str × Addr)} {outer : List Env} {A₀ : Around} {base h₀ : Heap} {m : Str → Option Value} {rest : List (Addr × Obj)} {s : Shared} {Q E : Value → Shared → Prop}
    (B : Below A₀ base outer h₀) (F : Fr h₀ L s.heap m) (X : (hd.heap_39 w.params).In h₀) (N : News h₀ L s.heap ([(30, tabObj ps), (c, oc), (37, tabObj ps2), (c2, oc2)] ++ rest)) (hdis : ∀ q ∈ rest, NeN q.1 30 ∧ NeN q.1 c ∧ NeN q.1 37 ∧ NeN q.1 c2) (T : Top topProg loose mean mg mb h₀) (C : CodeHd h₀ 34 30) (C2 : CodeHd h₀ 41 37) (hck : cs.kind = .function) (hd : dp + 120 < recursionLimit) (hu : un + 1100 < cLine)
    (hret : ∀ (r : Addr) (t1 t2 : Tok) ps' c' oc' ps2' c2' oc2' h' tk', TabS 30 32 4 q4 ps' c' oc' → TabS 37 47 4 q5 ps2' c2' oc2' → (NeN c' 37 ∧ NeN c2' 30 ∧ NeN c' c2') → (∀ q ∈ rest, NeN q.1 c' ∧ NeN q.1 c2' ∧ NeN q.1 r) → (NeN r 30 ∧ NeN r c' ∧ NeN r 37 ∧ NeN r c2') →
      Fr h₀ L h' m → News h₀ L h' ([(r, tupO [.int (a / b) t1, .int (a % b) t2]), (30, tabObj ps'), (c', oc'), (37, tabObj ps2'), (c2', oc2')] ++ rest) → Q (.ref r) { s with heap := h', toks := tk' }) :
    wpAny (model PySem.Challenge.rw_zr0006_01.row.prog w) (ktrTop dp un gd cn' cs L ca ccd cl outer) (call (.ref 49) [.int a ta, .int b tb]) Q E s := by
  revert X; k_fill; intro X
  refine wpAny_call ?_
  k_dflt (refine' code_def_rest (binds := [(Str.ofString "a", .int a ta), (Str.ofString "b", .int b tb)]) (pre := [(30, tabObj ps), (c, oc), (37, tabObj ps2), (c2, oc2)]) (rest := rest) ?k1 ?k2 ?k3 ?k4 ?kd ?k5 ?kA ?kF ?kK ?k6 ?k7 ?k8 ?k9 ?kB ?_ ?c2 ?c3 ?c4 ?c5; (case kA => exact rfl); (case kF => exact rfl); (case kK => assumption); (case k1 => k_asm); (case k2 => k_asm); (case k3 => k_asm); (case k4 => k_asm); (case kd => (intro q hq; have h8 := hdis q hq; walk_at "Nin")); (case k5 => k_asm); (case k6 => k_is); (case k7 => k_is); (case k8 => ktr_room); (case k9 => exact BindsTo.of_eq rfl); (case c5 => decide); (case kB => exact locs rfl); (case c2 => exact rfl); (case c3 => exact rfl); (case c4 => exact rfl); k_whole; intro g' L' h' FG' F' N' B' X' T' l1 hG' hst'; (try k_lt l1); have C' := CodeHd.keeps C hst'; have C2' := CodeHd.keeps C2 hst'; (try dsimp only); (try k_fold))
  have hn0 : (1 : Int) ≤ ((Builtin.Int.intBits b : Nat) : Int) := by have := bits_pos hb0; omega
  have hk0 : 0 ≤ (((Builtin.Int.intBits a : Nat) : Int) + ((Builtin.Int.intBits b : Nat) : Int) - 1) / ((Builtin.Int.intBits b : Nat) : Int) := Int.ediv_nonneg (by omega) (by omega)
  have hba : ((Builtin.Int.intBits a : Nat) : Int) ≤ 20 := intBits_le ha0 ha1
  have hk1 : (((Builtin.Int.intBits a : Nat) : Int) + ((Builtin.Int.intBits b : Nat) : Int) - 1) / ((Builtin.Int.intBits b : Nat) : Int) < 30 := Int.ediv_lt_of_lt_mul (by omega) (by omega)
  have hn1 : ((Builtin.Int.intBits b : Nat) : Int) ≤ 20 := intBits_le (by omega) hb1
  k_with_none
  k_with "loop" => fail "stop"
  k_steps
  refine' i2d_ok w hT ha0 ha1 ?n0 ?n1 ?k1 ?k2 ?k3 ?k4 ?kd ?k5 ?kc ?kK ?r1 ?r2 ?_
  case n0 => omega
  case n1 => omega
  case k1 => k_asm
  case k2 => k_asm
  case k3 => k_asm
  case k4 => k_asm
  case kd => walk_at "Fa"
  case k5 => k_asm
  case kc => kn_code
  case kK => first | exact rfl | assumption
  case r1 => ktr_room
  case r2 => ktr_units
  intro l9 vs9 nv9 ps9 c9 oc9 h9 tk9 hT9 hI9 hq9 hn9 hm9 F9 N9
  (try dsimp only)
  (try k_fold)
  simp only [List.forall_mem_cons, List.forall_mem_nil, and_true] at hq9
  k_steps
  rename_i qa hA l1A hB D9 hC FL NL l1B
  refine loop_rev (I := D9) (l := l9) (vs := vs9) (nv := nv9) (news := [(qa, listOf #[] 0), (30, tabObj ps9), (c9, oc9), (37, tabObj ps2), (c2, oc2)])
    (fun M0 i m₁ n₁ => ∃ (r : Int) (tr : Tok) (qs : List Int) (vsq : List Value) (nq : Nat) (ad qd : Option Value),
      m₁ = (fun y => if y = Str.ofString "a_digit" then ad else if y = Str.ofString "q_digit" then qd else if y = Str.ofString "r" then some (.int r tr) else M0 y) ∧
      n₁ = [(qa, listOf vsq.toArray nq), (30, tabObj ps9), (c9, oc9), (37, tabObj ps2), (c2, oc2)] ∧ IntsAre vsq qs ∧ qs.length = i ∧ 0 ≤ r ∧ r < b ∧ (∀ d ∈ qs, 0 ≤ d) ∧
      dig (((Builtin.Int.intBits b : Nat) : Int)).toNat ((dgs (((Builtin.Int.intBits b : Nat) : Int)).toNat ((((Builtin.Int.intBits a : Nat) : Int) + ((Builtin.Int.intBits b : Nat) : Int) - 1) / ((Builtin.Int.intBits b : Nat) : Int)).toNat a).reverse.take i).reverse = dig (((Builtin.Int.intBits b : Nat) : Int)).toNat qs.reverse * b + r)
    rfl hI9 FL (news_sub NL (by walk_at "Sub")) ?hlI ?hof ?hJ0 ?turn ?done
  case hlI => omega
  case hof => walk_at "Fa"
  case hJ0 =>
    exact ⟨0, _, [], [], 0, _, _, over3 (fun _ _ _ _ => rfl), rfl, IntsAre.nil, rfl, Int.le_refl _, hb0, (fun _ h => nomatch h), by simp [dig]⟩
  case turn =>
    rintro i y t m₁ n₁ h9 tk9 it hy ⟨r, tr, qs, vsq, nq, ad, qd, rfl, rfl, hIq, hql, hr0, hr1, hqs, hdig⟩ ho F9 N9
    have hym := dgs_range _ _ _ y (List.mem_reverse.mp (List.mem_of_getElem? hy))
    have hP0 : (0 : Int) < 2 ^ (((Builtin.Int.intBits b : Nat) : Int)).toNat := Int.pow_pos (by decide)
    have hP1 : (2 : Int) ^ (((Builtin.Int.intBits b : Nat) : Int)).toNat ≤ 2 ^ 20 := by
      rw [pow_cast, pow_cast]; exact Int.ofNat_le.mpr (Nat.pow_le_pow_right (by decide) (by omega))
    have hm0 : 0 ≤ r * 2 ^ (((Builtin.Int.intBits b : Nat) : Int)).toNat := Int.mul_nonneg hr0 (by omega)
    have hm1 : r * 2 ^ (((Builtin.Int.intBits b : Nat) : Int)).toNat ≤ 2 ^ 20 * 2 ^ 20 := Int.mul_le_mul (by omega) hP1 (by omega) (by decide)
    have hq0 : 0 ≤ (r * 2 ^ (((Builtin.Int.intBits b : Nat) : Int)).toNat + y) / b := Int.ediv_nonneg (by omega) (by omega)
    have hr0' : 0 ≤ (r * 2 ^ (((Builtin.Int.intBits b : Nat) : Int)).toNat + y) % b := Int.emod_nonneg _ (by omega)
    have hr1' : (r * 2 ^ (((Builtin.Int.intBits b : Nat) : Int)).toNat + y) % b < b := Int.emod_lt_of_pos _ hb0
    have hvl : vsq.length ≤ 100 := by rw [hIq.length, hql]; have := (List.getElem?_eq_some_iff.mp hy).1; rw [List.length_reverse, dgs_length] at this; omega
    k_with_none
    k_with "mine" => (
      refine' div2n1n_ok w ?a0 ?a1 ?b0 ?b1 ?n0 ?n1 ?k1 ?k2 ?k3 ?k4 ?k5 ?kK ?r1 ?r2 ?_
      case a0 => omega
      case a1 => omega
      case b0 => omega
      case b1 => omega
      case n0 => omega
      case n1 => omega
      case k1 => k_asm
      case k2 => k_asm
      case k3 => k_asm
      case k4 => k_asm
      case k5 => k_asm
      case kK => first | exact rfl | assumption
      case r1 => ktr_room
      case r2 => ktr_units
      intro r8 t81 t82 h8 tk8 hn8 F8 N8
      simp only [List.cons_append, List.nil_append, List.forall_mem_cons, List.forall_mem_nil, and_true] at hn8
      (try dsimp only)
      (try k_fold))
    k_steps
    rename Fr _ _ _ _ => FE
    rename News _ _ _ _ => NE
    refine TurnAt.of (news' := [(qa, listOf (vsq ++ [Value.int ((r * 2 ^ (((Builtin.Int.intBits b : Nat) : Int)).toNat + y) / b) _]).toArray (nq + 1)), (30, tabObj ps9), (c9, oc9), (37, tabObj ps2), (c2, oc2)]) FE (news_sub NE (by walk_at "Sub")) (by walk_at "Fa")
      ⟨(r * 2 ^ (((Builtin.Int.intBits b : Nat) : Int)).toNat + y) % b, _, qs ++ [(r * 2 ^ (((Builtin.Int.intBits b : Nat) : Int)).toNat + y) / b], _, _, _, _, over3 (fun z h1 h2 h3 => by simp only [if_neg h1, if_neg h2, if_neg h3]), rfl, ints_snoc hIq, ?_, hr0', hr1', ?_, ?_⟩
    · rw [List.length_append, hql]; rfl
    · intro d hd
      rcases List.mem_append.mp hd with hd | hd
      · exact hqs d hd
      · rw [List.mem_singleton.mp hd]; exact hq0
    · rw [List.take_add_one, hy]
      exact div_turn hb0 hdig
  case done =>
    rintro m₁ n₁ h9 tk9 ⟨r, tr, qs, vsq, nq, ad, qd, rfl, rfl, hIq, hql, hr0, hr1, hqs, hdig⟩ F9 N9
    rw [dgs_length] at hql
    have hvl : vsq.length ≤ 100 := by rw [hIq.length, hql]; omega
    k_with_none
    try dsimp only
    k_steps
    have hrev : ∀ d ∈ qs.reverse, 0 ≤ d := fun d hd => hqs d (List.mem_reverse.mp hd)
    rw [← List.length_reverse, List.take_length, List.reverse_reverse] at hdig
    obtain ⟨a', rfl⟩ := Int.eq_ofNat_of_zero_le ha0
    have hlo := len_ok (n := ((Builtin.Int.intBits b : Nat) : Int)) ha0 (by omega)
    rw [mul_toNat hk0 (by omega)] at hlo
    rw [dig_dgs, Int.emod_eq_of_lt ha0 hlo] at hdig
    have hq0 := dig_nonneg (n := (((Builtin.Int.intBits b : Nat) : Int)).toNat) hrev
    have hqb : dig (((Builtin.Int.intBits b : Nat) : Int)).toNat qs.reverse ≤ dig (((Builtin.Int.intBits b : Nat) : Int)).toNat qs.reverse * b := by
      have := Int.mul_le_mul_of_nonneg_left (show (1 : Int) ≤ b by omega) hq0
      omega
    rename News _ _ _ _ => NE
    refine' d2i_ok w (nv := nq) (rest := [(30, tabObj ps9), (c9, oc9)]) hT2 ?n0 ?n1 ?ln (ints_reverse hIq) ?sl ?k1 ?k2 ?k3 ?k4 ?kd ?la ?lb ?k5 ?kc ?kK ?r1 ?r2 ?_
    case n0 => omega
    case n1 => omega
    case ln => (rw [List.length_reverse]; omega)
    case sl =>
      intro i j _ _ _
      have hbd := dg_bounds (n := ((Builtin.Int.intBits b : Nat) : Int)) (i := i) (j := j) hrev
      exact ⟨hbd.1, by omega⟩
    case k1 => k_asm
    case k2 => k_asm
    case k3 => k_asm
    case k4 => exact news_sub NE (by walk_at "Sub")
    case kd => walk_at "Fa"
    case la => omega
    case lb => omega
    case k5 => k_asm
    case kc => kn_code
    case kK => first | exact rfl | assumption
    case r1 => ktr_room
    case r2 => ktr_units
    intro t8 ps8 c8 oc8 h8 tk8 hT8 hr8 hm8 F8 N8
    simp only [List.forall_mem_cons, List.forall_mem_nil, and_true] at hr8
    rw [dg_whole]
    k_steps
    rename_i D10 hE FE NE2 l1E kF kN _ _ N2
    obtain ⟨e1, e2⟩ := div_is hb0 hdig hr0 hr1
    rw [e1, e2] at kN
    exact hret D10 _ _ _ c9 oc9 _ c8 oc8 _ _ hT9 hT8 (by omega) (fun q hq => ⟨rest_ne NE2 hG' (by k_mem) q hq, rest_ne NE2 hG' (by k_mem) q hq, rest_ne NE2 hG' (by k_mem) q hq⟩) (by omega) kF (news_sub (news_app kN N2) (by walk_at "Sub"))
end
section
variable (w : World)
/-- a call of the def at f upon a and b makes the pair (q, r); the two code tables may have been filled by it -/
def DivClaim (f : Addr) (need : Nat) (a b q r : Int) : Prop :=
  ∀ {ta tb : Tok} {c c2 : Addr} {ps ps2 : Array Value} {oc oc2 : Obj}, TabS 30 32 4 q4 ps c oc → TabS 37 47 4 q5 ps2 c2 oc2 → (NeN c 37 ∧ NeN c2 30 ∧ NeN c c2) →
    ∀ {loose : List Str} {mean : ExcName → Option Value} {mg mb : Str → Option Value} {dp un : Nat} {gd : Option (List Code)} {cn' : Str} {cs : Scope} {L ca : Addr} {ccd : Value} {cl : List (Str × Addr)} {outer : List Env} {A₀ : Around} {base h₀ : Heap} {m : Str → Option Value} {rest : List (Addr × Obj)} {s : Shared} {Q E : Value → Shared → Prop},
    Below A₀ base outer h₀ → Fr h₀ L s.heap m → (hd.heap_39 w.params).In h₀ → News h₀ L s.heap ([(30, tabObj ps), (c, oc), (37, tabObj ps2), (c2, oc2)] ++ rest) → (∀ q ∈ rest, NeN q.1 30 ∧ NeN q.1 c ∧ NeN q.1 37 ∧ NeN q.1 c2) → Top topProg loose mean mg mb h₀ → CodeHd h₀ 34 30 → CodeHd h₀ 41 37 → cs.kind = .function → dp + need < recursionLimit → un + 10 * need < cLine →
    (∀ (D : Addr) (t1 t2 : Tok) ps' c' oc' ps2' c2' oc2' h' tk', TabS 30 32 4 q4 ps' c' oc' → TabS 37 47 4 q5 ps2' c2' oc2' → (NeN c' 37 ∧ NeN c2' 30 ∧ NeN c' c2') → (∀ q ∈ rest, NeN q.1 c' ∧ NeN q.1 c2' ∧ NeN q.1 D) → (NeN D 30 ∧ NeN D c' ∧ NeN D 37 ∧ NeN D c2') →
      Fr h₀ L h' m → News h₀ L h' ([(D, tupO [.int q t1, .int r t2]), (30, tabObj ps'), (c', oc'), (37, tabObj ps2'), (c2', oc2')] ++ rest) → Q (.ref D) { s with heap := h', toks := tk' }) →
    wpAny (model PySem.Challenge.rw_zr0006_01.row.prog w) (ktrTop dp un gd cn' cs L ca ccd cl outer) (call (.ref f) [.int a ta, .int b tb]) Q E s
theorem dpos_claim {a b : Int} (ha0 : 0 ≤ a) (ha1 : a < 2 ^ 20) (hb0 : 0 < b) (hb1 : b < 2 ^ 20) : DivClaim w 49 120 a b (a / b) (a % b) := by
  intro ta tb c c2 ps ps2 oc oc2 hT hT2 hc loose mean mg mb dp un gd cn' cs L ca ccd cl outer A₀ base h₀ m rest s Q E B F X N hdis T C C2 hck hd hu hret
  exact dpos_ok w hT hT2 hc ha0 ha1 hb0 hb1 B F X N hdis T C C2 hck hd (by omega) hret

set_option maxHeartbeats 4000000 in
theorem idm_pos {a b : Int} (ha0 : 0 ≤ a) (ha1 : a < 2 ^ 20) (hb0 : 0 < b) (hb1 : b < 2 ^ 20) : DivClaim w 56 130 a b (a / b) (a % b) := by
  intro ta tb c c2 ps ps2 oc oc2 hT hT2 hc loose mean mg mb dp un gd cn' cs L ca ccd cl outer A₀ base h₀ m rest s Q E B F X N hdis T C C2 hck hd hu hret
  revert X; k_fill; intro X
  refine wpAny_call ?_
  k_dflt (refine' code_def_rest (binds := [(Str.ofString "a", .int a ta), (Str.ofString "b", .int b tb)]) (pre := [(30, tabObj ps), (c, oc), (37, tabObj ps2), (c2, oc2)]) (rest := rest) ?k1 ?k2 ?k3 ?k4 ?kd ?k5 ?kA ?kF ?kK ?k6 ?k7 ?k8 ?k9 ?kB ?_ ?c2 ?c3 ?c4 ?c5; (case kA => exact rfl); (case kF => exact rfl); (case kK => assumption); (case k1 => k_asm); (case k2 => k_asm); (case k3 => k_asm); (case k4 => k_asm); (case kd => (intro q hq; have h8 := hdis q hq; walk_at "Nin")); (case k5 => k_asm); (case k6 => k_is); (case k7 => k_is); (case k8 => ktr_room); (case k9 => exact BindsTo.of_eq rfl); (case c5 => decide); (case kB => exact locs rfl); (case c2 => exact rfl); (case c3 => exact rfl); (case c4 => exact rfl); k_whole; intro g' L' h' FG' F' N' B' X' T' l1 hG' hst'; (try k_lt l1); have C' := CodeHd.keeps C hst'; have C2' := CodeHd.keeps C2 hst'; (try dsimp only); (try k_fold))
  k_with_none
  k_with "mine" => (
    refine' (dpos_claim w ha0 ha1 hb0 hb1) hT hT2 hc ?k1 ?k2 ?k3 ?k4 ?kd ?k5 ?kc ?kc2 ?kK ?r1 ?r2 ?_
    case k1 => k_asm
    case k2 => k_asm
    case k3 => k_asm
    case k4 => (rw [List.append_nil]; k_asm)
    case kd => exact fun _ h => nomatch h
    case k5 => k_asm
    case kc => kn_code
    case kc2 => kn_code
    case kK => first | exact rfl | assumption
    case r1 => ktr_room
    case r2 => ktr_units
    intro D9 t91 t92 ps9 c9 oc9 ps29 c29 oc29 h9 tk9 hT9 hT29 hc9 hr9 hd9 F9 N9
    rw [List.append_nil] at N9
    clear hr9
    (try dsimp only)
    (try k_fold))
  k_steps
  all_goals (try (exfalso; omega))
  rename_i kF kN _ _ N2
  exact hret D9 _ _ ps9 c9 oc9 ps29 c29 oc29 _ _ hT9 hT29 hc9 (fun q hq => ⟨rest_ne N9 hG' (by k_mem) q hq, rest_ne N9 hG' (by k_mem) q hq, rest_ne N9 hG' (by k_mem) q hq⟩) hd9 kF (news_app kN N2)

theorem neg_div {a b : Int} (hb : 0 < b) : -((-a - 1) / b) - 1 = a / b ∧ b + (-((-a - 1) % b) - 1) = a % b := by
  have h0 := Int.emod_nonneg (-a - 1) (show b ≠ 0 by omega)
  have h1 := Int.emod_lt_of_pos (-a - 1) hb
  have h2 := Int.emod_add_mul_ediv (-a - 1) b
  refine div_is hb ?_ (by omega) (by omega)
  have h3 : (-((-a - 1) / b) - 1) * b = -(b * ((-a - 1) / b)) - b := by
    rw [Int.sub_mul, Int.neg_mul, Int.mul_comm, Int.one_mul]
  rw [h3]; omega
set_option maxHeartbeats 4000000 in
theorem idm_any {a b : Int} (ha0 : -(2 ^ 20) < a) (ha1 : a < 2 ^ 20) (hb0 : 0 < b) (hb1 : b < 2 ^ 20) : DivClaim w 56 140 a b (a / b) (a % b) := by
  intro ta tb c c2 ps ps2 oc oc2 hT hT2 hc loose mean mg mb dp un gd cn' cs L ca ccd cl outer A₀ base h₀ m rest s Q E B F X N hdis T C C2 hck hd hu hret
  by_cases hneg : 0 ≤ a
  · exact idm_pos w hneg ha1 hb0 hb1 hT hT2 hc B F X N hdis T C C2 hck (by omega) (by omega) hret
  obtain ⟨e1, e2⟩ := neg_div (a := a) hb0
  revert X; k_fill; intro X
  refine wpAny_call ?_
  k_dflt (refine' code_def_rest (binds := [(Str.ofString "a", .int a ta), (Str.ofString "b", .int b tb)]) (pre := [(30, tabObj ps), (c, oc), (37, tabObj ps2), (c2, oc2)]) (rest := rest) ?k1 ?k2 ?k3 ?k4 ?kd ?k5 ?kA ?kF ?kK ?k6 ?k7 ?k8 ?k9 ?kB ?_ ?c2 ?c3 ?c4 ?c5; (case kA => exact rfl); (case kF => exact rfl); (case kK => assumption); (case k1 => k_asm); (case k2 => k_asm); (case k3 => k_asm); (case k4 => k_asm); (case kd => (intro q hq; have h8 := hdis q hq; walk_at "Nin")); (case k5 => k_asm); (case k6 => k_is); (case k7 => k_is); (case k8 => ktr_room); (case k9 => exact BindsTo.of_eq rfl); (case c5 => decide); (case kB => exact locs rfl); (case c2 => exact rfl); (case c3 => exact rfl); (case c4 => exact rfl); k_whole; intro g' L' h' FG' F' N' B' X' T' l1 hG' hst'; (try k_lt l1); have C' := CodeHd.keeps C hst'; have C2' := CodeHd.keeps C2 hst'; (try dsimp only); (try k_fold))
  k_with_none
  k_with "mine" => (
    refine' (idm_pos w (a := -a - 1) (b := b) (by omega) (by omega) hb0 hb1) hT hT2 hc ?k1 ?k2 ?k3 ?k4 ?kd ?k5 ?kc ?kc2 ?kK ?r1 ?r2 ?_
    case k1 => k_asm
    case k2 => k_asm
    case k3 => k_asm
    case k4 => (rw [List.append_nil]; k_asm)
    case kd => exact fun _ h => nomatch h
    case k5 => k_asm
    case kc => kn_code
    case kc2 => kn_code
    case kK => first | exact rfl | assumption
    case r1 => ktr_room
    case r2 => ktr_units
    intro D9 t91 t92 ps9 c9 oc9 ps29 c29 oc29 h9 tk9 hT9 hT29 hc9 hr9 hd9 F9 N9
    rw [List.append_nil] at N9
    clear hr9
    (try dsimp only)
    (try k_fold))
  k_steps
  all_goals (try (exfalso; omega))
  rename_i D8 hE FE NE l1E kF kN _ _ N2
  rw [show Builtin.bitNot ((-a - 1) / b) = a / b from e1, show b + Builtin.bitNot ((-a - 1) % b) = a % b from e2] at kN
  exact hret D8 _ _ ps9 c9 oc9 ps29 c29 oc29 _ _ hT9 hT29 hc9 (fun q hq => ⟨rest_ne NE hG' (by k_mem) q hq, rest_ne NE hG' (by k_mem) q hq, rest_ne NE hG' (by k_mem) q hq⟩) (by omega) kF (news_sub (news_app kN N2) (by walk_at "Sub"))
set_option maxHeartbeats 4000000 in
theorem idm_neg {a b : Int} (ha0 : -(2 ^ 20) < a) (ha1 : a < 2 ^ 20) (hb0 : b < 0) (hb1 : -(2 ^ 20) < b) : DivClaim w 56 150 a b (-a / -b) (-(-a % -b)) := by
  intro ta tb c c2 ps ps2 oc oc2 hT hT2 hc loose mean mg mb dp un gd cn' cs L ca ccd cl outer A₀ base h₀ m rest s Q E B F X N hdis T C C2 hck hd hu hret
  revert X; k_fill; intro X
  refine wpAny_call ?_
  k_dflt (refine' code_def_rest (binds := [(Str.ofString "a", .int a ta), (Str.ofString "b", .int b tb)]) (pre := [(30, tabObj ps), (c, oc), (37, tabObj ps2), (c2, oc2)]) (rest := rest) ?k1 ?k2 ?k3 ?k4 ?kd ?k5 ?kA ?kF ?kK ?k6 ?k7 ?k8 ?k9 ?kB ?_ ?c2 ?c3 ?c4 ?c5; (case kA => exact rfl); (case kF => exact rfl); (case kK => assumption); (case k1 => k_asm); (case k2 => k_asm); (case k3 => k_asm); (case k4 => k_asm); (case kd => (intro q hq; have h8 := hdis q hq; walk_at "Nin")); (case k5 => k_asm); (case k6 => k_is); (case k7 => k_is); (case k8 => ktr_room); (case k9 => exact BindsTo.of_eq rfl); (case c5 => decide); (case kB => exact locs rfl); (case c2 => exact rfl); (case c3 => exact rfl); (case c4 => exact rfl); k_whole; intro g' L' h' FG' F' N' B' X' T' l1 hG' hst'; (try k_lt l1); have C' := CodeHd.keeps C hst'; have C2' := CodeHd.keeps C2 hst'; (try dsimp only); (try k_fold))
  k_with_none
  k_with "mine" => (
    refine' (idm_any w (a := -a) (b := -b) (by omega) (by omega) (by omega) (by omega)) hT hT2 hc ?k1 ?k2 ?k3 ?k4 ?kd ?k5 ?kc ?kc2 ?kK ?r1 ?r2 ?_
    case k1 => k_asm
    case k2 => k_asm
    case k3 => k_asm
    case k4 => (rw [List.append_nil]; k_asm)
    case kd => exact fun _ h => nomatch h
    case k5 => k_asm
    case kc => kn_code
    case kc2 => kn_code
    case kK => first | exact rfl | assumption
    case r1 => ktr_room
    case r2 => ktr_units
    intro D9 t91 t92 ps9 c9 oc9 ps29 c29 oc29 h9 tk9 hT9 hT29 hc9 hr9 hd9 F9 N9
    rw [List.append_nil] at N9
    clear hr9
    (try dsimp only)
    (try k_fold))
  k_steps
  all_goals (try (exfalso; omega))
  rename_i D8 hE FE NE l1E kF kN _ _ N2
  exact hret D8 _ _ ps9 c9 oc9 ps29 c29 oc29 _ _ hT9 hT29 hc9 (fun q hq => ⟨rest_ne NE hG' (by k_mem) q hq, rest_ne NE hG' (by k_mem) q hq, rest_ne NE hG' (by k_mem) q hq⟩) (by omega) kF (news_sub (news_app kN N2) (by walk_at "Sub"))
end
section
variable (w : World)
set_option maxHeartbeats 4000000 in
theorem bis_list {x : Int} {tx t0 : Tok} {ns : List Int} {vs : List Value} {nv : Nat} {l : Addr} (hI : IntsAre vs ns) (hlen : ns.length < 1000) (hle : ∀ d ∈ ns, d ≤ x)
    {loose : List Str} {mean : ExcName → Option Value} {mg mb : Str → Option Value} {dp un : Nat} {gd : Option (List Code)} {cn' : Str} {cs : Scope} {L ca : Addr} {ccd : Value} {cl : List (Str × Addr)} {outer : List Env} {A₀ : Around} {base h₀ : Heap} {m : Str → Option Value} {rest : List (Addr × Obj)} {s : Shared} {Q E : Value → Shared → Prop}
    (B : Below A₀ base outer h₀) (F : Fr h₀ L s.heap m) (X : (hd.heap_39 w.params).In h₀) (N : News h₀ L s.heap ([(l, listOf vs.toArray nv)] ++ rest)) (hdis : ∀ q ∈ rest, NeN q.1 l) (T : Top topProg loose mean mg mb h₀) (C : CodeHd h₀ 34 30) (hck : cs.kind = .function) (hd : dp + 10 < recursionLimit) (hu : un + 100 < cLine)
    (hret : ∀ t h' tk', Fr h₀ L h' m → News h₀ L h' ([(l, listOf vs.toArray nv)] ++ rest) → Q (.int ns.length t) { s with heap := h', toks := tk' }) :
    wpAny (model PySem.Challenge.rw_zr0006_01.row.prog w) (ktrTop dp un gd cn' cs L ca ccd cl outer) (call (.ref 74) [.ref l, .int x tx, .int 0 t0, .none]) Q E s := by
  revert X; k_fill; intro X
  refine wpAny_call ?_
  k_dflt (refine' code_def_rest (binds := [(Str.ofString "a", .ref l), (Str.ofString "x", .int x tx), (Str.ofString "lo", .int 0 t0), (Str.ofString "hi", .none), (Str.ofString "key", .none)]) (pre := [(l, listOf vs.toArray nv)]) (rest := rest) ?k1 ?k2 ?k3 ?k4 ?kd ?k5 ?kA ?kF ?kK ?k6 ?k7 ?k8 ?k9 ?kB ?_ ?c2 ?c3 ?c4 ?c5; (case kA => exact rfl); (case kF => exact rfl); (case kK => assumption); (case k1 => k_asm); (case k2 => k_asm); (case k3 => k_asm); (case k4 => k_asm); (case kd => (intro q hq; have h8 := hdis q hq; walk_at "Nin")); (case k5 => k_asm); (case k6 => k_is); (case k7 => k_is); (case k8 => ktr_room); (case k9 => exact kp_binds (by k_in) (fun _ => rfl)); (case c5 => decide); (case kB => exact locs rfl); (case c2 => exact rfl); (case c3 => exact rfl); (case c4 => exact rfl); k_whole; intro g' L' h' FG' F' N' B' X' T' l1 hG' hst'; (try k_lt l1); have C' := CodeHd.keeps C hst'; (try dsimp only); (try k_fold))
  k_with_none
  k_with "while" => (
      refine while_J (fun M0 n m₁ n₁ => ∃ (lo : Int) (tlo : Tok) (mid : Option Value), m₁ = (fun y => if y = Str.ofString "mid" then mid else if y = Str.ofString "lo" then some (.int lo tlo) else M0 y) ∧
      n₁ = [(l, listOf vs.toArray nv)] ∧ 0 ≤ lo ∧ lo ≤ ns.length ∧ n = ((ns.length : Int) - lo).toNat) (by assumption) (by assumption) ⟨0, _, _, over2 (fun _ _ _ => rfl), rfl, Int.le_refl _, by omega, rfl⟩ ?_
      rintro n m₁ n₁ h9 tk9 F9 N9 ⟨lo, tlo, mid, rfl, rfl, hlo, hhi, rfl⟩
      have hget : lo < ns.length → ns.getD ((lo + ns.length) / 2).toNat 0 ≤ x := fun hlt => by
        have h1 : ((lo + ns.length) / 2).toNat < ns.length := by omega
        rw [List.getD_eq_getElem?_getD, List.getElem?_eq_getElem h1]
        exact hle _ (List.getElem_mem h1)
      (try dsimp only))
  k_steps
  all_goals (try (exfalso; omega))
  · rename Fr _ _ _ _ => FE
    rename News _ _ _ _ => NE
    exact WhileAt FE NE (by omega) ⟨_, _, _, over2 (fun z h1 h2 => by simp only [if_neg h1, if_neg h2]), rfl, by omega, by omega, rfl⟩
  · rename_i kF kN _ _ N2
    have he : lo = ns.length := by omega
    rw [he]
    exact hret _ _ _ kF (news_app kN N2)
end
section
variable {prog : Program} {w : World} {A : Around} {E : Value → Shared → Prop} {s : Shared} {h₀ : Heap} {L D : Addr} {m : Str → Option Value} {news news' : List (Addr × Obj)} {vs : List Value} {n : Nat} {y : Value} {Q : Value → Shared → Prop}
theorem insert_end {k : Nat} {u : Tok} (F : Fr h₀ L s.heap m) (N : News h₀ L s.heap news) (hk : k = vs.length) (hz : vs.length ≤ 1000) (U : Upd D (listOf vs.toArray n) (listOf (vs ++ [y]).toArray (n + 1)) news news')
    (h : ∀ h', Fr h₀ L h' m → News h₀ L h' news' → Q .none { s with heap := h' }) : wpAny (model prog w) A (call (.builtin "list.insert") [.ref D, .int (k : Int) u, y]) Q E s := by
  refine kl_insert (its := vs.toArray) (l := vs ++ [y]) F N ?_ ?_ U (by simpa using Nat.le_trans hz (by decide)) h
  · unfold Builtin.List.listFitsIndex
    simp; omega
  · unfold kl_ins
    subst hk
    rw [if_neg (by omega), Int.toNat_natCast, Nat.min_self, List.take_length, List.drop_length]
end
section
variable (w : World)
set_option maxHeartbeats 4000000 in
theorem insort_ok {x : Int} {tx : Tok} {ns : List Int} {vs : List Value} {nv : Nat} {l : Addr} (hI : IntsAre vs ns) (hlen : ns.length < 1000) (hle : ∀ d ∈ ns, d ≤ x)
    {loose : List Str} {mean : ExcName → Option Value} {mg mb : Str → Option Value} {dp un : Nat} {gd : Option (List Code)} {cn' : Str} {cs : Scope} {L ca : Addr} {ccd : Value} {cl : List (Str × Addr)} {outer : List Env} {A₀ : Around} {base h₀ : Heap} {m : Str → Option Value} {rest : List (Addr × Obj)} {s : Shared} {Q E : Value → Shared → Prop}
    (B : Below A₀ base outer h₀) (F : Fr h₀ L s.heap m) (X : (hd.heap_39 w.params).In h₀) (N : News h₀ L s.heap ([(l, listOf vs.toArray nv)] ++ rest)) (hdis : ∀ q ∈ rest, NeN q.1 l) (T : Top topProg loose mean mg mb h₀) (C : CodeHd h₀ 34 30) (hck : cs.kind = .function) (hd : dp + 20 < recursionLimit) (hu : un + 200 < cLine)
    (hret : ∀ h' tk', Fr h₀ L h' m → News h₀ L h' ([(l, listOf (vs ++ [Value.int x tx]).toArray (nv + 1))] ++ rest) → Q .none { s with heap := h', toks := tk' }) :
    wpAny (model PySem.Challenge.rw_zr0006_01.row.prog w) (ktrTop dp un gd cn' cs L ca ccd cl outer) (call (.ref 65) [.ref l, .int x tx]) Q E s := by
  revert X; k_fill; intro X
  refine wpAny_call ?_
  k_dflt (refine' code_def_rest (binds := [(Str.ofString "a", .ref l), (Str.ofString "x", .int x tx), (Str.ofString "lo", .int 0 271), (Str.ofString "hi", .none), (Str.ofString "key", .none)]) (pre := [(l, listOf vs.toArray nv)]) (rest := rest) ?k1 ?k2 ?k3 ?k4 ?kd ?k5 ?kA ?kF ?kK ?k6 ?k7 ?k8 ?k9 ?kB ?_ ?c2 ?c3 ?c4 ?c5; (case kA => exact rfl); (case kF => exact rfl); (case kK => assumption); (case k1 => k_asm); (case k2 => k_asm); (case k3 => k_asm); (case k4 => k_asm); (case kd => (intro q hq; have h8 := hdis q hq; walk_at "Nin")); (case k5 => k_asm); (case k6 => k_is); (case k7 => k_is); (case k8 => ktr_room); (case k9 => exact kp_binds (by k_in) (fun _ => rfl)); (case c5 => decide); (case kB => exact locs rfl); (case c2 => exact rfl); (case c3 => exact rfl); (case c4 => exact rfl); k_whole; intro g' L' h' FG' F' N' B' X' T' l1 hG' hst'; (try k_lt l1); have C' := CodeHd.keeps C hst'; (try dsimp only); (try k_fold))
  have hvl := hI.length
  k_with_none
  k_with "mine" => (
    refine' bis_list w (rest := []) hI hlen hle ?k1 ?k2 ?k3 ?k4 ?kd ?k5 ?kc ?kK ?r1 ?r2 ?_
    case k1 => k_asm
    case k2 => k_asm
    case k3 => k_asm
    case k4 => (rw [List.append_nil]; k_asm)
    case kd => exact fun _ h => nomatch h
    case k5 => k_asm
    case kc => kn_code
    case kK => first | exact rfl | assumption
    case r1 => ktr_room
    case r2 => ktr_units
    intro t9 h9 tk9 F9 N9
    rw [List.append_nil] at N9
    (try dsimp only)
    (try k_fold))
  k_steps
  k_dflt (refine' insert_end ?F ?N ?k ?z ?U ?_)
  case F => k_asm
  case N => k_asm
  case U => k_upd
  case k => omega
  case z => omega
  intro h8 F8 N8
  k_steps
  rename_i kF kN _ _ N2
  exact hret _ _ kF (news_app kN N2)
end
def lawStmt : Stmt := PySem.Challenge.pw_zr0006_01.main.body.getD 13 dfltS
def forBody : List Stmt := match stBody lawStmt with | .For _ _ b _ _ :: _ => b | _ => []
def lawRest (k : Nat) : List Stmt := forBody.drop k
abbrev lawSc : Scope := stScope lawStmt
abbrev lawCl (L : Addr) : List (Str × Addr) := [(Str.ofString "other", L + 1 + 1), (Str.ofString "one", L + 1)]
abbrev lawEnv (L fa : Addr) : Env := envX (Str.ofString "law") lawSc L fa (.ref 85) (lawCl L)
abbrev lawA (dp un : Nat) (gd : Option (List Code)) (L fa : Addr) (outer : List Env) : Around := ktrTop dp un gd (Str.ofString "law") lawSc L fa (.ref 85) (lawCl L) outer
abbrev q83 : Str := Str.ofString "law.<locals>.<lambda>"
/-- two addresses differ, hidden from omega -/
def NeI (a b : Nat) : Prop := a ≠ b
theorem hidI {a b : Nat} (h : NeN a b) : NeI a b := h
--MACROS
local macro_rules | `(tactic| walk_at "NeI") => `(tactic| ((repeat' (refine And.intro ?_ ?_)) <;> (first | assumption | (refine neSymm ?_; assumption) | (show NeN _ _; omega))))
--END
/-- the three code tables; J: the outer loop's iterator -/
structure Tabs3 (L : Nat) (J : Addr) (c c2 c3 : Addr) (ps ps2 ps3 : Array Value) (oc oc2 oc3 : Obj) : Prop where
  t1 : TabS 30 32 4 q4 ps c oc
  t2 : TabS 37 47 4 q5 ps2 c2 oc2
  t3 : TabS 83 115 58 q83 ps3 c3 oc3
  ne : NeN c 37 ∧ NeN c 83 ∧ NeN c2 30 ∧ NeN c2 83 ∧ NeN c3 30 ∧ NeN c3 37 ∧ NeN c c2 ∧ NeN c c3 ∧ NeN c2 c3
  hL : (30 : Nat) < L ∧ (37 : Nat) < L ∧ (83 : Nat) < L
  nl : NeN c (L + 1) ∧ NeN c (L + 1 + 1) ∧ NeN c2 (L + 1) ∧ NeN c2 (L + 1 + 1) ∧ NeN c3 (L + 1) ∧ NeN c3 (L + 1 + 1)
  nI : NeI c J ∧ NeI c2 J ∧ NeI c3 J ∧ NeI 30 J ∧ NeI 37 J ∧ NeI 83 J ∧ NeI (L + 1) J ∧ NeI (L + 1 + 1) J
abbrev lawLed (L c c2 c3 : Addr) (ps ps2 ps3 : Array Value) (oc oc2 oc3 o1 o2 : Obj) (J : Addr) (jt : Obj) : List (Addr × Obj) :=
  [(L + 1 + 1, o2), (L + 1, o1), (30, tabObj ps), (c, oc), (37, tabObj ps2), (c2, oc2), (83, tabObj ps3), (c3, oc3), (J, jt)]
/-- what stays through the law's call -/
structure LawCtx (w : World) (h₀ : Heap) (L fa : Addr) (outer : List Env) (A₀ : Around) (base : Heap) (loose : List Str) (mean : ExcName → Option Value) (mg mb : Str → Option Value) (dp un : Nat) (gd : Option (List Code)) (E : Value → Shared → Prop) : Prop where
  B : Below A₀ base outer h₀
  X : (hd.heap_39 w.params).In h₀
  T : Top topProg loose mean mg mb h₀
  C : CodeHd h₀ 34 30
  C2 : CodeHd h₀ 41 37
  C3 : CodeHd h₀ 85 83
  hdp : dp < 600
  hun : un < 5000
  hE : PassesOwn (model PySem.Challenge.rw_zr0006_01.row.prog w) (lawA dp un gd L fa outer) (lawEnv L fa) E
theorem frO {h₀ h : Heap} {L : Addr} {m : Str → Option Value} {x : Str} {v : Option Value} (hx : m x = v) (F : Fr h₀ L h m) : Fr h₀ L h (fun y => if y = x then v else m y) := by
  have e : (fun y => if y = x then v else m y) = m := by
    funext y
    by_cases h1 : y = x
    · subst h1; rw [if_pos rfl, hx]
    · rw [if_neg h1]
  rw [e]; exact F

/-- the walk stops where the rest of the turn is what comes next -/
def SegGoal (w : World) (A : Around) (st : List Stmt) (env : Env) (Q : Flow → Shared → Prop) (E : Value → Shared → Prop) (s : Shared) : Prop := wpAny (model PySem.Challenge.rw_zr0006_01.row.prog w) A (execs st env) Q E s
theorem seg_stop (w : World) (st : List Stmt) (A : Around) (env : Env) (Q : Flow → Shared → Prop) (E : Value → Shared → Prop) (s : Shared) (h : SegGoal w A st env Q E s) : wpAny (model PySem.Challenge.rw_zr0006_01.row.prog w) A (execs st env) Q E s := h
section
variable (w : World)
set_option maxHeartbeats 8000000 in
theorem seg0 {J9 : Addr} {it9 : Obj} {sl : Addr} {svs : List Value} {sns : List Int} {k : Int} {tk : Tok} {M : Str → Option Value} {c c2 c3 : Addr} {ps ps2 ps3 : Array Value} {oc oc2 oc3 o1 o2 : Obj} {v1 v2 : Option Value}
    {loose : List Str} {mean : ExcName → Option Value} {mg mb : Str → Option Value} {dp un : Nat} {gd : Option (List Code)} {L fa : Addr} {outer : List Env} {A₀ : Around} {base h₀ : Heap} {s : Shared} {Q : Flow → Shared → Prop} {E : Value → Shared → Prop}
    (tb : Tabs3 L J9 c c2 c3 ps ps2 ps3 oc oc2 oc3) (cx : LawCtx w h₀ L fa outer A₀ base loose mean mg mb dp un gd E)
    (hS : h₀.IsList sl svs.toArray) (hSI : IntsAre svs sns) (hk0 : 0 ≤ k) (hk1 : k + 1 < sns.length) (hsn : sns.length ≤ 63) (ho1 : o1.data = .cell v1) (ho2 : o2.data = .cell v2)
    (F : Fr h₀ L s.heap (fun y => if y = Str.ofString "k" then some (.int k tk) else if y = Str.ofString "script" then some (.ref sl) else M y)) (N : News h₀ L s.heap (lawLed L c c2 c3 ps ps2 ps3 oc oc2 oc3 o1 o2 J9 it9))
    (hnext : ∀ one other t1 t2 o1' o2' (M' : Str → Option Value) h' tk', -5000 ≤ one → one ≤ 5000 → 1 ≤ other → other ≤ 200 → o1'.data = .cell (some (.int one t1)) → o2'.data = .cell (some (.int other t2)) → Fr h₀ L h' (fun y => if y = Str.ofString "script" then some (.ref sl) else M' y) → News h₀ L h' (lawLed L c c2 c3 ps ps2 ps3 oc oc2 oc3 o1' o2' J9 it9) →
      wpAny (model PySem.Challenge.rw_zr0006_01.row.prog w) (lawA dp un gd L fa outer) (execs (lawRest 1) (lawEnv L fa)) Q E { s with heap := h', toks := tk' }) :
    wpAny (model PySem.Challenge.rw_zr0006_01.row.prog w) (lawA dp un gd L fa outer) (execs (lawRest 0) (lawEnv L fa)) Q E s := by
  obtain ⟨B, X, T, C, C2, C3, hdp, hun, hE⟩ := cx
  obtain ⟨hT, hT2, hT3, hne, hL, hnl, hnI⟩ := tb
  have m7 : NeN (L + 1) J9 := hnI.2.2.2.2.2.2.1
  have m8 : NeN (L + 1 + 1) J9 := hnI.2.2.2.2.2.2.2
  revert X; k_fill; intro X
  refine' (fun (hb : lawRest 0 = _) => ?_) ?hb0
  case hb0 => conv => lhs; whnf
  refine' (fun (hb1 : lawRest 1 = _) => ?_) ?hb1
  case hb1 => conv => lhs; whnf
  refine' (fun (hs : stScope lawStmt = _) => ?_) ?hs0
  case hs0 => conv => lhs; whnf
  dsimp only [lawA, lawEnv, lawSc] at hE hnext ⊢
  rw [hs] at hE hnext ⊢
  rw [hb]
  rw [hb1] at hnext
  k_with_none
  have hstop := seg_stop w (lawRest 1)
  rw [hb1] at hstop
  clear hb hs hb1
  k_with "seg" => (with_reducible refine hstop _ _ _ _ _ ?_)
  k_steps
  unfold SegGoal
  rename Fr _ _ _ _ => FE
  rename News _ _ _ _ => NE
  rename_i o1' d1 hA o2' d2
  refine hnext (sns.getD k.toNat 0 % 10001 - 5000) (1 + sns.getD (k + 1).toNat 0 % 200) _ _ _ _ _ _ _ ?_ ?_ ?_ ?_ d1 d2 (frO rfl FE) (news_sub NE (by walk_at "Sub"))
  all_goals omega
end
abbrev rngO (a b c : Int) (t u v : Tok) : Obj := { cls := .type "range", data := .fields #[.int a t, .int b u, .int c v] }
section
variable {prog : Program} {w : World} {A : Around} {E : Value → Shared → Prop} {s : Shared} {h₀ : Heap} {L : Addr} {m : Str → Option Value} {news : List (Addr × Obj)} {Q : Value → Shared → Prop} {a b c : Int} {t u v : Tok}
theorem range2_N (F : Fr h₀ L s.heap m) (N : News h₀ L s.heap news)
    (h : ∀ r h' tk t₁ u₁ v₁, Fr h₀ L h' m → News h₀ L h' ((r, rngO a b 1 t₁ u₁ v₁) :: news) → (∀ p ∈ news, p.1 < r) → Q (.ref r) { s with heap := h', toks := tk }) :
    wpAny (model prog w) A (call (.type "range") [.int a t, .int b u]) Q E s :=
  call_range_2 (h _ _ _ _ _ _ (F.push _) (N.push F _) fun p hp => Heap.lt_size (N p hp).1)
theorem range3_N (F : Fr h₀ L s.heap m) (N : News h₀ L s.heap news) (hc : 0 < c) (hc2 : c < 1073741824)
    (h : ∀ r h' tk t₁ u₁ v₁, Fr h₀ L h' m → News h₀ L h' ((r, rngO a b c t₁ u₁ v₁) :: news) → (∀ p ∈ news, p.1 < r) → Q (.ref r) { s with heap := h', toks := tk }) :
    wpAny (model prog w) A (call (.type "range") [.int a t, .int b u, .int c v]) Q E s :=
  call_range_3 (by omega) (h _ _ _ _ _ _ (F.push _) (N.push F _) fun p hp => Heap.lt_size (N p hp).1) (Or.inl (PyProof.noPylong_small (by omega)))
end
section
variable {prog : Program} {w : World} {A : Around} {E : Value → Shared → Prop} {s : Shared}
theorem range_item_body {r : Addr} {a b c i : Int} {t u v ti : Tok} {n : Int} {Q : Fin → Shared → Prop} (hr : IsRange s.heap r a b c t u v) (hn : Builtin.Range.rangeSize a b c = n) (h0 : 0 ≤ i) (h1 : i < n)
    (h : Q (.done (.ret (.int (a + i * c) s.toks))) { s with toks := s.toks + 1 }) :
    wpAny (model prog w) A (Builtin.«range.__getitem__» ⟨[.ref r, .int i ti], []⟩) Q E s := by
  obtain ⟨hp, g, d, tk, os⟩ := s
  wp_walk using wpAny_loadPart' hr
  refine wpAny_of_eq F.slot_int_index.lookup ?_
  have e1 : ¬ i < 0 := by omega
  have e2 : (decide (i < 0) || decide (i ≥ Builtin.Range.rangeSize a b c)) = false := by simp; omega
  simp only [Option.isNone_some, Bool.false_eq_true, if_false]
  refine wpAny_bind (m := asIndex (.int i ti)) ?_
  refine wpAny_pure ?_
  simp only [if_neg e1, e2, Bool.false_eq_true, if_false]
  exact wpAny_bind (wpAny_mkInt (wpAny_pure h))
theorem getItem_range {r : Addr} {a b c i : Int} {t u v ti : Tok} {n : Int} {Q : Value → Shared → Prop} (hr : IsRange s.heap r a b c t u v) (hn : Builtin.Range.rangeSize a b c = n) (h0 : 0 ≤ i) (h1 : i < n)
    (h : Q (.int (a + i * c) s.toks) { s with toks := s.toks + 1 }) : wpAny (model prog w) A (getItem (.ref r) (.int i ti)) Q E s := by
  have hT : s.TypeIs (.ref r) "range" := ⟨_, hr, rfl⟩
  unfold getItem
  refine wpAny_holding ?_
  refine wpAny_bind (wpAny_sequenceKey hT (by decide) ?_)
  refine wpAny_bind (wpAny_callSpecial?_slot (name := Str.ofString "__getitem__") hT F.slot_range_getitem
    (wpAny_call_entry F.slot_range_getitem hT F.entry_range_getitem ?_ (F.args_range_getitem_2 _ _)))
  exact range_item_body hr hn h0 h1 ⟨_, rfl, wpAny_pure h⟩
theorem tail_range {value slice : PySem.Expr} {r : Addr} {a b c i : Int} {t u v ti : Tok} {n : Int} {Q : Value → Shared → Prop} (hr : IsRange s.heap r a b c t u v) (hn : Builtin.Range.rangeSize a b c = n) (h0 : 0 ≤ i) (h1 : i < n)
    (hs : subscripted slice false (.ref r) (.int i ti) = operate [.ref r, .int i ti] (getItem (.ref r) (.int i ti)))
    (h : Q (.int (a + i * c) s.toks) { s with toks := s.toks + 1 }) : wpAny (model prog w) A (subscriptTail value slice (.ref r) (.int i ti)) Q E s :=
  tail_any ⟨_, hr, rfl⟩ F.slot_range_getitem.lookup (getItem_range hr hn h0 h1 h) hs
end
section
variable {prog : Program} {w : World} {A : Around} {E : Value → Shared → Prop} {s : Shared} {h₀ : Heap} {L r : Addr} {news : List (Addr × Obj)} {Q : Value → Shared → Prop} {a b c i : Int} {t u v ti : Tok}
theorem len_rngN {n : Nat} (N : News h₀ L s.heap news) (hm : (r, rngO a b c t u v) ∈ news) (hn : Builtin.Range.rangeSize a b c = n) (hfit : (n : Int) < 2 ^ 63) (h : ∀ t' tk, Q (.int n t') { s with toks := tk }) : wpAny (model prog w) A (call (.builtin "len") [.ref r]) Q E s :=
  call_len_range (N _ hm).1 hn hfit (h _ _)
theorem item_rngN {value slice : PySem.Expr} {n : Int} (N : News h₀ L s.heap news) (hm : (r, rngO a b c t u v) ∈ news) (hn : Builtin.Range.rangeSize a b c = n) (h0 : 0 ≤ i) (h1 : i < n)
    (hs : subscripted slice false (.ref r) (.int i ti) = operate [.ref r, .int i ti] (getItem (.ref r) (.int i ti))) (h : ∀ t' tk, Q (.int (a + i * c) t') { s with toks := tk }) : wpAny (model prog w) A (subscriptTail value slice (.ref r) (.int i ti)) Q E s :=
  tail_range (N _ hm).1 hn h0 h1 hs (h _ _)
end
--MACROS
local macro_rules | `(tactic| walk_at "call builtin:len") => `(tactic| (k_here; k_extra "len"))
local macro_rules | `(tactic| walk_at "subscriptTail Name Name ref int") => `(tactic| (k_here; k_extra "item"))
local macro_rules | `(tactic| walk_at "call type:range") => `(tactic| (k_here; k_dflt (first
  | (refine' range2_N ?F ?N ?_; (case F => k_asm); (case N => k_asm); k_whole; intro r' h' tk' t1' t2' t3' F' N' l1; (try k_lt l1))
  | (refine' range3_N ?F ?N ?c0 ?c1 ?_; (case F => k_asm); (case N => k_asm); (case c0 => omega); (case c1 => omega); k_whole; intro r' h' tk' t1' t2' t3' F' N' l1; (try k_lt l1)))))
--END
def lamE : Expr := match forBody.getD 2 dfltS with | .Assign _ (.Call _ _ (k :: _) _) _ => k.value | _ => .Constant .none 0 ⟨0, 0, 0, 0⟩
def lamArgs : Expr → Arguments | .Lambda a _ _ _ => a | _ => stArgs dfltS
def lamBody : Expr → Expr | .Lambda _ b _ _ => b | e => e
def lamScope : Expr → Scope | .Lambda _ _ s _ => s | _ => stScope dfltS
abbrev lamO (nm qual : Str) (co : Addr) (pm : Value) (c' : Addr) (ctv : Value) : Obj := kla_obj nm qual (lamArgs lamE) (lamBody lamE) (lamScope lamE) [(Str.ofString "other", co)] pm c' ctv
section
variable (w : World)
set_option maxHeartbeats 4000000 in
theorem lam_ok {i other : Int} {ti to : Tok} {f c' co : Addr} {oc oo : Obj} {nm qual : Str} {pm ctv : Value} {vsc : Array Value} {tq : Tok} {pre : List (Addr × Obj)}
    (h1 : oc.data = .fields vsc) (h2 : vsc[1]? = some (.str qual tq)) (h3 : oo.data = .cell (some (.int other to))) (hm1 : (f, lamO nm qual co pm c' ctv) ∈ pre) (hm2 : (c', oc) ∈ pre) (hm3 : (co, oo) ∈ pre) (ho0 : 1 ≤ other) (ho1 : other ≤ 200)
    {loose : List Str} {mean : ExcName → Option Value} {mg mb : Str → Option Value} {dp un : Nat} {gd : Option (List Code)} {cn' : Str} {cs : Scope} {L ca : Addr} {ccd : Value} {cl : List (Str × Addr)} {outer : List Env} {A₀ : Around} {base h₀ : Heap} {m : Str → Option Value} {s : Shared} {Q E : Value → Shared → Prop}
    (B : Below A₀ base outer h₀) (F : Fr h₀ L s.heap m) (X : (hd.heap_39 w.params).In h₀) (N : News h₀ L s.heap pre) (T : Top topProg loose mean mg mb h₀) (C : CodeHd h₀ 34 30) (hck : cs.kind = .function) (hd : dp + 10 < recursionLimit) (hu : un + 100 < cLine)
    (hret : ∀ t h' tk', Fr h₀ L h' m → News h₀ L h' pre → Q (.int (i * other) t) { s with heap := h', toks := tk' }) :
    wpAny (model PySem.Challenge.rw_zr0006_01.row.prog w) (ktrTop dp un gd cn' cs L ca ccd cl outer) (call (.ref f) [.int i ti]) Q E s := by
  revert X; k_fill; intro X
  have hcr : s.heap.CodeRec (.ref c') qual := codeRec_news N hm2 h1 h2
  refine wpAny_call ?_
  refine' (fun (hb : lamBody lamE = _) => ?_) ?hb0
  case hb0 => conv => lhs; whnf
  refine' (fun (hs : lamScope lamE = _) => ?_) ?hs0
  case hs0 => conv => lhs; whnf
  k_dflt (refine' kla_code (binds := [(Str.ofString "number", .int i ti)]) ?k1 ?k2 ?k3 ?k4 ?k5 ?kA ?kF ?kK ?k6 ?k7 ?k8 ?k9 ?kB ?_ ?c2 ?c3 ?c4 ?c5; (case kA => exact rfl); (case kF => exact rfl); (case kK => assumption); (case k1 => k_asm); (case k2 => k_asm); (case k3 => k_asm); (case k4 => k_asm); (case k5 => k_asm); (case k6 => exact hm1); (case k7 => exact hcr); (case k8 => ktr_room); (case k9 => exact rfl); (case c5 => (rw [hs]; decide)); (case kB => exact locs rfl); (case c2 => exact rfl); (case c3 => exact rfl); (case c4 => exact rfl); k_whole; intro g' L' h' FG' F' N' B' X' T'; (try dsimp only); rw [hb, hs]; clear hb hs; (try dsimp only); (try k_fold))
  k_with_none
  k_steps
  rename_i kF kN _ _
  exact hret _ _ _ kF kN

set_option maxHeartbeats 4000000 in
theorem bis_key {one other : Int} {tx to t u v : Tok} {rg f c' co : Addr} {oc oo : Obj} {nm qual : Str} {pm ctv : Value} {vsc : Array Value} {tq : Tok}
    (h1 : oc.data = .fields vsc) (h2 : vsc[1]? = some (.str qual tq)) (h3 : oo.data = .cell (some (.int other to))) (ho0 : 1 ≤ other) (ho1 : other ≤ 200) (hn0 : -5000 ≤ one) (hn1 : one ≤ 5000)
    {loose : List Str} {mean : ExcName → Option Value} {mg mb : Str → Option Value} {dp un : Nat} {gd : Option (List Code)} {cn' : Str} {cs : Scope} {L ca : Addr} {ccd : Value} {cl : List (Str × Addr)} {outer : List Env} {A₀ : Around} {base h₀ : Heap} {m : Str → Option Value} {rest : List (Addr × Obj)} {s : Shared} {Q E : Value → Shared → Prop}
    (B : Below A₀ base outer h₀) (F : Fr h₀ L s.heap m) (X : (hd.heap_39 w.params).In h₀) (N : News h₀ L s.heap ([(rg, rngO (-5001) 5002 1 t u v), (f, lamO nm qual co pm c' ctv), (c', oc), (co, oo)] ++ rest)) (hdis : ∀ q ∈ rest, NeN q.1 rg ∧ NeN q.1 f ∧ NeN q.1 c' ∧ NeN q.1 co) (T : Top topProg loose mean mg mb h₀) (C : CodeHd h₀ 34 30) (hck : cs.kind = .function) (hd : dp + 20 < recursionLimit) (hu : un + 200 < cLine)
    (hret : ∀ t' h' tk', Fr h₀ L h' m → News h₀ L h' ([(rg, rngO (-5001) 5002 1 t u v), (f, lamO nm qual co pm c' ctv), (c', oc), (co, oo)] ++ rest) → Q (.int (one / other + 5002) t') { s with heap := h', toks := tk' }) :
    wpAny (model PySem.Challenge.rw_zr0006_01.row.prog w) (ktrTop dp un gd cn' cs L ca ccd cl outer) (call (.ref 74) [.ref rg, .int one tx] [(Str.ofString "key", .ref f)]) Q E s := by
  revert X; k_fill; intro X
  refine wpAny_call ?_
  k_dflt (refine' code_def_rest (binds := [(Str.ofString "a", .ref rg), (Str.ofString "x", .int one tx), (Str.ofString "lo", .int 0 284), (Str.ofString "hi", .none), (Str.ofString "key", .ref f)]) (pre := [(rg, rngO (-5001) 5002 1 t u v), (f, lamO nm qual co pm c' ctv), (c', oc), (co, oo)]) (rest := rest) ?k1 ?k2 ?k3 ?k4 ?kd ?k5 ?kA ?kF ?kK ?k6 ?k7 ?k8 ?k9 ?kB ?_ ?c2 ?c3 ?c4 ?c5; (case kA => exact rfl); (case kF => exact rfl); (case kK => assumption); (case k1 => k_asm); (case k2 => k_asm); (case k3 => k_asm); (case k4 => k_asm); (case kd => (intro q hq; have h8 := hdis q hq; walk_at "Nin")); (case k5 => k_asm); (case k6 => k_is); (case k7 => k_is); (case k8 => ktr_room); (case k9 => exact kp_binds (by k_in) (fun _ => rfl)); (case c5 => decide); (case kB => exact locs rfl); (case c2 => exact rfl); (case c3 => exact rfl); (case c4 => exact rfl); k_whole; intro g' L' h' FG' F' N' B' X' T' l1 hG' hst'; (try k_lt l1); have C' := CodeHd.keeps C hst'; (try dsimp only); (try k_fold))
  have hq0 : -5000 ≤ one / other := (Int.le_ediv_iff_mul_le (by omega)).mpr (by omega)
  have hq1 : one / other < 5001 := (Int.ediv_lt_iff_lt_mul (by omega)).mpr (by omega)
  k_with_none
  k_with "while" => (
      refine while_J (fun M0 n m₁ n₁ => ∃ (lo hi : Int) (tlo thi : Tok) (mid : Option Value), m₁ = (fun y => if y = Str.ofString "mid" then mid else if y = Str.ofString "lo" then some (.int lo tlo) else if y = Str.ofString "hi" then some (.int hi thi) else M0 y) ∧
        n₁ = [(rg, rngO (-5001) 5002 1 t u v), (f, lamO nm qual co pm c' ctv), (c', oc), (co, oo)] ∧ 0 ≤ lo ∧ hi ≤ 10003 ∧ lo ≤ one / other + 5002 ∧ one / other + 5002 ≤ hi ∧ n = (hi - lo).toNat) (by assumption) (by assumption) ⟨0, 10003, _, _, _, over3 (fun _ _ _ _ => rfl), rfl, Int.le_refl _, Int.le_refl _, ?_, ?_, rfl⟩ ?_
      rotate_left 2
      rintro n m₁ n₁ h9 tk9 F9 N9 ⟨lo, hi, tlo, thi, mid, rfl, rfl, hlo, hhi, hp0, hp1, rfl⟩
      have hk := @Int.ediv_lt_iff_lt_mul one (-5001 + (lo + hi) / 2 * 1) other (by omega)
      (try dsimp only))
  k_with "len" => (
    refine len_rngN (n := 10003) N' (.head _) (by decide) (by decide) ?_
    intro t9 tk9
    (try dsimp only))
  k_with "item" => (
    refine' item_rngN (n := 10003) (by assumption) (.head _) ?e1 ?e2 ?e3 ?e4 ?_
    case e1 => decide
    case e2 => omega
    case e3 => omega
    case e4 => with_unfolding_all rfl
    intro t9 tk9
    (try dsimp only))
  k_with "mine" => (
    refine' lam_ok w h1 h2 h3 (.tail _ (.head _)) (.tail _ (.tail _ (.head _))) (.tail _ (.tail _ (.tail _ (.head _)))) ho0 ho1 ?k1 ?k2 ?k3 ?k4 ?k5 ?kc ?kK ?r1 ?r2 ?_
    case k1 => k_asm
    case k2 => k_asm
    case k3 => k_asm
    case k4 => k_asm
    case k5 => k_asm
    case kc => kn_code
    case kK => first | exact rfl | assumption
    case r1 => ktr_room
    case r2 => ktr_units
    intro t8 h8 tk8 F8 N8
    (try dsimp only)
    (try k_fold))
  k_steps
  all_goals (try omega)
  · rename Fr _ _ _ _ => FE
    rename News _ _ _ _ => NE
    exact WhileAt FE NE (by omega) ⟨_, _, _, _, _, over3 (fun z h1 h2 h3 => by simp only [if_neg h1, if_neg h2, if_neg h3]), rfl, by omega, by omega, by omega, by omega, rfl⟩
  · rename Fr _ _ _ _ => FE
    rename News _ _ _ _ => NE
    exact WhileAt FE NE (by omega) ⟨_, _, _, _, _, over3 (fun z h1 h2 h3 => by simp only [if_neg h1, if_neg h2, if_neg h3]), rfl, by omega, by omega, by omega, by omega, rfl⟩
  · rename_i kF kN _ _ N2
    rw [show lo = one / other + 5002 by omega]
    exact hret _ _ _ kF (news_app kN N2)
end
section
variable (w : World)
set_option maxHeartbeats 8000000 in
theorem seg1 {J9 : Addr} {it9 : Obj} {sl : Addr} {one other : Int} {t1 t2 : Tok} {M : Str → Option Value} {c c2 c3 : Addr} {ps ps2 ps3 : Array Value} {oc oc2 oc3 o1 o2 : Obj} 
    {loose : List Str} {mean : ExcName → Option Value} {mg mb : Str → Option Value} {dp un : Nat} {gd : Option (List Code)} {L fa : Addr} {outer : List Env} {A₀ : Around} {base h₀ : Heap} {s : Shared} {Q : Flow → Shared → Prop} {E : Value → Shared → Prop}
    (tb : Tabs3 L J9 c c2 c3 ps ps2 ps3 oc oc2 oc3) (cx : LawCtx w h₀ L fa outer A₀ base loose mean mg mb dp un gd E) (hone0 : -5000 ≤ one) (hone1 : one ≤ 5000) (hoth0 : 1 ≤ other) (hoth1 : other ≤ 200) (ho1 : o1.data = .cell (some (.int one t1))) (ho2 : o2.data = .cell (some (.int other t2)))
    
    (F : Fr h₀ L s.heap (fun y => if y = Str.ofString "script" then some (.ref sl) else M y)) (N : News h₀ L s.heap (lawLed L c c2 c3 ps ps2 ps3 oc oc2 oc3 o1 o2 J9 it9))
    (hnext : ∀  (c' c2' c3' : Addr) (ps' ps2' ps3' : Array Value) (oc' oc2' oc3' : Obj) (M' : Str → Option Value) h' tk', Tabs3 L J9 c' c2' c3' ps' ps2' ps3' oc' oc2' oc3' → Fr h₀ L h' (fun y => if y = Str.ofString "script" then some (.ref sl) else M' y) → News h₀ L h' (lawLed L c' c2' c3' ps' ps2' ps3' oc' oc2' oc3' o1 o2 J9 it9) →
      wpAny (model PySem.Challenge.rw_zr0006_01.row.prog w) (lawA dp un gd L fa outer) (execs (lawRest 4) (lawEnv L fa)) Q E { s with heap := h', toks := tk' }) :
    wpAny (model PySem.Challenge.rw_zr0006_01.row.prog w) (lawA dp un gd L fa outer) (execs (lawRest 1) (lawEnv L fa)) Q E s := by
  obtain ⟨B, X, T, C, C2, C3, hdp, hun, hE⟩ := cx
  obtain ⟨hT, hT2, hT3, ⟨ne1, ne2, ne3, ne4, ne5, ne6, ne7, ne8, ne9⟩, ⟨nL1, nL2, nL3⟩, ⟨nl1, nl2, nl3, nl4, nl5, nl6⟩, ⟨ni1, ni2, ni3, ni4, ni5, ni6, ni7, ni8⟩⟩ := tb
  revert X; k_fill; intro X
  refine' (fun (hb : lawRest 1 = _) => ?_) ?hb0
  case hb0 => conv => lhs; whnf
  refine' (fun (hb4 : lawRest 4 = _) => ?_) ?hb4
  case hb4 => conv => lhs; whnf
  refine' (fun (hs : stScope lawStmt = _) => ?_) ?hs0
  case hs0 => conv => lhs; whnf
  dsimp only [lawA, lawEnv, lawSc] at hE hnext ⊢
  rw [hs] at hE hnext ⊢
  rw [hb]
  rw [hb4] at hnext
  have hstop := seg_stop w (lawRest 4)
  rw [hb4] at hstop
  clear hb4
  clear hb hs
  k_with_none
  k_with "seg" => (with_reducible refine hstop _ _ _ _ _ ?_)
  k_steps
  refine' (idm_any w (a := one) (b := other) (by omega) (by omega) (by omega) (by omega)) (rest := [(L + 1 + 1, o2), (L + 1, o1), (83, tabObj ps3), (c3, oc3), (J9, it9)]) hT hT2 ?ht ?k1 ?k2 ?k3 ?k4 ?kd ?k5 ?kc ?kc2 ?kK ?r1 ?r2 ?_
  case ht => walk_at "Ne"
  case k1 => k_asm
  case k2 => k_asm
  case k3 => k_asm
  case k4 => exact news_sub (by k_asm) (by walk_at "Sub")
  case kd => walk_at "Fa"
  case k5 => k_asm
  case kc => kn_code
  case kc2 => kn_code
  case kK => first | exact rfl | assumption
  case r1 => ktr_room
  case r2 => ktr_units
  intro D9 t91 t92 ps9 c9 oc9 ps29 c29 oc29 h9 tk9 hT9 hT29 hc9 hr9 hd9 F9 N9
  simp only [List.forall_mem_cons] at hr9
  obtain ⟨⟨p1, p2, p3⟩, ⟨p4, p5, p6⟩, ⟨p7, p8, p9⟩, ⟨p10, p11, p12⟩, ⟨r13, r14, r15⟩, _⟩ := hr9
  have s13 := hidI r13
  have s14 := hidI r14
  have s15 := hidI r15
  clear r13 r14 r15
  obtain ⟨hc91, hc92, hc93⟩ := hc9
  obtain ⟨hd91, hd92, hd93, hd94⟩ := hd9
  simp only [List.cons_append, List.nil_append] at N9
  k_steps
  rename_i rg hA tkA ta tb tc FR NR lr
  have hm0 : 0 ≤ one % other := Int.emod_nonneg _ (by omega)
  have hm1 : one % other < other := Int.emod_lt_of_pos _ (by omega)
  have hm2 : one % other = one - one / other * other := by rw [Int.emod_def, Int.mul_comm]
  have m6 : NeN 83 J9 := ni6
  rcases hT3 with ⟨rfl, rfl, rfl⟩ | ⟨rfl, hcP, vsc, tq, e1, e2⟩
  · have NQ := news_sub NR (b := [(rg, _), (30, tabObj ps9), (c9, oc9), (37, tabObj ps29), (c29, oc29), (L + 1 + 1, o2), (L + 1, o1), (83, tabObj #[]), (J9, it9)]) (by walk_at "Sub")
    clear NR
    k_steps
    rename_i f7 c7 oc7 vs7 t7 ct7 h7 tk7 F7 NN d17 d27 l17 l27
    refine' bis_key w (one := one) (other := other) (rest := [(30, tabObj ps9), (c9, oc9), (37, tabObj ps29), (c29, oc29), (L + 1, o1), (83, tabObj (#[] ++ #[rawInt 115, rawInt 58, Value.ref c7])), (J9, it9)]) d17 d27 ho2 hoth0 hoth1 hone0 hone1 ?k1 ?k2 ?k3 ?k4 ?kd ?k5 ?kc ?kK ?r1 ?r2 ?_
    case k1 => k_asm
    case k2 => k_asm
    case k3 => k_asm
    case k4 => exact news_sub NN (by walk_at "Sub")
    case kd => walk_at "Fa"
    case k5 => k_asm
    case kc => kn_code
    case kK => first | exact rfl | assumption
    case r1 => ktr_room
    case r2 => ktr_units
    intro t8 h8 tk8 F8 N8
    simp only [List.cons_append, List.nil_append] at N8
    k_steps
    all_goals (try (exfalso; omega))
    unfold SegGoal
    rename Fr _ _ _ _ => FE
    rename News _ _ _ _ => NE
    exact hnext c9 c29 c7 ps9 ps29 _ oc9 oc29 oc7 _ _ _ ⟨hT9, hT29, .inr ⟨rfl, (by (try dsimp only); omega : NeN c7 83), vs7, t7, d17, d27⟩, by walk_at "Ne", ⟨nL1, nL2, nL3⟩, by walk_at "Ne", by walk_at "NeI"⟩ (frO rfl FE) (news_sub NE (by walk_at "Sub"))
  · k_steps
    rename_i f7 ct7 h7 tk7 F7 NN l17
    refine' bis_key w (one := one) (other := other) (rest := [(30, tabObj ps9), (c9, oc9), (37, tabObj ps29), (c29, oc29), (L + 1, o1), (83, tabObj (#[] ++ #[rawInt 115, rawInt 58, Value.ref c3])), (J9, it9)]) e1 e2 ho2 hoth0 hoth1 hone0 hone1 ?k1 ?k2 ?k3 ?k4 ?kd ?k5 ?kc ?kK ?r1 ?r2 ?_
    case k1 => k_asm
    case k2 => k_asm
    case k3 => k_asm
    case k4 => exact news_sub NN (by walk_at "Sub")
    case kd => walk_at "Fa"
    case k5 => k_asm
    case kc => kn_code
    case kK => first | exact rfl | assumption
    case r1 => ktr_room
    case r2 => ktr_units
    intro t8 h8 tk8 F8 N8
    simp only [List.cons_append, List.nil_append] at N8
    k_steps
    all_goals (try (exfalso; omega))
    unfold SegGoal
    rename Fr _ _ _ _ => FE
    rename News _ _ _ _ => NE
    exact hnext c9 c29 c3 ps9 ps29 _ oc9 oc29 oc3 _ _ _ ⟨hT9, hT29, .inr ⟨rfl, hcP, vsc, tq, e1, e2⟩, by walk_at "Ne", ⟨nL1, nL2, nL3⟩, by walk_at "Ne", by walk_at "NeI"⟩ (frO rfl FE) (news_sub NE (by walk_at "Sub"))
end
/-- Euclid's run: CF a b row g: the quotients from (a, b) on are row, the end is g -/
inductive CF : Int → Int → List Int → Int → Prop
  | done (g : Int) : CF g 0 [] g
  | step {a b g : Int} {row : List Int} : 0 < b → CF b (a % b) row g → CF a b (a / b :: row) g
theorem over4 {M m' : Str → Option Value} {x₁ x₂ x₃ x₄ : Str} (h : ∀ y, y ≠ x₁ → y ≠ x₂ → y ≠ x₃ → y ≠ x₄ → m' y = M y) : m' = fun y => if y = x₁ then m' x₁ else if y = x₂ then m' x₂ else if y = x₃ then m' x₃ else if y = x₄ then m' x₄ else M y :=
  (over3 fun y h1 h2 h3 => by
    by_cases h4 : y = x₄
    · subst h4; rw [if_pos rfl]
    · rw [if_neg h4]; exact h y h1 h2 h3 h4)
section
variable (w : World)
set_option maxHeartbeats 4000000 in
theorem row_ok {one other : Int} {ta tb : Tok} {c c2 : Addr} {ps ps2 : Array Value} {oc oc2 : Obj} (hT : TabS 30 32 4 q4 ps c oc) (hT2 : TabS 37 47 4 q5 ps2 c2 oc2) (hc : NeN c 37 ∧ NeN c2 30 ∧ NeN c c2)
    (ha0 : -5000 ≤ one) (ha1 : one ≤ 5000) (hb0 : 1 ≤ other) (hb1 : other ≤ 200)
    {loose : List Str} {mean : ExcName → Option Value} {mg mb : Str → Option Value} {dp un : Nat} {gd : Option (List Code)} {cn' : Str} {cs : Scope} {L ca : Addr} {ccd : Value} {cl : List (Str × Addr)} {outer : List Env} {A₀ : Around} {base h₀ : Heap} {m : Str → Option Value} {rest : List (Addr × Obj)} {s : Shared} {Q E : Value → Shared → Prop}
    (B : Below A₀ base outer h₀) (F : Fr h₀ L s.heap m) (X : (hd.heap_39 w.params).In h₀) (N : News h₀ L s.heap ([(30, tabObj ps), (c, oc), (37, tabObj ps2), (c2, oc2)] ++ rest)) (hdis : ∀ q ∈ rest, NeN q.1 30 ∧ NeN q.1 c ∧ NeN q.1 37 ∧ NeN q.1 c2) (T : Top topProg loose mean mg mb h₀) (C : CodeHd h₀ 34 30) (C2 : CodeHd h₀ 41 37) (hck : cs.kind = .function) (hd : dp + 160 < recursionLimit) (hu : un + 1600 < cLine)
    (hret : ∀ (D fl : Addr) (t1 : Tok) row vs nv g ps' c' oc' ps2' c2' oc2' h' tk', CF one other row g → IntsAre vs row → row.length ≤ 201 → TabS 30 32 4 q4 ps' c' oc' → TabS 37 47 4 q5 ps2' c2' oc2' → (NeN c' 37 ∧ NeN c2' 30 ∧ NeN c' c2') → (∀ q ∈ rest, NeN q.1 c' ∧ NeN q.1 c2' ∧ NeN q.1 D ∧ NeN q.1 fl) → (NeN fl 30 ∧ NeN fl c' ∧ NeN fl 37 ∧ NeN fl c2' ∧ NeN fl D) →
      Fr h₀ L h' m → News h₀ L h' ([(D, tupO [.ref fl, .int g t1]), (fl, listOf vs.toArray nv), (30, tabObj ps'), (c', oc'), (37, tabObj ps2'), (c2', oc2')] ++ rest) → Q (.ref D) { s with heap := h', toks := tk' }) :
    wpAny (model PySem.Challenge.rw_zr0006_01.row.prog w) (ktrTop dp un gd cn' cs L ca ccd cl outer) (call (.ref 81) [.int one ta, .int other tb]) Q E s := by
  obtain ⟨hc1, hc2, hc3⟩ := hc
  revert X; k_fill; intro X
  refine wpAny_call ?_
  k_dflt (refine' code_def_rest (binds := [(Str.ofString "one", .int one ta), (Str.ofString "other", .int other tb)]) (pre := [(30, tabObj ps), (c, oc), (37, tabObj ps2), (c2, oc2)]) (rest := rest) ?k1 ?k2 ?k3 ?k4 ?kd ?k5 ?kA ?kF ?kK ?k6 ?k7 ?k8 ?k9 ?kB ?_ ?c2 ?c3 ?c4 ?c5; (case kA => exact rfl); (case kF => exact rfl); (case kK => assumption); (case k1 => k_asm); (case k2 => k_asm); (case k3 => k_asm); (case k4 => k_asm); (case kd => (intro q hq; have h8 := hdis q hq; walk_at "Nin")); (case k5 => k_asm); (case k6 => k_is); (case k7 => k_is); (case k8 => ktr_room); (case k9 => exact BindsTo.of_eq rfl); (case c5 => decide); (case kB => exact locs rfl); (case c2 => exact rfl); (case c3 => exact rfl); (case c4 => exact rfl); k_whole; intro g' L' h' FG' F' N' B' X' T' l1 hG' hst'; (try k_lt l1); have C' := CodeHd.keeps C hst'; have C2' := CodeHd.keeps C2 hst'; (try dsimp only); (try k_fold))
  k_with_none
  k_with "while" => (
    rename_i fl hA lL hB FL NL
    refine while_J (fun M0 n m₁ n₁ => ∃ (o1 o2 : Int) (t1 t2 : Tok) (row : List Int) (vs : List Value) (nv : Nat) (of re : Option Value) (c c2 : Addr) (ps ps2 : Array Value) (oc oc2 : Obj),
        m₁ = (fun y => if y = Str.ofString "often" then of else if y = Str.ofString "rest" then re else if y = Str.ofString "one" then some (.int o1 t1) else if y = Str.ofString "other" then some (.int o2 t2) else M0 y) ∧
        n₁ = [(fl, listOf vs.toArray nv), (30, tabObj ps), (c, oc), (37, tabObj ps2), (c2, oc2)] ∧ IntsAre vs row ∧ TabS 30 32 4 q4 ps c oc ∧ TabS 37 47 4 q5 ps2 c2 oc2 ∧ NeN c 37 ∧ NeN c2 30 ∧ NeN c c2 ∧ NeN fl c ∧ NeN fl c2 ∧
        -5000 ≤ o1 ∧ o1 ≤ 5000 ∧ 0 ≤ o2 ∧ (row.length : Int) + o2 ≤ 200 ∧ (∀ tail g, CF o1 o2 tail g → CF one other (row ++ tail) g) ∧ n = o2.toNat)
      FL NL ⟨one, other, _, _, [], [], _, _, _, c, c2, ps, ps2, oc, oc2, over4 (fun _ _ _ _ _ => rfl), rfl, IntsAre.nil, hT, hT2, hc1, hc2, hc3, by omega, by omega, ha0, ha1, by omega, by simp; omega, fun _ _ h => h, rfl⟩ ?_
    rintro n m₁ n₁ h9 tk9 F9 N9 ⟨o1, o2, t1, t2, row, vs, nv, of, re, c, c2, ps, ps2, oc, oc2, rfl, rfl, hI, hT, hT2, hc1, hc2, hc3, hf1, hf2, hb1, hb2, hb3, hlen, hcf, rfl⟩
    have hvl := hI.length
    (try dsimp only))
  k_steps
  · refine' (idm_any w (a := o1) (b := o2) (by omega) (by omega) (by omega) (by omega)) (rest := [(fl, listOf vs.toArray nv)]) hT hT2 ⟨hc1, hc2, hc3⟩ ?k1 ?k2 ?k3 ?k4 ?kd ?k5 ?kc ?kc2 ?kK ?r1 ?r2 ?_
    case k1 => k_asm
    case k2 => k_asm
    case k3 => k_asm
    case k4 => exact news_sub (by k_asm) (by walk_at "Sub")
    case kd => walk_at "Fa"
    case k5 => k_asm
    case kc => kn_code
    case kc2 => kn_code
    case kK => first | exact rfl | assumption
    case r1 => ktr_room
    case r2 => ktr_units
    intro D9 t91 t92 ps9 c9 oc9 ps29 c29 oc29 h9 tk9 hT9 hT29 hc9 hr9 hd9 F9 N9
    simp only [List.forall_mem_cons] at hr9
    obtain ⟨⟨p1, p2, p3⟩, _⟩ := hr9
    obtain ⟨hc91, hc92, hc93⟩ := hc9
    simp only [List.cons_append, List.nil_append] at N9
    have hm0 : 0 ≤ o1 % o2 := Int.emod_nonneg _ (by omega)
    have hm1 : o1 % o2 < o2 := Int.emod_lt_of_pos _ (by omega)
    k_steps
    rename Fr _ _ _ _ => FE
    rename News _ _ _ _ => NE
    exact WhileAt (news' := [(fl, listOf (vs ++ [Value.int (o1 / o2) t91]).toArray (nv + 1)), (30, tabObj ps9), (c9, oc9), (37, tabObj ps29), (c29, oc29)]) FE (news_sub NE (by walk_at "Sub")) (by omega) ⟨o2, o1 % o2, _, _, row ++ [o1 / o2], _, _, _, _, c9, c29, ps9, ps29, oc9, oc29, over4 (fun z h1 h2 h3 h4 => by simp only [if_neg h1, if_neg h2, if_neg h3, if_neg h4]), rfl, ints_snoc hI, hT9, hT29, hc91, hc92, hc93, p1, p2, by omega, by omega, hm0, (by rw [List.length_append, List.length_singleton]; omega), (fun tail g hg => by rw [List.append_assoc]; exact hcf _ _ (.step (by omega) hg)), rfl⟩
  · rename_i D7 hE FE NE lE kF kN _ _ N2
    have hz : o2 = 0 := by omega
    subst hz
    have hg := hcf [] o1 (.done o1)
    rw [List.append_nil] at hg
    exact hret D7 fl _ row vs nv o1 ps c oc ps2 c2 oc2 _ _ hg hI (by omega) hT hT2 ⟨hc1, hc2, hc3⟩ (fun q hq => ⟨rest_ne NE hG' (by k_mem) q hq, rest_ne NE hG' (by k_mem) q hq, rest_ne NE hG' (by k_mem) q hq, rest_ne NE hG' (by k_mem) q hq⟩) (by walk_at "Ne") kF (news_sub (news_app kN N2) (by walk_at "Sub"))
end
section
variable (w : World)
set_option maxHeartbeats 8000000 in
theorem seg2 {J9 : Addr} {it9 : Obj} {sl : Addr} {one other : Int} {t1 t2 : Tok} {M : Str → Option Value} {c c2 c3 : Addr} {ps ps2 ps3 : Array Value} {oc oc2 oc3 o1 o2 : Obj} 
    {loose : List Str} {mean : ExcName → Option Value} {mg mb : Str → Option Value} {dp un : Nat} {gd : Option (List Code)} {L fa : Addr} {outer : List Env} {A₀ : Around} {base h₀ : Heap} {s : Shared} {Q : Flow → Shared → Prop} {E : Value → Shared → Prop}
    (tb : Tabs3 L J9 c c2 c3 ps ps2 ps3 oc oc2 oc3) (cx : LawCtx w h₀ L fa outer A₀ base loose mean mg mb dp un gd E) (hone0 : -5000 ≤ one) (hone1 : one ≤ 5000) (hoth0 : 1 ≤ other) (hoth1 : other ≤ 200) (ho1 : o1.data = .cell (some (.int one t1))) (ho2 : o2.data = .cell (some (.int other t2)))
    
    (F : Fr h₀ L s.heap (fun y => if y = Str.ofString "script" then some (.ref sl) else M y)) (N : News h₀ L s.heap (lawLed L c c2 c3 ps ps2 ps3 oc oc2 oc3 o1 o2 J9 it9))
    (hnext : ∀  (c' c2' c3' : Addr) (ps' ps2' ps3' : Array Value) (oc' oc2' oc3' : Obj) (M' : Str → Option Value) h' tk', Tabs3 L J9 c' c2' c3' ps' ps2' ps3' oc' oc2' oc3' → Fr h₀ L h' (fun y => if y = Str.ofString "script" then some (.ref sl) else M' y) → News h₀ L h' (lawLed L c' c2' c3' ps' ps2' ps3' oc' oc2' oc3' o1 o2 J9 it9) →
      wpAny (model PySem.Challenge.rw_zr0006_01.row.prog w) (lawA dp un gd L fa outer) (execs (lawRest 6) (lawEnv L fa)) Q E { s with heap := h', toks := tk' }) :
    wpAny (model PySem.Challenge.rw_zr0006_01.row.prog w) (lawA dp un gd L fa outer) (execs (lawRest 4) (lawEnv L fa)) Q E s := by
  obtain ⟨B, X, T, C, C2, C3, hdp, hun, hE⟩ := cx
  obtain ⟨hT, hT2, hT3, ⟨ne1, ne2, ne3, ne4, ne5, ne6, ne7, ne8, ne9⟩, ⟨nL1, nL2, nL3⟩, ⟨nl1, nl2, nl3, nl4, nl5, nl6⟩, ⟨ni1, ni2, ni3, ni4, ni5, ni6, ni7, ni8⟩⟩ := tb
  revert X; k_fill; intro X
  refine' (fun (hb : lawRest 4 = _) => ?_) ?hb0
  case hb0 => conv => lhs; whnf
  refine' (fun (hb6 : lawRest 6 = _) => ?_) ?hb6
  case hb6 => conv => lhs; whnf
  refine' (fun (hs : stScope lawStmt = _) => ?_) ?hs0
  case hs0 => conv => lhs; whnf
  dsimp only [lawA, lawEnv, lawSc] at hE hnext ⊢
  rw [hs] at hE hnext ⊢
  rw [hb]
  rw [hb6] at hnext
  have hstop := seg_stop w (lawRest 6)
  rw [hb6] at hstop
  clear hb6
  clear hb hs
  k_with_none
  k_with "seg" => (with_reducible refine hstop _ _ _ _ _ ?_)
  have hN0 : 0 ≤ -one % -(0 - other) := Int.emod_nonneg _ (by omega)
  have hN1 : -one % -(0 - other) < -(0 - other) := Int.emod_lt_of_pos _ (by omega)
  have hN2 : -one / -(0 - other) * (0 - other) + -(-one % -(0 - other)) = one := by
    have h1 := Int.emod_add_mul_ediv (-one) (-(0 - other))
    have h2 : -one / -(0 - other) * (0 - other) = -(-(0 - other) * (-one / -(0 - other))) := by rw [Int.neg_mul, Int.neg_neg, Int.mul_comm]
    rw [h2]; omega
  k_steps
  refine' (idm_neg w (a := one) (b := 0 - other) (by omega) (by omega) (by omega) (by omega)) (rest := [(L + 1 + 1, o2), (L + 1, o1), (83, tabObj ps3), (c3, oc3), (J9, it9)]) hT hT2 ?ht ?k1 ?k2 ?k3 ?k4 ?kd ?k5 ?kc ?kc2 ?kK ?r1 ?r2 ?_
  case ht => walk_at "Ne"
  case k1 => k_asm
  case k2 => k_asm
  case k3 => k_asm
  case k4 => exact news_sub (by k_asm) (by walk_at "Sub")
  case kd => walk_at "Fa"
  case k5 => k_asm
  case kc => kn_code
  case kc2 => kn_code
  case kK => first | exact rfl | assumption
  case r1 => ktr_room
  case r2 => ktr_units
  intro D9 t91 t92 ps9 c9 oc9 ps29 c29 oc29 h9 tk9 hT9 hT29 hc9 hr9 hd9 F9 N9
  simp only [List.forall_mem_cons] at hr9
  obtain ⟨⟨p1, p2, p3⟩, ⟨p4, p5, p6⟩, ⟨p7, p8, p9⟩, ⟨p10, p11, p12⟩, ⟨r13, r14, r15⟩, _⟩ := hr9
  have s13 := hidI r13
  have s14 := hidI r14
  have s15 := hidI r15
  clear r13 r14 r15
  obtain ⟨hc91, hc92, hc93⟩ := hc9
  obtain ⟨hd91, hd92, hd93, hd94⟩ := hd9
  simp only [List.cons_append, List.nil_append] at N9
  k_steps
  all_goals (try (exfalso; omega))
  unfold SegGoal
  rename Fr _ _ _ _ => FE
  rename News _ _ _ _ => NE
  exact hnext c9 c29 c3 ps9 ps29 ps3 oc9 oc29 oc3 _ _ _ ⟨hT9, hT29, hT3, by walk_at "Ne", ⟨nL1, nL2, nL3⟩, by walk_at "Ne", by walk_at "NeI"⟩ (frO rfl FE) (news_sub NE (by walk_at "Sub"))
end
section
variable (w : World)
set_option maxHeartbeats 8000000 in
theorem seg3 {J9 : Addr} {it9 : Obj} {sl : Addr} {one other : Int} {t1 t2 : Tok} {M : Str → Option Value} {c c2 c3 : Addr} {ps ps2 ps3 : Array Value} {oc oc2 oc3 o1 o2 : Obj} 
    {loose : List Str} {mean : ExcName → Option Value} {mg mb : Str → Option Value} {dp un : Nat} {gd : Option (List Code)} {L fa : Addr} {outer : List Env} {A₀ : Around} {base h₀ : Heap} {s : Shared} {Q : Flow → Shared → Prop} {E : Value → Shared → Prop}
    (tb : Tabs3 L J9 c c2 c3 ps ps2 ps3 oc oc2 oc3) (cx : LawCtx w h₀ L fa outer A₀ base loose mean mg mb dp un gd E) (hone0 : -5000 ≤ one) (hone1 : one ≤ 5000) (hoth0 : 1 ≤ other) (hoth1 : other ≤ 200) (ho1 : o1.data = .cell (some (.int one t1))) (ho2 : o2.data = .cell (some (.int other t2)))
    
    (F : Fr h₀ L s.heap (fun y => if y = Str.ofString "script" then some (.ref sl) else M y)) (N : News h₀ L s.heap (lawLed L c c2 c3 ps ps2 ps3 oc oc2 oc3 o1 o2 J9 it9))
    (hnext : ∀ (fl : Addr) (vs : List Value) (nv : Nat) (row : List Int) (g : Int) (tg : Tok) (c' c2' c3' : Addr) (ps' ps2' ps3' : Array Value) (oc' oc2' oc3' : Obj) (M' : Str → Option Value) h' tk', Tabs3 L J9 c' c2' c3' ps' ps2' ps3' oc' oc2' oc3' → CF one other row g → IntsAre vs row → row.length ≤ 201 → (NeN fl c' ∧ NeN fl c2' ∧ NeN fl c3' ∧ NeN fl 30 ∧ NeN fl 37 ∧ NeN fl 83 ∧ NeN fl (L + 1) ∧ NeN fl (L + 1 + 1)) → Fr h₀ L h' (fun y => if y = Str.ofString "row" then some (.ref fl) else if y = Str.ofString "shared" then some (.int g tg) else if y = Str.ofString "script" then some (.ref sl) else M' y) → News h₀ L h' ((fl, listOf vs.toArray nv) :: lawLed L c' c2' c3' ps' ps2' ps3' oc' oc2' oc3' o1 o2 J9 it9) →
      wpAny (model PySem.Challenge.rw_zr0006_01.row.prog w) (lawA dp un gd L fa outer) (execs (lawRest 7) (lawEnv L fa)) Q E { s with heap := h', toks := tk' }) :
    wpAny (model PySem.Challenge.rw_zr0006_01.row.prog w) (lawA dp un gd L fa outer) (execs (lawRest 6) (lawEnv L fa)) Q E s := by
  obtain ⟨B, X, T, C, C2, C3, hdp, hun, hE⟩ := cx
  obtain ⟨hT, hT2, hT3, ⟨ne1, ne2, ne3, ne4, ne5, ne6, ne7, ne8, ne9⟩, ⟨nL1, nL2, nL3⟩, ⟨nl1, nl2, nl3, nl4, nl5, nl6⟩, ⟨ni1, ni2, ni3, ni4, ni5, ni6, ni7, ni8⟩⟩ := tb
  revert X; k_fill; intro X
  refine' (fun (hb : lawRest 6 = _) => ?_) ?hb0
  case hb0 => conv => lhs; whnf
  refine' (fun (hb7 : lawRest 7 = _) => ?_) ?hb7
  case hb7 => conv => lhs; whnf
  refine' (fun (hs : stScope lawStmt = _) => ?_) ?hs0
  case hs0 => conv => lhs; whnf
  dsimp only [lawA, lawEnv, lawSc] at hE hnext ⊢
  rw [hs] at hE hnext ⊢
  rw [hb]
  rw [hb7] at hnext
  have hstop := seg_stop w (lawRest 7)
  rw [hb7] at hstop
  clear hb7
  clear hb hs
  k_with_none
  k_with "seg" => (with_reducible refine hstop _ _ _ _ _ ?_)
  k_steps
  refine' row_ok w (one := one) (other := other) (rest := [(L + 1 + 1, o2), (L + 1, o1), (83, tabObj ps3), (c3, oc3), (J9, it9)]) hT hT2 ?ht hone0 hone1 hoth0 hoth1 ?k1 ?k2 ?k3 ?k4 ?kd ?k5 ?kc ?kc2 ?kK ?r1 ?r2 ?_
  case ht => walk_at "Ne"
  case k1 => k_asm
  case k2 => k_asm
  case k3 => k_asm
  case k4 => exact news_sub (by k_asm) (by walk_at "Sub")
  case kd => walk_at "Fa"
  case k5 => k_asm
  case kc => kn_code
  case kc2 => kn_code
  case kK => first | exact rfl | assumption
  case r1 => ktr_room
  case r2 => ktr_units
  intro D9 fl t91 row vs nv g ps9 c9 oc9 ps29 c29 oc29 h9 tk9 hcf hI hrl hT9 hT29 hc9 hr9 hd9 F9 N9
  simp only [List.forall_mem_cons] at hr9
  obtain ⟨⟨p1, p2, p3, p4⟩, ⟨p5, p6, p7, p8⟩, ⟨p9, p10, p11, p12⟩, ⟨p13, p14, p15, p16⟩, ⟨r13, r14, r15, r16⟩, _⟩ := hr9
  have s13 := hidI r13
  have s14 := hidI r14
  have s15 := hidI r15
  have s16 := hidI r16
  clear r13 r14 r15 r16
  obtain ⟨hc91, hc92, hc93⟩ := hc9
  obtain ⟨hd91, hd92, hd93, hd94, hd95⟩ := hd9
  simp only [List.cons_append, List.nil_append] at N9
  k_steps
  unfold SegGoal
  rename Fr _ _ _ _ => FE
  rename News _ _ _ _ => NE
  exact hnext fl vs nv row g _ c9 c29 c3 ps9 ps29 ps3 oc9 oc29 oc3 _ _ _ ⟨hT9, hT29, hT3, by walk_at "Ne", ⟨nL1, nL2, nL3⟩, by walk_at "Ne", by walk_at "NeI"⟩ hcf hI hrl (by walk_at "Ne") (frO rfl (frO rfl (frO rfl FE))) (news_sub NE (by walk_at "Sub"))
end
theorem CF.facts {a b g : Int} {row : List Int} (h : CF a b row g) : (0 < b → 0 < g) ∧ (∀ d, d ∣ g ↔ d ∣ a ∧ d ∣ b) := by
  induction h with
  | done g => exact ⟨fun h => absurd h (Int.lt_irrefl _), fun d => ⟨fun h => ⟨h, Int.dvd_zero d⟩, fun h => h.1⟩⟩
  | @step a b g row hb hcf ih =>
    refine ⟨fun _ => ?_, fun d => ?_⟩
    · have hz : ∀ {x y : Int} {r : List Int}, CF x y r g → y = 0 → x = g := by
        intro x y r hx hy
        cases hx with
        | done => rfl
        | step h2 _ => omega
      rcases Int.lt_or_eq_of_le (Int.emod_nonneg a (show b ≠ 0 by omega)) with h | h
      · exact ih.1 h
      · rw [← hz hcf h.symm]; exact hb
    · rw [ih.2 d]
      constructor
      · rintro ⟨h1, h2⟩
        refine ⟨?_, h1⟩
        rw [← Int.emod_add_mul_ediv a b]
        exact Int.dvd_add h2 (Int.dvd_trans h1 (Int.dvd_mul_right _ _))
      · rintro ⟨h1, h2⟩
        refine ⟨h2, ?_⟩
        rw [Int.emod_def]
        exact Int.dvd_sub h1 (Int.dvd_trans h2 (Int.dvd_mul_right _ _))
theorem CF.le {a b g : Int} {row : List Int} (h : CF a b row g) (hb : 0 < b) : 0 < g ∧ g ≤ b ∧ a % g = 0 ∧ b % g = 0 ∧ ∀ d, g < d → ¬ (a % d = 0 ∧ b % d = 0) := by
  have hf := h.facts
  have hg := hf.1 hb
  have hd := (hf.2 g).mp (Int.dvd_refl g)
  refine ⟨hg, Int.le_of_dvd hb hd.2, Int.emod_eq_zero_of_dvd hd.1, Int.emod_eq_zero_of_dvd hd.2, fun d hlt hd2 => ?_⟩
  have h3 := (hf.2 d).mpr ⟨Int.dvd_of_emod_eq_zero hd2.1, Int.dvd_of_emod_eq_zero hd2.2⟩
  exact absurd (Int.le_of_dvd hg h3) (by omega)
section
open PyProof.Rows.LCg PyProof.Rows.LCt
variable {prog : Program} {w : World} {A : Around} {s : Shared} {h₀ : Heap} {L : Addr} {m : Str → Option Value} {env : Env}
theorem compT_none {ct elt : Expr} {x : Str} {scope : Scope} {cl : List (Str × Addr)} {S : List (Addr × Obj) → Prop} {P : Nat → Value → Prop} {Fin : List Value → List (Addr × Obj) → Prop} {n : Nat} {news : List (Addr × Obj)} (hS : S news)
    (turn : ∀ i v I oI C oC D m₂ h tk (E' : Value → Shared → Prop), i < n → P i v → NsObj oC m₂ → m₂ x = some v → Fr h₀ L h m → News h₀ L h ((I, oI) :: (C, oC) :: (D, lst []) :: news) → Off3 I C D news → ((@Ne Nat I C) ∧ (@Ne Nat I D) ∧ (@Ne Nat C D)) →
      wpAny (model prog w) A (isTrue ct (compEnvC scope cl C env) (eval ct (compEnvC scope cl C env))) (fun ok s' => ok = false ∧ ∃ h' tk', s' = { s with heap := h', toks := tk' } ∧ Fr h₀ L h' m ∧ News h₀ L h' ((I, oI) :: (C, oC) :: (D, lst []) :: news)) E' { s with heap := h, toks := tk })
    (fin : Fin [] news) : CompRestT prog w A h₀ L m env ct elt x scope cl s S P Fin n 0 [] news := by
  have key : ∀ k i, i + k = n → CompRestT prog w A h₀ L m env ct elt x scope cl s S P Fin k i [] news := by
    intro k
    induction k with
    | zero => intro i _; exact .zero fin
    | succ k ih =>
      intro i hi
      refine .succ ?_
      intro v I oI C oC D m₂ h tk E' hv hC hx F' N' off ne
      refine wpAny_mono (turn i v I oI C oC D m₂ h tk E' (by omega) hv hC hx F' N' off ne) (fun ok s' hs' => ?_) (fun _ _ y => y)
      obtain ⟨h1, h', tk', e, F2, N2⟩ := hs'
      subst h1
      rw [if_neg Bool.false_ne_true]
      exact ⟨h', tk', news, e, F2, N2, off, hS, ih (i + 1) (by omega)⟩
  exact key n 0 (Nat.zero_add n)
end
--MACROS
local macro_rules | `(tactic| walk_at "eval ListComp") => `(tactic| (k_here; k_extra "comp"))
--END
section
variable (w : World)
set_option maxHeartbeats 8000000 in
theorem seg4 {J9 : Addr} {it9 : Obj} {sl : Addr} {one other : Int} {t1 t2 : Tok} {M : Str → Option Value} {c c2 c3 : Addr} {ps ps2 ps3 : Array Value} {oc oc2 oc3 o1 o2 : Obj} {fl : Addr} {vs : List Value} {nv : Nat} {row : List Int} {g : Int} {tg : Tok}
    {loose : List Str} {mean : ExcName → Option Value} {mg mb : Str → Option Value} {dp un : Nat} {gd : Option (List Code)} {L fa : Addr} {outer : List Env} {A₀ : Around} {base h₀ : Heap} {s : Shared} {Q : Flow → Shared → Prop} {E : Value → Shared → Prop}
    (tb : Tabs3 L J9 c c2 c3 ps ps2 ps3 oc oc2 oc3) (cx : LawCtx w h₀ L fa outer A₀ base loose mean mg mb dp un gd E) (hone0 : -5000 ≤ one) (hone1 : one ≤ 5000) (hoth0 : 1 ≤ other) (hoth1 : other ≤ 200) (ho1 : o1.data = .cell (some (.int one t1))) (ho2 : o2.data = .cell (some (.int other t2)))
    (hcf : CF one other row g) (hI : IntsAre vs row) (hrl : row.length ≤ 201) (hfl : NeN fl c ∧ NeN fl c2 ∧ NeN fl c3 ∧ NeN fl 30 ∧ NeN fl 37 ∧ NeN fl 83 ∧ NeN fl (L + 1) ∧ NeN fl (L + 1 + 1))
    (F : Fr h₀ L s.heap (fun y => if y = Str.ofString "row" then some (.ref fl) else if y = Str.ofString "shared" then some (.int g tg) else if y = Str.ofString "script" then some (.ref sl) else M y)) (N : News h₀ L s.heap ((fl, listOf vs.toArray nv) :: lawLed L c c2 c3 ps ps2 ps3 oc oc2 oc3 o1 o2 J9 it9))
    (hnext : ∀  (c' c2' c3' : Addr) (ps' ps2' ps3' : Array Value) (oc' oc2' oc3' : Obj) (M' : Str → Option Value) h' tk', Tabs3 L J9 c' c2' c3' ps' ps2' ps3' oc' oc2' oc3' → (NeN fl c' ∧ NeN fl c2' ∧ NeN fl c3' ∧ NeN fl 30 ∧ NeN fl 37 ∧ NeN fl 83 ∧ NeN fl (L + 1) ∧ NeN fl (L + 1 + 1)) → Fr h₀ L h' (fun y => if y = Str.ofString "row" then some (.ref fl) else if y = Str.ofString "shared" then some (.int g tg) else if y = Str.ofString "script" then some (.ref sl) else M' y) → News h₀ L h' ((fl, listOf vs.toArray nv) :: lawLed L c' c2' c3' ps' ps2' ps3' oc' oc2' oc3' o1 o2 J9 it9) →
      wpAny (model PySem.Challenge.rw_zr0006_01.row.prog w) (lawA dp un gd L fa outer) (execs (lawRest 9) (lawEnv L fa)) Q E { s with heap := h', toks := tk' }) :
    wpAny (model PySem.Challenge.rw_zr0006_01.row.prog w) (lawA dp un gd L fa outer) (execs (lawRest 7) (lawEnv L fa)) Q E s := by
  obtain ⟨B, X, T, C, C2, C3, hdp, hun, hE⟩ := cx
  obtain ⟨hT, hT2, hT3, ⟨ne1, ne2, ne3, ne4, ne5, ne6, ne7, ne8, ne9⟩, ⟨nL1, nL2, nL3⟩, ⟨nl1, nl2, nl3, nl4, nl5, nl6⟩, ⟨ni1, ni2, ni3, ni4, ni5, ni6, ni7, ni8⟩⟩ := tb
  revert X; k_fill; intro X
  refine' (fun (hb : lawRest 7 = _) => ?_) ?hb0
  case hb0 => conv => lhs; whnf
  refine' (fun (hb9 : lawRest 9 = _) => ?_) ?hb9
  case hb9 => conv => lhs; whnf
  refine' (fun (hs : stScope lawStmt = _) => ?_) ?hs0
  case hs0 => conv => lhs; whnf
  dsimp only [lawA, lawEnv, lawSc] at hE hnext ⊢
  rw [hs] at hE hnext ⊢
  rw [hb]
  rw [hb9] at hnext
  have hstop := seg_stop w (lawRest 9)
  rw [hb9] at hstop
  clear hb9
  clear hb hs
  k_with_none
  k_with "seg" => (with_reducible refine hstop _ _ _ _ _ ?_)
  obtain ⟨hg0, hg1, hg2, hg3, hg4⟩ := hcf.le (by omega)
  obtain ⟨q1, q2, q3, q4, q5, q6, q7, q8⟩ := hfl
  k_with "comp" => (k_dflt (refine LCt.ListComp_T (F₀ := by k_asm) (by with_unfolding_all rfl) (by decide) (by rfl) (by decide) (by rfl) ?_))
  have hn : Builtin.Range.rangeSize (g + 1) (other + 1) 1 = (((other - g).toNat : Nat) : Int) := by
    unfold Builtin.Range.rangeSize
    rw [if_pos (by decide)]
    by_cases hlt : g + 1 < other + 1
    · rw [if_pos hlt]; omega
    · rw [if_neg hlt]; omega
  have hsm : Builtin.Range.small (g + 1) (other + 1) 1 = true := by
    unfold Builtin.Range.small Builtin.Range.rangeFitsLong
    rw [hn]
    simp
    omega
  k_steps
  all_goals (try (exfalso; omega))
  rename_i rg hA tkA ta tb tc FR NR lr
  refine LCt.CompSrcT.range (n := (other - g).toNat) rfl FR NR (NR _ (.head _)).1 hsm hn (Nat.le_trans (show (other - g).toNat ≤ 200 by omega) (by decide)) ?_
  intro g7
  refine compT_none trivial ?turn ?fin
  case turn =>
    intro i v I oI C oC D m₂ h tk E' hin hv hC hx F' N' off ne
    obtain ⟨t9, rfl⟩ := hv
    have h4 := hg4 (g + 1 + (i : Int)) (by omega)
    have hpos : 0 < g + 1 + (i : Int) := by omega
    clear hg4
    k_steps
    all_goals first | (exfalso; omega) | exact F' | exact N'
  case fin =>
    show LCg.FinE _ _ _ _ _ _ _
    k_steps
    unfold SegGoal
    rename Fr _ _ _ _ => FE
    rename News _ _ _ _ => NE
    exact hnext c c2 c3 ps ps2 ps3 oc oc2 oc3 _ _ _ ⟨hT, hT2, hT3, by walk_at "Ne", ⟨nL1, nL2, nL3⟩, by walk_at "Ne", by walk_at "NeI"⟩ ⟨q1, q2, q3, q4, q5, q6, q7, q8⟩ (frO rfl (frO rfl (frO rfl FE))) (news_sub NE (by walk_at "Sub"))
end
/-- what holds of top and low while Euclid's run goes on -/
structure TL (one other g a b : Int) (rem tp lw : List Int) : Prop where
  cf : CF a b rem g
  ha : 0 < a
  hb : 0 ≤ b
  hba : b < a
  ln : tp.length = lw.length
  l2 : 2 ≤ lw.length
  e1 : one = tp.getD (lw.length - 1) 0 * a + tp.getD (lw.length - 2) 0 * b
  e2 : other = lw.getD (lw.length - 1) 0 * a + lw.getD (lw.length - 2) 0 * b
  det : ∀ j, 1 ≤ j → j < lw.length → tp.getD j 0 * lw.getD (j - 1) 0 - tp.getD (j - 1) 0 * lw.getD j 0 = 1 ∨ tp.getD j 0 * lw.getD (j - 1) 0 - tp.getD (j - 1) 0 * lw.getD j 0 = -1
  nn : ∀ j, 0 ≤ lw.getD j 0
  mono : ∀ j, 1 ≤ j → j < lw.length → lw.getD (j - 1) 0 ≤ lw.getD j 0
theorem getD_snoc_lt {l : List Int} {x : Int} {j : Nat} (h : j < l.length) : (l ++ [x]).getD j 0 = l.getD j 0 := by
  rw [List.getD_eq_getElem?_getD, List.getD_eq_getElem?_getD, List.getElem?_append_left h]
theorem getD_snoc_eq {l : List Int} {x : Int} {j : Nat} (h : j = l.length) : (l ++ [x]).getD j 0 = x := by
  subst h
  rw [List.getD_eq_getElem?_getD, List.getElem?_append_right (Nat.le_refl _), Nat.sub_self]; rfl
theorem getD_out {l : List Int} {j : Nat} (h : l.length ≤ j) : l.getD j 0 = 0 := by
  rw [List.getD_eq_getElem?_getD, List.getElem?_eq_none h]; rfl
theorem TL.step {one other g a b q : Int} {rem tp lw : List Int} (h : TL one other g a b (q :: rem) tp lw) :
    0 < b ∧ 1 ≤ q ∧ q ≤ a ∧ TL one other g b (a % b) rem (tp ++ [q * tp.getD (lw.length - 1) 0 + tp.getD (lw.length - 2) 0]) (lw ++ [q * lw.getD (lw.length - 1) 0 + lw.getD (lw.length - 2) 0]) := by
  obtain ⟨cf, ha, hb, hba, ln, l2, e1, e2, det, nn, mono⟩ := h
  cases cf with
  | step hb0 cf2 =>
    have hq : 1 ≤ a / b := by rw [Int.le_ediv_iff_mul_le hb0]; omega
    have hq2 : a / b ≤ a := Int.ediv_le_self _ (by omega)
    have hm0 : 0 ≤ a % b := Int.emod_nonneg _ (by omega)
    have hm1 : a % b < b := Int.emod_lt_of_pos _ hb0
    have hab : a = a / b * b + a % b := by rw [Int.mul_comm]; exact (Int.mul_ediv_add_emod a b).symm
    have k1 : lw.length + 1 - 1 = lw.length := by omega
    have k2 : lw.length + 1 - 2 = lw.length - 1 := by omega
    generalize hQ : a / b = Q at *
    generalize hR : a % b = R at *
    have p1 : 0 ≤ lw.getD (lw.length - 1) 0 := nn _
    have p2 : 0 ≤ lw.getD (lw.length - 2) 0 := nn _
    have p3 : lw.getD (lw.length - 1) 0 ≤ Q * lw.getD (lw.length - 1) 0 := by
      have := Int.mul_le_mul_of_nonneg_right hq p1; omega
    have fold : ∀ x y : Int, x * a + y * b = (Q * x + y) * b + x * R := by
      intro x y
      rw [hab, Int.mul_add, Int.add_mul, ← Int.mul_assoc, Int.mul_comm x Q]
      omega
    refine ⟨hb0, hq, hq2, cf2, hb0, hm0, hm1, ?_, ?_, ?_, ?_, ?_, ?_, ?_⟩
    · simp [ln]
    · rw [List.length_append, List.length_singleton]; omega
    · rw [List.length_append, List.length_singleton, k1, k2, getD_snoc_eq ln.symm, getD_snoc_lt (by omega), e1]; exact fold _ _
    · rw [List.length_append, List.length_singleton, k1, k2, getD_snoc_eq rfl, getD_snoc_lt (by omega)]
      rw [show other = lw.getD (lw.length - 1) 0 * a + lw.getD (lw.length - 2) 0 * b from e2]; exact fold _ _
    · intro j hj1 hj2
      rw [List.length_append, List.length_singleton] at hj2
      by_cases hj : j < lw.length
      · rw [getD_snoc_lt (by omega), getD_snoc_lt (by omega), getD_snoc_lt (by omega), getD_snoc_lt (by omega)]
        exact det j hj1 hj
      · have hj3 : j = lw.length := by omega
        subst hj3
        have d := det (lw.length - 1) (by omega) (by omega)
        rw [show lw.length - 1 - 1 = lw.length - 2 by omega] at d
        rw [getD_snoc_eq ln.symm, getD_snoc_eq rfl, getD_snoc_lt (by omega), getD_snoc_lt (by omega)]
        generalize tp.getD (lw.length - 1) 0 = x at *
        generalize tp.getD (lw.length - 2) 0 = y at *
        generalize lw.getD (lw.length - 1) 0 = u at *
        generalize lw.getD (lw.length - 2) 0 = v at *
        have e : (Q * x + y) * u - x * (Q * u + v) = -(x * v - y * u) := by
          rw [Int.add_mul, Int.mul_add, show x * (Q * u) = Q * x * u by rw [← Int.mul_assoc, Int.mul_comm x Q]]
          omega
        rw [e]; omega
    · intro j
      by_cases hj : j < lw.length
      · rw [getD_snoc_lt hj]; exact nn j
      · by_cases hj3 : j = lw.length
        · rw [getD_snoc_eq hj3]; omega
        · rw [getD_out (by rw [List.length_append, List.length_singleton]; omega)]; omega
    · intro j hj1 hj2
      rw [List.length_append, List.length_singleton] at hj2
      by_cases hj : j < lw.length
      · rw [getD_snoc_lt (by omega), getD_snoc_lt (by omega)]
        exact mono j hj1 hj
      · have hj3 : j = lw.length := by omega
        subst hj3
        rw [getD_snoc_eq rfl, getD_snoc_lt (by omega)]; omega
theorem TL.start {one other g : Int} {row : List Int} (h : CF one other row g) (ho : 0 < other) : ∃ q rem, row = q :: rem ∧ q = one / other ∧ TL one other g other (one % other) rem [1, q] [0, 1] := by
  cases h with
  | done => exact absurd ho (Int.lt_irrefl _)
  | step hb0 cf2 =>
    refine ⟨_, _, rfl, rfl, cf2, ho, Int.emod_nonneg _ (by omega), Int.emod_lt_of_pos _ ho, rfl, by decide, ?_, ?_, ?_, ?_, ?_⟩
    · show one = one / other * other + 1 * (one % other)
      rw [Int.mul_comm, Int.one_mul]; exact (Int.mul_ediv_add_emod one other).symm
    · show other = 1 * other + 0 * (one % other)
      omega
    · intro j h1 h2
      have h3 : j = 1 := by simp at h2; omega
      subst h3
      right
      show one / other * 0 - 1 * 1 = -1
      omega
    · intro j
      match j with
      | 0 => exact Int.le_refl _
      | 1 => exact (by decide : (0 : Int) ≤ 1)
      | n + 2 => exact Int.le_refl _
    · intro j h1 h2
      have h3 : j = 1 := by simp at h2; omega
      subst h3
      exact (by decide : (0 : Int) ≤ 1)
/-- at the end -/
structure TE (one other g : Int) (tp lw : List Int) : Prop where
  ln : tp.length = lw.length
  l2 : 2 ≤ lw.length
  le : lw.length ≤ 202
  e1 : tp.getD (lw.length - 1) 0 * g = one
  e2 : lw.getD (lw.length - 1) 0 * g = other
  cr : one * lw.getD (lw.length - 2) 0 - other * tp.getD (lw.length - 2) 0 = g ∨ one * lw.getD (lw.length - 2) 0 - other * tp.getD (lw.length - 2) 0 = -g
  det : ∀ j, 1 ≤ j → j < lw.length → tp.getD j 0 * lw.getD (j - 1) 0 - tp.getD (j - 1) 0 * lw.getD j 0 = 1 ∨ tp.getD j 0 * lw.getD (j - 1) 0 - tp.getD (j - 1) 0 * lw.getD j 0 = -1
  nn : ∀ j, 0 ≤ lw.getD j 0
  mono : ∀ i j, i ≤ j → j < lw.length → lw.getD i 0 ≤ lw.getD j 0
  top : ∀ j, j < lw.length → lw.getD j 0 ≤ other
  hg : 0 < g ∧ g ≤ other
theorem TL.fin {one other g a b : Int} {tp lw : List Int} (h : TL one other g a b [] tp lw) (hl : lw.length ≤ 202) : TE one other g tp lw := by
  obtain ⟨cf, ha, hb, hba, ln, l2, e1, e2, det, nn, mono⟩ := h
  have hz : b = 0 ∧ a = g := by cases cf with | done => exact ⟨rfl, rfl⟩
  obtain ⟨rfl, rfl⟩ := hz
  rw [Int.mul_zero, Int.add_zero] at e1 e2
  have mono2 : ∀ i j, i ≤ j → j < lw.length → lw.getD i 0 ≤ lw.getD j 0 := by
    intro i j hij
    induction j with
    | zero => intro _; rw [show i = 0 by omega]; exact Int.le_refl _
    | succ j ih =>
      intro hj
      by_cases h1 : i = j + 1
      · rw [h1]; exact Int.le_refl _
      · exact Int.le_trans (ih (by omega) (by omega)) (mono (j + 1) (by omega) hj)
  have p1 := nn (lw.length - 1)
  have p4 := mono2 1 (lw.length - 1) (by omega) (by omega)
  have last : lw.getD (lw.length - 1) 0 ≤ other := by
    have := Int.mul_le_mul_of_nonneg_left (show (1 : Int) ≤ a by omega) p1
    omega
  have pos : 0 < lw.getD (lw.length - 1) 0 := by
    rcases Int.lt_or_eq_of_le p1 with h | h
    · exact h
    · have d := det (lw.length - 1) (by omega) (by omega)
      have m2 := mono2 (lw.length - 2) (lw.length - 1) (by omega) (by omega)
      have m3 := nn (lw.length - 2)
      rw [show lw.length - 1 - 1 = lw.length - 2 by omega, ← h, show lw.getD (lw.length - 2) 0 = 0 by omega] at d
      omega
  refine ⟨ln, l2, hl, e1.symm, e2.symm, ?_, det, nn, mono2, fun j hj => Int.le_trans (mono2 j _ (by omega) (by omega)) last, ha, ?_⟩
  · have d := det (lw.length - 1) (by omega) (by omega)
    rw [show lw.length - 1 - 1 = lw.length - 2 by omega] at d
    generalize tp.getD (lw.length - 1) 0 = x at *
    generalize tp.getD (lw.length - 2) 0 = y at *
    generalize lw.getD (lw.length - 1) 0 = u at *
    generalize lw.getD (lw.length - 2) 0 = v at *
    subst e1 e2
    have e : x * a * v - u * a * y = (x * v - y * u) * a := by
      rw [Int.sub_mul, Int.mul_assoc, Int.mul_comm a v, ← Int.mul_assoc, Int.mul_assoc u, Int.mul_comm a y, ← Int.mul_assoc u, Int.mul_comm u y]
    rw [e]
    rcases d with d | d <;> rw [d] <;> omega
  · have := Int.mul_le_mul_of_nonneg_right (show (1 : Int) ≤ lw.getD (lw.length - 1) 0 by omega) (show 0 ≤ a by omega)
    omega
/-- the walk stops here -/
def Halt (p : Prop) : Prop := p
theorem halt {p : Prop} (h : Halt p) : p := h
--MACROS
local macro_rules | `(tactic| walk_at "exec For Name Subscript cons nil") => `(tactic| (k_here; (rename Fr _ _ _ _ => lF'); (with_unfolding_all refine' For_invVF lF' ?k1 ?k2 ?_; (case k1 => exact rfl); (case k2 => exact rfl); k_whole)))
--END
section
variable (w : World)
set_option maxHeartbeats 8000000 in
theorem seg5 {J9 : Addr} {it9 : Obj} {sl : Addr} {one other : Int} {t1 t2 : Tok} {M : Str → Option Value} {c c2 c3 : Addr} {ps ps2 ps3 : Array Value} {oc oc2 oc3 o1 o2 : Obj} {fl : Addr} {vs : List Value} {nv : Nat} {row : List Int} {g : Int} {tg : Tok}
    {loose : List Str} {mean : ExcName → Option Value} {mg mb : Str → Option Value} {dp un : Nat} {gd : Option (List Code)} {L fa : Addr} {outer : List Env} {A₀ : Around} {base h₀ : Heap} {s : Shared} {Q : Flow → Shared → Prop} {E : Value → Shared → Prop}
    (tb : Tabs3 L J9 c c2 c3 ps ps2 ps3 oc oc2 oc3) (cx : LawCtx w h₀ L fa outer A₀ base loose mean mg mb dp un gd E) (hone0 : -5000 ≤ one) (hone1 : one ≤ 5000) (hoth0 : 1 ≤ other) (hoth1 : other ≤ 200) (ho1 : o1.data = .cell (some (.int one t1))) (ho2 : o2.data = .cell (some (.int other t2)))
    (hcf : CF one other row g) (hI : IntsAre vs row) (hrl : row.length ≤ 201) (hfl : (NeN fl c ∧ NeN fl c2 ∧ NeN fl c3 ∧ NeN fl 30 ∧ NeN fl 37 ∧ NeN fl 83 ∧ NeN fl (L + 1) ∧ NeN fl (L + 1 + 1)))
    (F : Fr h₀ L s.heap (fun y => if y = Str.ofString "row" then some (.ref fl) else if y = Str.ofString "shared" then some (.int g tg) else if y = Str.ofString "script" then some (.ref sl) else M y)) (N : News h₀ L s.heap ((fl, listOf vs.toArray nv) :: lawLed L c c2 c3 ps ps2 ps3 oc oc2 oc3 o1 o2 J9 it9))
    (hnext : ∀ (pl ql : Addr) (pvs qvs : List Value) (np nq : Nat) (tp lw : List Int) (c' c2' c3' : Addr) (ps' ps2' ps3' : Array Value) (oc' oc2' oc3' : Obj) (M' : Str → Option Value) h' tk', Tabs3 L J9 c' c2' c3' ps' ps2' ps3' oc' oc2' oc3' → IntsAre pvs tp → IntsAre qvs lw → TE one other g tp lw → (NeN pl c' ∧ NeN pl c2' ∧ NeN pl c3' ∧ NeN pl 30 ∧ NeN pl 37 ∧ NeN pl 83 ∧ NeN pl (L + 1) ∧ NeN pl (L + 1 + 1)) → (NeN ql c' ∧ NeN ql c2' ∧ NeN ql c3' ∧ NeN ql 30 ∧ NeN ql 37 ∧ NeN ql 83 ∧ NeN ql (L + 1) ∧ NeN ql (L + 1 + 1)) → NeN pl ql → Fr h₀ L h' (fun y => if y = Str.ofString "top" then some (.ref pl) else if y = Str.ofString "low" then some (.ref ql) else if y = Str.ofString "shared" then some (.int g tg) else if y = Str.ofString "script" then some (.ref sl) else M' y) → News h₀ L h' ((pl, listOf pvs.toArray np) :: (ql, listOf qvs.toArray nq) :: lawLed L c' c2' c3' ps' ps2' ps3' oc' oc2' oc3' o1 o2 J9 it9) →
      wpAny (model PySem.Challenge.rw_zr0006_01.row.prog w) (lawA dp un gd L fa outer) (execs (lawRest 11) (lawEnv L fa)) Q E { s with heap := h', toks := tk' }) :
    wpAny (model PySem.Challenge.rw_zr0006_01.row.prog w) (lawA dp un gd L fa outer) (execs (lawRest 9) (lawEnv L fa)) Q E s := by
  obtain ⟨B, X, T, C, C2, C3, hdp, hun, hE⟩ := cx
  obtain ⟨hT, hT2, hT3, ⟨ne1, ne2, ne3, ne4, ne5, ne6, ne7, ne8, ne9⟩, ⟨nL1, nL2, nL3⟩, ⟨nl1, nl2, nl3, nl4, nl5, nl6⟩, ⟨ni1, ni2, ni3, ni4, ni5, ni6, ni7, ni8⟩⟩ := tb
  revert X; k_fill; intro X
  refine' (fun (hb : lawRest 9 = _) => ?_) ?hb0
  case hb0 => conv => lhs; whnf
  refine' (fun (hb11 : lawRest 11 = _) => ?_) ?hb11
  case hb11 => conv => lhs; whnf
  refine' (fun (hs : stScope lawStmt = _) => ?_) ?hs0
  case hs0 => conv => lhs; whnf
  dsimp only [lawA, lawEnv, lawSc] at hE hnext ⊢
  rw [hs] at hE hnext ⊢
  rw [hb]
  rw [hb11] at hnext
  have hstop := seg_stop w (lawRest 11)
  rw [hb11] at hstop
  clear hb11
  clear hb hs
  k_with_none
  k_with "seg" => (with_reducible refine hstop _ _ _ _ _ ?_)
  obtain ⟨q0, row, rfl, hq0, hTL⟩ := TL.start hcf (by omega)
  have hvl := hI.length
  have hq1 : q0 ≤ 5000 := by
    rw [hq0]
    have := (Int.ediv_lt_iff_lt_mul (a := one) (b := 5001) (c := other) (by omega)).mpr (by omega)
    omega
  obtain ⟨q1, q2, q3, q4, q5, q6, q7, q8⟩ := hfl
  k_with "loop" => (refine halt ?_)
  k_steps
  unfold Halt
  rename_i tt pl hA lA ql hB lB DA hC lC hD hE2 hpl W ws hG FW NW hIW hCW hLW lW
  have hIW : IntsAre ws row := hIW
  clear hCW hLW
  refine loop_list (l := W) (vs := ws) (ns := row) (nv := 0) (news := [(ql, listOf #[Value.int 0 (s.toks + 1 + 1), Value.int 1 (s.toks + 1 + 1 + 1)] 0), (pl, listOf #[Value.int 1 s.toks, Value.int ((q0 :: row).getD (Int.toNat 0) 0) tt] 0), (30, tabObj ps), (c, oc), (37, tabObj ps2), (c2, oc2), (83, tabObj ps3), (c3, oc3), (L + 1 + 1, o2), (L + 1, o1), (J9, it9)])
    (fun M0 i m₁ n₁ => ∃ (a b : Int) (tp lw : List Int) (pvs qvs : List Value) (np nq : Nat) (nd : Option Value),
      m₁ = (fun y => if y = Str.ofString "number" then nd else M0 y) ∧
      n₁ = [(ql, listOf qvs.toArray nq), (pl, listOf pvs.toArray np), (30, tabObj ps), (c, oc), (37, tabObj ps2), (c2, oc2), (83, tabObj ps3), (c3, oc3), (L + 1 + 1, o2), (L + 1, o1), (J9, it9)] ∧
      IntsAre pvs tp ∧ IntsAre qvs lw ∧ lw.length = i + 2 ∧ a ≤ 200 ∧ TL one other g a b (row.drop i) tp lw)
    rfl hIW FW ?hN ?hJ0 ?turn ?done
  case hN =>
    refine news_sub NW ?_
    walk_at "Sub"
  case hJ0 => exact ⟨_, _, _, _, _, _, _, _, _, over1 (fun _ _ => rfl), rfl, .cons _ _ (.cons _ _ .nil), .cons _ _ (.cons _ _ .nil), rfl, hoth1, hTL⟩
  case turn =>
    rintro I i y t m₁ n₁ h9 tk9 it hy ⟨a, b, tp, lw, pvs, qvs, np, nq, nd, rfl, rfl, hIp, hIq, hlw, ha2, hT9⟩ hWI ho F9 N9
    have hi9 : i < row.length := (List.getElem?_eq_some_iff.mp hy).1
    have hrow : row.drop i = y :: row.drop (i + 1) := by
      rw [← (List.getElem?_eq_some_iff.mp hy).2]; exact List.drop_eq_getElem_cons hi9
    rw [hrow] at hT9
    obtain ⟨hb9, hy1, hy2, hT10⟩ := hT9.step
    have hba := hT9.hba
    have hlp := hT9.ln
    have hvp := hIp.length
    have hvq := hIq.length
    clear hT9 hTL hcf hrow
    simp only [List.forall_mem_cons] at ho
    obtain ⟨v1, v2, v3, v4, v5, v6, v7, v8, v9, v10, v11, _⟩ := ho
    simp only [List.cons_append, List.nil_append, List.length_cons] at N9 hrl
    k_steps
    rename Fr _ _ _ _ => FE
    rename News _ _ _ _ => NE
    rw [show (-1 + (lw.length : Int)).toNat = lw.length - 1 by omega, show (-2 + (lw.length : Int)).toNat = lw.length - 2 by omega, show (-1 + (tp.length : Int)).toNat = lw.length - 1 by omega, show (-2 + (tp.length : Int)).toNat = lw.length - 2 by omega] at NE
    exact TurnAt.of (news' := [(ql, listOf (qvs ++ [Value.int (y * lw.getD (lw.length - 1) 0 + lw.getD (lw.length - 2) 0) _]).toArray (nq + 1)), (pl, listOf (pvs ++ [Value.int (y * tp.getD (lw.length - 1) 0 + tp.getD (lw.length - 2) 0) _]).toArray (np + 1)), (30, tabObj ps), (c, oc), (37, tabObj ps2), (c2, oc2), (83, tabObj ps3), (c3, oc3), (L + 1 + 1, o2), (L + 1, o1), (J9, it9)]) FE NE (by walk_at "Fa")
      ⟨_, _, _, _, _, _, _, _, _, over1 (fun z h1 => by simp only [if_neg h1]), rfl, ints_snoc hIp, ints_snoc hIq, (by rw [List.length_append, List.length_singleton]; omega), (by omega), hT10⟩
  case done =>
    rintro m₁ n₁ h9 tk9 ⟨a, b, tp, lw, pvs, qvs, np, nq, nd, rfl, rfl, hIp, hIq, hlw, ha2, hT9⟩ F9 N9
    rw [List.drop_length] at hT9
    simp only [List.length_cons] at hrl
    have hTE := hT9.fin (by omega)
    clear hT9 hTL hcf
    try dsimp only
    k_steps
    unfold SegGoal
    exact hnext pl ql pvs qvs np nq tp lw c c2 c3 ps ps2 ps3 oc oc2 oc3 _ _ _ ⟨hT, hT2, hT3, by walk_at "Ne", ⟨nL1, nL2, nL3⟩, by walk_at "Ne", by walk_at "NeI"⟩ hIp hIq hTE (by walk_at "Ne") (by walk_at "Ne") (by omega) (frO rfl (frO rfl (frO rfl (frO rfl F9)))) (news_sub N9 (by walk_at "Sub"))
end
theorem hid {p : Prop} (h : p) : Halt p := h
section
variable (w : World)
set_option maxHeartbeats 8000000 in
theorem seg6 {J9 : Addr} {it9 : Obj} {sl : Addr} {one other : Int} {t1 t2 : Tok} {M : Str → Option Value} {c c2 c3 : Addr} {ps ps2 ps3 : Array Value} {oc oc2 oc3 o1 o2 : Obj} {pl ql : Addr} {pvs qvs : List Value} {np nq : Nat} {tp lw : List Int} {g : Int} {tg : Tok}
    {loose : List Str} {mean : ExcName → Option Value} {mg mb : Str → Option Value} {dp un : Nat} {gd : Option (List Code)} {L fa : Addr} {outer : List Env} {A₀ : Around} {base h₀ : Heap} {s : Shared} {Q : Flow → Shared → Prop} {E : Value → Shared → Prop}
    (tb : Tabs3 L J9 c c2 c3 ps ps2 ps3 oc oc2 oc3) (cx : LawCtx w h₀ L fa outer A₀ base loose mean mg mb dp un gd E) (hone0 : -5000 ≤ one) (hone1 : one ≤ 5000) (hoth0 : 1 ≤ other) (hoth1 : other ≤ 200) (ho1 : o1.data = .cell (some (.int one t1))) (ho2 : o2.data = .cell (some (.int other t2)))
    (hIp : IntsAre pvs tp) (hIq : IntsAre qvs lw) (hTE : TE one other g tp lw) (hpl : (NeN pl c ∧ NeN pl c2 ∧ NeN pl c3 ∧ NeN pl 30 ∧ NeN pl 37 ∧ NeN pl 83 ∧ NeN pl (L + 1) ∧ NeN pl (L + 1 + 1))) (hql : (NeN ql c ∧ NeN ql c2 ∧ NeN ql c3 ∧ NeN ql 30 ∧ NeN ql 37 ∧ NeN ql 83 ∧ NeN ql (L + 1) ∧ NeN ql (L + 1 + 1))) (hpq : NeN pl ql)
    (F : Fr h₀ L s.heap (fun y => if y = Str.ofString "top" then some (.ref pl) else if y = Str.ofString "low" then some (.ref ql) else if y = Str.ofString "shared" then some (.int g tg) else if y = Str.ofString "script" then some (.ref sl) else M y)) (N : News h₀ L s.heap ((pl, listOf pvs.toArray np) :: (ql, listOf qvs.toArray nq) :: lawLed L c c2 c3 ps ps2 ps3 oc oc2 oc3 o1 o2 J9 it9))
    (hnext : ∀  (c' c2' c3' : Addr) (ps' ps2' ps3' : Array Value) (oc' oc2' oc3' : Obj) (M' : Str → Option Value) h' tk', Tabs3 L J9 c' c2' c3' ps' ps2' ps3' oc' oc2' oc3' → (NeN ql c' ∧ NeN ql c2' ∧ NeN ql c3' ∧ NeN ql 30 ∧ NeN ql 37 ∧ NeN ql 83 ∧ NeN ql (L + 1) ∧ NeN ql (L + 1 + 1)) → Fr h₀ L h' (fun y => if y = Str.ofString "low" then some (.ref ql) else if y = Str.ofString "script" then some (.ref sl) else M' y) → News h₀ L h' ((ql, listOf qvs.toArray nq) :: lawLed L c' c2' c3' ps' ps2' ps3' oc' oc2' oc3' o1 o2 J9 it9) →
      wpAny (model PySem.Challenge.rw_zr0006_01.row.prog w) (lawA dp un gd L fa outer) (execs (lawRest 14) (lawEnv L fa)) Q E { s with heap := h', toks := tk' }) :
    wpAny (model PySem.Challenge.rw_zr0006_01.row.prog w) (lawA dp un gd L fa outer) (execs (lawRest 11) (lawEnv L fa)) Q E s := by
  obtain ⟨B, X, T, C, C2, C3, hdp, hun, hE⟩ := cx
  obtain ⟨hT, hT2, hT3, ⟨ne1, ne2, ne3, ne4, ne5, ne6, ne7, ne8, ne9⟩, ⟨nL1, nL2, nL3⟩, ⟨nl1, nl2, nl3, nl4, nl5, nl6⟩, ⟨ni1, ni2, ni3, ni4, ni5, ni6, ni7, ni8⟩⟩ := tb
  revert X; k_fill; intro X
  refine' (fun (hb : lawRest 11 = _) => ?_) ?hb0
  case hb0 => conv => lhs; whnf
  refine' (fun (hb14 : lawRest 14 = _) => ?_) ?hb14
  case hb14 => conv => lhs; whnf
  refine' (fun (hs : stScope lawStmt = _) => ?_) ?hs0
  case hs0 => conv => lhs; whnf
  dsimp only [lawA, lawEnv, lawSc] at hE hnext ⊢
  rw [hs] at hE hnext ⊢
  rw [hb]
  rw [hb14] at hnext
  have hstop := seg_stop w (lawRest 14)
  rw [hb14] at hstop
  clear hb14
  clear hb hs
  k_with_none
  k_with "seg" => (with_reducible refine hstop _ _ _ _ _ ?_)
  obtain ⟨hln, hl2, hle, he1, he2, hcr, hdet, hnn, hmono, htop, hg0, hg1⟩ := hTE
  have hNE := hid (show (NeN c 37 ∧ NeN c 83 ∧ NeN c2 30 ∧ NeN c2 83 ∧ NeN c3 30 ∧ NeN c3 37 ∧ NeN c c2 ∧ NeN c c3 ∧ NeN c2 c3) ∧ (NeN c (L + 1) ∧ NeN c (L + 1 + 1) ∧ NeN c2 (L + 1) ∧ NeN c2 (L + 1 + 1) ∧ NeN c3 (L + 1) ∧ NeN c3 (L + 1 + 1)) ∧ (NeN pl c ∧ NeN pl c2 ∧ NeN pl c3 ∧ NeN pl 30 ∧ NeN pl 37 ∧ NeN pl 83 ∧ NeN pl (L + 1) ∧ NeN pl (L + 1 + 1)) ∧ (NeN ql c ∧ NeN ql c2 ∧ NeN ql c3 ∧ NeN ql 30 ∧ NeN ql 37 ∧ NeN ql 83 ∧ NeN ql (L + 1) ∧ NeN ql (L + 1 + 1)) ∧ NeN pl ql from ⟨⟨ne1, ne2, ne3, ne4, ne5, ne6, ne7, ne8, ne9⟩, ⟨nl1, nl2, nl3, nl4, nl5, nl6⟩, hpl, hql, hpq⟩)
  clear ne1 ne2 ne3 ne4 ne5 ne6 ne7 ne8 ne9 nl1 nl2 nl3 nl4 nl5 nl6 hpl hql hpq
  have hvp := hIp.length
  have hvq := hIq.length
  have y1 : (-1 + (tp.length : Int)).toNat = lw.length - 1 := by omega
  have y2 : (-1 + (lw.length : Int)).toNat = lw.length - 1 := by omega
  have y3 : (-2 + (tp.length : Int)).toNat = lw.length - 2 := by omega
  have y4 : (-2 + (lw.length : Int)).toNat = lw.length - 2 := by omega
  have hlast2 := hnn (lw.length - 2)
  have hlast3 := htop (lw.length - 2) (by omega)
  rw [← y4] at hlast2 hlast3
  replace hcr : one * lw.getD (-2 + (lw.length : Int)).toNat 0 - other * tp.getD (-2 + (tp.length : Int)).toNat 0 = g ∨ one * lw.getD (-2 + (lw.length : Int)).toNat 0 - other * tp.getD (-2 + (tp.length : Int)).toNat 0 = -g := by rw [y3, y4]; exact hcr
  rw [← y1] at he1
  rw [← y2] at he2
  clear y1 y2 y3 y4
  k_with "loop" => (refine halt ?_)
  k_steps
  unfold Halt
  rename_i r hA tkA ta tb tc FW NW lW
  have hsz : Builtin.Range.rangeSize 1 (tp.length : Int) 1 = ((tp.length - 1 : Nat) : Int) := by
    unfold Builtin.Range.rangeSize
    rw [if_pos (by decide), if_pos (by omega)]; omega
  have hsm : Builtin.Range.small 1 (tp.length : Int) 1 = true := by
    unfold Builtin.Range.small Builtin.Range.rangeFitsLong
    rw [hsz]
    simp
    omega
  refine loop_range (n := tp.length - 1) (news := [(pl, listOf pvs.toArray np), (ql, listOf qvs.toArray nq), (30, tabObj ps), (c, oc), (37, tabObj ps2), (c2, oc2), (83, tabObj ps3), (c3, oc3), (L + 1 + 1, o2), (L + 1, o1), (J9, it9)])
    (fun M0 i m₁ n₁ => ∃ (nd : Option Value), m₁ = (fun y => if y = Str.ofString "j" then nd else M0 y) ∧
      n₁ = [(pl, listOf pvs.toArray np), (ql, listOf qvs.toArray nq), (30, tabObj ps), (c, oc), (37, tabObj ps2), (c2, oc2), (83, tabObj ps3), (c3, oc3), (L + 1 + 1, o2), (L + 1, o1), (J9, it9)])
    rfl (NW _ (.head _)).1 hsm hsz FW ?hN ?hJ0 ?turn ?done
  case hN =>
    refine news_sub NW ?_
    walk_at "Sub"
  case hJ0 => exact ⟨_, over1 (fun _ _ => rfl), rfl⟩
  case turn =>
    rintro I i t m₁ n₁ h9 tk9 it hi9 ⟨nd, rfl, rfl⟩ ho F9 N9
    have hd := hdet (i + 1) (by omega) (by omega)
    have x1 := hnn (i + 1)
    have x2 := htop (i + 1) (by omega)
    have x3 := hnn i
    have x4 := htop i (by omega)
    rw [Nat.add_sub_cancel] at hd
    have z1 : (1 + (i : Int) * 1).toNat = i + 1 := by omega
    have z2 : (1 + (i : Int) * 1 - 1).toNat = i := by omega
    replace hd : tp.getD (1 + (i : Int) * 1).toNat 0 * lw.getD (1 + (i : Int) * 1 - 1).toNat 0 - tp.getD (1 + (i : Int) * 1 - 1).toNat 0 * lw.getD (1 + (i : Int) * 1).toNat 0 = 1 ∨ tp.getD (1 + (i : Int) * 1).toNat 0 * lw.getD (1 + (i : Int) * 1 - 1).toNat 0 - tp.getD (1 + (i : Int) * 1 - 1).toNat 0 * lw.getD (1 + (i : Int) * 1).toNat 0 = -1 := by rw [z1, z2]; exact hd
    rw [← z2] at x3 x4
    rw [← z1] at x1 x2
    clear z1 z2
    clear hdet hnn hmono htop he1 he2 hcr
    have ho := hid ho
    simp only [List.cons_append, List.nil_append] at N9
    k_steps
    · rename_i hx
      exfalso; revert hx; split <;> intro hx <;> omega
    · rename Fr _ _ _ _ => FE
      rename News _ _ _ _ => NE
      exact TurnAt.of (news' := [(pl, listOf pvs.toArray np), (ql, listOf qvs.toArray nq), (30, tabObj ps), (c, oc), (37, tabObj ps2), (c2, oc2), (83, tabObj ps3), (c3, oc3), (L + 1 + 1, o2), (L + 1, o1), (J9, it9)]) FE (news_sub NE (by walk_at "Sub")) ho
        ⟨_, over1 (fun z h1 => by simp only [if_neg h1]), rfl⟩
  case done =>
    rintro m₁ n₁ h9 tk9 ⟨nd, rfl, rfl⟩ F9 N9
    try dsimp only
    k_steps
    · rename_i hx
      exfalso; revert hx; split <;> intro hx <;> omega
    · obtain ⟨⟨ne1, ne2, ne3, ne4, ne5, ne6, ne7, ne8, ne9⟩, ⟨nl1, nl2, nl3, nl4, nl5, nl6⟩, ⟨p1, p2, p3, p4, p5, p6, p7, p8⟩, ⟨q1, q2, q3, q4, q5, q6, q7, q8⟩, hpq⟩ := (show _ ∧ _ from hNE)
      unfold SegGoal
      rename Fr _ _ _ _ => FE
      rename News _ _ _ _ => NE
      exact hnext c c2 c3 ps ps2 ps3 oc oc2 oc3 _ _ _ ⟨hT, hT2, hT3, by walk_at "Ne", ⟨nL1, nL2, nL3⟩, by walk_at "Ne", by walk_at "NeI"⟩ (by walk_at "Ne") (frO rfl (frO rfl FE)) (news_sub NE (by walk_at "Sub"))
    · rename_i hx
      exfalso
      rw [he1, he2] at hx
      simp at hx
end
section
variable (w : World)
set_option maxHeartbeats 8000000 in
theorem seg7 {J9 : Addr} {it9 : Obj} {sl : Addr} {one other : Int} {t1 t2 : Tok} {M : Str → Option Value} {c c2 c3 : Addr} {ps ps2 ps3 : Array Value} {oc oc2 oc3 o1 o2 : Obj} {ql : Addr} {qvs : List Value} {nq : Nat} {tp lw : List Int} {g : Int}
    {loose : List Str} {mean : ExcName → Option Value} {mg mb : Str → Option Value} {dp un : Nat} {gd : Option (List Code)} {L fa : Addr} {outer : List Env} {A₀ : Around} {base h₀ : Heap} {s : Shared} {Q : Flow → Shared → Prop} {E : Value → Shared → Prop}
    (tb : Tabs3 L J9 c c2 c3 ps ps2 ps3 oc oc2 oc3) (cx : LawCtx w h₀ L fa outer A₀ base loose mean mg mb dp un gd E) (hone0 : -5000 ≤ one) (hone1 : one ≤ 5000) (hoth0 : 1 ≤ other) (hoth1 : other ≤ 200) (ho1 : o1.data = .cell (some (.int one t1))) (ho2 : o2.data = .cell (some (.int other t2)))
    (hIq : IntsAre qvs lw) (hTE : TE one other g tp lw) (hql : (NeN ql c ∧ NeN ql c2 ∧ NeN ql c3 ∧ NeN ql 30 ∧ NeN ql 37 ∧ NeN ql 83 ∧ NeN ql (L + 1) ∧ NeN ql (L + 1 + 1)))
    (F : Fr h₀ L s.heap (fun y => if y = Str.ofString "low" then some (.ref ql) else if y = Str.ofString "script" then some (.ref sl) else M y)) (N : News h₀ L s.heap ((ql, listOf qvs.toArray nq) :: lawLed L c c2 c3 ps ps2 ps3 oc oc2 oc3 o1 o2 J9 it9))
    (hnext : ∀  (c' c2' c3' : Addr) (ps' ps2' ps3' : Array Value) (oc' oc2' oc3' : Obj) (M' : Str → Option Value) h' tk', Tabs3 L J9 c' c2' c3' ps' ps2' ps3' oc' oc2' oc3' → Fr h₀ L h' (fun y => if y = Str.ofString "script" then some (.ref sl) else M' y) → News h₀ L h' (lawLed L c' c2' c3' ps' ps2' ps3' oc' oc2' oc3' o1 o2 J9 it9) → Q .next { s with heap := h', toks := tk' }) :
    wpAny (model PySem.Challenge.rw_zr0006_01.row.prog w) (lawA dp un gd L fa outer) (execs (lawRest 14) (lawEnv L fa)) Q E s := by
  obtain ⟨B, X, T, C, C2, C3, hdp, hun, hE⟩ := cx
  obtain ⟨hT, hT2, hT3, ⟨ne1, ne2, ne3, ne4, ne5, ne6, ne7, ne8, ne9⟩, ⟨nL1, nL2, nL3⟩, ⟨nl1, nl2, nl3, nl4, nl5, nl6⟩, ⟨ni1, ni2, ni3, ni4, ni5, ni6, ni7, ni8⟩⟩ := tb
  revert X; k_fill; intro X
  refine' (fun (hb : lawRest 14 = _) => ?_) ?hb0
  case hb0 => conv => lhs; whnf
  refine' (fun (hs : stScope lawStmt = _) => ?_) ?hs0
  case hs0 => conv => lhs; whnf
  dsimp only [lawA, lawEnv, lawSc] at hE ⊢
  rw [hs] at hE ⊢
  rw [hb]
  clear hb hs
  k_with_none
  obtain ⟨q1, q2, q3, q4, q5, q6, q7, q8⟩ := hql
  have hle := hTE.le
  have hl2 := hTE.l2
  have hmono := hTE.mono
  clear hTE
  match lw, hIq with
  | [], _ => simp at hl2
  | l0 :: lr, hIq =>
  have hvq := hIq.length
  simp only [List.length_cons] at hle hl2 hvq
  k_with "loop" => (refine halt ?_)
  k_steps
  unfold Halt
  rename_i ol hA lA hB W ws hG FW NW hIW hCW hLW lW
  have hIW : IntsAre ws lr := hIW
  clear hCW hLW
  refine loop_list (l := W) (vs := ws) (ns := lr) (nv := 0) (news := [(ol, listOf #[] 0), (ql, listOf qvs.toArray nq), (30, tabObj ps), (c, oc), (37, tabObj ps2), (c2, oc2), (83, tabObj ps3), (c3, oc3), (L + 1 + 1, o2), (L + 1, o1), (J9, it9)])
    (fun M0 i m₁ n₁ => ∃ (ovs : List Value) (no : Nat) (nd : Option Value),
      m₁ = (fun y => if y = Str.ofString "number" then nd else M0 y) ∧
      n₁ = [(ol, listOf ovs.toArray no), (ql, listOf qvs.toArray nq), (30, tabObj ps), (c, oc), (37, tabObj ps2), (c2, oc2), (83, tabObj ps3), (c3, oc3), (L + 1 + 1, o2), (L + 1, o1), (J9, it9)] ∧ IntsAre ovs (lr.take i))
    rfl hIW FW ?hN ?hJ0 ?turn ?done
  case hN =>
    refine news_sub NW ?_
    walk_at "Sub"
  case hJ0 => exact ⟨[], _, _, over1 (fun _ _ => rfl), rfl, .nil⟩
  case turn =>
    rintro I i y t m₁ n₁ h9 tk9 it hy ⟨ovs, no, nd, rfl, rfl, hIo⟩ hWI ho F9 N9
    have hi9 : i < lr.length := (List.getElem?_eq_some_iff.mp hy).1
    have hall : ∀ d ∈ lr.take i, d ≤ y := by
      intro d hd
      obtain ⟨k, hk, e⟩ := List.mem_iff_getElem.mp hd
      rw [List.length_take] at hk
      rw [List.getElem_take] at e
      have h5 := hmono (k + 1) (i + 1) (by omega) (by simp; omega)
      rw [List.getD_eq_getElem?_getD, List.getD_eq_getElem?_getD, List.getElem?_cons_succ, List.getElem?_cons_succ, hy, List.getElem?_eq_getElem (by omega), e] at h5
      exact h5
    have htl : (lr.take i).length < 1000 := by rw [List.length_take]; omega
    have hto : ovs.length ≤ 1000 := by have := hIo.length; omega
    have hsn : lr.take (i + 1) = lr.take i ++ [y] := by
      rw [List.take_add_one, hy]; rfl
    have ho2 := hid ho
    simp only [List.forall_mem_cons] at ho
    obtain ⟨v1, v2, v3, v4, v5, v6, v7, v8, v9, v10, v11, _⟩ := ho
    simp only [List.cons_append, List.nil_append] at N9
    k_with "mine" => (
      refine' insort_ok w (l := ol) (rest := [(I, it), (W, listOf ws.toArray 0), (ql, listOf qvs.toArray nq), (30, tabObj ps), (c, oc), (37, tabObj ps2), (c2, oc2), (83, tabObj ps3), (c3, oc3), (L + 1 + 1, o2), (L + 1, o1), (J9, it9)]) hIo htl hall ?k1 ?k2 ?k3 ?k4 ?kd ?k5 ?kc ?kK ?r1 ?r2 ?_
      case k1 => k_asm
      case k2 => k_asm
      case k3 => k_asm
      case k4 => exact news_sub (by k_asm) (by walk_at "Sub")
      case kd => walk_at "Fa"
      case k5 => k_asm
      case kc => kn_code
      case kK => first | exact rfl | assumption
      case r1 => ktr_room
      case r2 => ktr_units
      intro h8 tk8 F8 N8
      (try dsimp only)
      (try k_fold))
    k_steps
    rename Fr _ _ _ _ => FE
    rename News _ _ _ _ => NE
    exact TurnAt.of (news' := [(ol, listOf (ovs ++ [Value.int y _]).toArray (no + 1)), (ql, listOf qvs.toArray nq), (30, tabObj ps), (c, oc), (37, tabObj ps2), (c2, oc2), (83, tabObj ps3), (c3, oc3), (L + 1 + 1, o2), (L + 1, o1), (J9, it9)]) FE (news_sub NE (by walk_at "Sub")) (by walk_at "Fa")
      ⟨_, _, _, over1 (fun z h1 => by simp only [if_neg h1]), rfl, hsn ▸ ints_snoc hIo⟩
  case done =>
    rintro m₁ n₁ h9 tk9 ⟨ovs, no, nd, rfl, rfl, hIo⟩ F9 N9
    rw [List.take_length] at hIo
    try dsimp only
    k_steps
    · rename Fr _ _ _ _ => FE
      rename News _ _ _ _ => NE
      exact hnext c c2 c3 ps ps2 ps3 oc oc2 oc3 _ _ _ ⟨hT, hT2, hT3, by walk_at "Ne", ⟨nL1, nL2, nL3⟩, by walk_at "Ne", by walk_at "NeI"⟩ (frO rfl FE) (news_sub NE (by walk_at "Sub"))
    · rename_i hx
      exact absurd rfl hx
end
section
variable (w : World)
/-- one turn of the law's loop -/
theorem turn_ok {J9 : Addr} {it9 : Obj} {sl : Addr} {svs : List Value} {sns : List Int} {k : Int} {tk : Tok} {M : Str → Option Value} {c c2 c3 : Addr} {ps ps2 ps3 : Array Value} {oc oc2 oc3 o1 o2 : Obj} {v1 v2 : Option Value}
    {loose : List Str} {mean : ExcName → Option Value} {mg mb : Str → Option Value} {dp un : Nat} {gd : Option (List Code)} {L fa : Addr} {outer : List Env} {A₀ : Around} {base h₀ : Heap} {s : Shared} {Q : Flow → Shared → Prop} {E : Value → Shared → Prop}
    (tb : Tabs3 L J9 c c2 c3 ps ps2 ps3 oc oc2 oc3) (cx : LawCtx w h₀ L fa outer A₀ base loose mean mg mb dp un gd E)
    (hS : h₀.IsList sl svs.toArray) (hSI : IntsAre svs sns) (hk0 : 0 ≤ k) (hk1 : k + 1 < sns.length) (hsn : sns.length ≤ 63) (ho1 : o1.data = .cell v1) (ho2 : o2.data = .cell v2)
    (F : Fr h₀ L s.heap (fun y => if y = Str.ofString "k" then some (.int k tk) else if y = Str.ofString "script" then some (.ref sl) else M y)) (N : News h₀ L s.heap (lawLed L c c2 c3 ps ps2 ps3 oc oc2 oc3 o1 o2 J9 it9))
    (hnext : ∀ (c' c2' c3' : Addr) (ps' ps2' ps3' : Array Value) (oc' oc2' oc3' o1' o2' : Obj) (v1' v2' : Option Value) (M' : Str → Option Value) h' tk', Tabs3 L J9 c' c2' c3' ps' ps2' ps3' oc' oc2' oc3' → o1'.data = .cell v1' → o2'.data = .cell v2' → Fr h₀ L h' (fun y => if y = Str.ofString "script" then some (.ref sl) else M' y) → News h₀ L h' (lawLed L c' c2' c3' ps' ps2' ps3' oc' oc2' oc3' o1' o2' J9 it9) →
      Q .next { s with heap := h', toks := tk' }) :
    wpAny (model PySem.Challenge.rw_zr0006_01.row.prog w) (lawA dp un gd L fa outer) (execs (lawRest 0) (lawEnv L fa)) Q E s := by
  refine seg0 w tb cx hS hSI hk0 hk1 hsn ho1 ho2 F N ?_
  intro one other t1 t2 o1' o2' M1 h1 tk1 a1 a2 a3 a4 d1 d2 F1 N1
  refine seg1 w tb cx a1 a2 a3 a4 d1 d2 F1 N1 ?_
  intro c4 c5 c6 ps4 ps5 ps6 oc4 oc5 oc6 M2 h2 tk2 tb2 F2 N2
  refine seg2 w tb2 cx a1 a2 a3 a4 d1 d2 F2 N2 ?_
  intro c4 c5 c6 ps4 ps5 ps6 oc4 oc5 oc6 M2 h2 tk2 tb2 F2 N2
  refine seg3 w tb2 cx a1 a2 a3 a4 d1 d2 F2 N2 ?_
  intro fl vs nv row g tg c4 c5 c6 ps4 ps5 ps6 oc4 oc5 oc6 M2 h2 tk2 tb2 hcf hI hrl hfl F2 N2
  refine seg4 w tb2 cx a1 a2 a3 a4 d1 d2 hcf hI hrl hfl F2 N2 ?_
  intro c4 c5 c6 ps4 ps5 ps6 oc4 oc5 oc6 M2 h2 tk2 tb2 hfl F2 N2
  refine seg5 w tb2 cx a1 a2 a3 a4 d1 d2 hcf hI hrl hfl F2 N2 ?_
  intro pl ql pvs qvs np nq tp lw c4 c5 c6 ps4 ps5 ps6 oc4 oc5 oc6 M2 h2 tk2 tb2 hIp hIq hTE hpl hql hpq F2 N2
  refine seg6 w tb2 cx a1 a2 a3 a4 d1 d2 hIp hIq hTE hpl hql hpq F2 N2 ?_
  intro c4 c5 c6 ps4 ps5 ps6 oc4 oc5 oc6 M2 h2 tk2 tb2 hql F2 N2
  refine seg7 w tb2 cx a1 a2 a3 a4 d1 d2 hIq hTE hql F2 N2 ?_
  intro c4 c5 c6 ps4 ps5 ps6 oc4 oc5 oc6 M2 h2 tk2 tb2 F2 N2
  exact hnext c4 c5 c6 ps4 ps5 ps6 oc4 oc5 oc6 o1' o2' _ _ M2 h2 tk2 tb2 d1 d2 F2 N2
end
section
variable (w : World)
set_option maxHeartbeats 8000000 in
/-- the law's loop -/
theorem outer_ok {sl : Addr} {svs : List Value} {sns : List Int} {M : Str → Option Value} {r : Addr} {ta tb tc : Tok} {o1 o2 : Obj} {v1 v2 : Option Value} {b : Int}
    {loose : List Str} {mean : ExcName → Option Value} {mg mb : Str → Option Value} {dp un : Nat} {gd : Option (List Code)} {L fa : Addr} {outer : List Env} {A₀ : Around} {base h₀ : Heap} {s : Shared} {Q : Flow → Shared → Prop} {E : Value → Shared → Prop}
    (cx : LawCtx w h₀ L fa outer A₀ base loose mean mg mb dp un gd E) (hL : (37 : Nat) < L ∧ (30 : Nat) < L ∧ (83 : Nat) < L)
    (hS : h₀.IsList sl svs.toArray) (hSI : IntsAre svs sns) (hsn : sns.length ≤ 63) (hb0 : b < 12) (hb1 : b < sns.length) (hb2 : -1 ≤ b) (ho1 : o1.data = .cell v1) (ho2 : o2.data = .cell v2)
    (F : Fr h₀ L s.heap (fun y => if y = Str.ofString "script" then some (.ref sl) else M y))
    (N : News h₀ L s.heap [(r, rngO 0 b 2 ta tb tc), (L + 1 + 1, o2), (L + 1, o1), (37, tabObj #[]), (30, tabObj #[]), (83, tabObj #[])])
    (hQ : ∀ m' h' tk' ps ps2 ps3 news', Fr h₀ L h' m' → News h₀ L h' ((30, tabObj ps) :: (37, tabObj ps2) :: (83, tabObj ps3) :: news') → Q .next { s with heap := h', toks := tk' }) :
    wpAny (model PySem.Challenge.rw_zr0006_01.row.prog w) (lawA dp un gd L fa outer) (pyIter (.ref r)) (fun it s₂ => LoopAtV PySem.Challenge.rw_zr0006_01.row.prog w (lawA dp un gd L fa outer) h₀ (lawEnv L fa) (Str.ofString "k") (lawRest 0) Q E it s₂) E s := by
  obtain ⟨hL1, hL2, hL3⟩ := hL
  have hsz : Builtin.Range.rangeSize 0 b 2 = (((b + 1) / 2).toNat : Int) := by
    unfold Builtin.Range.rangeSize
    rw [if_pos (by decide)]
    by_cases hlt : 0 < b
    · rw [if_pos hlt]; omega
    · rw [if_neg hlt]; omega
  have hsm : Builtin.Range.small 0 b 2 = true := by
    unfold Builtin.Range.small Builtin.Range.rangeFitsLong
    rw [hsz]
    simp
    omega
  refine loop_range (n := ((b + 1) / 2).toNat) (news := [(L + 1 + 1, o2), (L + 1, o1), (30, tabObj #[]), (30, tabObj #[]), (37, tabObj #[]), (37, tabObj #[]), (83, tabObj #[]), (83, tabObj #[])])
    (fun M0 i m₁ n₁ => ∃ (c c2 c3 : Addr) (ps ps2 ps3 : Array Value) (oc oc2 oc3 o1 o2 : Obj) (v1 v2 : Option Value) (M' : Str → Option Value),
      m₁ = (fun y => if y = Str.ofString "script" then some (.ref sl) else M' y) ∧
      n₁ = [(L + 1 + 1, o2), (L + 1, o1), (30, tabObj ps), (c, oc), (37, tabObj ps2), (c2, oc2), (83, tabObj ps3), (c3, oc3)] ∧
      (TabS 30 32 4 q4 ps c oc ∧ TabS 37 47 4 q5 ps2 c2 oc2 ∧ TabS 83 115 58 q83 ps3 c3 oc3 ∧
      (NeN c 37 ∧ NeN c 83 ∧ NeN c2 30 ∧ NeN c2 83 ∧ NeN c3 30 ∧ NeN c3 37 ∧ NeN c c2 ∧ NeN c c3 ∧ NeN c2 c3) ∧
      (NeN c (L + 1) ∧ NeN c (L + 1 + 1) ∧ NeN c2 (L + 1) ∧ NeN c2 (L + 1 + 1) ∧ NeN c3 (L + 1) ∧ NeN c3 (L + 1 + 1))) ∧
      o1.data = .cell v1 ∧ o2.data = .cell v2)
    rfl (N _ (.head _)).1 hsm hsz F ?hN ?hJ0 ?turn ?done
  case hN =>
    refine news_sub N ?_
    walk_at "Sub"
  case hJ0 =>
    exact ⟨30, 37, 83, #[], #[], #[], _, _, _, o1, o2, v1, v2, M, rfl, rfl, ⟨.inl ⟨rfl, rfl, rfl⟩, .inl ⟨rfl, rfl, rfl⟩, .inl ⟨rfl, rfl, rfl⟩, by walk_at "Ne", by walk_at "Ne"⟩, ho1, ho2⟩
  case turn =>
    rintro I i t m₁ n₁ h9 tk9 it hi9 ⟨c, c2, c3, ps, ps2, ps3, oc, oc2, oc3, p1, p2, v1, v2, M', rfl, rfl, ⟨t1, t2, t3, n1, n2⟩, hd1, hd2⟩ ho F9 N9
    simp only [List.forall_mem_cons] at ho
    obtain ⟨u1, u2, u3, u4, u5, u6, u7, u8, _⟩ := ho
    simp only [List.nil_append] at N9
    refine turn_ok w (J9 := I) (it9 := it) (c := c) (c2 := c2) (c3 := c3) (k := 0 + (i : Int) * 2) ⟨t1, t2, t3, n1, ⟨hL2, hL1, hL3⟩, n2, ⟨u4, u6, u8, u3, u5, u7, u2, u1⟩⟩ cx hS hSI (by clear n1 n2 u1 u2 u3 u4 u5 u6 u7 u8; omega) (by clear n1 n2 u1 u2 u3 u4 u5 u6 u7 u8; omega) hsn hd1 hd2 F9 (news_sub N9 (by walk_at "Sub")) ?_
    intro c' c2' c3' ps' ps2' ps3' oc' oc2' oc3' o1' o2' v1' v2' M2 h' tk' tb' hd1' hd2' F' N'
    obtain ⟨t1', t2', t3', n1', _, n2', ⟨i1, i2, i3, i4, i5, i6, i7, i8⟩⟩ := tb'
    refine TurnAt.of (news' := [(L + 1 + 1, o2'), (L + 1, o1'), (30, tabObj ps'), (c', oc'), (37, tabObj ps2'), (c2', oc2'), (83, tabObj ps3'), (c3', oc3')]) F' (news_sub N' (by walk_at "Sub")) ?_ ⟨c', c2', c3', ps', ps2', ps3', oc', oc2', oc3', o1', o2', v1', v2', M2, rfl, rfl, ⟨t1', t2', t3', n1', n2'⟩, hd1', hd2'⟩
    simp only [List.forall_mem_cons]
    exact ⟨i8, i7, i4, i1, i5, i2, i6, i3, fun _ h => nomatch h⟩
  case done =>
    rintro m₁ n₁ h9 tk9 ⟨c, c2, c3, ps, ps2, ps3, oc, oc2, oc3, p1, p2, v1, v2, M', rfl, rfl, _, hd1, hd2⟩ F9 N9
    exact hQ _ _ _ ps ps2 ps3 [] F9 (news_sub N9 (by walk_at "Sub"))
end
set_option maxHeartbeats 8000000 in
theorem law_ok : PySem.Challenge.rw_zr0006_01.Holds := hd (by
  w_strict (
    k_go0
    (all_goals try k_fold)
    k_with_none
    k_with "loop" => (refine halt ?_)
    k_steps
    rename_i hI9 hr9 hcA hcB hD9 hA tkA o2 o1 hd2 hd1 hX0 X T K lF cdA cdB l0 hB tkB FA NA r hC tkC ta tb tc FW NW lW
    unfold Halt
    refine' outer_ok (dp := callerA.depth + 1) (un := callerA.units + 3) (gd := callerA.guards) _ ⟨K, X, T, cdB, cdA, codeHd, ?r1, ?r2, ?pe⟩ l0 lifted hI9 ?n1 ?n2 ?n3 ?n4 hd1 hd2 ?F ?N ?hQ
    case N => exact NW
    case F => exact frO rfl FW
    case r1 => decide
    case r2 => decide
    case pe => passes_own
    case n1 => omega
    case n2 => split <;> omega
    case n3 => split <;> omega
    case n4 => split <;> omega
    case hQ =>
      intro m' h' tk' ps ps2 ps3 news' F9 N9
      (try dsimp only)
      k_steps))
end Mine
theorem PySem.Challenge.cw_zr0006_01_holds : PySem.Challenge.rw_zr0006_01.Holds := by
  exact Mine.law_ok
