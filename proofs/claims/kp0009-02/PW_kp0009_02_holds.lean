import PyProof.Rows.All
import Wide.All
import OpenK.AllK
import Wide.FinOn
import PyProof.ForAny
import KE.KDictIter
import KE.KSlice
import KE.KSortAsk
import KE.KSortTup
import Flt.RightSqrt
import Flt.RightMore
import KE.LcSums
import KE.KOwnIter
import PyProof.StrReplace2
import PyProof.ZipIter
import KE.KItemsList
import KE.KPar
import PyProof.AutoIntOps
import Flt.Ops
import PyProof.Rows.WhileInv
import PySem.Challenge.RW_kp0009_02
set_option Elab.async false
set_option compiler.extract_closed false
section
open PySem PySem.W PyProof.Rows
set_option maxRecDepth 100000
namespace Mine
/-- a head that tells the walk also how the arguments were laid, and that tokens were given out before -/
theorem holds_toks {r : OpenRow} {q : Program} {loose : List Str} {Xt : Shared → Bool} {XP : (Str → Option Value) → Heap → Prop} {α : Type} {Yf : Shared → α} {Ya : World → α} {YP : World → Heap → Prop} {d : DefRec} {kwd : List (Str × Expr)} {N : Nat}
    (left : LeftO r.prog q loose Xt (fun s => (Yf s, decide (0 < s.toks))) (fun w => (Ya w, true)) N) (hY : ∀ w s, Yf s = Ya w → YP w s.heap) (hYk : ∀ w h h', YP w h → (∀ b o, h.get? b = some o → h'.get? b = some o) → YP w h')
    (hX : ∀ s, Xt s = true → XP (s.heap.nsMap mainGlobals) s.heap) (hXk : ∀ mg h h', XP mg h → (∀ b o, h.get? b = some o → h'.get? b = some o) → XP mg h')
    (hdef : defOf q r.name = some (d, kwd)) (hp : r.prog.theDef r.name = some (d.params, d.body, d.scope)) (hk : kwWritten? d.params.kwonlyargs d.params.kw_defaults = some kwd) (hRf : ∀ s, Xt s = true → RecFacts r.records s.heap) (hwr : (!r.writes || r.records.isEmpty) = true)
    (k1 : r.wellSaid = true) (ok : (chainsOk q && opensWell r.prog && (frees r.toRowW && r.within.isEmpty)) = true) (hb : r.prog.bare) (hw : r.toRowW.promised)
    (call : ∀ (w : World) (s₀ s₁ : Shared) (mg mb : Str → Option Value), Ground q loose r.records XP w s₀ mg mb s₁.heap → YP w s₁.heap → 0 < s₀.toks → ∀ (args : List WData) (vals : List Value) (as : List Addr), r.toRowW.claim.pre args = true → WData.layableAll args = true →
      Laid r.records w s₀ s₁ args vals as → ∃ f, mg r.name = some f ∧
        wpAny (model r.prog w) callerA (PySem.call f vals) (fun v s' => GoodWG r.toRowW.claim (classAt s₀.heap) (ExcName.means s₀.heap) args s₁ (.ok (.ret v)) s')
          (fun e s' => GoodWG r.toRowW.claim (classAt s₀.heap) (ExcName.means s₀.heap) args s₁ (.error e) s') s₁) : r.Holds := by
  refine ⟨k1, hw, ?_⟩
  obtain ⟨okA, okB⟩ := Bool.and_eq_true_iff.mp ok
  obtain ⟨hch, hopen⟩ := Bool.and_eq_true_iff.mp okA
  obtain ⟨hfree, hwithin⟩ := Bool.and_eq_true_iff.mp okB
  obtain ⟨hsame, hu, ha, hap, hm⟩ := frees_parts hfree
  refine ⟨⟨hb, hopen, by show r.makers.map _ = []; rw [hm]; rfl⟩, hw.witness, fun w => ⟨(left.behind hX hch w).1, fun s' hs' => ?_⟩⟩
  obtain ⟨sf, hf, hg0, s, hT, hz, hgens, hg, GG, hy⟩ := (left.behind (XP := fun mg h => XP mg h ∧ RecFacts r.records h) (fun s hs => ⟨hX s hs, hRf s hs⟩) hch w).2 s' hs'
  have y1 : Yf s = Ya w := congrArg Prod.fst hy
  have y2 : 0 < s.toks := of_decide_eq_true (congrArg Prod.snd hy)
  have Gp : Ground q loose [] XP w s (s.heap.nsMap mainGlobals) (s.heap.nsMap builtinsNs) s.heap := { GG with X := GG.X.1 }
  have RF := GG.X.2
  refine ⟨sf, hf, hg0, s, hT, fun n hn => ?_, RF.1, RF.2.1, ?_⟩
  · obtain rfl : n = r.name := by split at hn <;> simp_all
    exact pinned_of_view hg Gp hdef hp hk
  have hge : s.gens = #[] := Array.eq_empty_of_size_eq_zero (beq_iff_eq.mp hgens)
  have G : Ground q loose r.records XP w s _ _ s.heap := RF.ground Gp
  refine ClaimW.callFrom_of_specG (c := r.toRowW.claim) hz hge fun args hpre hlay ord hord => ?_
  obtain ⟨⟨vs, s₁⟩, hl⟩ := Option.isSome_iff_exists.mp (layAllW_isSome (P := w.params) (ord := ord) G.has args r.args s (pre_splitW hpre).1)
  have kp := layAllW_keeps _ _ _ hl
  have rs := layAllW_rest _ _ _ hl
  obtain ⟨as, hrd, hin, hold⟩ := reads_layAllW hord _ _ _ hl hlay s₁.heap (fun _ _ e => e)
  have L : Laid r.records w s s₁ args vs as := ⟨⟨ord, hord, hl⟩, hrd, hin, hold, kp, rs.1.trans hge, rs.2.2.1⟩
  have G₁ := G.keeps hXk kp
  obtain ⟨f, hf', h⟩ := call w s s₁ _ _ G₁ (hYk _ _ _ (hY w s y1) kp) y2 args vs as hpre hlay L
  have hi := ident_freeW hu ha hap
  have hwi : r.toRowW.claim.within = [] := List.isEmpty_iff.mp hwithin
  have fin : ∀ (x : Result) (s' : Shared), GoodWG r.toRowW.claim (classAt s.heap) (ExcName.means s.heap) args s₁ x s' → _ := fun x s' g => GoodWG.laid (c := r.toRowW.claim) hsame hwi hi L g
  refine ⟨vs, s₁, hl, wpAny_bind (wpAny_nsGet G₁.T.g ?_)⟩
  rw [hf']
  refine wpAny_bind (wpAny_mono h (fun v s' g => wpAny_pure ⟨_, rfl, ?_⟩) fun e s' g => ?_)
  · exact ⟨(fin _ _ g).1, (fin _ _ g).2.1, (fin _ _ g).2.2, fun q => ⟨namesKept_of hT hg _ kp g.2.1.old, noTable hwr q⟩⟩
  · exact ⟨(fin _ _ g).1, (fin _ _ g).2.1, (fin _ _ g).2.2, fun q => ⟨namesKept_of hT hg _ kp g.2.1.old, noTable hwr q⟩⟩
end Mine
end
section
open PySem PySem.W PyProof.Rows
set_option maxRecDepth 100000
set_option maxHeartbeats 8000000
namespace Two
noncomputable def qv : {q : Program // view PySem.Challenge.pw_kp0009_02 [0,1,3,5,6,7,8,9,10,11,12,14,17,20,21,22,23,24,25,26] = q} := by
  refine ⟨?q, ?h⟩
  case h =>
    unfold view PySem.Challenge.pw_kp0009_02
    dsimp only [List.filterMap, List.getElem?_cons_zero, List.getElem?_cons_succ]
    rfl
noncomputable def q : Program := qv.1
local macro_rules | `(tactic| o_head $H) => `(tactic| (
    refine Mine.holds_toks (q := Two.q) (loose := [PySem.Str.ofString "groupby", PySem.Str.ofString "_grouper", PySem.Str.ofString "count", PySem.Str.ofString "itemgetter", PySem.Str.ofString "_rank", PySem.Str.ofString "correlation"]) (Xt := fun s => xlAt Two.q [] s && recOk (RowW.records (OpenLaw.row PySem.Challenge.rw_kp0009_02).toRowW) s) (XP := XL Two.q []) (Yf := Hook.obs $H) (Ya := Hook.val $H) (YP := Hook.says $H) (N := 4520) ?hl (Hook.of $H) (Hook.keeps $H) (fun s e => xl_of s (Bool.and_eq_true_iff.mp e).1) XL.keeps (by rfl) (by rfl) (by rfl) (fun s e => recFacts_of (Bool.and_eq_true_iff.mp e).2) (by first | rfl | fail "open_line: no head takes a call that writes beside a table") (by first | assumption | decide +kernel) (by decide +kernel) ⟨rfl, rfl, rfl, rfl, rfl, by decide +kernel⟩ ?hw ?hc
    case hl =>
      intro w
      unfold openEnds fencedOpening topFrom
      rw [PySem.W.Fast.te14082659384304107361, PySem.W.Fast.te10274390034422433532, PySem.W.Fast.te4187177175401517315]
      kernel_rfl!))
local macro_rules | `(tactic| o_law) => `(tactic| refine holds_law (by decide +kernel) fun said => ?_)
open_top hd for PySem.Challenge.rw_kp0009_02
end Two
end
section
open PySem PySem.W PySem.Calls PyProof.Rows
set_option maxRecDepth 100000
namespace Mine
structure Hold (P : Prop) : Prop where
  out : P
section
variable {prog : Program} {w : World} {A : Around} {s : Shared} {base : Heap} {envs : List Env} {K : Frag}
  {R : Result → Shared → Prop} {name qual : Str} {params : Arguments} {body : List Stmt} {scope : Scope} {dV kV doc pm cdv ct oc : Value} {an od : Option Addr} {osl : Array (Option Value)} {f : Addr} {args : Args} {binds : List (Str × Value)}
theorem enterP (X : K.In s.heap) (hlim : s.heap.NoLimit)
    (ho : K.lookup f = some ⟨oc, od, .func (fnOf name qual params body scope dV kV doc pm an cdv ct), osl⟩) (hcd : codeIn K cdv qual = true) (hroom : A.depth < recursionLimit)
    (hbind : BindsTo s (fnOf name qual params body scope dV kV doc pm an cdv ct) args binds) (hloc : ∀ y ∈ binds, scope.names.lookup y.1 = some .local)
    (h : ∀ L' h₁, Fr s.heap L' h₁ (fun y => binds.reverse.lookup y) → News s.heap L' h₁ [] →
      wpAny (model prog w) (A.deeper (envOf qual scope L' f cdv)) (execs body (envOf qual scope L' f cdv))
        (fun fl s' => R (.ok (.ret (match fl with | .ret v => v | _ => .none))) s')
        (fun e s' => wpAny (model prog w) (A.deeper (envOf qual scope L' f cdv)) (leaving (envOf qual scope L' f cdv) e) (fun _ s'' => R (.error e) s'') (fun e' s'' => R (.error e') s'') s')
        { s with heap := h₁, toks := s.toks + binds.length })
    (hcell : ∀ x ∈ scope.names, x.2 ≠ .cell) (hco : scope.isCoroutine = false := by rfl) (hgen : scope.isGenerator = false := by rfl) (hk : scope.kind = .function := by rfl) : codeAny (model prog w) A (.call (.ref f) args) R s := by
  refine codeAny_call_def (fd := fnOf name qual params body scope dV kV doc pm an cdv ct) (body := body) (binds := binds) hroom (X _ _ ho) rfl hlim (codeRec_of X hcd) rfl hbind hcell hloc (fun h₁ hns hk₁ => ?_) hco hgen hk
  exact h s.heap.objs.size h₁ ⟨hns, hk₁, Nat.le_refl _⟩ News.nil
theorem enterC (X : K.In s.heap) (hlim : s.heap.NoLimit)
    (ho : K.lookup f = some ⟨oc, od, .func (fnOf name qual params body scope dV kV doc pm an cdv ct), osl⟩) (hcd : codeIn K cdv qual = true) (hroom : A.depth < recursionLimit)
    (hbind : BindsTo s (fnOf name qual params body scope dV kV doc pm an cdv ct) args binds) (hkind : (binds.all fun y => scope.names.lookup y.1 == some .local || scope.names.lookup y.1 == some .cell) = true)
    (hnd : ((cellsFrom 0 scope.names []).map (·.1)).Nodup)
    (h : ∀ L' h₁ tk cells, Fr s.heap L' h₁ (bindL (envOfC qual scope L' f cdv).kindOf binds fun _ => none) → News s.heap L' h₁ cells →
      CellsAre (bindC (envOfC qual scope L' f cdv).kindOf binds fun _ => none) (cellsFrom (L' + 1) scope.names []) cells →
      wpAny (model prog w) (A.deeper (envOfC qual scope L' f cdv)) (execs body (envOfC qual scope L' f cdv))
        (fun fl s' => R (.ok (.ret (match fl with | .ret v => v | _ => .none))) s')
        (fun e s' => wpAny (model prog w) (A.deeper (envOfC qual scope L' f cdv)) (leaving (envOfC qual scope L' f cdv) e) (fun _ s'' => R (.error e) s'') (fun e' s'' => R (.error e') s'') s')
        { s with heap := h₁, toks := tk })
    (hco : scope.isCoroutine = false := by rfl) (hgen : scope.isGenerator = false := by rfl) (hk : scope.kind = .function := by rfl) : codeAny (model prog w) A (.call (.ref f) args) R s := by
  refine codeAny_call_function hroom (X _ _ ho) rfl hco hgen rfl (codeRec_of X hcd) (hbind _ _ _ _ ?_)
  refine wpAny_newFunctionEnv_cells hk (kindsX hkind _) fun env' he s' x => ?_
  subst he
  refine ⟨hlim.keeps x.toInCall.keep, codeAny_func ?_⟩
  obtain ⟨h₁, tk, rfl, _⟩ := x.done
  have hk₁ := x.toInCall.keep
  obtain ⟨cells, NC, Y⟩ := Cl.news (h₀ := s.heap) (Nat.le_refl _) fun n c hm => ⟨x.cell n c (lookup_of_mem_nodup (cellsFrom_names scope.names 0 (s.heap.objs.size + 1) [] [] rfl ▸ hnd) hm), x.above n c hm⟩
  exact h s.heap.objs.size h₁ tk cells ⟨x.toInCall.ns, hk₁, Nat.le_refl _⟩ NC Y
end
section
variable {prog : Program} {w : World} {A : Around} {E : Value → Shared → Prop} {Q : Flow → Shared → Prop} {s : Shared} {env : Env} {h₀ : Heap} {L : Addr}
end
end Mine
end
section
open PySem PySem.W PySem.Calls PyProof.Rows
set_option maxRecDepth 100000
namespace Mine
section
variable {prog : Program} {w : World} {A : Around} {E : Value → Shared → Prop} {s : Shared} {env : Env}
def WhFlow (Q : Flow → Shared → Prop) (rest : Shared → Prop) (f : Flow) (s₃ : Shared) : Prop := match f with
  | .next => rest s₃
  | .cont => rest s₃
  | .brk => Q .next s₃
  | .ret v => Q (.ret v) s₃
/-- a while, turn by turn: at most n more -/
def WhRest (prog : Program) (w : World) (A : Around) (E : Value → Shared → Prop) (env : Env) (test : Expr) (body : List Stmt) (Q : Flow → Shared → Prop) : Nat → Shared → Prop
  | 0, _ => False
  | n + 1, s => wpAny (model prog w) A (isTrue test env (eval test env)) (fun b s₂ => if b = true then wpAny (model prog w) A (execs body env) (WhFlow Q (WhRest prog w A E env test body Q n)) E s₂ else Q .next s₂) E s
theorem WhRest.succ {test : Expr} {body : List Stmt} {Q : Flow → Shared → Prop} {n : Nat}
    (h : wpAny (model prog w) A (isTrue test env (eval test env)) (fun b s₂ => if b = true then wpAny (model prog w) A (execs body env) (WhFlow Q (WhRest prog w A E env test body Q n)) E s₂ else Q .next s₂) E s) : WhRest prog w A E env test body Q (n + 1) s := h
theorem While_unroll (k : Nat) {test : Expr} {body : List Stmt} {pos : Pos} {Q : Flow → Shared → Prop} (h : WhRest prog w A E env test body Q k s) (hE : PassesOwn (model prog w) A env E := by passes_own) :
    wpAny (model prog w) A (exec (.While test body [] pos) env) Q E s := by
  refine wpAny_While (codeAny_whileLoop (fun n s' => WhRest prog w A E env test body Q n s') ?_ k h)
  intro n s' hr
  cases n with
  | zero => exact hr.elim
  | succ n =>
    refine wpAny_mono (hr : wpAny (model prog w) A (isTrue test env (eval test env)) _ E s') (fun b s₂ h₂ => ?_) hE
    cases b with
    | false =>
      simp only [Bool.false_eq_true, if_false] at h₂ ⊢
      exact wpAny_execs_nil h₂
    | true =>
      simp only [if_true] at h₂ ⊢
      refine wpAny_mono h₂ (fun f s₃ h₃ => ?_) hE
      cases f with
      | next => exact ⟨n, Nat.lt_succ_self n, h₃⟩
      | cont => exact ⟨n, Nat.lt_succ_self n, h₃⟩
      | brk => exact h₃
      | ret v => exact h₃
end
end Mine
end
section
open PySem PySem.W PySem.Calls PyProof.Rows
set_option maxRecDepth 100000
namespace Mine
section
variable {prog : Program} {w : World} {A : Around} {E : Value → Shared → Prop} {s : Shared} {env : Env}
def ForTurn (prog : Program) (w : World) (A : Around) (E : Value → Shared → Prop) (env : Env) (target : Expr) (body : List Stmt) (Q : Flow → Shared → Prop) (I : Addr) (rest : Shared → Prop) (r : Option Value) (s₁ : Shared) : Prop := match r with
  | none => Q .next s₁
  | some y => wpAny (model prog w) A (letOwnedTupleGo target (.ref I) y) (fun _ s₁' => wpAny (model prog w) A (assign target env y) (fun _ s₂ => wpAny (model prog w) A (execs body env) (WhFlow Q rest) E s₂) E s₁') E s₁
def ForHas (prog : Program) (w : World) (A : Around) (E : Value → Shared → Prop) (env : Env) (target : Expr) (body : List Stmt) (Q : Flow → Shared → Prop) (it : Value) (s₂ : Shared) : Prop :=
  ∃ (I : Addr) (J : Nat → Shared → Prop) (n : Nat), it = .ref I ∧ J n s₂ ∧ ∀ n s, J n s → wpAny (model prog w) A (pyNext (.ref I)) (ForTurn prog w A E env target body Q I (fun s₃ => ∃ m, m < n ∧ J m s₃)) E s
theorem for_inv {target iter : Expr} {body : List Stmt} {pos : Pos} {Q : Flow → Shared → Prop}
    (h : wpAny (model prog w) A (eval iter env) (fun xv s₁ => wpAny (model prog w) A (pyIter xv) (ForHas prog w A E env target body Q) E s₁) E s)
    (hs : ∀ x, foldedSetIterable iter env x = pure x := by intro _; rfl) (hE : PassesOwn (model prog w) A env E := by passes_own) :
    wpAny (model prog w) A (exec (.For target iter body [] pos) env) Q E s := by
  refine wpAny_For (wpAny_mono h (fun xv s₁ h₁ => wpAny_mono h₁ (fun it s₂ h₂ => ?_) fun _ _ z => z) fun _ _ z => z) hs
  obtain ⟨I, J, n, rfl, h0, turn⟩ := h₂
  refine codeAny_forLoop_any (R := fun r s' => match r with | .ok f => Q f s' | .error e => cameBackBy (model prog w) A env E e s') (fun k s' => J k s') ?_ n h0
  intro k s' hk
  refine wpAny_passesOwn hE (wpAny_mono (turn k s' hk) (fun r s₁ hr => ?_) fun _ _ z => z)
  cases r with
  | none => exact wpAny_execs_nil hr
  | some y =>
    refine wpAny_passesOwn hE (wpAny_mono hr (fun _ s₁' h1 => ?_) fun _ _ z => z)
    refine wpAny_passesOwn hE (wpAny_mono h1 (fun _ s₂ h₂ => ?_) fun _ _ z => z)
    refine wpAny_passesOwn hE (wpAny_mono h₂ (fun f s₃ h₃ => ?_) fun _ _ z => z)
    cases f with
    | next => exact h₃
    | cont => exact h₃
    | brk => exact h₃
    | ret _ => exact h₃
theorem own_go {elts : List Expr} {x1} {pos : Pos} {r a C : Addr} {o : Obj} {Q : Unit → Shared → Prop} (ho : s.heap.get? r = some o) (hc : o.cls = .ref C) (h : Q () s) :
    wpAny (model prog w) A (letOwnedTupleGo (.Tuple elts x1 pos) (.ref r) (.ref a)) Q E s := by
  unfold letOwnedTupleGo
  refine wpAny_bind (wpAny_load ho ?_)
  rw [hc]
  exact wpAny_pure h
end
end Mine
end
section
open PySem PySem.W PyProof.Rows
namespace Mine
theorem cutQ {M : Model} {A : Around} {s : Shared} {t : Sem Flow} {Q : Flow → Shared → Prop} {E : Value → Shared → Prop} (h : ∀ QQ EE, (∀ v s, Q (.ret v) s → QQ (.ret v) s) → wpAny M A t QQ EE s) : wpAny M A t Q E s := h Q E (fun _ _ q => q)
/-- a loop's turn, what comes behind it out of sight -/
theorem cutTurn {M : Model} {A : Around} {s : Shared} {t t2 : Sem Unit} {t3 : Sem Flow} {Q : Flow → Shared → Prop} {rest : Shared → Prop} {E : Value → Shared → Prop} (h : ∀ QQ : Flow → Shared → Prop, (∀ s, rest s → QQ .next s) → wpAny M A t (fun _ s1 => wpAny M A t2 (fun _ s2 => wpAny M A t3 QQ E s2) E s1) E s) :
    wpAny M A t (fun _ s1 => wpAny M A t2 (fun _ s2 => wpAny M A t3 (WhFlow Q rest) E s2) E s1) E s := h _ (fun _ q => q)
/-- the goal out of sight while facts are taken apart -/
theorem cutP {P : Prop} (h : ∀ G : Prop, (P → G) → G) : P := h P id
end Mine
end
section
open PySem PySem.W PySem.Calls PyProof.Rows PyProof.Rows.TI
set_option maxRecDepth 100000
namespace Mine
section
variable {prog : Program} {w : World} {A : Around} {s : Shared} {K : Frag}
  {R : Result → Shared → Prop} {name qual : Str} {params : Arguments} {body : List Stmt} {scope : Scope} {dV kV doc pm cdv ct oc : Value} {an od : Option Addr} {osl : Array (Option Value)} {f : Addr} {args : Args} {binds : List (Str × Value)}
theorem gone_size (h : Heap) : ∀ l : List Addr, (gone h l).objs.size = h.objs.size
  | [] => rfl
  | a :: l => by
    show ((gone h l).update a _).objs.size = _
    rw [Heap.size_update]; exact gone_size h l
/-- into a def that changes some objects of its caller: they are new beside the rest -/
theorem enterG {l : List Addr} {news : List (Addr × Obj)} (hN : ∀ p ∈ news, p.1 ∈ l ∧ s.heap.get? p.1 = some p.2) (X : K.In s.heap) (hlim : s.heap.NoLimit)
    (ho : K.lookup f = some ⟨oc, od, .func (fnOf name qual params body scope dV kV doc pm an cdv ct), osl⟩) (hcd : codeIn K cdv qual = true) (hroom : A.depth < recursionLimit)
    (hbind : BindsTo s (fnOf name qual params body scope dV kV doc pm an cdv ct) args binds) (hloc : ∀ y ∈ binds, scope.names.lookup y.1 = some .local)
    (h : ∀ L' h₁, Fr (gone s.heap l) L' h₁ (fun y => binds.reverse.lookup y) → News (gone s.heap l) L' h₁ news →
      wpAny (model prog w) (A.deeper (envOf qual scope L' f cdv)) (execs body (envOf qual scope L' f cdv))
        (fun fl s' => R (.ok (.ret (match fl with | .ret v => v | _ => .none))) s')
        (fun e s' => wpAny (model prog w) (A.deeper (envOf qual scope L' f cdv)) (leaving (envOf qual scope L' f cdv) e) (fun _ s'' => R (.error e) s'') (fun e' s'' => R (.error e') s'') s')
        { s with heap := h₁, toks := s.toks + binds.length })
    (hcell : ∀ x ∈ scope.names, x.2 ≠ .cell) (hco : scope.isCoroutine = false := by rfl) (hgen : scope.isGenerator = false := by rfl) (hk : scope.kind = .function := by rfl) : codeAny (model prog w) A (.call (.ref f) args) R s := by
  refine enterP X hlim ho hcd hroom hbind hloc (fun L' h₁ F _ => ?_) hcell hco hgen hk
  refine h L' h₁ ⟨F.ns, fun b o e => F.keep b o (gone_some e).2, by rw [gone_size]; exact F.above⟩ fun p hp => ?_
  obtain ⟨h1, h2⟩ := hN p hp
  refine ⟨F.keep _ _ h2, fun q => ?_, gone_none h1⟩
  have := Nat.lt_of_lt_of_le (Heap.lt_size h2) F.above
  rw [q] at this
  exact absurd this (Nat.lt_irrefl _)
/-- what lies outside the list stays -/
theorem gone_keep {h h' : Heap} {l : List Addr} (k : ∀ b o, (gone h l).get? b = some o → h'.get? b = some o) : ∀ b o, b ∉ l → h.get? b = some o → h'.get? b = some o :=
  fun b o hb e => k b o ((gone_get hb).trans e)
theorem gone_in {h₀ h : Heap} {l : List Addr} (k : ∀ b o, h₀.get? b = some o → h.get? b = some o) (hl : ∀ b ∈ l, h₀.get? b = none) : ∀ b o, h₀.get? b = some o → (gone h l).get? b = some o :=
  fun b o e => (gone_get fun hb => by rw [hl b hb] at e; cases e).trans (k b o e)
end
end Mine
end
section
open PySem PySem.W PySem.Calls PyProof.Rows PyProof.Rows.TI
set_option maxRecDepth 100000
namespace Mine
/-- an iterator over the list V that stands at p -/
def LI (o : Obj) (V : Addr) (p : Nat) : Prop := o.cls = .type "list_iterator" ∧ o.data = .fields #[.ref V, .int p 0]
section
variable {prog : Program} {w : World} {A : Around} {E : Value → Shared → Prop} {s : Shared} {h₀ : Heap} {L it V : Addr} {m : Str → Option Value} {news : List (Addr × Obj)} {io : Obj} {g : Obj → List (Addr × Obj)} {p : Nat} {items : Array Value} {x : Value}
theorem callNext_item {Q : Option Value → Shared → Prop} (hit : s.heap.IsListIter it V p) (hl : s.heap.IsList V items) (hx : items[p]? = some x)
    (hQ : ∀ h', h'.IsListIter it V (p + 1) → Heap.SameBut it s.heap h' → Q (some x) { s with heap := h' }) : wpAny (model prog w) A (callSpecial? (.ref it) "__next__") Q E s := by
  obtain ⟨o, ho, hc, hd⟩ := id hit
  obtain ⟨ol, hol, _, nl, hdl⟩ := hl
  refine wpAny_callSpecial?_slot (name := Str.ofString "__next__") hit.typeIs slot_listiter_next (wpAny_call_entry slot_listiter_next hit.typeIs entry_listiter_next ?_ (args_listiter_next _))
  show wpAny _ _ (field (.ref it) 0 >>= _) _ _ s
  refine wpAny_bind (wpAny_field ho hd (x := .ref V) rfl ?_)
  show wpAny _ _ (if (Value.ref V == Value.none) = true then _ else _) _ _ s
  rw [if_neg (show ¬ ((Value.ref V == Value.none) = true) from Bool.false_ne_true)]
  show wpAny _ _ (field (.ref it) 1 >>= _) _ _ s
  refine wpAny_bind (wpAny_field ho hd (x := .int p 0) rfl ?_)
  show wpAny _ _ (seqItems? (.ref V) >>= _) _ _ s
  refine wpAny_bind (wpAny_seqItems hol hdl ?_)
  simp only [Int.toNat_natCast, hx]
  refine wpAny_bind (wpAny_setField ho hd (by simp) (wpAny_pure ⟨x, rfl, hQ _ ?_ (Heap.SameBut.update ..)⟩))
  exact ⟨_, Heap.get?_update_self _ ho (Obj.isFreed_of_fields (Obj.data_mapFields hd _)), (Obj.cls_mapFields ..).trans hc, by
    rw [Obj.data_mapFields hd]; simp [rawInt]⟩
theorem next_item {Q : Value → Shared → Prop} (F : Fr h₀ L s.heap m) (N : News h₀ L s.heap news) (U : UpdF it io news g) (hi : LI io V p) (hl : s.heap.IsList V items) (hx : items[p]? = some x)
    (h : ∀ h' o', Fr h₀ L h' m → News h₀ L h' (g o') → LI o' V (p + 1) → Q x { s with heap := h' }) : wpAny (model prog w) A (call (.builtin "next") [.ref it]) Q E s := by
  obtain ⟨pre, post, hl', hg, a, b⟩ := U.split
  have hmem : (it, io) ∈ news := by rw [hl']; exact List.mem_append_right _ (.head _)
  have hm := N (it, io) hmem
  have hit : s.heap.IsListIter it V p := ⟨io, hm.1, hi.1, hi.2⟩
  refine call_function_entry (by decide +kernel) (by decide +kernel) kdk_entry_next (kdk_args_next _) ?_
  unfold Builtin.«next»
  refine wpAny_bind (m := someArgs "next" 1 2 _) (wpAny_of_eq (a := [Value.ref it]) (by first | rfl | kernel_rfl!) ?_)
  dsimp only
  refine wpAny_bind (wpAny_specialOf (name := Str.ofString "__next__") hit.typeIs slot_listiter_next.lookup ?_)
  refine wpAny_ite_split (fun hab => absurd hab (by decide)) (fun _ => ?_)
  refine wpAny_bind (callNext_item hit hl hx fun h' hit' hs => ?_)
  obtain ⟨o', ho', hc', hd'⟩ := hit'
  exact wpAny_pure ⟨_, rfl, h h' o' (F.change hs hm.2.1 hm.2.2) (hg o' ▸ (show News h₀ L s.heap (pre ++ (it, io) :: post) from hl' ▸ N).setIn a b hs ho') ⟨hc', hd'⟩⟩
/-- an iterator over a list that has come to its end -/
def DI (o : Obj) : Prop := o.cls = .type "list_iterator" ∧ ∃ v, o.data = .fields #[.none, v]
theorem stop_raised {α : Type} {s : Shared} (hh : A.handled = none) (h : ∀ h'' e, Heap.NewExc s.heap h'' e "StopIteration" → E (.ref e) { s with heap := h'' }) {Q : α → Shared → Prop} : wpAny (model prog w) A (Builtin.SmallTypes.stopIteration) Q E s := by
  unfold Builtin.SmallTypes.stopIteration
  refine wpAny_bind ?_
  simp only [newExc, newTuple]
  refine wpAny_bind (wpAny_newObj_type ?_ (by size_fits))
  refine wpAny_bind (m := firstArgMember _ _) (wpAny_of_eq (a := Value.none) (by first | rfl | (simp only [firstArgMember]; rfl)) ?_)
  refine wpAny_newObj_type ?_ (by size_fits)
  simp only [raiseNew]
  refine wpAny_bind (wpAny_handled ?_)
  rw [show A.handled = none from hh]
  refine wpAny_bind (wpAny_pure (wpAny_throw ?_))
  refine h _ _ ⟨fun b o e => Heap.get?_push_of_some _ (Heap.get?_push_of_some _ e), ?_, ⟨_, _, Heap.get?_push_size _ rfl, rfl, rfl⟩⟩
  exact Heap.get?_none_of_le (by rw [Heap.size_push]; (clear hh h; (exact Nat.le_succ _)))
theorem callNext_end {Q : Option Value → Shared → Prop} (hh : A.handled = none) (hit : s.heap.IsListIter it V p) (hl : s.heap.IsList V items) (hx : items[p]? = none)
    (hE : ∀ h' h'' e, (∃ o', h'.get? it = some o' ∧ DI o') → Heap.SameBut it s.heap h' → Heap.NewExc h' h'' e "StopIteration" → E (.ref e) { s with heap := h'' }) : wpAny (model prog w) A (callSpecial? (.ref it) "__next__") Q E s := by
  obtain ⟨o, ho, hc, hd⟩ := id hit
  obtain ⟨ol, hol, _, nl, hdl⟩ := hl
  refine wpAny_callSpecial?_slot (name := Str.ofString "__next__") hit.typeIs slot_listiter_next (wpAny_call_entry slot_listiter_next hit.typeIs entry_listiter_next ?_ (args_listiter_next _))
  show wpAny _ _ (field (.ref it) 0 >>= _) _ _ s
  refine wpAny_bind (wpAny_field ho hd (x := .ref V) rfl ?_)
  show wpAny _ _ (if (Value.ref V == Value.none) = true then _ else _) _ _ s
  rw [if_neg (show ¬ ((Value.ref V == Value.none) = true) from Bool.false_ne_true)]
  show wpAny _ _ (field (.ref it) 1 >>= _) _ _ s
  refine wpAny_bind (wpAny_field ho hd (x := .int p 0) rfl ?_)
  show wpAny _ _ (seqItems? (.ref V) >>= _) _ _ s
  refine wpAny_bind (wpAny_seqItems hol hdl ?_)
  simp only [Int.toNat_natCast, hx]
  refine wpAny_bind (wpAny_rule (wpAny_bind (wpAny_setField ho hd (by simp) ?_)))
  refine stop_raised (A := A.in1) hh fun h'' e hn => ?_
  refine hE _ h'' e ⟨_, Heap.get?_update_self _ ho (Obj.isFreed_of_fields (Obj.data_mapFields hd _)), (Obj.cls_mapFields ..).trans hc, .int p 0, ?_⟩ (Heap.SameBut.update ..) hn
  rw [Obj.data_mapFields hd]
  simp
theorem callNext_done {Q : Option Value → Shared → Prop} {o : Obj} (hh : A.handled = none) (ho : s.heap.get? it = some o) (hd : DI o)
    (hE : ∀ h'' e, Heap.NewExc s.heap h'' e "StopIteration" → E (.ref e) { s with heap := h'' }) : wpAny (model prog w) A (callSpecial? (.ref it) "__next__") Q E s := by
  obtain ⟨hc, v, hd⟩ := hd
  have hT : s.TypeIs (.ref it) "list_iterator" := ⟨o, ho, hc⟩
  refine wpAny_callSpecial?_slot (name := Str.ofString "__next__") hT slot_listiter_next (wpAny_call_entry slot_listiter_next hT entry_listiter_next ?_ (args_listiter_next _))
  show wpAny _ _ (field (.ref it) 0 >>= _) _ _ s
  refine wpAny_bind (wpAny_field ho hd (x := .none) rfl ?_)
  show wpAny _ _ (if (Value.none == Value.none) = true then _ else _) _ _ s
  rw [if_pos (by decide)]
  refine wpAny_bind (wpAny_rule ?_)
  exact wpAny_bind (stop_raised (A := A.in1) hh hE)
theorem next_end {Q : Value → Shared → Prop} (hh : A.handled = none) (F : Fr h₀ L s.heap m) (N : News h₀ L s.heap news) (U : UpdF it io news g) (hi : LI io V p) (hl : s.heap.IsList V items) (hx : items[p]? = none)
    (h : ∀ h' o' h'' e, Fr h₀ L h' m → News h₀ L h' (g o') → DI o' → Heap.NewExc h' h'' e "StopIteration" → E (.ref e) { s with heap := h'' }) : wpAny (model prog w) A (call (.builtin "next") [.ref it]) Q E s := by
  obtain ⟨pre, post, hl', hg, a, b⟩ := U.split
  have hmem : (it, io) ∈ news := by rw [hl']; exact List.mem_append_right _ (.head _)
  have hm := N (it, io) hmem
  have hit : s.heap.IsListIter it V p := ⟨io, hm.1, hi.1, hi.2⟩
  refine call_function_entry (by decide +kernel) (by decide +kernel) kdk_entry_next (kdk_args_next _) ?_
  unfold Builtin.«next»
  refine wpAny_bind (m := someArgs "next" 1 2 _) (wpAny_of_eq (a := [Value.ref it]) (by first | rfl | kernel_rfl!) ?_)
  dsimp only
  refine wpAny_bind (wpAny_specialOf (name := Str.ofString "__next__") hit.typeIs slot_listiter_next.lookup ?_)
  refine wpAny_ite_split (fun hab => absurd hab (by decide)) (fun _ => ?_)
  refine wpAny_bind (callNext_end hh hit hl hx fun h' h'' e ho' hs hn => ?_)
  obtain ⟨o', ho', hd'⟩ := ho'
  exact h h' o' h'' e (F.change hs hm.2.1 hm.2.2) (hg o' ▸ (show News h₀ L s.heap (pre ++ (it, io) :: post) from hl' ▸ N).setIn a b hs ho') hd' hn
theorem next_done {Q : Value → Shared → Prop} (hh : A.handled = none) (N : News h₀ L s.heap news) (hm : (it, io) ∈ news) (hi : DI io)
    (h : ∀ h'' e, Heap.NewExc s.heap h'' e "StopIteration" → E (.ref e) { s with heap := h'' }) : wpAny (model prog w) A (call (.builtin "next") [.ref it]) Q E s := by
  have hm := N (it, io) hm
  have hT : s.TypeIs (.ref it) "list_iterator" := ⟨io, hm.1, hi.1⟩
  refine call_function_entry (by decide +kernel) (by decide +kernel) kdk_entry_next (kdk_args_next _) ?_
  unfold Builtin.«next»
  refine wpAny_bind (m := someArgs "next" 1 2 _) (wpAny_of_eq (a := [Value.ref it]) (by first | rfl | kernel_rfl!) ?_)
  dsimp only
  refine wpAny_bind (wpAny_specialOf (name := Str.ofString "__next__") hT slot_listiter_next.lookup ?_)
  refine wpAny_ite_split (fun hab => absurd hab (by decide)) (fun _ => ?_)
  exact wpAny_bind (callNext_done hh hm.1 hi h)
end
end Mine
end
section
open PySem PySem.W PySem.Calls PyProof.Rows
set_option maxRecDepth 100000
namespace Mine
theorem entry_unchain : entryFor table "proto.unchain" = some Builtin.«proto.unchain» := entryFor_of_fast (by kernel_rfl)
section
variable {prog : Program} {w : World} {A : Around} {E : Value → Shared → Prop} {s : Shared} {env : Env}
theorem raiseNew_held {α : Type} {h e : Addr} {oh oe : Obj} {vs ws : Array Value} {Q : α → Shared → Prop} (hA : A.handled = some (.ref h)) (hne : h ≠ e)
    (hh : s.heap.get? h = some oh) (hd : oh.data = .fields vs) (h2 : vs[2]? = some .none) (he : s.heap.get? e = some oe) (hde : oe.data = .fields ws) (hsz : 2 < ws.size)
    (hE : E (.ref e) { s with heap := s.heap.update e (Obj.mapFields (·.setIfInBounds 2 (.ref h))) }) : wpAny (model prog w) A (raiseNew (.ref e) : Sem α) Q E s := by
  unfold raiseNew
  refine wpAny_bind (wpAny_handled ?_)
  rw [hA]
  dsimp only
  rw [if_pos (by simpa using hne)]
  refine wpAny_bind (wpAny_holding (wpAny_runValue (codeAny_builtin entry_unchain ?_)))
  unfold Builtin.«proto.unchain»
  dsimp only
  refine wpAny_bind (wpAny_field hh hd h2 ?_)
  simp only [beq_self_eq_true, if_true]
  refine wpAny_bind (wpAny_pure ?_)
  refine wpAny_pure ?_
  dsimp only
  unfold updateField
  refine wpAny_bind (wpAny_bind (wpAny_load he ?_))
  rw [hde]
  dsimp only
  rw [if_pos hsz]
  refine wpAny_update he ?_
  exact wpAny_throw hE
end
section
variable {prog : Program} {w : World} {A : Around} {E : Value → Shared → Prop} {env : Env}
variable {nm q : Str} {C N : Addr} {bs bm : List Value} {hdct : Bool} {sn : List Str} {sub : List Value} {ab : Bool} {col : Option Bool} {dd : Option Addr} {k0 k1 k2 k3 k5 : Option Value} {newId : String}
theorem raiseStmt_held {s : Shared} {z : Addr} {x : Sem Value} {Q : Flow → Shared → Prop} (hbase : bm.contains (.type "BaseException") = true) (hh : A.handled = some (.ref z))
    (h : wpAny (model prog w) A x (fun v s₁ => ∃ e t, v = .ref e ∧ s₁.heap.get? C = some (excClassObj nm q C N bs bm hdct sn sub ab col dd k0 k1 k2 k3 k5 newId) ∧
      s₁.heap.get? e = some { cls := .ref C, data := .fields #[.ref t, .none, .none, .none, .bool false, .none] } ∧ z ≠ e ∧ (∃ oz vz, s₁.heap.get? z = some oz ∧ oz.data = .fields vz ∧ vz[2]? = some .none) ∧
      E (.ref e) { s₁ with heap := s₁.heap.update e (Obj.mapFields (·.setIfInBounds 2 (.ref z))) }) E s) :
    wpAny (model prog w) A (raiseStmt env (some x) none) Q E s := by
  have hcB : (Value.ref C :: bm).contains (.type "BaseException") = true := by rw [List.contains_cons, hbase, Bool.or_true]
  unfold raiseStmt
  refine wpAny_bind (wpAny_mono h (fun v s₁ h₁ => ?_) fun _ _ x => x)
  obtain ⟨e, t, rfl, hC, he, hz, ⟨oz, vz, z1, z2, z3⟩, hE⟩ := h₁
  obtain ⟨hp, g, d, tk, os⟩ := s₁
  repeat (first | with_reducible refine wpAny_loadPart_at he ?_ | with_reducible refine wpAny_loadPart_at hC ?_ | (with_reducible refine wpAny_isSubtype_exc hC ?_; rw [hcB]) | wp_step)
  exact raiseNew_held hh hz z1 z2 z3 he rfl (by simp) hE
end
section
variable {prog : Program} {w : World} {A : Around} {E : Value → Shared → Prop} {s : Shared} {env : Env}
variable {nm q : Str} {C N : Addr} {bs bm bmB : List Value} {hdct : Bool} {sn : List Str} {sub : List Value} {ab : Bool} {col : Option Bool} {dd : Option Addr} {k0 k1 k2 k3 k5 : Option Value} {B newId initId : String}
theorem Raise_call_held (F : ExcBaseFacts B newId initId bmB) {mN : Str → Option Value} {x : Str} {np cpos pos : Pos} {args : List Expr} {Q : Flow → Shared → Prop} {z : Addr}
    (hbase : bm.contains (.type "BaseException") = true) (hh : A.handled = some (.ref z)) (hplain : (backTo cpos (starEach args env)).any (·.1) = false) (hni : mN "__init__" = none)
    (h : wpAny (model prog w) A (eval (.Name x np) env) (fun f s₁ => f = .ref C ∧ wpAny (model prog w) A (evalArgs (.ref C) true (backTo cpos (starEach args env)) [])
      (fun a s₂ => a.kw = [] ∧ a.pos.length ≤ sizeLine ∧ s₂.heap.get? C = some (excClassObj nm q C N bs bm hdct sn sub ab col dd k0 k1 k2 k3 k5 newId) ∧ s₂.heap.Ns N mN ∧ OwnTail s₂.heap bmB bm ∧
        (∃ oz vz, s₂.heap.get? z = some oz ∧ oz.data = .fields vz ∧ vz[2]? = some .none) ∧
        ∀ h' e, Heap.MadeExcOf s₂.heap h' e (.ref C) a.pos → E (.ref e) { s₂ with heap := h'.update e (Obj.mapFields (·.setIfInBounds 2 (.ref z))) }) E s₁) E s) :
    wpAny (model prog w) A (exec (.Raise (some (.Call (.Name x np) args [] cpos)) none pos) env) Q E s := by
  rw [arm_exec_Raise]
  first
    | refine wpAny_bind (wpAny_standAt (raiseStmt_held (C := C) (nm := nm) (q := q) (N := N) (bs := bs) (bm := bm) (hdct := hdct) (sn := sn) (sub := sub) (ab := ab) (col := col) (dd := dd) (k0 := k0) (k1 := k1) (k2 := k2) (k3 := k3) (k5 := k5) (newId := newId) hbase hh (wpAny_bind (wpAny_mono (wpAny_Call_ofName (wpAny_mono h (fun f s₁ h₁ => ?_) fun _ _ x => x)) (fun v s₃ h₃ => wpAny_bind (wpAny_standAt (wpAny_pure h₃))) fun _ _ x => x))))
    | (simp only [evalOpt, Option.map]; refine wpAny_bind (wpAny_standAt (raiseStmt_held (C := C) (nm := nm) (q := q) (N := N) (bs := bs) (bm := bm) (hdct := hdct) (sn := sn) (sub := sub) (ab := ab) (col := col) (dd := dd) (k0 := k0) (k1 := k1) (k2 := k2) (k3 := k3) (k5 := k5) (newId := newId) hbase hh (wpAny_bind (wpAny_mono (wpAny_Call_ofName (wpAny_mono h (fun f s₁ h₁ => ?_) fun _ _ x => x)) (fun v s₃ h₃ => wpAny_bind (wpAny_standAt (wpAny_pure h₃))) fun _ _ x => x)))))
    | (refine wpAny_bind (wpAny_standAt (raiseStmt_held (C := C) (nm := nm) (q := q) (N := N) (bs := bs) (bm := bm) (hdct := hdct) (sn := sn) (sub := sub) (ab := ab) (col := col) (dd := dd) (k0 := k0) (k1 := k1) (k2 := k2) (k3 := k3) (k5 := k5) (newId := newId) hbase hh ?_)); refine wpAny_bind (wpAny_mono (wpAny_Call_ofName (wpAny_mono h (fun f s₁ h₁ => ?_) fun _ _ x => x)) (fun v s₃ h₃ => wpAny_bind (wpAny_standAt (wpAny_pure h₃))) fun _ _ x => x))
  obtain ⟨rfl, h₁⟩ := h₁
  unfold callWith
  refine wpAny_bind (wpAny_holding (wpAny_mono h₁ (fun a s₂ h₂ => wpAny_bind (wpAny_standAt ?_)) fun _ _ x => x))
  obtain ⟨apos, akw⟩ := a
  obtain ⟨hkw, hlen, hC, hn, T, ⟨oz, vz, z1, z2, z3⟩, h₂⟩ := h₂
  obtain rfl : akw = [] := hkw
  obtain ⟨hp, g, d, tk, os⟩ := s₂
  simp only [hplain]
  refine wpAny_bind (wpAny_keeperOf_exc hC ?_)
  refine wpAny_bind (wpAny_call_exc_subT (hrest := hlen) F T hC hn hni fun h' e hm => wpAny_bind (wpAny_holding (wpAny_point (wpAny_pure ?_))))
  obtain ⟨t, ht, _, _⟩ := hm.there
  exact ⟨e, t, rfl, hm.keeps _ _ hC, ht, (fun y => by rw [← y] at hm; have hn := hm.new; rw [show hp.get? z = some oz from z1] at hn; cases hn), ⟨oz, vz, hm.keeps _ _ z1, z2, z3⟩, h₂ h' e hm⟩
end
section
def TracX (h base : Heap) (e : Addr) (cls a0 fl : Value) : Prop :=
  ∃ oe vs T oT ts, h.get? e = some oe ∧ (oe.cls = cls ∧ vs[0]? = some a0 ∧ vs[2]? = some .none) ∧ oe.data = .fields vs ∧ vs[1]? = some (.ref T) ∧ base.get? T = none ∧ T ≠ e ∧ h.get? T = some oT ∧ oT.data = .fields ts ∧ ts[3]? = some fl
theorem TracX.to {h base : Heap} {e : Addr} {cls a0 fl : Value} (x : TracX h base e cls a0 fl) : h.TracedAtW base e cls a0 fl := by
  obtain ⟨oe, vs, T, oT, ts, h1, ⟨h2, h3, _⟩, h4⟩ := x
  exact ⟨oe, vs, T, oT, ts, h1, ⟨h2, h3⟩, h4⟩
theorem TracX.there {h base : Heap} {e : Addr} {cls a0 fl : Value} (x : TracX h base e cls a0 fl) : ∃ ob vs, h.get? e = some ob ∧ ob.cls = cls ∧ ob.data = .fields vs ∧ vs[2]? = some .none := by
  obtain ⟨oe, vs, T, oT, ts, h1, ⟨h2, h3, h5⟩, h4, _⟩ := x
  exact ⟨oe, vs, h1, h2, h4, h5⟩
variable {prog : Program} {w : World} {A : Around} {E : Value → Shared → Prop} {s : Shared} {env : Env}
/-- noteFrame at an exception that is new -/
theorem noteFrame_firstX {base : Heap} {outer : List Env} {L e : Addr} {oe : Obj} {vs : Array Value} {a0 : Value} {Q : Unit → Shared → Prop}
    (hfr : A.frames = some (env :: outer)) (hl : s.heap.FunFrames base (env :: outer)) (hf : env.frame = some L)
    (he : s.heap.get? e = some oe) (hkb : base.StaysIn s.heap) (hen : base.get? e = none) (hd : oe.data = .fields vs) (h1 : vs[1]? = some .none) (h0 : vs[0]? = some a0) (h2 : vs[2]? = some .none)
    (h : ∀ h', base.StaysIn h' → h'.FunFrames base (env :: outer) → TracX h' base e oe.cls a0 (rawInt L) → s.heap.UpToSlots h' → Q () { s with heap := h' }) : wpAny (model prog w) A (noteFrame (.ref e) env) Q E s := by
  unfold noteFrame
  simp only [hf]
  refine wpAny_bind (wpAny_field he hd h1 ?_)
  rw [if_neg (by decide)]
  have hsz := (Array.getElem?_eq_some_iff.mp h1).1
  have hene : e ∉ (env :: outer).filterMap (·.frame) := fun hm => by
    obtain ⟨_, o, ho, hnf⟩ := hl.mem hm
    rw [he] at ho; injection ho with ho; subst ho; exact hnf vs hd
  refine wpAny_bind (wpAny_frameOf_fun hfr hl hf fun h₁ hs₁ => ?_)
  refine wpAny_bind (wpAny_entryPlaceOf fun pl hpl => ?_)
  unfold EntryCells.newEntry newFields
  refine wpAny_bind (wpAny_newObj_type ?_ (hpl.sizeOk5 _ _ _ _ _))
  have he₁ : h₁.get? e = some oe := (hs₁.2.1 e hene).trans he
  have kb₁ : base.StaysIn h₁ := fun b o hbo => (hs₁.2.1 b fun hm => by rw [(hl.mem hm).1] at hbo; cases hbo).trans (hkb b o hbo)
  have he₂ := Heap.get?_push_of_some (h := h₁) { cls := .type "traceback", dict := none, data := .fields ([Value.none, .ref L, .none, rawInt L, .none] ++ (if pl.isEmpty then List.replicate 6 Value.none else pl)).toArray } he₁
  have hTe : h₁.objs.size ≠ e := Nat.ne_of_gt (Heap.lt_size he₁)
  have hd₃ := Obj.data_mapFields hd (·.setIfInBounds 1 (Value.ref h₁.objs.size))
  have he₃ := Heap.get?_update_self (Obj.mapFields (·.setIfInBounds 1 (Value.ref h₁.objs.size))) he₂ (Obj.isFreed_of_fields hd₃)
  have hT₃ := (Heap.get?_update_other (h₁.push { cls := .type "traceback", dict := none, data := .fields ([Value.none, .ref L, .none, rawInt L, .none] ++ (if pl.isEmpty then List.replicate 6 Value.none else pl)).toArray })
    (Obj.mapFields (·.setIfInBounds 1 (Value.ref h₁.objs.size))) (Ne.symm hTe)).trans (Heap.get?_push_size h₁ rfl)
  have keep : ∀ b o, b ≠ e → h₁.get? b = some o →
      ((h₁.push { cls := .type "traceback", dict := none, data := .fields ([Value.none, .ref L, .none, rawInt L, .none] ++ (if pl.isEmpty then List.replicate 6 Value.none else pl)).toArray }).update e (Obj.mapFields (·.setIfInBounds 1 (Value.ref h₁.objs.size)))).get? b = some o :=
    fun b o hbe hb => by
      rw [Heap.get?_update_other _ _ (Ne.symm hbe)]
      exact Heap.get?_push_of_some _ hb
  have noRecord : ∀ b o, s.heap.get? b = some o → (∀ vs, o.data ≠ .fields vs) → b ≠ e := fun b o hb hnf q => by
    rw [q, he] at hb; injection hb with hb; subst hb; exact hnf vs hd
  refine wpAny_setField he₂ hd hsz (h _ ?_ ?_ ?_ ?_)
  · exact fun b o hbo => keep b o (fun q => by rw [q, hen] at hbo; cases hbo) (kb₁ b o hbo)
  · exact hl.of_keeps fun b o hb hnf => by
      obtain ⟨sl, hs⟩ := hs₁.2.2 b o hb
      exact ⟨_, keep b _ (noRecord b o hb hnf) hs, rfl⟩
  · refine ⟨_, _, h₁.objs.size, _, _, he₃, ⟨Obj.cls_mapFields _ _, by rw [Array.getElem?_setIfInBounds_ne (by decide)]; exact h0, by rw [Array.getElem?_setIfInBounds_ne (by decide)]; exact h2⟩, hd₃, by simp [hsz], ?_, hTe, hT₃, rfl, by first | (simp; done) | (rcases hpl with rfl | ⟨_, _, _, _, _, _, _, rfl⟩ <;> simp)⟩
    exact kb₁.fresh
  · intro b o hb hnf
    obtain ⟨sl, hs⟩ := hs₁.2.2 b o hb
    exact ⟨sl, keep b _ (noRecord b o hb hnf) hs⟩
theorem setFlight_noneX {base : Heap} {l : List Env} {e : Addr} {cls a0 fl : Value} {Q : Unit → Shared → Prop}
    (hkb : base.StaysIn s.heap) (hl : s.heap.FunFrames base l) (ht : TracX s.heap base e cls a0 fl)
    (h : ∀ h', base.StaysIn h' → h'.FunFrames base l → TracX h' base e cls a0 .none → s.heap.UpToSlots h' → Q () { s with heap := h' }) :
    wpAny (model prog w) A (setFlight (.ref e) none) Q E s := by
  obtain ⟨oe, vs, T, oT, ts, he, hcls, hd, h1, hnT, hTe, hT, hdT, h3⟩ := ht
  have hsz3 : 3 < ts.size := (Array.getElem?_eq_some_iff.mp h3).1
  have other : ∀ b, b ≠ T → (s.heap.update T (Obj.mapFields (·.setIfInBounds 3 ((none : Option Addr).elim Value.none fun f => rawInt f)))).get? b = s.heap.get? b :=
    fun b hb => Heap.get?_update_other _ _ (Ne.symm hb)
  have noRecord : ∀ b o, s.heap.get? b = some o → (∀ vs, o.data ≠ .fields vs) → b ≠ T := fun b o hb hnf q => by
    rw [q, hT] at hb; injection hb with hb; subst hb; exact hnf ts hdT
  unfold setFlight
  refine wpAny_bind (wpAny_field he hd h1 ?_)
  rw [if_pos (show (Value.ref T != Value.none) = true from by simp)]
  refine wpAny_setField hT hdT hsz3 (h _ (fun b o hbo => (other b fun q => by rw [q, hnT] at hbo; cases hbo).trans (hkb b o hbo))
    (hl.of_keeps fun b o hb hnf => ⟨o, (other b (noRecord b o hb hnf)).trans hb, rfl⟩) ?_ fun b o hb hnf => ⟨o.slots, (other b (noRecord b o hb hnf)).trans hb⟩)
  exact ⟨oe, vs, T, _, _, (other e (Ne.symm hTe)).trans he, hcls, hd, h1, hnT, hTe, Heap.get?_update_self _ hT (Obj.isFreed_of_fields (Obj.data_mapFields hdT _)), Obj.data_mapFields hdT _, by simp [hsz3]⟩
end
section
variable {prog : Program} {w : World} {A : Around} {s' : Shared} {env : Env}
theorem reraise {base g h : Heap} {outer : List Env} {L e : Addr} {m mg mb : Str → Option Value} {x y msg : Str} {np np2 pos cpos hpos kpos : Pos} {kk : Nat} {E0 : Value → Shared → Prop} {Q : Flow → Shared → Prop}
    {X B newId initId : String} {C : Addr} {bm : List Value}
    (K : Below A base outer g) (F : Fr g L h m) (hx : Heap.NewExc h s'.heap e X) (hf : env.frame = some L) (hk : env.scope.kind = .function) (hgl : env.globals = mainGlobals) (hbl : env.builtins = builtinsNs)
    (hg : base.Ns mainGlobals mg) (hb : base.Ns builtinsNs mb) (hmiss : mg x = none) (hv : mb x = some (.type X)) (hxk : env.kindOf x = some .globalImplicit) (hyk : env.kindOf y = some .globalImplicit)
    (hxd : (x == ("__debug__" : Str)) = false) (hyd : (y == ("__debug__" : Str)) = false)
    (hexc : isSubtype (.type X) (.type "BaseException") = pure true) (hnt : isSubtype (.type ((Manifest.find? X).elim "type" fun x => x.metatype)) (.type "tuple") = pure false) (hsub : isSubtype (.type X) (.type X) = pure true)
    (O : OwnCls y C bm newId mg base) (FB : ExcBaseFacts B newId initId bm)
    (hE : ∀ h' e' t tk tk', Heap.FlyingW (hideAll g (outer.filterMap (·.frame))) outer e' (.ref C) (.ref t) h' → h'.TupAt t [.str msg tk] → (hideAll g (outer.filterMap (·.frame))).get? t = none → g.UpToSlots h' → E0 (.ref e') { s' with heap := h', toks := tk' })
    (he : starEach [.Constant (.str msg) kk kpos] env = [(false, eval (.Constant (.str msg) kk kpos) env)] := by rfl) :
    wpAny (model prog w) (A.deeper env) (noteFrame (.ref e) env) (fun _ s₂ => wpAny (model prog w) (A.deeper env) (setFlight (.ref e) none) (fun _ s₃ =>
        wpAny (model prog w) (A.deeper env) (handleBy (.ref e) env [.ExceptHandler (some (.Name x np)) none [.Raise (some (.Call (.Name y np2) [.Constant (.str msg) kk kpos] [] cpos)) none pos] hpos]) Q
          (fun e s' => wpAny (model prog w) (A.deeper env) (leaving env e) (fun _ s'' => E0 e s'') (fun e' s'' => E0 e' s'') s') s₃)
          (fun e s' => wpAny (model prog w) (A.deeper env) (leaving env e) (fun _ s'' => E0 e s'') (fun e' s'' => E0 e' s'') s') s₂)
        (fun e s' => wpAny (model prog w) (A.deeper env) (leaving env e) (fun _ s'' => E0 e s'') (fun e' s'' => E0 e' s'') s') s' := by
  have K' := pushX K F hf hk
  have hfr := K'.stack
  have hin : ∀ env' ∈ (env :: outer), ∀ b, env'.frame = some b → b ∈ (env :: outer).filterMap (·.frame) := fun env he b hb => List.mem_filterMap.mpr ⟨env, he, hb⟩
  generalize hB : hideAll h ((env :: outer).filterMap (·.frame)) = B2
  have hBh : B2.StaysIn h := fun b o q => by rw [← hB] at q; exact of_hideAll _ q
  have st : base.StaysIn B2 := fun b o q => by
    rw [← hB]
    exact hideAll_get _ (K'.stays b o q) fun hm => by rw [(K'.frames.mem hm).1] at q; cases q
  have FFh : h.FunFrames B2 (env :: outer) := hB ▸ funFrames_hide K'.frames hin
  have hgh : (hideAll g (outer.filterMap (·.frame))).StaysIn B2 := fun b o q => by
    have q1 := of_hideAll _ q
    rw [← hB]
    refine hideAll_get _ (F.keep b o q1) fun hm => ?_
    obtain ⟨env', he', hf'⟩ := List.mem_filterMap.mp hm
    rcases List.mem_cons.mp he' with rfl | he'
    · rw [hf] at hf'
      cases hf'
      exact absurd (Nat.lt_of_lt_of_le (Heap.lt_size q1) F.above) (Nat.lt_irrefl _)
    · rw [hideAll_none _ (List.mem_filterMap.mpr ⟨env', he', hf'⟩)] at q
      cases q
  have fresh : ∀ b, h.get? b = none → B2.get? b = none := fun b hb => by
    cases hq : B2.get? b with
    | none => rfl
    | some o' => have := hBh b o' hq; rw [hb] at this; cases this
  obtain ⟨oe, tp, z1, z2, z3⟩ := hx.there
  refine noteFrame_firstX (oe := oe) (a0 := tp) hfr (FFh.of_keeps fun b o hb _ => ⟨o, hx.keeps b o hb, rfl⟩) hf z1 (fun b o q => hx.keeps b o (hBh b o q)) (fresh e hx.new) z3 rfl rfl rfl fun h2 k1 k2 k3 k4 => ?_
  rw [z2] at k3
  refine setFlight_noneX k1 k2 k3 fun h3 l1 l2 l3 l4 => ?_
  have bs : base.StaysIn h3 := fun b o q => l1 b o (st b o q)
  obtain ⟨ob, hob, hobc⟩ := l3.to.there
  refine wpAny_handleBy_builtin (X := X) (T := X) (b := true) hexc hnt hsub ?_
  refine Name_function_global hk hxk (loadGlobal_builtin (by rw [hgl]; exact hg.keeps bs) hmiss (by rw [hbl]; exact hb.keeps bs) hv ⟨rfl, ⟨ob, hob, hobc⟩, ?_⟩) hxd
  rw [if_pos rfl]
  refine setFlight_noneX l1 l2 l3 fun h4 m1 m2 m3 m4 => ?_
  have bs4 : base.StaysIn h4 := fun b o q => m1 b o (st b o q)
  refine wpAny_passesOwnAt PassesOwnAt.leaving ?_
  obtain ⟨tl, N, nm, q, bsl, hdct, sn, sub, ab, col, dd, k0, k1', k2', k3', k5, mN, hC, hN, hni, T⟩ := O.obj
  refine wpAny_execs_cons (Raise_call_held (z := e) (C := C) (nm := nm) (q := q) (N := N) (bs := bsl) (bm := tl) (hdct := hdct) (sn := sn) (sub := sub) (ab := ab) (col := col) (dd := dd) (k0 := k0) (k1 := k1') (k2 := k2') (k3 := k3') (k5 := k5)
    FB (mN := mN) (T.hasType FB.hasBase) rfl (by rw [he]; rfl) hni ?_)
  refine Name_function_global hk hyk (loadGlobal_global (by rw [hgl]; exact hg.keeps bs4) O.bound ⟨rfl, ?_⟩) hyd
  rw [he]
  show wpAny _ _ (evalArgs (.ref C) true [(false, eval (.Constant (.str msg) kk kpos) env)] []) _ _ _
  refine evalArgs_plain (spliced_cons (Constant_str (k := kk) (pos := kpos) (spliced_nil ?_)))
  obtain ⟨oz, vz, y1, y2, y3, y4⟩ := m3.there
  refine ⟨rfl, (by show 1 ≤ sizeLine; decide), bs4 _ _ hC, hN.keeps bs4, T.keeps bs4, ⟨oz, vz, y1, y3, y4⟩, fun h5 e1 hm => ?_⟩
  obtain ⟨t, t1, t2, t3⟩ := hm.there
  have e1n : h4.get? e1 = none := hm.new
  have htn : h4.get? t = none := t2
  have nB : ∀ b, h4.get? b = none → B2.get? b = none := fun b hb => by
    cases hq : B2.get? b with
    | none => rfl
    | some o' => have := m1 b o' hq; rw [hb] at this; cases this
  have hte : t ≠ e1 := fun q => by rw [q, t1] at t3; cases t3
  have up5 : ∀ b o, h4.get? b = some o → (h5.update e1 (Obj.mapFields (·.setIfInBounds 2 (.ref e)))).get? b = some o := fun b o q => by
    rw [Heap.get?_update_other _ _ (fun z => by rw [← z, e1n] at q; cases q)]
    exact hm.keeps b o q
  refine wpAny_leaving_firstW (a0 := .ref t) (base := B2) hfr (m2.of_keeps fun b o hb _ => ⟨o, up5 b o hb, rfl⟩) hf (Heap.get?_update_self _ t1 rfl) (fun b o q => up5 b o (m1 b o q)) (nB e1 e1n) rfl rfl rfl fun h6 hL => ?_
  obtain ⟨n1, ⟨_, _, n2⟩, n3, n4⟩ := hL
  have up : g.UpToSlots h6 := ((((((Heap.UpToSlots.of_keeps F.keep).trans (Heap.UpToSlots.of_keeps hx.keeps)).trans k4).trans l4).trans m4).trans (Heap.UpToSlots.of_keeps up5)).trans n4
  show E0 (.ref e1) { s' with heap := h6, toks := s'.toks + 1 }
  refine hE h6 e1 t s'.toks _ ⟨fun b o q => n1 b o (hgh b o q), fresh_of_stays hgh (nB e1 e1n), funFrames_base hgh n2, ?_⟩ ?_ (fresh_of_stays hgh (nB t htn)) up
  · obtain ⟨oe, vs, T, oT, ts, a1, a2, a3, a4, a5, a6⟩ := n3
    exact ⟨oe, vs, T, oT, ts, a1, a2, a3, a4, fresh_of_stays hgh a5, a6⟩
  · exact Heap.TupAt.of_slots ⟨_, _, (Heap.get?_update_other _ _ (Ne.symm hte)).trans t3, rfl, rfl⟩ n4
end
section
variable {prog : Program} {w : World} {A₀ : Around} {E : Value → Shared → Prop} {s' : Shared} {env : Env}
end
end Mine
end
section
open PySem PySem.W PySem.Calls PyProof.Rows PyProof.Rows.TI
set_option maxRecDepth 100000
namespace Mine
theorem funFrames_gone {h base : Heap} {l : List Addr} : ∀ {outer : List Env}, (∀ b ∈ outer.filterMap (·.frame), b ∉ l) → h.FunFrames base outer → (gone h l).FunFrames base outer
  | [], _, _ => trivial
  | env :: rest, hn, ⟨h1, ⟨L, o, h2, h3, h4, h5⟩, h6⟩ => by
    refine ⟨h1, ⟨L, o, h2, h3, (gone_get (hn L (List.mem_filterMap.mpr ⟨env, .head _, h2⟩))).trans h4, h5⟩, funFrames_gone (fun b hb => hn b ?_) h6⟩
    obtain ⟨e, he, hf⟩ := List.mem_filterMap.mp hb
    exact List.mem_filterMap.mpr ⟨e, .tail _ he, hf⟩
theorem below_gone {A : Around} {h base : Heap} {l : List Addr} {outer : List Env} (B : Below A base outer h) (hf : ∀ b ∈ outer.filterMap (·.frame), b ∉ l) (hl : ∀ b ∈ l, base.get? b = none) : Below A base outer (gone h l) :=
  ⟨B.stack, gone_in B.stays hl, funFrames_gone hf B.frames⟩
section
variable {prog : Program} {w : World} {A : Around} {s' : Shared} {env : Env}
/-- a built-in exception that is raised and taken in the same frame, at any depth: the suite goes on -/
theorem caught_deep {base g h : Heap} {outer : List Env} {L e : Addr} {m mg mb : Str → Option Value} {x : Str} {np hpos : Pos} {b₀ : Stmt} {suite : List Stmt} {Q : Flow → Shared → Prop} {E : Value → Shared → Prop} {news : List (Addr × Obj)} {X : String}
    (K : Below A base outer g) (F : Fr g L h m) (N : News g L h news) (hx : Heap.NewExc h s'.heap e X) (hf : env.frame = some L) (hk : env.scope.kind = .function) (hgl : env.globals = mainGlobals) (hbl : env.builtins = builtinsNs)
    (hg : base.Ns mainGlobals mg) (hb : base.Ns builtinsNs mb) (hmiss : mg x = none) (hv : mb x = some (.type X)) (hxk : env.kindOf x = some .globalImplicit) (hxd : (x == ("__debug__" : Str)) = false)
    (hexc : isSubtype (.type X) (.type "BaseException") = pure true) (hnt : isSubtype (.type ((Manifest.find? X).elim "type" fun x => x.metatype)) (.type "tuple") = pure false) (hsub : isSubtype (.type X) (.type X) = pure true)
    (k : ∀ h', Fr (hideAll g (outer.filterMap (·.frame))) L h' m → News (hideAll g (outer.filterMap (·.frame))) L h' news → h.UpToSlots h' →
      wpAny (model prog w) ((A.deeper env).mark (some (.ref e))) (execs (b₀ :: suite) env) Q E { s' with heap := h' })
    (hE : PassesOwnAt (model prog w) ((A.deeper env).mark (some (.ref e))) (A.deeper env) env E := by passes_own) :
    wpAny (model prog w) (A.deeper env) (noteFrame (.ref e) env) (fun _ s₂ => wpAny (model prog w) (A.deeper env) (setFlight (.ref e) none) (fun _ s₃ =>
        wpAny (model prog w) (A.deeper env) (handleBy (.ref e) env [.ExceptHandler (some (.Name x np)) none (b₀ :: suite) hpos]) Q E s₃) E s₂) E s' := by
  have K' := pushX K F hf hk
  have hfr := K'.stack
  have hin : ∀ env' ∈ (env :: outer), ∀ b, env'.frame = some b → b ∈ (env :: outer).filterMap (·.frame) := fun env he b hb => List.mem_filterMap.mpr ⟨env, he, hb⟩
  generalize hB : hideAll h ((env :: outer).filterMap (·.frame)) = B2
  have hBh : B2.StaysIn h := fun b o q => by rw [← hB] at q; exact of_hideAll _ q
  have st : base.StaysIn B2 := fun b o q => by
    rw [← hB]
    exact hideAll_get _ (K'.stays b o q) fun hm => by rw [(K'.frames.mem hm).1] at q; cases q
  have FFh : h.FunFrames B2 (env :: outer) := hB ▸ funFrames_hide K'.frames hin
  have out : ∀ b, g.get? b = none → b ∉ outer.filterMap (·.frame) := fun b hb hm => by
    obtain ⟨_, o, ho, _⟩ := K.frames.mem hm
    rw [hb] at ho
    cases ho
  have hgh : (hideAll g (outer.filterMap (·.frame))).StaysIn B2 := fun b o q => by
    have q1 := of_hideAll _ q
    rw [← hB]
    refine hideAll_get _ (F.keep b o q1) fun hm => ?_
    obtain ⟨env', he', hf'⟩ := List.mem_filterMap.mp hm
    rcases List.mem_cons.mp he' with rfl | he'
    · rw [hf] at hf'
      cases hf'
      exact absurd (Nat.lt_of_lt_of_le (Heap.lt_size q1) F.above) (Nat.lt_irrefl _)
    · rw [hideAll_none _ (List.mem_filterMap.mpr ⟨env', he', hf'⟩)] at q
      cases q
  have fresh : ∀ b, h.get? b = none → B2.get? b = none := fun b hb => by
    cases hq : B2.get? b with
    | none => rfl
    | some o' => have := hBh b o' hq; rw [hb] at this; cases this
  have nB2 : ∀ p ∈ news, B2.get? p.1 = some p.2 := fun p hp => by
    rw [← hB]
    refine hideAll_get _ (N p hp).1 fun hm => ?_
    obtain ⟨env', he', hf'⟩ := List.mem_filterMap.mp hm
    rcases List.mem_cons.mp he' with rfl | he'
    · rw [hf] at hf'
      exact (N p hp).2.1 (Option.some.inj hf').symm
    · exact out _ (N p hp).2.2 (List.mem_filterMap.mpr ⟨env', he', hf'⟩)
  obtain ⟨oe, tp, z1, z2, z3⟩ := hx.there
  refine noteFrame_firstX (oe := oe) (a0 := tp) hfr (FFh.of_keeps fun b o hb _ => ⟨o, hx.keeps b o hb, rfl⟩) hf z1 (fun b o q => hx.keeps b o (hBh b o q)) (fresh e hx.new) z3 rfl rfl rfl fun h2 k1 k2 k3 k4 => ?_
  rw [z2] at k3
  refine setFlight_noneX k1 k2 k3 fun h3 l1 l2 l3 l4 => ?_
  have bs : base.StaysIn h3 := fun b o q => l1 b o (st b o q)
  obtain ⟨ob, hob, hobc⟩ := l3.to.there
  refine wpAny_handleBy_builtin (X := X) (T := X) (b := true) hexc hnt hsub ?_
  refine Name_function_global hk hxk (loadGlobal_builtin (by rw [hgl]; exact hg.keeps bs) hmiss (by rw [hbl]; exact hb.keeps bs) hv ⟨rfl, ⟨ob, hob, hobc⟩, ?_⟩) hxd
  rw [if_pos rfl]
  refine setFlight_noneX l1 l2 l3 fun h4 m1 m2 m3 m4 => ?_
  have F0 : Fr (hideAll g (outer.filterMap (·.frame))) L h m := ⟨F.ns, fun b o q => F.keep b o (of_hideAll _ q), by
    refine Nat.le_trans (Nat.le_of_eq ?_) F.above
    exact hideAll_size _ _⟩
  have up : h.UpToSlots h4 := (((Heap.UpToSlots.of_keeps hx.keeps).trans k4).trans l4).trans m4
  refine wpAny_passesOwnAt hE (k h4 (F0.of_stays (fun b o q => m1 b o (hgh b o q)) up) (fun p hp => ⟨m1 _ _ (nB2 p hp), (N p hp).2.1, ?_⟩) up)
  cases q : (hideAll g (outer.filterMap (·.frame))).get? p.1 with
  | none => rfl
  | some o => have := of_hideAll _ q; rw [(N p hp).2.2] at this; cases this
end
/-- a heap as it was, by size: what lies behind the line is gone -/
def trunc (h : Heap) (n : Nat) : Heap := { h with objs := h.objs.extract 0 n }
theorem trunc_get {h : Heap} {n b : Nat} (hb : b < n) : (trunc h n).get? b = h.get? b := by
  have e : (trunc h n).objs[b]? = h.objs[b]? := by
    show (h.objs.extract 0 n)[b]? = h.objs[b]?
    rw [Array.getElem?_extract]
    split
    · simp
    · rename_i hx
      have : h.objs.size ≤ b := by lia
      rw [Array.getElem?_eq_none this]
  unfold Heap.get?
  rw [e]
theorem trunc_size (h : Heap) (n : Nat) : (trunc h n).objs.size ≤ n := by
  show (h.objs.extract 0 n).size ≤ n
  rw [Array.size_extract]; lia
theorem trunc_some {h : Heap} {n b : Nat} {o : Obj} (e : (trunc h n).get? b = some o) : b < n ∧ h.get? b = some o := by
  have hb : b < n := Nat.lt_of_lt_of_le (Heap.lt_size e) (trunc_size h n)
  exact ⟨hb, (trunc_get hb).symm.trans e⟩
section
variable {h₀ h : Heap} {L : Addr} {m : Str → Option Value} {news : List (Addr × Obj)} {l : List Addr} {n : Nat}
/-- the frame beside all that stood before it -/
theorem Fr.anew (F : Fr h₀ L h m) (hn : n ≤ L) : Fr (gone (trunc h n) l) L h m :=
  ⟨F.ns, fun b o e => (trunc_some (gone_some e).2).2, by rw [gone_size]; exact Nat.le_trans (trunc_size h n) hn⟩
theorem News.anew (N : News h₀ L h news) (hl : ∀ p ∈ news, p.1 ∈ l ∨ n ≤ p.1) : News (gone (trunc h n) l) L h news := fun p hp => by
  refine ⟨(N p hp).1, (N p hp).2.1, ?_⟩
  cases q : (gone (trunc h n) l).get? p.1 with
  | none => rfl
  | some o =>
    obtain ⟨h1, h2⟩ := gone_some q
    rcases hl p hp with h3 | h3
    · exact absurd h3 h1
    · exact absurd (trunc_some h2).1 (Nat.not_lt.mpr h3)
end
/-- what stands after an exception was taken and the suite went on -/
theorem after_catch {h0 h2 h4 h' : Heap} {l frs : List Addr} (k2 : ∀ b o, (gone h0 l).get? b = some o → h2.get? b = some o) (up : h2.UpToSlots h4) (st : (hideAll (gone h0 l) frs).StaysIn h4)
    (hf : ∀ b ∈ frs, ∃ o, (gone h0 l).get? b = some o ∧ ∀ vs, o.data ≠ .fields vs) (K : ∀ b o, (gone (trunc h4 h0.objs.size) l).get? b = some o → h'.get? b = some o) :
    (hideAll (gone h0 l) frs).StaysIn h' ∧ (∀ b o, b ∉ l → h0.get? b = some o → (∀ vs, o.data ≠ .fields vs) → ∃ sl, h'.get? b = some { o with slots := sl }) ∧ ∀ b, b ∉ l → (gone (trunc h4 h0.objs.size) l).get? b = none → h0.get? b = none := by
  have fwd : ∀ b o o', b ∉ l → h0.get? b = some o → h4.get? b = some o' → (gone (trunc h4 h0.objs.size) l).get? b = some o' := fun b o o' hb e e' =>
    (gone_get hb).trans ((trunc_get (Heap.lt_size e)).trans e')
  refine ⟨fun b o q => ?_, fun b o hb e hnf => ?_, fun b hb hn => ?_⟩
  · have q1 := of_hideAll _ q
    obtain ⟨hb, e⟩ := gone_some q1
    exact K _ _ (fwd b o o hb e (st b o q))
  · obtain ⟨sl, hs⟩ := up b o (k2 b o ((gone_get hb).trans e)) hnf
    exact ⟨sl, K _ _ (fwd b o _ hb e hs)⟩
  · cases q : h0.get? b with
    | none => rfl
    | some o =>
      have hg : (gone h0 l).get? b = some o := (gone_get hb).trans q
      by_cases hm : b ∈ frs
      · obtain ⟨o', e1, e2⟩ := hf b hm
        rw [hg] at e1
        cases e1
        obtain ⟨sl, hs⟩ := up b o (k2 b o hg) e2
        rw [fwd b o _ hb q hs] at hn
        cases hn
      · rw [fwd b o o hb q (st b o (hideAll_get _ hg hm))] at hn
        cases hn
section
variable {h₀ h h' : Heap} {L c : Addr} {m : Str → Option Value} {news news' : List (Addr × Obj)}
/-- a call that changed one object that is new here -/
theorem Fr.but (F : Fr h₀ L h m) (k : ∀ b o, b ≠ c → h.get? b = some o → h'.get? b = some o) (hc : h₀.get? c = none) (hL : L ≠ c) : Fr h₀ L h' m :=
  ⟨F.ns.at' fun o e => k _ o hL e, fun b o e => k b o (fun q => by rw [q, hc] at e; cases e) (F.keep b o e), F.above⟩
theorem News.butF {oc o' : Obj} {g : Obj → List (Addr × Obj)} (N : News h₀ L h news) (U : UpdF c oc news g) (k : ∀ b o, b ≠ c → h.get? b = some o → h'.get? b = some o) (e : h'.get? c = some o') : News h₀ L h' (g o') := by
  obtain ⟨pre, post, hl, hg, h1, h2⟩ := U.split
  rw [hg]
  subst hl
  intro p hp
  rcases List.mem_append.mp hp with hm | hm
  · have := N p (List.mem_append_left _ hm)
    exact ⟨k _ _ (h1 p hm) this.1, this.2⟩
  · rcases List.mem_cons.mp hm with rfl | hm
    · exact ⟨e, (N (c, oc) (List.mem_append_right _ (.head _))).2⟩
    · have := N p (List.mem_append_right _ (.tail _ hm))
      exact ⟨k _ _ (h2 p hm) this.1, this.2⟩
theorem News.put {o : Obj} {a : Addr} (N : News h₀ L h news) (e : h.get? a = some o) (hL : a ≠ L) (hf : h₀.get? a = none) : News h₀ L h ((a, o) :: news) := fun p hp => by
  rcases List.mem_cons.mp hp with rfl | hp
  · exact ⟨e, hL, hf⟩
  · exact N p hp
end
section
variable {prog : Program} {w : World} {A : Around} {E : Value → Shared → Prop} {s : Shared} {K : Frag} {x C p L : Addr} {ox : Obj} {od : Option Obj} {pl : Sem Bool} {Q : Value × List Value → Shared → Prop} {name : Str} {h₀ : Heap} {m : Str → Option Value}
/-- an attribute that is kept in a slot, where a method is sought -/
theorem method_slot (F : Fr h₀ L s.heap m) (X₀ : K.In h₀) (I : InstAt s.heap x ox C od) (hga : findIn K (.ref C) "__getattribute__" = some (some (.builtin "object.__getattribute__"))) (hk : findIn K (.ref C) "__getattr__" = some none)
    (hf : findIn K (.ref C) name = some (some (.ref p))) (ht : typeIn K (.ref p) = some (.type "member_descriptor"))
    (h : wpAny (model prog w) A (getAttr (.ref x) name) (fun v => Q (v, [])) E s) : wpAny (model prog w) A (getMethod (.ref x) name pl) Q E s := by
  refine method_usual (X₀.keeps F.keep) I hga hk hf ?_ h
  show (typeIn K (.ref p)).any _ = true
  rw [ht]
  decide
end
/-- all stays, though some objects were set aside -/
theorem keep_news {h h' : Heap} {l : List Addr} {news : List (Addr × Obj)} {h₀ : Heap} {L : Addr} (k : ∀ b o, (gone h l).get? b = some o → h'.get? b = some o) (N : News h₀ L h' news) (hl : ∀ b ∈ l, ∃ o, h.get? b = some o ∧ (b, o) ∈ news) : ∀ b o, h.get? b = some o → h'.get? b = some o := fun b o e => by
  by_cases hb : b ∈ l
  · obtain ⟨o', e1, e2⟩ := hl b hb
    rw [e1] at e
    cases e
    exact (N _ e2).1
  · exact k b o ((gone_get hb).trans e)
end Mine
end
local macro_rules | `(tactic| k_steps) => `(tactic| repeat ((first | (k_unfold; (try dsimp only)) | (k_end; wrow_close) | walk1 | (dsimp only; walk1) | (leave1; walk_say "STEP leave1"; try dsimp only)) <;> (try dsimp only)))
local macro_rules | `(tactic| k_ne) => `(tactic| (refine PySem.W.neN ?_; (try dsimp only); first | with_reducible assumption | (refine Ne.symm ?_; with_reducible assumption)))
section
open PySem PySem.W PySem.Calls PyProof.Rows PyProof.Rows.TI
set_option maxRecDepth 100000
set_option maxHeartbeats 8000000
open Mine
namespace Two
def gbObj (dx : Addr) (cg ck cv hck hcv htg it kf ser tk : Value) : Obj := { cls := .ref 124, dict := some dx, data := .plain, slots := #[some cg, some ck, some cv, some hck, some hcv, some htg, some it, some kf, some ser, some tk] }
def igObj (dx T0 : Addr) : Obj := { cls := .ref 267, dict := some dx, data := .plain, slots := #[some (.ref T0)] }
def tupObj (a b : Value) : Obj := { cls := .type "tuple", data := .seq #[a, b] }
def tup1Obj (a : Value) : Obj := { cls := .type "tuple", data := .seq #[a] }
theorem ig_call {w : World} {p : Program} {loose : List Str} {mean : ExcName → Option Value} {mg mb : Str → Option Value} {A : Around} {s : Shared} {base : Heap} {Q E : Value → Shared → Prop}
  {ig dig T0 t : Addr} {z tv ti : Tok} {v j : Int}
  (hA : A.depth < recursionLimit) (hh : A.handled = none) (X : (Two.hd.heap_1 w.params).In base) (T : Top p loose mean mg mb base) (hb : ∀ b o, base.get? b = some o → s.heap.get? b = some o) (hl0 : ∀ b ∈ [ig, dig, T0, t], base.get? b = none)
  (hig : s.heap.get? ig = some (igObj dig T0)) (hdig : s.heap.get? dig = some (dictOf [] 0)) (hT0 : s.heap.get? T0 = some (tup1Obj (.int 0 z))) (ht : s.heap.get? t = some (tupObj (.int v tv) (.int j ti)))
  (h : ∀ h' tk', (∀ b o, s.heap.get? b = some o → h'.get? b = some o) → Q (.int v tv) {s with heap := h', toks := tk'}) :
  wpAny (model PySem.Challenge.rw_kp0009_02.row.prog w) A (call (.ref ig) [.ref t]) Q E s := by
  revert X; w_top off; k_fill; intro X
  have X1 := Frag.In.keeps X (gone_in hb hl0)
  have T1 := Top.keeps T (gone_in hb hl0)
  have Xs := Frag.In.keeps X hb
  refine wpAny_call (kco_code (C := 267) (f := 249) (od := some (dictOf [] 0)) Xs ⟨hig, rfl, by rfl, hdig⟩ rfl (by k_is) (by k_is) (by k_is) ?_)
  dsimp only
  refine enterG (l := [ig, dig, T0, t]) (news := [(ig, igObj dig T0), (dig, dictOf [] 0), (T0, tup1Obj (.int 0 z)), (t, tupObj (.int v tv) (.int j ti))])
    (by simp [hig, hdig, hT0, ht]) Xs (Top.keeps T hb).nolimit (by k_is) (by k_is) hA (by exact BindsTo.of_eq rfl) (locs rfl) ?_ (by decide) rfl rfl rfl
  intro L' h₁ F N
  refine wpAny_mono (E := fun _ _ => False) ?_ (fun _ _ h => h) (fun _ _ h => h.elim)
  dsimp only [igObj, tupObj, tup1Obj] at N ⊢
  k_steps
  (rename Fr _ _ _ _ => F'); (rename News _ _ _ _ => N')
  refine h _ _ (keep_news F'.keep N' ?_)
  intro b hb'
  simp only [List.mem_cons, List.not_mem_nil, or_false] at hb'
  rcases hb' with rfl | rfl | rfl | rfl
  · exact ⟨_, hig, .head _⟩
  · exact ⟨_, hdig, .tail _ (.head _)⟩
  · exact ⟨_, hT0, .tail _ (.tail _ (.head _))⟩
  · exact ⟨_, ht, .tail _ (.tail _ (.tail _ (.head _)))⟩
end Two
end
section
open PySem PySem.W PySem.Calls PyProof.Rows
set_option maxRecDepth 100000
namespace Mine
inductive CompAt (s₂ : Shared) (D C : Addr) (n : Nat) (wr : List Addr) (St : Nat → Heap → Prop) (F : Nat → Value → Heap → Prop) (p : Nat → Bool) (k : Nat) (s' : Shared) : Prop
  | mk (h' : Heap) (tk : Nat) (m' : Str → Option Value) (i : Nat) (ys : List Value) : s' = { s₂ with heap := h', toks := tk } → St i h' → h'.get? D = some (PySem.W.listOf ys.toArray ys.length) → h'.Ns C m' → i ≤ n → k = n + 1 - i → ys.length ≤ i →
      Paired (fun i y => F i y h') ((List.range i).filter p) ys → (∀ b o, b ∉ wr → s₂.heap.get? b = some o → h'.get? b = some o) → CompAt s₂ D C n wr St F p k s'
/-- the heap grows; the one dict at C (a block's names) may turn -/
def KeepC (C : Addr) (s s' : Shared) : Prop :=
  ∃ h' tk, s' = { s with heap := h', toks := tk } ∧ (∀ b o, b ≠ C → s.heap.get? b = some o → h'.get? b = some o) ∧ ∃ m, h'.Ns C m
def testsOf (ifs : List PySem.Expr) (env : Env) : Sem Bool :=
  forIn ifs true fun c r => if r = true then do let ok ← isTrue c env (eval c env); pure (ForInStep.yield ok) else pure (ForInStep.yield r)
section
variable {prog : Program} {w : World} {A : Around} {E : Value → Shared → Prop} {R : Result → Shared → Prop} {s : Shared} {env : Env}
theorem compLoop_go {elt target iter : PySem.Expr} {ifs : List PySem.Expr} {scope : Scope} {pos : Pos} {it acc : Value} {env : Env} (I : Nat → Shared → Prop)
    (turn : ∀ n s, I n s → wpAny (model prog w) A (pyNext it) (fun r s₁ => match r with
      | none => R (.ok .next) s₁
      | some v => wpAny (model prog w) A (letOwnedTupleGo target it v) (fun _ s₁' => wpAny (model prog w) A (assign target env v) (fun _ s₂ =>
          wpAny (model prog w) A (testsOf ifs env) (fun ok s₃ =>
            if ok = true then wpAny (model prog w) A (eval elt env) (fun x s₄ =>
              wpAny (model prog w) A (call (.builtin "list.append") [acc, x]) (fun _ s₅ => ∃ m, m < n ∧ I m s₅) (fun _ _ => False) s₄) (fun _ _ => False) s₃
            else ∃ m, m < n ∧ I m s₃) (fun _ _ => False) s₂) (fun _ _ => False) s₁') (fun _ _ => False) s₁) (fun _ _ => False) s)
    (n : Nat) (h : I n s) :
    codeAny (model prog w) A (.compLoop (.ListComp elt [⟨target, iter, ifs, 0⟩] scope pos) 0 it acc env) R s := by
  have no : ∀ {α : Type} {t : Sem α} {Q : α → Shared → Prop} {E' : Value → Shared → Prop} {s : Shared}, wpAny (model prog w) A t Q (fun _ _ => False) s → wpAny (model prog w) A t Q E' s :=
    fun h => wpAny_mono h (fun _ _ x => x) fun _ _ x => x.elim
  refine codeAny_loop rfl I (fun n s hI => ?_) n h
  show wpAny _ A ((compTurn (.ListComp elt [⟨target, iter, ifs, 0⟩] scope pos) 0 it acc env).onRaise (fun x => do noteFrame x env; theTreesLotGoes x)) _ _ s
  refine wpAny_noted ?_
  rw [compTurn_list]
  refine wpAny_bind (wpAny_standAt (wpAny_bind (wpAny_mono (turn n s hI) (fun r s₁ h₁ => ?_) fun _ _ h' => h'.elim)))
  cases r with
  | none => exact wpAny_pure h₁
  | some v =>
    refine wpAny_bind (wpAny_mono h₁ (fun _ s₁' h₁' => ?_) fun _ _ h' => h'.elim)
    refine wpAny_bind (wpAny_mono h₁' (fun _ s₂ h₂ => wpAny_bind (wpAny_mono (t := testsOf ifs env) h₂ (fun ok s₃ h₃ => ?_) fun _ _ h' => h'.elim)) fun _ _ h' => h'.elim)
    cases ok with
    | false => exact wpAny_pure ⟨rfl, by simpa using h₃⟩
    | true =>
      simp only [if_true] at h₃
      exact wpAny_bind (wpAny_bind (wpAny_mono h₃ (fun x s₄ h₄ => wpAny_bind (wpAny_mono h₄ (fun _ s₅ h₅ => wpAny_pure (wpAny_pure ⟨rfl, h₅⟩)) fun _ _ h' => h'.elim)) fun _ _ h' => h'.elim))

/-- what one turn of the block does -/
def TurnOk (prog : Program) (w : World) (A : Around) (env : Env) (target elt : PySem.Expr) (ifs : List PySem.Expr) (scope : Scope) (cl : List (Str × Addr)) (n : Nat) (wr : List Addr) (P : Nat → Value → Heap → Prop) (p : Nat → Bool)
    (F : (Addr → Prop) → Nat → Value → Heap → Prop) (s₂ : Shared) : Prop :=
  ∀ C (hide : Addr → Prop) i v h tk m, i < n → s₂.heap.objs.size ≤ C → P i v h → h.Ns C m → (∀ b o, b ∉ wr → s₂.heap.get? b = some o → h.get? b = some o) → (∀ b, hide b → h.get? b ≠ none) → hide C →
    wpAny (model prog w) A (assign target (compEnvC scope cl C env) v) (fun _ s₄ => wpAny (model prog w) A (testsOf ifs (compEnvC scope cl C env)) (fun ok s₅ => ok = p i ∧ KeepC C { s₂ with heap := h, toks := tk } s₅ ∧
      (p i = true → wpAny (model prog w) A (eval elt (compEnvC scope cl C env)) (fun y s₆ => KeepC C { s₂ with heap := h, toks := tk } s₆ ∧ F hide i y s₆.heap) (fun _ _ => False) s₅)) (fun _ _ => False) s₄) (fun _ _ => False) { s₂ with heap := h, toks := tk }

theorem comp_block_turns {elt target iter : PySem.Expr} {ifs : List PySem.Expr} {scope : Scope} {cl : List (Str × Addr)} {pos : Pos} {s₂ : Shared} {I : Addr} {fp wr : List Addr} {n : Nat} {P Md : Nat → Value → Heap → Prop}
    {St : Nat → Heap → Prop} (W : KTurns prog w A target I fp wr n P Md St) (hself : ∀ i (s : Shared) (Q : Value → Shared → Prop) (E : Value → Shared → Prop), St i s.heap → Q (.ref I) s → wpAny (model prog w) A (pyIter (.ref I)) Q E s)
    (hlive : ∀ i h, St i h → ∀ b ∈ wr, h.get? b ≠ none) (hsz : n ≤ sizeLine) (p : Nat → Bool) (F : (Addr → Prop) → Nat → Value → Heap → Prop)
    (mon : ∀ hide i y h h', (∀ b o, ¬ hide b → h.get? b = some o → h'.get? b = some o) → F hide i y h → F hide i y h') {RR : Value → Addr → Result → Shared → Prop}
    (hcell : ∀ y ∈ scope.names, y.2 ≠ .cell) (hkind : scope.kind = .function) (hst : St 0 s₂.heap) (hfp : ∀ b ∈ fp, b < s₂.heap.objs.size)
    (turn : TurnOk prog w A env target elt ifs scope cl n wr P p F s₂)
    (hRR : ∀ D C h' tk m' ys, s₂.heap.get? D = none → s₂.heap.get? C = none → D ≠ C → h'.Ns C m' → h'.get? D = some (PySem.W.listOf (List.toArray ys) ys.length) → Paired (fun i y => F (fun b => b = C ∨ b = D ∨ b ∈ wr) i y h') ((List.range n).filter p) ys →
      (∀ b o, b ∉ wr → s₂.heap.get? b = some o → h'.get? b = some o) → RR (.ref D) C (.ok .next) { s₂ with heap := h', toks := tk }) :
    wpAny (model prog w) A (newList []) (fun acc s₃ => wpAny (model prog w) A (newFunctionEnv scope env.globals cl [] env.qual none .none (some env)) (fun cenv s₄ =>
      codeAny (model prog w) A (.compStart (.ListComp elt [⟨target, iter, ifs, 0⟩] scope pos) 0 (.ref I) acc { cenv with scope := relabel scope env }) (RR acc cenv.locals) s₄) E s₃) E s₂ := by
  refine wpAny_newObj_type (wpAny_newFunctionEnv hcell (by intro y hy; simp at hy) (fun h₁ hns₁ hsb₁ => ?_) hkind)
  dsimp only at hns₁ hsb₁ ⊢
  generalize hH2 : s₂.heap.push { cls := .type "list", dict := none, data := .seq ([] : List Value).toArray } = H2 at hns₁ hsb₁ ⊢
  have hC : H2.objs.size = s₂.heap.objs.size + 1 := by rw [← hH2, Heap.size_push]
  have hDC : s₂.heap.objs.size ≠ H2.objs.size := by rw [hC]; exact Nat.ne_of_lt (Nat.lt_succ_self _)
  have hCle : s₂.heap.objs.size ≤ H2.objs.size := by rw [hC]; exact Nat.le_succ _
  have below : ∀ b, b < s₂.heap.objs.size → b ≠ H2.objs.size ∧ b ≠ s₂.heap.objs.size := fun b hb => ⟨by rw [hC]; exact Nat.ne_of_lt (Nat.lt_succ_of_lt hb), Nat.ne_of_lt hb⟩
  have hDf : s₂.heap.objs.size ∉ fp := fun hm => Nat.lt_irrefl _ (hfp _ hm)
  have hCf : H2.objs.size ∉ fp := fun hm => by have := hfp _ hm; rw [hC] at this; exact Nat.lt_irrefl _ (Nat.lt_of_succ_lt this)
  have hDw : s₂.heap.objs.size ∉ wr := fun hm => hDf (W.sub _ hm)
  have hCw : H2.objs.size ∉ wr := fun hm => hCf (W.sub _ hm)
  have old : ∀ b o, s₂.heap.get? b = some o → h₁.get? b = some o := fun b o e => hsb₁.extBut b o (below b (Heap.lt_size e)).1 (Heap.get?_push_of_some _ (hH2 ▸ Heap.get?_push_of_some _ e))
  have hacc : h₁.get? s₂.heap.objs.size = some (PySem.W.listOf (List.toArray []) 0) := hsb₁.extBut _ _ hDC (Heap.get?_push_of_some _ (hH2 ▸ Heap.get?_push_size _ rfl))
  have hst₁ : St 0 h₁ := W.frame _ _ _ hst fun b _ o e => old b o e
  have fresh : ∀ a, s₂.heap.objs.size ≤ a → s₂.heap.get? a = none := fun a ha => by
    cases e : s₂.heap.get? a with
    | none => rfl
    | some o' => exact absurd (Heap.lt_size e) (Nat.not_lt.mpr ha)
  generalize hCd : H2.objs.size = C at *
  generalize hDd : s₂.heap.objs.size = D at *
  let hide : Addr → Prop := fun b => b = C ∨ b = D ∨ b ∈ wr
  have loop : ∀ s₃ : Shared, s₃ = { s₂ with heap := h₁, toks := s₂.toks + ([] : List (Str × Value)).length } →
      codeAny (model prog w) A (.compLoop (.ListComp elt [⟨target, iter, ifs, 0⟩] scope pos) 0 (.ref I) (.ref D) (compEnvC scope cl C env)) (RR (.ref D) C) s₃ := by
    rintro s₃ rfl
    refine compLoop_go (CompAt s₂ D C n wr St (F hide) p) ?_ (n + 1)
      ⟨h₁, _, _, 0, [], rfl, hst₁, hacc, hns₁, Nat.zero_le _, rfl, Nat.le_refl _, .nil, fun b o _ e => old b o e⟩
    rintro k s' ⟨h', tk, m', i, ys, rfl, hst', hD', hn', hi, rfl, hyl, hF, hk⟩
    by_cases hlt : i < n
    · refine W.item i _ _ _ hlt hst' fun v h₂ tk₂ hMd hk₂ => ?_
      refine W.go i v _ _ _ hMd fun h₃ hP hst₃ hk₃ => ?_
      have k3 : ∀ b o, b ∉ wr → h'.get? b = some o → h₃.get? b = some o := fun b o hb e => hk₃ b o hb (hk₂ b o hb e)
      have hn₃ : h₃.Ns C m' := hn'.at' fun o e => k3 _ o hCw e
      have hD₃ : h₃.get? D = some (PySem.W.listOf ys.toArray ys.length) := k3 _ _ hDw hD'
      have hl3 : ∀ b, hide b → h₃.get? b ≠ none := fun b hb => by
        rcases hb with rfl | rfl | hb
        · obtain ⟨o, _, _, ho, _⟩ := hn₃; rw [ho]; exact fun q => (nomatch q)
        · rw [hD₃]; exact fun q => (nomatch q)
        · exact hlive _ _ hst₃ b hb
      refine wpAny_mono (turn C hide i v h₃ tk₂ m' hlt (hDd ▸ hCle) hP hn₃ (fun b o hb e => k3 b o hb (hk b o hb e)) hl3 (.inl rfl)) (fun _ s₄ h₄ => wpAny_mono h₄ (fun ok s₅ h₅ => ?_) fun _ _ x => x) fun _ _ x => x
      obtain ⟨hok, ⟨h5, tk5, rfl, hk5, m5, hn5⟩, helt⟩ := h₅
      have hF3 : Paired (fun i y => F hide i y h5) ((List.range i).filter p) ys := by
        refine Paired.mono (fun a b hy => mon _ _ _ _ _ (fun b o hb e => ?_) hy) hF
        exact hk5 b o (fun q => hb (.inl q)) (k3 b o (fun q => hb (.inr (.inr q))) e)
      have hD5 : h5.get? D = some (PySem.W.listOf ys.toArray ys.length) := hk5 _ _ hDC hD₃
      have hst5 : St (i + 1) h5 := W.frame _ _ _ hst₃ fun b hb o e => hk5 b o (fun q => hCf (q ▸ hb)) e
      have hold5 : ∀ b o, b ∉ wr → s₂.heap.get? b = some o → h5.get? b = some o := fun b o hb e => hk5 b o (below b (hDd ▸ Heap.lt_size e)).1 (k3 b o hb (hk b o hb e))
      subst hok
      cases hp : p i with
      | false =>
        simp only [Bool.false_eq_true, if_false]
        refine ⟨n + 1 - (i + 1), by (clear W hself hlive hsz mon hcell hkind hst turn hRR hH2 old hst₁ hCd hns₁ hsb₁ hCf hCw hDd hfp hDf hDw hacc fresh hC hDC hCle below hst' hD' hn' hi hyl hF hk hMd hk₂ hP hst₃ hk₃ k3 hn₃ hD₃ hl3 h₄ helt hk5 hn5 hF3 hD5 hst5 hold5 hp; omega), h5, tk5, m5, i + 1, ys, rfl, hst5, hD5, hn5, hlt, rfl, by (clear W hself hlive hsz mon hcell hkind hst turn hRR hH2 old hst₁ hCd hns₁ hsb₁ hCf hCw hDd hfp hDf hDw hacc fresh hC hDC hCle below hst' hD' hn' hi hF hk hlt hMd hk₂ hP hst₃ hk₃ k3 hn₃ hD₃ hl3 h₄ helt hk5 hn5 hF3 hD5 hst5 hold5 hp; (exact Nat.le_succ_of_le (by assumption))), ?_, hold5⟩
        rw [List.range_succ, List.filter_append]; simpa [hp] using hF3
      | true =>
        simp only [if_true]
        refine wpAny_mono (helt hp) (fun y s₆ h₆ => ?_) fun _ _ x => x
        obtain ⟨⟨h6, tk6, e6, hk6, m6, hn6⟩, hFy⟩ := h₆
        subst e6
        have hD6 : h6.get? D = some (PySem.W.listOf ys.toArray ys.length) := hk6 _ _ hDC hD₃
        refine append_at (hsz := by show ys.toArray.size ≤ sizeLine; rw [List.size_toArray]; (clear W hself hlive mon hcell hkind hst turn hRR hH2 old hst₁ hCd hns₁ hsb₁ hCf hCw hDd hfp hDf hDw hacc fresh hC hDC hCle below hst' hD' hn' hi hF hk hMd hk₂ hP hst₃ hk₃ k3 hn₃ hD₃ hl3 h₄ helt hk5 hn5 hF3 hD5 hst5 hold5 hp hk6 hn6 hFy hD6; lia)) hD6 fun h7 hs7 hD7 => ?_
        have hst6 : St (i + 1) h6 := W.frame _ _ _ hst₃ fun b hb o e => hk6 b o (fun q => hCf (q ▸ hb)) e
        refine ⟨n + 1 - (i + 1), by (clear W hself hlive hsz mon hcell hkind hst turn hRR hH2 old hst₁ hCd hns₁ hsb₁ hCf hCw hDd hfp hDf hDw hacc fresh hC hDC hCle below hst' hD' hn' hi hyl hF hk hMd hk₂ hP hst₃ hk₃ k3 hn₃ hD₃ hl3 h₄ helt hk5 hn5 hF3 hD5 hst5 hold5 hp hk6 hn6 hFy hD6 hs7 hD7 hst6; omega), h7, tk6, m6, i + 1, ys ++ [y], rfl, W.frame _ _ _ hst6 fun b hb o e => hs7.extBut b o (fun q => hDf (q ▸ hb)) e, ?_, hn6.sameBut hs7 (Ne.symm hDC), hlt, rfl, by simp; (clear W hself hlive hsz mon hcell hkind hst turn hRR hH2 old hst₁ hCd hns₁ hsb₁ hCf hCw hDd hfp hDf hDw hacc fresh hC hDC hCle below hst' hD' hn' hi hF hk hlt hMd hk₂ hP hst₃ hk₃ k3 hn₃ hD₃ hl3 h₄ helt hk5 hn5 hF3 hD5 hst5 hold5 hp hk6 hn6 hFy hD6 hs7 hD7 hst6; (assumption)), ?_, ?_⟩
        · rw [hD7]; simp [PySem.W.listOf]
        · rw [List.range_succ, List.filter_append]
          have m7 : ∀ j z, F hide j z h6 → F hide j z h7 := fun j z hz => mon _ _ _ _ _ (fun b o hb e => hs7.extBut b o (fun q => hb (.inr (.inl q))) e) hz
          have hF6 : Paired (fun i y => F hide i y h7) ((List.range i).filter p) ys := by
            refine Paired.mono (fun a b hy => m7 _ _ (mon _ _ _ _ _ (fun b o hb e => ?_) hy)) hF
            exact hk6 b o (fun q => hb (.inl q)) (k3 b o (fun q => hb (.inr (.inr q))) e)
          simpa [hp] using Paired.snoc hF6 (m7 _ _ hFy)
        · intro b o hb e
          exact hs7.extBut b o (below b (hDd ▸ Heap.lt_size e)).2 (hk6 b o (below b (hDd ▸ Heap.lt_size e)).1 (k3 b o hb (hk b o hb e)))
    · obtain rfl : i = n := by (clear W hself hlive hsz mon hcell hkind hst turn hRR hH2 old hst₁ hCd hns₁ hsb₁ hCf hCw hDd hfp hDf hDw hacc fresh hC hDC hCle below hst' hD' hn' hyl hF hk; lia)
      refine W.done _ _ _ hst' fun h₂ tk₂ hk₂ => ?_
      refine hRR D C h₂ tk₂ m' ys (fresh _ (Nat.le_refl _)) (fresh _ hCle) hDC (hn'.at' fun o e => hk₂ _ o hCw e) (hk₂ _ _ hDw hD') (Paired.mono (fun a b hy => mon _ _ _ _ _ (fun b o hb e => ?_) hy) hF) fun b o hb e => hk₂ b o hb (hk b o hb e)
      exact hk₂ b o (fun q => hb (.inr (.inr q))) e
  exact codeAny_compStart_list (loop _ rfl) (hself 0 _ _ _ hst₁ (loop _ rfl))
end
end Mine
end
section
open PySem PySem.W PySem.Calls PyProof.Rows
set_option maxRecDepth 100000
namespace Mine
theorem paired_range' {its : List Value} {Fv : Value → Value → Prop} : ∀ (l : List Value) (k : Nat) (ys : List Value), (∀ i : Nat, l[i]? = its[k + i]?) →
    Paired (fun i y => ∃ v, its[i]? = some v ∧ Fv v y) (List.range' k l.length) ys → Paired Fv l ys
  | [], _, _, _, h => by cases h; exact .nil
  | a :: l, k, _, e, h => by
    rw [List.length_cons, List.range'_succ] at h
    cases h with
    | cons hv ht =>
      obtain ⟨v, hv, hf⟩ := hv
      have := e 0
      rw [Nat.add_zero, hv] at this
      cases (Option.some.inj this : a = v)
      exact .cons hf (paired_range' l (k + 1) _ (fun i => by have := e (i + 1); rw [List.getElem?_cons_succ] at this; rw [this, Nat.add_assoc, Nat.add_comm 1 i]) ht)
theorem paired_range {its : List Value} {Fv : Value → Value → Prop} {ys : List Value} (h : Paired (fun i y => ∃ v, its[i]? = some v ∧ Fv v y) (List.range its.length) ys) : Paired Fv its ys :=
  paired_range' its 0 ys (fun i => by rw [Nat.zero_add]) (by rw [← List.range_eq_range']; exact h)
section
variable {prog : Program} {w : World} {A : Around} {E : Value → Shared → Prop} {s : Shared} {env : Env} {h₀ : Heap} {L : Addr} {m : Str → Option Value} {news : List (Addr × Obj)}
/-- an element's evaluation: the block's dict C binds x to v -/
def ElOk (prog : Program) (w : World) (A : Around) (env : Env) (elt : PySem.Expr) (scope : Scope) (cl : List (Str × Addr)) (x : Str) (s₁ : Shared) (v : Value) (Fv : Value → Prop) : Prop :=
  ∀ C h tk m', h.Ns C m' → m' x = some v → (∀ b o, s₁.heap.get? b = some o → h.get? b = some o) →
    wpAny (model prog w) A (eval elt (compEnvC scope cl C env)) (fun y s₆ => (∃ h6 tk6, s₆ = { s₁ with heap := h6, toks := tk6 } ∧ ∀ b o, h.get? b = some o → h6.get? b = some o) ∧ Fv y) (fun _ _ => False) { s₁ with heap := h, toks := tk }

theorem turnOk_name {elt : PySem.Expr} {x : Str} {px : Pos} {scope : Scope} {cl : List (Str × Addr)} {its : Array Value} {wr : List Addr} {Fv : Value → Value → Prop} {s₁ s₂ : Shared} (hkind : scope.kind = .function) (hx : scope.names.lookup x = some .local)
    (hs : ∃ h tk, s₂ = { s₁ with heap := h, toks := tk }) (hk : ∀ b o, s₁.heap.get? b = some o → b ∉ wr ∧ s₂.heap.get? b = some o) (he : ∀ (i : Nat) v, its[i]? = some v → ElOk prog w A env elt scope cl x s₁ v (Fv v)) :
    TurnOk prog w A env (.Name x px) elt [] scope cl its.size wr (fun i v _ => its[i]? = some v) (fun _ => true) (fun _ i y _ => ∃ v, its.toList[i]? = some v ∧ Fv v y) s₂ := by
  obtain ⟨h2, tk2, rfl⟩ := hs
  intro C hide i v h tk m' hi hC hv hn hkeep hlive hh
  refine wpAny_assign_Name (wpAny_storeName_local (lookup_relabel_local hx) hn (fun h' hn' hs' => ?_) (by simp [compEnvC, relabel, hkind]))
  refine wpAny_tests_nil ⟨rfl, ⟨h', _, rfl, fun b o hb e => (hs'.2 b hb).trans e, _, hn'⟩, fun _ => ?_⟩
  have hCs : ∀ b o, s₁.heap.get? b = some o → b ≠ C := fun b o e q => by
    have := Heap.lt_size (hk b o e).2
    rw [q] at this
    exact absurd this (Nat.not_lt.mpr hC)
  have k1 : ∀ b o, s₁.heap.get? b = some o → h'.get? b = some o := fun b o e => (hs'.2 b (hCs b o e)).trans (hkeep b o (hk b o e).1 (hk b o e).2)
  refine wpAny_mono (he i v hv C h' (tk + 1) _ hn' (by simp) k1) (fun y s₆ h6 => ?_) fun _ _ q => q
  obtain ⟨⟨h6, tk6, rfl, hk6⟩, hF⟩ := h6
  refine ⟨⟨h6, tk6, rfl, fun b o hb e => hk6 b o ((hs'.2 b hb).trans e), _, hn'.keeps hk6⟩, v, by simpa using hv, hF⟩

theorem block_list {elt iter : PySem.Expr} {x : Str} {px : Pos} {scope : Scope} {cl : List (Str × Addr)} {pos : Pos} {s₁ : Shared} {ax : Addr} {its : Array Value} {Fv : Value → Value → Prop} {RR : Value → Addr → Result → Shared → Prop}
    (hA : A.handled = none) (hcell : ∀ y ∈ scope.names, y.2 ≠ .cell) (hkind : scope.kind = .function) (hx : scope.names.lookup x = some .local) (hl : s₁.heap.IsList ax its) (hsz : its.size ≤ sizeLine)
    (he : ∀ (i : Nat) v, its[i]? = some v → ElOk prog w A env elt scope cl x s₁ v (Fv v))
    (hRR : ∀ D C h' tk m' ys, s₁.heap.get? D = none → s₁.heap.get? C = none → D ≠ C → h'.Ns C m' → h'.get? D = some (listOf (List.toArray ys) ys.length) → Paired Fv its.toList ys →
      (∀ b o, s₁.heap.get? b = some o → h'.get? b = some o) → RR (.ref D) C (.ok .next) { s₁ with heap := h', toks := tk }) :
    wpAny (model prog w) A (pyIter (.ref ax)) (fun it s₂ => wpAny (model prog w) A (newList []) (fun acc s₃ => wpAny (model prog w) A (newFunctionEnv scope env.globals cl [] env.qual none .none (some env)) (fun cenv s₄ =>
      codeAny (model prog w) A (.compStart (.ListComp elt [⟨.Name x px, iter, [], 0⟩] scope pos) 0 it acc { cenv with scope := relabel scope env }) (RR acc cenv.locals) s₄) E s₃) E s₂) E s₁ := by
  have hlt : ax < s₁.heap.objs.size := by obtain ⟨_, e, _⟩ := hl; exact Heap.lt_size e
  refine wpAny_pyIter_list hl ?_
  have up : ∀ b o, s₁.heap.get? b = some o → (s₁.heap.push { cls := .type "list_iterator", data := .fields #[.ref ax, .int 0 0] }).get? b = some o := fun b o e => Heap.get?_push_of_some _ e
  have W := Walks.list (prog := prog) (w := w) (A := A) hA s₁.heap.objs.size ax (Nat.ne_of_lt hlt) its
  refine comp_block_turns (KTurns.ofWalks (target := .Name x px) W (fun i v s Q E _ hq => wpAny_of_eq (show letOwnedTupleGo (.Name x px) _ v = pure () from rfl) hq)) W.self ?_ hsz (fun _ => true) (fun _ i y _ => ∃ v, its.toList[i]? = some v ∧ Fv v y) (fun _ _ _ _ _ _ h => h) hcell hkind
    ⟨⟨_, Heap.get?_push_size _ rfl, rfl, rfl⟩, hl.push _⟩ (fun b hb => ?_) (turnOk_name hkind hx ⟨_, _, rfl⟩ (fun b o e => ⟨?_, up b o e⟩) he) ?_
  · rintro i h ⟨⟨_, e1, _⟩, _⟩ b hb
    rw [List.mem_singleton.mp hb, e1]; exact fun q => (nomatch q)
  · show b < (s₁.heap.push _).objs.size
    rw [Heap.size_push]
    rcases List.mem_cons.mp hb with rfl | hb
    · exact Nat.lt_succ_self _
    · rw [List.mem_singleton.mp hb]; exact Nat.lt_succ_of_lt hlt
  · intro q
    rw [List.mem_singleton.mp q] at e
    exact absurd (Heap.lt_size e) (Nat.lt_irrefl _)
  · intro D C h' tk m' ys hD hC hDC hn hl' hp hk
    have none_of : ∀ c, (s₁.heap.push { cls := .type "list_iterator", data := .fields #[.ref ax, .int 0 0] }).get? c = none → s₁.heap.get? c = none := fun c e => by
      cases q : s₁.heap.get? c with
      | none => rfl
      | some o => rw [up c o q] at e; cases e
    refine hRR D C h' tk m' ys (none_of _ hD) (none_of _ hC) hDC hn hl' ?_ fun b o e => hk b o (fun q => ?_) (up b o e)
    · refine paired_range ?_
      rw [List.filter_eq_self.mpr (fun _ _ => rfl)] at hp
      simpa using hp
    · rw [List.mem_singleton.mp q] at e
      exact absurd (Heap.lt_size e) (Nat.lt_irrefl _)

theorem Fr.grow {h h' : Heap} (F : Fr h₀ L h m) (k : ∀ b o, h.get? b = some o → h'.get? b = some o) : Fr h₀ L h' m := F.keeps k
theorem News.grow {h h' : Heap} (N : News h₀ L h news) (k : ∀ b o, h.get? b = some o → h'.get? b = some o) : News h₀ L h' news := N.grown k
theorem News.new {h h' : Heap} {D : Addr} {o : Obj} (F : Fr h₀ L h m) (N : News h₀ L h' news) (hD : h'.get? D = some o) (hn : h.get? D = none) : News h₀ L h' ((D, o) :: news) := fun p hp => by
  rcases List.mem_cons.mp hp with rfl | hp
  · refine ⟨hD, fun q => ?_, ?_⟩
    · obtain ⟨oL, _, _, hL, _⟩ := F.ns
      have : h.get? D = some oL := by rw [show D = L from q]; exact hL
      rw [hn] at this; cases this
    · cases q : h₀.get? D with
      | none => rfl
      | some o' => rw [F.keep D o' q] at hn; cases hn
  · exact N p hp

/-- [elt for x in ITER] as a value -/
theorem ListComp_list {elt iter : PySem.Expr} {x : Str} {px : Pos} {scope : Scope} {cl : List (Str × Addr)} {pos : Pos} {Q : Value → Shared → Prop} {Fv : Value → Value → Prop} (hA : A.handled = none)
    (hclos : closureFor scope env = pure cl) (hcell : ∀ y ∈ scope.names, y.2 ≠ .cell) (hkind : scope.kind = .function)
    (hnames : ∀ y ∈ scope.names, y.2 = .local → scope.names.lookup y.1 = some .local) (hx : scope.names.lookup x = some .local)
    (h : wpAny (model prog w) A (eval iter env) (fun xv s₁ => ∃ ax its m' news', xv = .ref ax ∧ Fr h₀ L s₁.heap m' ∧ News h₀ L s₁.heap news' ∧ s₁.heap.IsList ax its ∧ its.size ≤ sizeLine ∧ (∀ (i : Nat) v, its[i]? = some v → ElOk prog w A env elt scope cl x s₁ v (Fv v)) ∧
      ∀ D h' tk ys, Fr h₀ L h' m' → News h₀ L h' ((D, listOf (List.toArray ys) ys.length) :: news') → Paired Fv its.toList ys → Q (.ref D) { s₁ with heap := h', toks := tk }) E s)
    (hs : ∀ x, foldedSetIterable iter env x = pure x := by intro _; rfl) :
    wpAny (model prog w) A (eval (.ListComp elt [⟨.Name x px, iter, [], 0⟩] scope pos) env) Q E s := by
  rw [eval_ListComp]
  refine wpAny_comprehension_free (use := none) rfl hs hclos hkind hnames (wpAny_mono h (fun xv s₁ h₁ => ?_) fun _ _ e => e)
  obtain ⟨ax, its, m', news', rfl, F, N, hl, hsz, he, hQ⟩ := h₁
  refine block_list (RR := fun acc C => compPost (model prog w) A E none Q acc C) hA hcell hkind hx hl hsz he ?_
  intro D C h' tk m'' ys hD hC hDC hn hl' hp hk
  refine ⟨m'', hn, fun h'' hs'' => ?_⟩
  have k2 : ∀ b o, s₁.heap.get? b = some o → h''.get? b = some o := fun b o e => (hs''.2 b (by rintro rfl; rw [hC] at e; cases e)).trans (hk b o e)
  exact hQ D h'' tk ys (F.keeps k2) (News.new F (N.grown k2) ((hs''.2 D hDC).trans hl') hD) hp

end
end Mine
end
section
open PySem PySem.W PySem.Calls PyProof.Rows
set_option maxRecDepth 100000
namespace Mine
section
variable {prog : Program} {w : World} {A : Around} {E : Value → Shared → Prop} {s : Shared} {env : Env} {h₀ : Heap} {L : Addr} {m : Str → Option Value} {news : List (Addr × Obj)}
/-- the tests of a filter at the item v give b -/
def TestOk (prog : Program) (w : World) (A : Around) (env : Env) (ifs : List PySem.Expr) (scope : Scope) (cl : List (Str × Addr)) (x : Str) (s₁ : Shared) (v : Value) (b : Bool) : Prop :=
  ∀ C h tk m', h.Ns C m' → m' x = some v → (∀ b o, s₁.heap.get? b = some o → h.get? b = some o) →
    wpAny (model prog w) A (testsOf ifs (compEnvC scope cl C env)) (fun ok s₆ => ok = b ∧ ∃ h6 tk6, s₆ = { s₁ with heap := h6, toks := tk6 } ∧ ∀ b o, h.get? b = some o → h6.get? b = some o) (fun _ _ => False) { s₁ with heap := h, toks := tk }

theorem turnOk_filter {x : Str} {px pe : Pos} {ifs : List PySem.Expr} {scope : Scope} {cl : List (Str × Addr)} {its : Array Value} {wr : List Addr} {p : Nat → Bool} {s₁ s₂ : Shared} (hkind : scope.kind = .function) (hx : scope.names.lookup x = some .local) (dx : (x == ("__debug__" : Str)) = false)
    (hs : ∃ h tk, s₂ = { s₁ with heap := h, toks := tk }) (hk : ∀ b o, s₁.heap.get? b = some o → b ∉ wr ∧ s₂.heap.get? b = some o) (he : ∀ (i : Nat) v, its[i]? = some v → TestOk prog w A env ifs scope cl x s₁ v (p i)) :
    TurnOk prog w A env (.Name x px) (.Name x pe) ifs scope cl its.size wr (fun i v _ => its[i]? = some v) p (fun _ i y _ => its.toList[i]? = some y) s₂ := by
  obtain ⟨h2, tk2, rfl⟩ := hs
  intro C hide i v h tk m' hi hC hv hn hkeep hlive hh
  refine wpAny_assign_Name (wpAny_storeName_local (lookup_relabel_local hx) hn (fun h' hn' hs' => ?_) (by simp [compEnvC, relabel, hkind]))
  have hCs : ∀ b o, s₁.heap.get? b = some o → b ≠ C := fun b o e q => by
    have := Heap.lt_size (hk b o e).2
    rw [q] at this
    exact absurd this (Nat.not_lt.mpr hC)
  have k1 : ∀ b o, s₁.heap.get? b = some o → h'.get? b = some o := fun b o e => (hs'.2 b (hCs b o e)).trans (hkeep b o (hk b o e).1 (hk b o e).2)
  refine wpAny_mono (he i v hv C h' (tk + 1) _ hn' (by simp) k1) (fun ok s₅ h5 => ?_) fun _ _ q => q
  obtain ⟨rfl, h5, tk5, rfl, hk5⟩ := h5
  refine ⟨rfl, ⟨h5, tk5, rfl, fun b o hb e => hk5 b o ((hs'.2 b hb).trans e), _, hn'.keeps hk5⟩, fun _ => ?_⟩
  refine wpAny_Name (wpAny_loadName_local hkind (lookup_relabel_local hx) (hn'.keeps hk5) (v := v) (if_pos rfl) ?_) dx
  exact ⟨⟨h5, tk5, rfl, fun b o hb e => hk5 b o ((hs'.2 b hb).trans e), _, hn'.keeps hk5⟩, by simpa using hv⟩

theorem block_filter {iter : PySem.Expr} {x : Str} {px pe : Pos} {ifs : List PySem.Expr} {scope : Scope} {cl : List (Str × Addr)} {pos : Pos} {s₁ : Shared} {ax : Addr} {its : Array Value} {p : Nat → Bool} {RR : Value → Addr → Result → Shared → Prop}
    (hA : A.handled = none) (hcell : ∀ y ∈ scope.names, y.2 ≠ .cell) (hkind : scope.kind = .function) (hx : scope.names.lookup x = some .local) (dx : (x == ("__debug__" : Str)) = false) (hl : s₁.heap.IsList ax its) (hsz : its.size ≤ sizeLine)
    (he : ∀ (i : Nat) v, its[i]? = some v → TestOk prog w A env ifs scope cl x s₁ v (p i))
    (hRR : ∀ D C h' tk m' ys, s₁.heap.get? D = none → s₁.heap.get? C = none → D ≠ C → h'.Ns C m' → h'.get? D = some (listOf (List.toArray ys) ys.length) → Paired (fun i y => its.toList[i]? = some y) ((List.range its.size).filter p) ys →
      (∀ b o, s₁.heap.get? b = some o → h'.get? b = some o) → RR (.ref D) C (.ok .next) { s₁ with heap := h', toks := tk }) :
    wpAny (model prog w) A (pyIter (.ref ax)) (fun it s₂ => wpAny (model prog w) A (newList []) (fun acc s₃ => wpAny (model prog w) A (newFunctionEnv scope env.globals cl [] env.qual none .none (some env)) (fun cenv s₄ =>
      codeAny (model prog w) A (.compStart (.ListComp (.Name x pe) [⟨.Name x px, iter, ifs, 0⟩] scope pos) 0 it acc { cenv with scope := relabel scope env }) (RR acc cenv.locals) s₄) E s₃) E s₂) E s₁ := by
  have hlt : ax < s₁.heap.objs.size := by obtain ⟨_, e, _⟩ := hl; exact Heap.lt_size e
  refine wpAny_pyIter_list hl ?_
  have up : ∀ b o, s₁.heap.get? b = some o → (s₁.heap.push { cls := .type "list_iterator", data := .fields #[.ref ax, .int 0 0] }).get? b = some o := fun b o e => Heap.get?_push_of_some _ e
  have W := Walks.list (prog := prog) (w := w) (A := A) hA s₁.heap.objs.size ax (Nat.ne_of_lt hlt) its
  refine comp_block_turns (KTurns.ofWalks (target := .Name x px) W (fun i v s Q E _ hq => wpAny_of_eq (show letOwnedTupleGo (.Name x px) _ v = pure () from rfl) hq)) W.self ?_ hsz p (fun _ i y _ => its.toList[i]? = some y) (fun _ _ _ _ _ _ h => h) hcell hkind
    ⟨⟨_, Heap.get?_push_size _ rfl, rfl, rfl⟩, hl.push _⟩ (fun b hb => ?_) (turnOk_filter hkind hx dx ⟨_, _, rfl⟩ (fun b o e => ⟨?_, up b o e⟩) he) ?_
  · rintro i h ⟨⟨_, e1, _⟩, _⟩ b hb
    rw [List.mem_singleton.mp hb, e1]; exact fun q => (nomatch q)
  · show b < (s₁.heap.push _).objs.size
    rw [Heap.size_push]
    rcases List.mem_cons.mp hb with rfl | hb
    · exact Nat.lt_succ_self _
    · rw [List.mem_singleton.mp hb]; exact Nat.lt_succ_of_lt hlt
  · intro q
    rw [List.mem_singleton.mp q] at e
    exact absurd (Heap.lt_size e) (Nat.lt_irrefl _)
  · intro D C h' tk m' ys hD hC hDC hn hl' hp hk
    have none_of : ∀ c, (s₁.heap.push { cls := .type "list_iterator", data := .fields #[.ref ax, .int 0 0] }).get? c = none → s₁.heap.get? c = none := fun c e => by
      cases q : s₁.heap.get? c with
      | none => rfl
      | some o => rw [up c o q] at e; cases e
    refine hRR D C h' tk m' ys (none_of _ hD) (none_of _ hC) hDC hn hl' hp fun b o e => hk b o (fun q => ?_) (up b o e)
    rw [List.mem_singleton.mp q] at e
    exact absurd (Heap.lt_size e) (Nat.lt_irrefl _)

end
end Mine
end
section
open PySem PySem.W PySem.Calls PyProof.Rows
set_option maxRecDepth 100000
namespace Mine
inductive CellAt (s₂ : Shared) (D C c : Addr) (n : Nat) (wr : List Addr) (St : Nat → Heap → Prop) (F : Nat → Value → Prop) (k : Nat) (s' : Shared) : Prop
  | mk (h' : Heap) (tk : Nat) (m' : Str → Option Value) (v0 : Option Value) (i : Nat) (ys : List Value) : s' = { s₂ with heap := h', toks := tk } → St i h' → h'.get? D = some (PySem.W.listOf ys.toArray ys.length) → h'.Ns C m' → h'.IsCell c v0 → i ≤ n → k = n + 1 - i → ys.length ≤ i →
      Paired F (List.range i) ys → (∀ b o, b ∉ wr → s₂.heap.get? b = some o → h'.get? b = some o) → CellAt s₂ D C c n wr St F k s'
section
variable {prog : Program} {w : World} {A : Around} {E : Value → Shared → Prop} {s : Shared} {env : Env}
/-- a block whose one variable is a cell -/
theorem newEnv_cell {scope : Scope} {globals : Addr} {cl : List (Str × Addr)} {qual : Str} {x : Str} {Q : Env → Shared → Prop} (hcf : ∀ a, cellsFrom a scope.names cl = (x, a) :: cl) (hpc : ∀ h, pushCells h scope.names = h.push { cls := .type "cell", data := .cell none })
    (hQ : ∀ h', h'.Ns s.heap.objs.size (fun _ => none) → h'.IsCell (s.heap.objs.size + 1) none → (∀ b o, s.heap.get? b = some o → h'.get? b = some o) →
      Q { scope := scope, locals := s.heap.objs.size, globals := globals, cells := (x, s.heap.objs.size + 1) :: cl, qual := qual, func := none, code := env.code, frame := env.frame, builtins := env.builtins } { s with heap := h' }) :
    wpAny (model prog w) A (newFunctionEnv scope globals cl [] qual none .none (some env)) Q E s := by
  simp only [newFunctionEnv, Option.isSome_some, if_true]
  refine wpAny_bind (wpAny_alloc ?_)
  refine wpAny_bind (wpAny_layCells _ (fun name kind cells => by cases hkc : kind == NameKind.cell <;> simp [hkc]) _ _ _ _ ?_)
  rw [show ({ s with heap := s.heap.push { cls := .type "dict", data := .dict #[] } } : Shared).heap.objs.size = s.heap.objs.size + 1 from Heap.size_push .., hcf, hpc]
  rw [List.forIn_nil]
  refine wpAny_bind (wpAny_pure (wpAny_pure ?_))
  refine hQ _ ?_ ?_ ?_
  · exact (Heap.Ns.new s.heap (.type "dict")).keeps fun b o e => Heap.get?_push_of_some _ e
  · have e := Heap.get?_push_size (h := s.heap.push { cls := .type "dict", data := .dict #[] }) (o := { cls := .type "cell", data := .cell none }) rfl
    rw [Heap.size_push] at e
    exact ⟨_, e, rfl⟩
  · exact fun b o e => Heap.get?_push_of_some _ (Heap.get?_push_of_some _ e)

theorem comp_block_cell {elt iter : PySem.Expr} {x : Str} {px : Pos} {scope : Scope} {cl : List (Str × Addr)} {pos : Pos} {s₂ : Shared} {I : Addr} {fp wr : List Addr} {n : Nat} {P Md : Nat → Value → Heap → Prop}
    {St : Nat → Heap → Prop} (W : KTurns prog w A (.Name x px) I fp wr n P Md St) (hself : ∀ i (s : Shared) (Q : Value → Shared → Prop) (E : Value → Shared → Prop), St i s.heap → Q (.ref I) s → wpAny (model prog w) A (pyIter (.ref I)) Q E s)
    (hsz : n ≤ sizeLine) (F : Nat → Value → Prop) {RR : Value → Addr → Result → Shared → Prop}
    (hcf : ∀ a, cellsFrom a scope.names cl = (x, a) :: cl) (hpc : ∀ h, pushCells h scope.names = h.push { cls := .type "cell", data := .cell none })
    (hkind : scope.kind = .function) (hxc : ∀ cl' C, (compEnvC scope cl' C env).kindOf x = some .cell) (hst : St 0 s₂.heap) (hfp : ∀ b ∈ fp, b < s₂.heap.objs.size)
    (turn : ∀ C c i v h tk m, i < n → s₂.heap.get? c = none → (∃ h0, P i v h0) → h.IsCell c (some v) → h.Ns C m → (∀ b o, b ∉ wr → s₂.heap.get? b = some o → h.get? b = some o) →
      wpAny (model prog w) A (eval elt (compEnvC scope ((x, c) :: cl) C env)) (fun y s₆ => (∃ h6 tk6, s₆ = { s₂ with heap := h6, toks := tk6 } ∧ ∀ b o, h.get? b = some o → h6.get? b = some o) ∧ F i y) (fun _ _ => False) { s₂ with heap := h, toks := tk })
    (hRR : ∀ D C h' tk m' ys, s₂.heap.get? D = none → s₂.heap.get? C = none → D ≠ C → h'.Ns C m' → h'.get? D = some (PySem.W.listOf (List.toArray ys) ys.length) → Paired F (List.range n) ys →
      (∀ b o, b ∉ wr → s₂.heap.get? b = some o → h'.get? b = some o) → RR (.ref D) C (.ok .next) { s₂ with heap := h', toks := tk }) :
    wpAny (model prog w) A (newList []) (fun acc s₃ => wpAny (model prog w) A (newFunctionEnv scope env.globals cl [] env.qual none .none (some env)) (fun cenv s₄ =>
      codeAny (model prog w) A (.compStart (.ListComp elt [⟨.Name x px, iter, [], 0⟩] scope pos) 0 (.ref I) acc { cenv with scope := relabel scope env }) (RR acc cenv.locals) s₄) E s₃) E s₂ := by
  refine wpAny_newObj_type (newEnv_cell hcf hpc fun h₁ hns₁ hcel₁ hk₁ => ?_)
  dsimp only at hns₁ hcel₁ hk₁ ⊢
  generalize hH2 : s₂.heap.push { cls := .type "list", dict := none, data := .seq ([] : List Value).toArray } = H2 at hns₁ hcel₁ hk₁ ⊢
  have hC : H2.objs.size = s₂.heap.objs.size + 1 := by rw [← hH2, Heap.size_push]
  have hDC : s₂.heap.objs.size ≠ H2.objs.size := by rw [hC]; exact Nat.ne_of_lt (Nat.lt_succ_self _)
  have hCle : s₂.heap.objs.size ≤ H2.objs.size := by rw [hC]; exact Nat.le_succ _
  have below : ∀ b, b < s₂.heap.objs.size → b ≠ H2.objs.size ∧ b ≠ s₂.heap.objs.size ∧ b ≠ H2.objs.size + 1 := fun b hb => ⟨by rw [hC]; (clear W hself hsz hcf hpc hkind hxc hst hfp turn hRR hH2 hns₁ hcel₁ hk₁ hC hDC hCle; lia), Nat.ne_of_lt hb, by rw [hC]; (clear W hself hsz hcf hpc hkind hxc hst hfp turn hRR hH2 hns₁ hcel₁ hk₁ hC hDC hCle; lia)⟩
  have hDf : s₂.heap.objs.size ∉ fp := fun hm => Nat.lt_irrefl _ (hfp _ hm)
  have hCf : H2.objs.size ∉ fp := fun hm => by have := hfp _ hm; rw [hC] at this; exact Nat.lt_irrefl _ (Nat.lt_of_succ_lt this)
  have hcf' : H2.objs.size + 1 ∉ fp := fun hm => by have := hfp _ hm; rw [hC] at this; exact Nat.lt_irrefl _ (Nat.lt_of_succ_lt (Nat.lt_of_succ_lt this))
  have hDw : s₂.heap.objs.size ∉ wr := fun hm => hDf (W.sub _ hm)
  have hCw : H2.objs.size ∉ wr := fun hm => hCf (W.sub _ hm)
  have hcw : H2.objs.size + 1 ∉ wr := fun hm => hcf' (W.sub _ hm)
  have hDc : s₂.heap.objs.size ≠ H2.objs.size + 1 := by rw [hC]; (clear W hself hsz hcf hpc hkind hxc hst hfp turn hRR hH2 hns₁ hcel₁ hk₁ hC hDC hCle below hDf hCf hcf' hDw hCw hcw; lia)
  have hCc : H2.objs.size ≠ H2.objs.size + 1 := by (clear W hself hsz hcf hpc hkind hxc hst hfp turn hRR hH2 hns₁ hcel₁ hk₁ hC hDC hCle below hDf hCf hcf' hDw hCw hcw hDc; lia)
  have old : ∀ b o, s₂.heap.get? b = some o → h₁.get? b = some o := fun b o e => hk₁ b o (hH2 ▸ Heap.get?_push_of_some _ e)
  have hacc : h₁.get? s₂.heap.objs.size = some (PySem.W.listOf (List.toArray []) 0) := hk₁ _ _ (hH2 ▸ Heap.get?_push_size _ rfl)
  have hst₁ : St 0 h₁ := W.frame _ _ _ hst fun b _ o e => old b o e
  have fresh : ∀ a, s₂.heap.objs.size ≤ a → s₂.heap.get? a = none := fun a ha => by
    cases e : s₂.heap.get? a with
    | none => rfl
    | some o' => exact absurd (Heap.lt_size e) (Nat.not_lt.mpr ha)
  have hfc : s₂.heap.get? (H2.objs.size + 1) = none := fresh _ (Nat.le_succ_of_le hCle)
  generalize hcd : H2.objs.size + 1 = c at *
  generalize hCd : H2.objs.size = C at *
  generalize hDd : s₂.heap.objs.size = D at *
  have loop : ∀ s₃ : Shared, s₃ = { s₂ with heap := h₁ } →
      codeAny (model prog w) A (.compLoop (.ListComp elt [⟨.Name x px, iter, [], 0⟩] scope pos) 0 (.ref I) (.ref D) (compEnvC scope ((x, c) :: cl) C env)) (RR (.ref D) C) s₃ := by
    rintro s₃ rfl
    refine compLoop_go (CellAt s₂ D C c n wr St F) ?_ (n + 1)
      ⟨h₁, _, _, _, 0, [], rfl, hst₁, hacc, hns₁, hcel₁, Nat.zero_le _, rfl, Nat.le_refl _, .nil, fun b o _ e => old b o e⟩
    rintro k s' ⟨h', tk, m', v0, i, ys, rfl, hst', hD', hn', hc', hi, rfl, hyl, hF, hk⟩
    by_cases hlt : i < n
    · refine W.item i _ _ _ hlt hst' fun v h₂ tk₂ hMd hk₂ => ?_
      refine W.go i v _ _ _ hMd fun h₃ hP hst₃ hk₃ => ?_
      have k3 : ∀ b o, b ∉ wr → h'.get? b = some o → h₃.get? b = some o := fun b o hb e => hk₃ b o hb (hk₂ b o hb e)
      have hn₃ : h₃.Ns C m' := hn'.at' fun o e => k3 _ o hCw e
      have hD₃ : h₃.get? D = some (PySem.W.listOf ys.toArray ys.length) := k3 _ _ hDw hD'
      have hc₃ : h₃.IsCell c v0 := by obtain ⟨oc, q1, q2⟩ := hc'; exact ⟨oc, k3 _ _ hcw q1, q2⟩
      refine wpAny_assign_Name (wpAny_storeName_cell (c := c) hkind (hxc _ _) (by show List.lookup x ((x, c) :: cl) = some c; simp) hc₃ fun h₄ hc₄ hs₄ => ?_)
      refine wpAny_tests_nil ?_
      simp only [if_true]
      have hn₄ : h₄.Ns C m' := hn₃.sameBut hs₄ hCc
      have hD₄ : h₄.get? D = some (PySem.W.listOf ys.toArray ys.length) := (hs₄.2 D hDc).trans hD₃
      have hst₄ : St (i + 1) h₄ := W.frame _ _ _ hst₃ fun b hb o e => (hs₄.2 b (fun q => hcf' (q ▸ hb))).trans e
      have hold₄ : ∀ b o, b ∉ wr → s₂.heap.get? b = some o → h₄.get? b = some o := fun b o hb e => (hs₄.2 b (below b (hDd ▸ Heap.lt_size e)).2.2).trans (k3 b o hb (hk b o hb e))
      refine wpAny_mono (turn C c i v h₄ tk₂ m' hlt hfc ⟨_, hP⟩ hc₄ hn₄ hold₄) (fun y s₆ h₆ => ?_) fun _ _ x => x
      obtain ⟨⟨h6, tk6, rfl, hk6⟩, hFy⟩ := h₆
      refine append_at (hsz := by show ys.toArray.size ≤ sizeLine; rw [List.size_toArray]; (clear W hself hcf hpc hkind hxc hst turn hRR hH2 hk₁ old hst₁ hcel₁ hcf' hcw hfc hCd hns₁ hCf hCw hcd hCc hDd hfp hDf hDw hacc fresh hDc hC hDC hCle below hst' hD' hn' hc' hi hF hk hMd hk₂ hP hst₃ hk₃ k3 hn₃ hD₃ hc₃ hc₄ hs₄ hn₄ hD₄ hst₄ hold₄ hFy hk6; lia)) (hk6 _ _ hD₄) fun h7 hs7 hD7 => ?_
      have hst6 : St (i + 1) h6 := W.frame _ _ _ hst₄ fun b hb o e => hk6 b o e
      refine ⟨n + 1 - (i + 1), by (clear W hself hsz hcf hpc hkind hxc hst turn hRR hH2 hk₁ old hst₁ hcel₁ hcf' hcw hfc hCd hns₁ hCf hCw hcd hCc hDd hfp hDf hDw hacc fresh hDc hC hDC hCle below hst' hD' hn' hc' hi hyl hF hk hMd hk₂ hP hst₃ hk₃ k3 hn₃ hD₃ hc₃ hc₄ hs₄ hn₄ hD₄ hst₄ hold₄ hFy hk6 hs7 hD7 hst6; omega), h7, tk6, m', some v, i + 1, ys ++ [y], rfl, W.frame _ _ _ hst6 fun b hb o e => hs7.extBut b o (fun q => hDf (q ▸ hb)) e, ?_, (hn₄.keeps hk6).sameBut hs7 (Ne.symm hDC), ?_, hlt, rfl, by simp; (clear W hself hsz hcf hpc hkind hxc hst turn hRR hH2 hk₁ old hst₁ hcel₁ hcf' hcw hfc hCd hns₁ hCf hCw hcd hCc hDd hfp hDf hDw hacc fresh hDc hC hDC hCle below hst' hD' hn' hc' hi hF hk hlt hMd hk₂ hP hst₃ hk₃ k3 hn₃ hD₃ hc₃ hc₄ hs₄ hn₄ hD₄ hst₄ hold₄ hFy hk6 hs7 hD7 hst6; (assumption)), ?_, ?_⟩
      · rw [hD7]; simp [PySem.W.listOf]
      · obtain ⟨oc, q1, q2⟩ := hc₄
        exact ⟨oc, hs7.extBut _ _ (Ne.symm hDc) (hk6 _ _ q1), q2⟩
      · rw [List.range_succ]
        exact Paired.snoc hF hFy
      · intro b o hb e
        exact hs7.extBut b o (below b (hDd ▸ Heap.lt_size e)).2.1 (hk6 b o (hold₄ b o hb e))
    · obtain rfl : i = n := by (clear W hself hsz hcf hpc hkind hxc hst turn hRR hH2 hk₁ old hst₁ hcel₁ hcf' hcw hfc hCd hns₁ hCf hCw hcd hCc hDd hfp hDf hDw hacc fresh hDc hC hDC hCle below hst' hD' hn' hc' hyl hF hk; lia)
      refine W.done _ _ _ hst' fun h₂ tk₂ hk₂ => ?_
      exact hRR D C h₂ tk₂ m' ys (fresh _ (Nat.le_refl _)) (fresh _ hCle) hDC (hn'.at' fun o e => hk₂ _ o hCw e) (hk₂ _ _ hDw hD') hF fun b o hb e => hk₂ b o hb (hk b o hb e)
  exact codeAny_compStart_list (loop _ rfl) (hself 0 _ _ _ hst₁ (loop _ rfl))
/-- [elt for x in ITER] as a value; x is a cell, read by blocks within elt -/
theorem ListComp_cell {h₀ : Heap} {L : Addr} {elt iter : PySem.Expr} {x : Str} {px : Pos} {scope : Scope} {cl : List (Str × Addr)} {pos : Pos} {Q : Value → Shared → Prop} {Fv : Value → Value → Prop} (hA : A.handled = none)
    (hclos : closureFor scope env = pure cl) (hcf : ∀ a, cellsFrom a scope.names cl = (x, a) :: cl) (hpc : ∀ h, pushCells h scope.names = h.push { cls := .type "cell", data := .cell none }) (hkind : scope.kind = .function)
    (hnames : ∀ y ∈ scope.names, y.2 = .local → scope.names.lookup y.1 = some .local) (hxc : ∀ cl' C, (compEnvC scope cl' C env).kindOf x = some .cell)
    (h : wpAny (model prog w) A (eval iter env) (fun xv s₁ => ∃ ax its m' news', xv = .ref ax ∧ Fr h₀ L s₁.heap m' ∧ News h₀ L s₁.heap news' ∧ s₁.heap.IsList ax its ∧ its.size ≤ sizeLine ∧
      (∀ (i : Nat) v, its[i]? = some v → ∀ C c h tk m, s₁.heap.get? c = none → h.IsCell c (some v) → h.Ns C m → (∀ b o, s₁.heap.get? b = some o → h.get? b = some o) →
        wpAny (model prog w) A (eval elt (compEnvC scope ((x, c) :: cl) C env)) (fun y s₆ => (∃ h6 tk6, s₆ = { s₁ with heap := h6, toks := tk6 } ∧ ∀ b o, h.get? b = some o → h6.get? b = some o) ∧ Fv v y) (fun _ _ => False) { s₁ with heap := h, toks := tk }) ∧
      ∀ D h' tk ys, Fr h₀ L h' m' → News h₀ L h' ((D, listOf (List.toArray ys) ys.length) :: news') → Paired Fv its.toList ys → Q (.ref D) { s₁ with heap := h', toks := tk }) E s)
    (hs : ∀ x, foldedSetIterable iter env x = pure x := by intro _; rfl) :
    wpAny (model prog w) A (eval (.ListComp elt [⟨.Name x px, iter, [], 0⟩] scope pos) env) Q E s := by
  rw [eval_ListComp]
  refine wpAny_comprehension_free (use := none) rfl hs hclos hkind hnames (wpAny_mono h (fun xv s₁ h₁ => ?_) fun _ _ e => e)
  obtain ⟨ax, its, m', news', rfl, F, N, hl, hsz, he, hQ⟩ := h₁
  have hlt : ax < s₁.heap.objs.size := by obtain ⟨_, e, _⟩ := hl; exact Heap.lt_size e
  refine wpAny_pyIter_list hl ?_
  have up : ∀ b o, s₁.heap.get? b = some o → (s₁.heap.push { cls := .type "list_iterator", data := .fields #[.ref ax, .int 0 0] }).get? b = some o := fun b o e => Heap.get?_push_of_some _ e
  have none_of : ∀ c, (s₁.heap.push { cls := .type "list_iterator", data := .fields #[.ref ax, .int 0 0] }).get? c = none → s₁.heap.get? c = none := fun c e => by
    cases q : s₁.heap.get? c with
    | none => rfl
    | some o => rw [up c o q] at e; cases e
  have W := Walks.list (prog := prog) (w := w) (A := A) hA s₁.heap.objs.size ax (Nat.ne_of_lt hlt) its
  have off : ∀ b o, s₁.heap.get? b = some o → b ∉ [s₁.heap.objs.size] := fun b o e q => by
    rw [List.mem_singleton.mp q] at e
    exact absurd (Heap.lt_size e) (Nat.lt_irrefl _)
  refine comp_block_cell (KTurns.ofWalks (target := .Name x px) W (fun i v s Q E _ hq => wpAny_of_eq (show letOwnedTupleGo (.Name x px) _ v = pure () from rfl) hq)) W.self hsz (fun i y => ∃ v, its.toList[i]? = some v ∧ Fv v y) (RR := fun acc C => compPost (model prog w) A E none Q acc C) hcf hpc hkind hxc
    ⟨⟨_, Heap.get?_push_size _ rfl, rfl, rfl⟩, hl.push _⟩ (fun b hb => ?_) (fun C c i v h tk m hi hc hP hcl hn hk => ?_) ?_
  · show b < (s₁.heap.push _).objs.size
    rw [Heap.size_push]
    rcases List.mem_cons.mp hb with rfl | hb
    · exact Nat.lt_succ_self _
    · rw [List.mem_singleton.mp hb]; exact Nat.lt_succ_of_lt hlt
  · obtain ⟨_, hv⟩ := hP
    refine wpAny_mono (he i v hv C c h tk m (none_of _ hc) hcl hn fun b o e => hk b o (off b o e) (up b o e)) (fun y s₆ h6 => ?_) fun _ _ q => q
    obtain ⟨⟨h6, tk6, e6, k6⟩, hF⟩ := h6
    exact ⟨⟨h6, tk6, e6, k6⟩, v, by simpa using hv, hF⟩
  · intro D C h' tk m'' ys hD hC hDC hn hl' hp hk
    refine ⟨m'', hn, fun h'' hs'' => ?_⟩
    have k2 : ∀ b o, s₁.heap.get? b = some o → h''.get? b = some o := fun b o e => (hs''.2 b (by rintro rfl; rw [none_of _ hC] at e; cases e)).trans (hk b o (off b o e) (up b o e))
    refine hQ D h'' tk ys (F.keeps k2) (News.new F (N.grown k2) ((hs''.2 D hDC).trans hl') (none_of _ hD)) ?_
    refine paired_range ?_
    simpa using hp
/-- [x for x in ITER if ..] as a value: all that stood stays -/
theorem ListComp_filterK {iter : PySem.Expr} {x : Str} {px pe : Pos} {ifs : List PySem.Expr} {scope : Scope} {cl : List (Str × Addr)} {pos : Pos} {Q : Value → Shared → Prop} (hA : A.handled = none)
    (hclos : closureFor scope env = pure cl) (hcell : ∀ y ∈ scope.names, y.2 ≠ .cell) (hkind : scope.kind = .function)
    (hnames : ∀ y ∈ scope.names, y.2 = .local → scope.names.lookup y.1 = some .local) (hx : scope.names.lookup x = some .local) (dx : (x == ("__debug__" : Str)) = false)
    (h : wpAny (model prog w) A (eval iter env) (fun xv s₁ => ∃ ax its p, xv = .ref ax ∧ s₁.heap.IsList ax its ∧ its.size ≤ sizeLine ∧ (∀ (i : Nat) v, its[i]? = some v → TestOk prog w A env ifs scope cl x s₁ v (p i)) ∧
      ∀ D h' tk ys, (∀ b o, s₁.heap.get? b = some o → h'.get? b = some o) → h'.get? D = some (listOf (List.toArray ys) ys.length) → s₁.heap.get? D = none → Paired (fun i y => its.toList[i]? = some y) ((List.range its.size).filter p) ys → Q (.ref D) { s₁ with heap := h', toks := tk }) E s)
    (hs : ∀ x, foldedSetIterable iter env x = pure x := by intro _; rfl) :
    wpAny (model prog w) A (eval (.ListComp (.Name x pe) [⟨.Name x px, iter, ifs, 0⟩] scope pos) env) Q E s := by
  rw [eval_ListComp]
  refine wpAny_comprehension_free (use := none) rfl hs hclos hkind hnames (wpAny_mono h (fun xv s₁ h₁ => ?_) fun _ _ e => e)
  obtain ⟨ax, its, p, rfl, hl, hsz, he, hQ⟩ := h₁
  refine block_filter (RR := fun acc C => compPost (model prog w) A E none Q acc C) hA hcell hkind hx dx hl hsz he ?_
  intro D C h' tk m'' ys hD hC hDC hn hl' hp hk
  refine ⟨m'', hn, fun h'' hs'' => ?_⟩
  have k2 : ∀ b o, s₁.heap.get? b = some o → h''.get? b = some o := fun b o e => (hs''.2 b (by rintro rfl; rw [hC] at e; cases e)).trans (hk b o e)
  exact hQ D h'' tk ys k2 ((hs''.2 D hDC).trans hl') hD hp
end
end Mine
end
section
open PySem PySem.W PySem.Calls PyProof.Rows
set_option maxRecDepth 100000
namespace Mine
inductive TokAt (s₁ : Shared) (I ax D C : Addr) (n : Nat) (G : List Value → Nat → Prop) (k : Nat) (s' : Shared) : Prop
  | mk (h' : Heap) (tk : Nat) (m' : Str → Option Value) (i : Nat) (ys : List Value) : s' = { s₁ with heap := h', toks := tk } → h'.IsListIter I ax i → h'.get? D = some (PySem.W.listOf ys.toArray ys.length) → h'.Ns C m' → i ≤ n → k = n + 1 - i → ys.length = i → G ys tk →
      (∀ b o, s₁.heap.get? b = some o → h'.get? b = some o) → TokAt s₁ I ax D C n G k s'
section
variable {prog : Program} {w : World} {A : Around} {E : Value → Shared → Prop} {s : Shared} {env : Env}
/-- [elt for x in a list], the tokens told: G says of the items made so far and of the next token -/
theorem block_tok {elt iter : PySem.Expr} {x : Str} {px : Pos} {scope : Scope} {cl : List (Str × Addr)} {pos : Pos} {s₁ : Shared} {ax : Addr} {its : Array Value} {RR : Value → Addr → Result → Shared → Prop} (G : List Value → Nat → Prop) (mono : ∀ ys a b, a ≤ b → G ys a → G ys b)
    (hA : A.handled = none) (hcell : ∀ y ∈ scope.names, y.2 ≠ .cell) (hkind : scope.kind = .function) (hx : scope.names.lookup x = some .local) (hl : s₁.heap.IsList ax its) (hsz : its.size ≤ sizeLine) (h0 : G [] s₁.toks)
    (he : ∀ (i : Nat) v ys C h tk m', its[i]? = some v → ys.length = i → G ys tk → h.Ns C m' → m' x = some v → (∀ b o, s₁.heap.get? b = some o → h.get? b = some o) →
      wpAny (model prog w) A (eval elt (compEnvC scope cl C env)) (fun y s₆ => ∃ h6 tk6, s₆ = { s₁ with heap := h6, toks := tk6 } ∧ (∀ b o, h.get? b = some o → h6.get? b = some o) ∧ G (ys ++ [y]) tk6) (fun _ _ => False) { s₁ with heap := h, toks := tk })
    (hRR : ∀ D C h' tk m' ys, s₁.heap.get? D = none → s₁.heap.get? C = none → D ≠ C → h'.Ns C m' → h'.get? D = some (listOf (List.toArray ys) ys.length) → ys.length = its.size → G ys tk →
      (∀ b o, s₁.heap.get? b = some o → h'.get? b = some o) → RR (.ref D) C (.ok .next) { s₁ with heap := h', toks := tk }) :
    wpAny (model prog w) A (pyIter (.ref ax)) (fun it s₂ => wpAny (model prog w) A (newList []) (fun acc s₃ => wpAny (model prog w) A (newFunctionEnv scope env.globals cl [] env.qual none .none (some env)) (fun cenv s₄ =>
      codeAny (model prog w) A (.compStart (.ListComp elt [⟨.Name x px, iter, [], 0⟩] scope pos) 0 it acc { cenv with scope := relabel scope env }) (RR acc cenv.locals) s₄) E s₃) E s₂) E s₁ := by
  have hlt : ax < s₁.heap.objs.size := by obtain ⟨_, e, _⟩ := hl; exact Heap.lt_size e
  refine wpAny_pyIter_list hl ?_
  refine wpAny_newObj_type (wpAny_newFunctionEnv hcell (by intro y hy; simp at hy) (fun h₁ hns₁ hsb₁ => ?_) hkind)
  dsimp only at hns₁ hsb₁ ⊢
  generalize hH1 : s₁.heap.push { cls := .type "list_iterator", data := .fields #[.ref ax, .int 0 0] } = H1 at hns₁ hsb₁ ⊢
  generalize hH2 : H1.push { cls := .type "list", dict := none, data := .seq ([] : List Value).toArray } = H2 at hns₁ hsb₁ ⊢
  have n1 : H1.objs.size = s₁.heap.objs.size + 1 := by rw [← hH1, Heap.size_push]
  have n2 : H2.objs.size = s₁.heap.objs.size + 1 + 1 := by rw [← hH2, Heap.size_push, n1]
  have old : ∀ b o, s₁.heap.get? b = some o → h₁.get? b = some o := fun b o e => hsb₁.extBut b o (by have := Heap.lt_size e; rw [n2]; exact Nat.ne_of_lt (Nat.lt_succ_of_lt (Nat.lt_succ_of_lt this))) (Heap.get?_push_of_some _ (hH2 ▸ Heap.get?_push_of_some _ (hH1 ▸ Heap.get?_push_of_some _ e)))
  have hit : h₁.IsListIter s₁.heap.objs.size ax 0 := ⟨_, hsb₁.extBut _ _ (by rw [n2]; exact Nat.ne_of_lt (Nat.lt_succ_of_lt (Nat.lt_succ_self _))) (Heap.get?_push_of_some _ (hH2 ▸ Heap.get?_push_of_some _ (hH1 ▸ Heap.get?_push_size _ rfl))), rfl, rfl⟩
  have hacc : h₁.get? H1.objs.size = some (PySem.W.listOf (List.toArray []) 0) := hsb₁.extBut _ _ (by rw [n2, n1]; exact Nat.ne_of_lt (Nat.lt_succ_self _)) (Heap.get?_push_of_some _ (hH2 ▸ Heap.get?_push_size _ rfl))
  have fresh : ∀ a, s₁.heap.objs.size ≤ a → s₁.heap.get? a = none := fun a ha => Heap.get?_none_of_le ha
  have d1 : H1.objs.size ≠ H2.objs.size := by rw [n2, n1]; (clear mono hA hcell hkind hx hl hsz h0 he hRR hlt hH1 hH2 hns₁ hsb₁ n1 n2 old hit hacc fresh; lia)
  have d2 : H1.objs.size ≠ s₁.heap.objs.size := by rw [n1]; (clear mono hA hcell hkind hx hl hsz h0 he hRR hlt hH1 hH2 hns₁ hsb₁ n1 n2 old hit hacc fresh d1; lia)
  have d3 : H2.objs.size ≠ s₁.heap.objs.size := by rw [n2]; (clear mono hA hcell hkind hx hl hsz h0 he hRR hlt hH1 hH2 hns₁ hsb₁ n1 n2 old hit hacc fresh d1 d2; lia)
  have fD := fresh H1.objs.size (by rw [n1]; (clear mono hA hcell hkind hx hl hsz h0 he hRR hlt hH1 hH2 hns₁ hsb₁ n1 n2 old hit hacc fresh d1 d2 d3; (exact Nat.le_succ _)))
  have fC := fresh H2.objs.size (by rw [n2]; (clear mono hA hcell hkind hx hl hsz h0 he hRR hlt hH1 hH2 hns₁ hsb₁ n1 n2 old hit hacc fresh d1 d2 d3 fD; lia))
  have fI := fresh s₁.heap.objs.size (Nat.le_refl _)
  generalize s₁.heap.objs.size = I at *
  generalize H2.objs.size = C at *
  generalize H1.objs.size = D at *
  have off : ∀ {a : Addr}, s₁.heap.get? a = none → ∀ b o, s₁.heap.get? b = some o → b ≠ a := fun ha b o e q => by rw [q, ha] at e; cases e
  have loop : ∀ s₃ : Shared, s₃ = { s₁ with heap := h₁, toks := s₁.toks + ([] : List (Str × Value)).length } →
      codeAny (model prog w) A (.compLoop (.ListComp elt [⟨.Name x px, iter, [], 0⟩] scope pos) 0 (.ref I) (.ref D) (compEnvC scope cl C env)) (RR (.ref D) C) s₃ := by
    rintro s₃ rfl
    refine compLoop_go (TokAt s₁ I ax D C its.size G) ?_ (its.size + 1)
      ⟨h₁, _, _, 0, [], rfl, hit, hacc, hns₁, Nat.zero_le _, rfl, rfl, h0, old⟩
    rintro k s' ⟨h', tk, m', i, ys, rfl, hit', hD', hn', hi, rfl, hyl, hG, hk⟩
    have hl' : h'.IsList ax its := hl.at fun o e => hk _ o e
    by_cases hlt : i < its.size
    · refine wpAny_pyNext_list_item hit' hl' (x := its[i]) (by simp [hlt]) fun h₂ hit₂ hs₂ => ?_
      refine wpAny_of_eq (show letOwnedTupleGo (.Name x px) _ _ = pure () from rfl) ?_
      have hn₂ : h₂.Ns C m' := hn'.sameBut hs₂ d3
      refine wpAny_assign_Name (wpAny_storeName_local (lookup_relabel_local hx) hn₂ (fun h₃ hn₃ hs₃ => ?_) (by simp [compEnvC, relabel, hkind]))
      refine wpAny_tests_nil ?_
      simp only [if_true]
      have k3 : ∀ b o, s₁.heap.get? b = some o → h₃.get? b = some o := fun b o e => (hs₃.2 b (off fC b o e)).trans ((hs₂.2 b (off fI b o e)).trans (hk b o e))
      have hD₃ : h₃.get? D = some (PySem.W.listOf ys.toArray ys.length) := (hs₃.2 D d1).trans ((hs₂.2 D d2).trans hD')
      have hit₃ : h₃.IsListIter I ax (i + 1) := hit₂.at fun o e => (hs₃.2 I (Ne.symm d3)).trans e
      refine wpAny_mono (he i its[i] ys C h₃ (tk + 1) _ (by simp [hlt]) hyl (mono _ _ _ (Nat.le_succ _) hG) hn₃ (by simp) k3) (fun y s₆ h₆ => ?_) fun _ _ x => x
      obtain ⟨h6, tk6, rfl, hk6, hG6⟩ := h₆
      refine append_at (hsz := by show ys.toArray.size ≤ sizeLine; rw [List.size_toArray]; (clear mono hA hcell hkind hx hl h0 he hRR hH1 hH2 old hit fresh fI hns₁ hsb₁ fC n2 d3 hacc fD n1 d2 d1 off hit' hD' hn' hi hG hk hl' hit₂ hs₂ hn₂ hn₃ hs₃ k3 hD₃ hit₃ hk6 hG6; lia)) (hk6 _ _ hD₃) fun h7 hs7 hD7 => ?_
      refine ⟨its.size + 1 - (i + 1), by (clear mono hA hcell hkind hx hl hsz h0 he hRR hH1 hH2 old hit fresh fI hns₁ hsb₁ fC n2 d3 hacc fD n1 d2 d1 off hit' hD' hn' hi hyl hG hk hl' hit₂ hs₂ hn₂ hn₃ hs₃ k3 hD₃ hit₃ hk6 hG6 hs7 hD7; omega), h7, tk6, _, i + 1, ys ++ [y], rfl, (hit₃.at fun o e => hk6 _ o e).at fun o e => hs7.extBut _ o (Ne.symm d2) e, ?_, (hn₃.keeps hk6).sameBut hs7 (Ne.symm d1), hlt, rfl, by simp [hyl], hG6, ?_⟩
      · rw [hD7]; simp [PySem.W.listOf]
      · intro b o e
        exact hs7.extBut b o (off fD b o e) (hk6 b o (k3 b o e))
    · obtain rfl : i = its.size := by (clear mono hA hcell hkind hx hl hsz h0 he hRR hH1 hH2 old hit fresh fI hns₁ hsb₁ fC n2 d3 hacc fD n1 d2 d1 off hit' hD' hn' hG hk hl'; lia)
      refine wpAny_pyNext_list_end hA hit' hl' (by simp) fun h₂ he₂ => ?_
      exact hRR D C h₂ tk m' ys fD fC d1 (hn'.at' fun o e => he₂ _ o d3 e) (he₂ _ _ d2 hD') hyl hG fun b o e => he₂ b o (off fI b o e) (hk b o e)
  exact codeAny_compStart_list (loop _ rfl) (wpAny_pyIter_listiter hit (loop _ rfl))
end
end Mine
end
section
open PySem PySem.W PySem.Calls PyProof.Rows
set_option maxRecDepth 100000
namespace Mine
theorem pick_upto {vs : List Value} (k : Nat) : (slicePick vs.toArray none (some (k : Int)) none).toList = vs.take k := by
  have e : sliceBounds none (some (k : Int)) none vs.toArray.size = (((0 : Nat) : Int), ((min k vs.length : Nat) : Int), 1) := by
    unfold sliceBounds
    simp
    lia
  rw [kmk_pick_nat _ e]
  simp
theorem pick_from {vs : List Value} (k : Nat) : (slicePick vs.toArray (some (k : Int)) none none).toList = vs.drop k := by
  have e : sliceBounds (some (k : Int)) none none vs.toArray.size = (((min k vs.length : Nat) : Int), ((vs.length : Nat) : Int), 1) := by
    unfold sliceBounds
    simp
    lia
  rw [kmk_pick_nat _ e]
  show List.take _ (List.drop (min k vs.length) vs) = _
  rw [kmk_drop_min]
  exact List.take_of_length_le (by rw [List.length_drop]; omega)
theorem pick_run2 {vs : List Value} (a b : Nat) (hab : a ≤ b) (hb : b ≤ vs.length) : (slicePick vs.toArray (some (a : Int)) (some (b : Int)) none).toList = (vs.drop a).take (b - a) := by
  rw [slicePick_run vs.toArray a b (by simpa using hb) hab]
section
variable {prog : Program} {w : World} {A : Around} {E : Value → Shared → Prop} {s : Shared} {H h₀ : Heap} {tk : Nat} {L l : Addr} {m : Str → Option Value} {news : List (Addr × Obj)} {vl vu : Value} {lo hi : Option Int} {value slice : PySem.Expr} {Q : Value → Shared → Prop}
/-- a slice of a list: its items as they are -/
theorem slice_vals {its : Array Value} {ms : List Value} (F : Fr h₀ L H m) (N : News h₀ L H news) (hl : H.IsList l its) (pl : IsPart vl lo) (pu : IsPart vu hi) (e : (slicePick its lo hi none).toList = ms)
    (h : ∀ D h', Fr h₀ L h' m → News h₀ L h' ((D, listOf ms.toArray 0) :: news) → (∀ p ∈ news, p.1 < D) → Q (.ref D) { s with heap := h', toks := tk })
    (hs : subscripted slice false (.ref l) (.ref H.objs.size) = operate [.ref H.objs.size, .ref l] (getItem (.ref l) (.ref H.objs.size))) (ht : ∀ r, letTemporaryGo value (.ref l) r = pure ()) (hz : its.size ≤ sizeLine) :
    wpAny (model prog w) A (subscriptTail value slice (.ref l) (.ref H.objs.size)) Q E { s with heap := H.push { cls := .type "slice", data := .fields #[vl, vu, .none] }, toks := tk } :=
  kmk_slice_lit (s := { s with heap := H, toks := tk }) F N hl pl pu e h hs ht hz
theorem floordiv_2 {n : Nat} {t u : Tok} {Q : Value → Shared → Prop} (h : Q (.int ((n / 2 : Nat) : Int) s.toks) { s with toks := s.toks + 1 }) : wpAny (model prog w) A (binaryOp .FloorDiv (.int n t) (.int 2 u)) Q E s := by
  refine floordiv_int (by decide) ?_ (Or.inl (PyProof.noPylong_small (by decide)))
  rw [Int.fdiv_eq_ediv_of_nonneg _ (by decide)]
  exact h
end
end Mine
end
section
open PySem PySem.W PySem.Calls PyProof.Rows
set_option maxRecDepth 100000
namespace Mine
section
variable {prog : Program} {w : World} {A : Around} {E : Value → Shared → Prop} {s : Shared} {env : Env}
/-- i, j = a tuple; both names are cells -/
theorem assign_cells2 {i j : Str} {p1 p2 p3 : Pos} {k : Nat} {ci cj t : Addr} {a b : Value} {v0 v1 : Option Value} {Q : Unit → Shared → Prop} (hA : A.handled = none) (hkind : env.scope.kind = .function)
    (hi : env.kindOf i = some .cell) (hj : env.kindOf j = some .cell) (hci : env.cells.lookup i = some ci) (hcj : env.cells.lookup j = some cj) (gi : s.heap.IsCell ci v0) (gj : s.heap.IsCell cj v1) (hne : ci ≠ cj) (ht : s.heap.IsTuple t #[a, b])
    (h : ∀ h', h'.IsCell ci (some a) → h'.IsCell cj (some b) → (∀ b o, b ≠ ci → b ≠ cj → s.heap.get? b = some o → h'.get? b = some o) → Q () { s with heap := h' }) :
    wpAny (model prog w) A (assign (.Tuple [.Name i p1, .Name j p2] k p3) env (.ref t)) Q E s := by
  refine wpAny_assign_Tuple hA ht rfl rfl fun h1 hs1 => ?_
  have li : ci ≠ s.heap.objs.size := by obtain ⟨o, e, _⟩ := gi; exact Nat.ne_of_lt (Heap.lt_size e)
  have lj : cj ≠ s.heap.objs.size := by obtain ⟨o, e, _⟩ := gj; exact Nat.ne_of_lt (Heap.lt_size e)
  have gi1 : h1.IsCell ci v0 := by obtain ⟨o, e, d⟩ := gi; exact ⟨o, hs1 _ _ li e, d⟩
  have gj1 : h1.IsCell cj v1 := by obtain ⟨o, e, d⟩ := gj; exact ⟨o, hs1 _ _ lj e, d⟩
  show wpAny _ A (assignInOrder [assign (.Name i p1) env, assign (.Name j p2) env] [a, b]) _ _ _
  refine assignInOrder_cons (wpAny_assign_Name (wpAny_storeName_cell hkind hi hci gi1 fun h2 hc2 hs2 => ?_))
  have gj2 : h2.IsCell cj v1 := by obtain ⟨o, e, d⟩ := gj1; exact ⟨o, (hs2.2 _ (Ne.symm hne)).trans e, d⟩
  refine assignInOrder_cons (wpAny_assign_Name (wpAny_storeName_cell hkind hj hcj gj2 fun h3 hc3 hs3 => ?_))
  refine assignInOrder_nil (h h3 ?_ hc3 fun b o q1 q2 e => ?_)
  · obtain ⟨o, e, d⟩ := hc2; exact ⟨o, (hs3.2 _ hne).trans e, d⟩
  · exact (hs3.2 b q2).trans ((hs2.2 b q1).trans (hs1 b o (Nat.ne_of_lt (Heap.lt_size e)) e))
end
end Mine
end
section
open PySem PySem.W PySem.Calls PyProof.Rows PyProof.Rows.TI
set_option maxRecDepth 100000
namespace Mine
/-- a call in which an exception may have passed: the frames stay up to their slots, the rest stays -/
structure Calm (l frs : List Addr) (h h' : Heap) : Prop where
  rest : ∀ b o, b ∉ l → b ∉ frs → h.get? b = some o → h'.get? b = some o
  up : h.UpToSlots h'
/-- an exception that flies out of a call -/
structure Flies (l : List Addr) (envs : List Env) (e : Addr) (X : String) (news : List (Addr × Obj)) (h h' : Heap) : Prop where
  fly : ∃ B a0, (hideAll (gone h l) (envs.filterMap (·.frame))).StaysIn B ∧ (∀ p ∈ news, B.get? p.1 = some p.2) ∧ Heap.FlyingW B envs e (.type X) a0 h'
  up : h.UpToSlots h'
section
variable {l l' frs : List Addr} {h h1 h2 h3 g base : Heap} {envs : List Env} {env : Env} {A : Around} {L e : Addr} {m : Str → Option Value} {news : List (Addr × Obj)} {X : String}
theorem stays_hidden (h : Heap) (l frs : List Addr) {b : Addr} {o : Obj} (e : (hideAll (gone h l) frs).get? b = some o) : b ∉ l ∧ b ∉ frs ∧ h.get? b = some o := by
  obtain ⟨h1, h2⟩ := gone_some (of_hideAll _ e)
  refine ⟨h1, fun hm => ?_, h2⟩
  rw [hideAll_none _ hm] at e
  cases e
theorem Calm.of_stays (st : (hideAll (gone h l) frs).StaysIn h1) (up : h.UpToSlots h1) : Calm l frs h h1 :=
  ⟨fun b o h1 h2 e => st b o (hideAll_get _ ((gone_get h1).trans e) h2), up⟩
theorem Calm.of_keeps (k : ∀ b o, h.get? b = some o → h1.get? b = some o) : Calm l frs h h1 := ⟨fun b o _ _ e => k b o e, Heap.UpToSlots.of_keeps k⟩
theorem Calm.trans (C : Calm l frs h h1) (D : Calm l frs h1 h2) : Calm l frs h h2 := ⟨fun b o q1 q2 e => D.rest b o q1 q2 (C.rest b o q1 q2 e), C.up.trans D.up⟩
theorem Calm.mono (C : Calm l frs h h1) (hl : ∀ b ∈ l, b ∈ l') : Calm l' frs h h1 := ⟨fun b o q1 q2 e => C.rest b o (fun z => q1 (hl b z)) q2 e, C.up⟩
theorem Flies.calm (F : Flies l envs e X news h h1) : Calm l (envs.filterMap (·.frame)) h h1 := by
  obtain ⟨B, a0, k, _, f⟩ := F.fly
  exact Calm.of_stays (fun b o e => f.1 b o (k b o e)) F.up
theorem Flies.there (F : Flies l envs e X news h h1) : ∃ ob, h1.get? e = some ob ∧ ob.cls = .type X := by
  obtain ⟨B, a0, _, _, f⟩ := F.fly
  exact f.there
theorem Flies.has (F : Flies l envs e X news h h1) : ∀ p ∈ news, h1.get? p.1 = some p.2 := fun p hp => by
  obtain ⟨B, a0, _, k, f⟩ := F.fly
  exact f.1 _ _ (k p hp)
/-- the frame after a calm call -/
theorem Calm.frame (C : Calm l (L :: frs) h h1) (F : Fr g L h m) (hl : ∀ b ∈ l, g.get? b = none) : Fr (hideAll g frs) L h1 m := by
  refine ⟨C.up.ns F.ns, fun b o e => ?_, by rw [hideAll_size]; exact F.above⟩
  have q := of_hideAll _ e
  refine C.rest b o (fun z => by rw [hl b z] at q; cases q) (fun z => ?_) (F.keep b o q)
  rcases List.mem_cons.mp z with rfl | z
  · exact absurd (Nat.lt_of_lt_of_le (Heap.lt_size q) F.above) (Nat.lt_irrefl _)
  · rw [hideAll_none _ z] at e; cases e
theorem Calm.others (C : Calm l (L :: frs) h h1) (N : News g L h news) (hf : ∀ b ∈ frs, ∃ o, g.get? b = some o) (hn : ∀ p ∈ news, p.1 ∉ l) : News (hideAll g frs) L h1 news := fun p hp => by
  refine ⟨C.rest _ _ (hn p hp) (fun z => ?_) (N p hp).1, (N p hp).2.1, ?_⟩
  · rcases List.mem_cons.mp z with q | z
    · exact (N p hp).2.1 q
    · obtain ⟨o, e⟩ := hf _ z
      rw [(N p hp).2.2] at e; cases e
  · cases q : (hideAll g frs).get? p.1 with
    | none => rfl
    | some o => have := of_hideAll _ q; rw [(N p hp).2.2] at this; cases this
/-- a call in the middle of a walk: the base is taken anew -/
theorem Calm.anew {n : Nat} {l2 : List Addr} (C : Calm l' (L :: frs) h h1) (F : Fr g L h m) (N : News g L h news) (hl : ∀ b ∈ l', g.get? b = none) (hf : ∀ b ∈ frs, ∃ o, g.get? b = some o) (hn : ∀ p ∈ news, p.1 ∉ l') (hsz : n ≤ L) (h2 : ∀ p ∈ news, p.1 ∈ l2 ∨ n ≤ p.1) :
    Fr (gone (trunc h1 n) l2) L h1 m ∧ News (gone (trunc h1 n) l2) L h1 news :=
  ⟨Fr.anew (C.frame F hl) hsz, News.anew (C.others N hf hn) h2⟩
theorem Calm.close {lc x : List Addr} (K0 : ∀ b o, (gone h l).get? b = some o → h1.get? b = some o) (C : Calm l' (L :: frs) h1 h2) (hL : h.objs.size ≤ L) (hl' : ∀ b ∈ l', b ∈ l)
    (K3 : ∀ b o, (gone (trunc h2 h.objs.size) (x ++ l)).get? b = some o → h3.get? b = some o) (hx : ∀ b ∈ x, h1.get? b = none)
    (hl : ∀ b ∈ l, b ∉ lc → ∀ o, h.get? b = some o → h3.get? b = some o) (hs : ∀ b ∈ l, ∀ o, h.get? b = some o → (∀ vs, o.data ≠ .fields vs) → ∃ sl, h3.get? b = some { o with slots := sl }) : Calm lc frs h h3 := by
  have main : ∀ b o, b ∉ l → h.get? b = some o → h1.get? b = some o ∧ b ∉ x ++ l := fun b o hb e => by
    have e1 := K0 b o ((gone_get hb).trans e)
    refine ⟨e1, fun hm => ?_⟩
    rcases List.mem_append.mp hm with hm | hm
    · rw [hx b hm] at e1; cases e1
    · exact hb hm
  refine ⟨fun b o q1 q2 e => ?_, fun b o e hnf => ?_⟩
  · by_cases hb : b ∈ l
    · exact hl b hb q1 o e
    · obtain ⟨e1, hm⟩ := main b o hb e
      refine K3 b o ((gone_get hm).trans ((trunc_get (Heap.lt_size e)).trans (C.rest b o (fun z => hb (hl' b z)) (fun z => ?_) e1)))
      rcases List.mem_cons.mp z with rfl | z
      · exact absurd (Nat.lt_of_lt_of_le (Heap.lt_size e) hL) (Nat.lt_irrefl _)
      · exact q2 z
  · by_cases hb : b ∈ l
    · exact hs b hb o e hnf
    · obtain ⟨e1, hm⟩ := main b o hb e
      obtain ⟨sl, es⟩ := C.up b o e1 hnf
      exact ⟨sl, K3 b _ ((gone_get hm).trans ((trunc_get (Heap.lt_size e)).trans es))⟩
theorem in_trunc {l2 : List Addr} (k0 : ∀ b o, base.get? b = some o → h.get? b = some o) (k2 : ∀ b o, base.get? b = some o → h1.get? b = some o) (hl : ∀ b ∈ l2, base.get? b = none) : ∀ b o, base.get? b = some o → (gone (trunc h1 h.objs.size) l2).get? b = some o := fun b o e =>
  (gone_get fun z => by rw [hl b z] at e; cases e).trans ((trunc_get (Heap.lt_size (k0 b o e))).trans (k2 b o e))
theorem none_base (k : ∀ b o, base.get? b = some o → h.get? b = some o) {b : Addr} (e : h.get? b = none) : base.get? b = none := by
  cases q : base.get? b with
  | none => rfl
  | some o => rw [k b o q] at e; cases e
theorem Below.calm (B : Below A base envs h) (C : Calm l frs h h1) (hl : ∀ b ∈ l, base.get? b = none) (hf : frs = envs.filterMap (·.frame)) : Below A base envs h1 := by
  subst hf
  refine ⟨B.stack, fun b o e => C.rest b o (fun z => by rw [hl b z] at e; cases e) (fun z => by rw [(B.frames.mem z).1] at e; cases e) (B.stays b o e), ?_⟩
  exact B.frames.of_keeps fun b o hb hnf => by
    obtain ⟨sl, hs⟩ := C.up b o hb hnf
    exact ⟨_, hs, rfl⟩
theorem Below.has (B : Below A base envs h) : ∀ b ∈ envs.filterMap (·.frame), ∃ o, h.get? b = some o := fun b hb => by
  obtain ⟨o, ho, _⟩ := (B.frames.mem hb).2
  exact ⟨o, ho⟩
end
section
variable {M : Model} {A : Around} {E : Value → Shared → Prop} {s' : Shared} {l l' : List Addr} {h0 hc base : Heap} {outer : List Env} {env : Env} {L e : Addr} {m : Str → Option Value} {X : String} {Q : Unit → Shared → Prop}
theorem funFrames_to {h base base' : Heap} : ∀ {l : List Env}, h.FunFrames base l → (∀ b ∈ l.filterMap (·.frame), base'.get? b = none) → h.FunFrames base' l
  | [], _, _ => trivial
  | env :: r, ⟨h1, ⟨L, o, h2, h3, h4, h5⟩, h6⟩, hn => ⟨h1, ⟨L, o, h2, hn L (List.mem_filterMap.mpr ⟨env, .head _, h2⟩), h4, h5⟩, funFrames_to h6 fun b hb => by
      obtain ⟨e, he, q⟩ := List.mem_filterMap.mp hb
      exact hn b (List.mem_filterMap.mpr ⟨e, .tail _ he, q⟩)⟩
/-- raised in this frame: it leaves -/
theorem leave_made {news : List (Addr × Obj)} (B : Below A base outer h0) (C : Calm l (outer.filterMap (·.frame)) h0 hc) (hf : env.frame = some L) (hk : env.scope.kind = .function) (hn : hc.Ns L m) (hL : h0.objs.size ≤ L)
    (hnews : ∀ p ∈ news, hc.get? p.1 = some p.2 ∧ p.1 ≠ L ∧ p.1 ∉ outer.filterMap (·.frame))
    (hx : Heap.MadeExcOf hc s'.heap e (.type X) []) (hQ : ∀ h', Flies l outer e X news h0 h' → Q () { s' with heap := h' }) :
    wpAny M (A.deeper env) (leaving env (.ref e)) Q E s' := by
  have FFo : hc.FunFrames (hideAll hc (L :: outer.filterMap (·.frame))) outer := funFrames_to (B.frames.of_keeps fun b o hb hnf => by
      obtain ⟨sl, hs⟩ := C.up b o hb hnf
      exact ⟨_, hs, rfl⟩) fun b hb => hideAll_none _ (.tail _ hb)
  refine wpAny_leaves_madeW (base := hideAll hc (L :: outer.filterMap (·.frame))) (outer := outer) (Around.frames_deeper B.stack) hf (fun b o e => of_hideAll _ e) ?_ hx fun h' t f1 _ _ f4 => hQ h' ⟨⟨_, _, fun b o q => ?_, fun p hp => ?_, f1⟩, ?_⟩
  · exact Heap.FunFrames.cons (by rw [hk]; decide) hf hn (hideAll_none _ (.head _)) FFo
  · obtain ⟨q1, q2, q3⟩ := stays_hidden h0 l _ q
    refine hideAll_get _ (C.rest b o q1 q2 q3) fun z => ?_
    rcases List.mem_cons.mp z with rfl | z
    · exact absurd (Nat.lt_of_lt_of_le (Heap.lt_size q3) hL) (Nat.lt_irrefl _)
    · exact q2 z
  · obtain ⟨q1, q2, q3⟩ := hnews p hp
    refine hideAll_get _ q1 fun z => ?_
    rcases List.mem_cons.mp z with z | z
    · exact q2 z
    · exact q3 z
  · exact (C.up.trans (Heap.UpToSlots.of_keeps hx.keeps)).trans f4
/-- it flies on through this frame -/
theorem leave_on {news : List (Addr × Obj)} (B : Below A base outer h0) (C : Calm l (outer.filterMap (·.frame)) h0 hc) (hf : env.frame = some L) (hL : h0.objs.size ≤ L) (hl : ∀ b ∈ l', b ∈ l ∨ h0.objs.size ≤ b)
    (R : Flies l' (env :: outer) e X news hc s'.heap) (hQ : ∀ h', Flies l outer e X news h0 h' → Q () { s' with heap := h' }) :
    wpAny M (A.deeper env) (leaving env (.ref e)) Q E s' := by
  obtain ⟨B', a0, k, kn, f⟩ := R.fly
  refine wpAny_leaves_onW (Around.frames_deeper B.stack) hf f fun h' f1 f4 => hQ h' ⟨⟨B', a0, fun b o q => k b o ?_, kn, f1⟩, (C.up.trans R.up).trans f4⟩
  obtain ⟨q1, q2, q3⟩ := stays_hidden h0 l _ q
  refine hideAll_get _ ((gone_get fun z => ?_).trans (C.rest b o q1 q2 q3)) fun z => ?_
  · rcases hl b z with z | z
    · exact q1 z
    · exact absurd (Nat.lt_of_lt_of_le (Heap.lt_size q3) z) (Nat.lt_irrefl _)
  · obtain ⟨env', he, hb⟩ := List.mem_filterMap.mp z
    rcases List.mem_cons.mp he with rfl | he
    · rw [hf] at hb
      cases hb
      exact absurd (Nat.lt_of_lt_of_le (Heap.lt_size q3) hL) (Nat.lt_irrefl _)
    · exact q2 (List.mem_filterMap.mpr ⟨env', he, hb⟩)
end
end Mine
end
section
open PySem PySem.W PySem.Calls PyProof.Rows PyProof.Rows.TI
set_option maxRecDepth 100000
namespace Mine
/-- a heap without some objects: told by facts alone -/
structure Away (h : Heap) (l : List Addr) (g : Heap) : Prop where
  keep : ∀ b o, b ∉ l → h.get? b = some o → g.get? b = some o
  away : ∀ b ∈ l, g.get? b = none
  was : ∀ b o, g.get? b = some o → b ∉ l ∧ h.get? b = some o
  sz : g.objs.size = h.objs.size
def fsts (news : List (Addr × Obj)) : List Addr := news.map (·.1)
theorem away_gone (h : Heap) (l : List Addr) : Away h l (gone h l) := ⟨fun _ _ hb e => (gone_get hb).trans e, fun _ hb => gone_none hb, fun _ _ e => gone_some e, gone_size h l⟩
section
variable {h h' g base : Heap} {l lc : List Addr} {news : List (Addr × Obj)} {L V : Addr}
theorem Away.bas (W : Away h l g) (k : ∀ b o, base.get? b = some o → h.get? b = some o) (hl : ∀ b ∈ l, base.get? b = none) : ∀ b o, base.get? b = some o → g.get? b = some o :=
  fun b o e => W.keep b o (fun hb => by rw [hl b hb] at e; cases e) (k b o e)
theorem Away.below (W : Away h l g) {A : Around} {outer : List Env} (B : Below A base outer h) (hf : ∀ b ∈ outer.filterMap (·.frame), b ∉ l) (hl : ∀ b ∈ l, base.get? b = none) : Below A base outer g := by
  refine ⟨B.stack, W.bas B.stays hl, ?_⟩
  have : ∀ {outer : List Env}, (∀ b ∈ outer.filterMap (·.frame), b ∉ l) → h.FunFrames base outer → g.FunFrames base outer := by
    intro outer
    induction outer with
    | nil => intro _ _; trivial
    | cons env rest ih =>
      rintro hn ⟨h1, ⟨L, o, h2, h3, h4, h5⟩, h6⟩
      refine ⟨h1, ⟨L, o, h2, h3, W.keep _ _ (hn L (List.mem_filterMap.mpr ⟨env, .head _, h2⟩)) h4, h5⟩, ih (fun b hb => hn b ?_) h6⟩
      obtain ⟨e, he, hf⟩ := List.mem_filterMap.mp hb
      exact List.mem_filterMap.mpr ⟨e, .tail _ he, hf⟩
  exact this hf B.frames
theorem Away.list {items : Array Value} (W : Away h (fsts news) g) (hN : ∀ p ∈ news, h.get? p.1 = some p.2) (hl : h.IsList V items) (hc : ∀ p ∈ news, p.2.cls ≠ .type "list") : g.IsList V items := by
  refine hl.at fun o e => W.keep _ _ (fun hm => ?_) e
  obtain ⟨p, hp, q⟩ := List.mem_map.mp hm
  obtain ⟨o', a1, a2, _⟩ := hl
  have := hN p hp
  rw [q, a1] at this
  cases this
  exact hc p hp a2
theorem Away.fresh {b : Addr} (W : Away h l g) (e : g.get? b = none) (hlt : ∀ c ∈ l, c < b) : h.get? b = none := by
  cases q : h.get? b with
  | none => rfl
  | some o =>
    have := W.keep b o (fun hm => absurd (hlt b hm) (Nat.lt_irrefl _)) q
    rw [e] at this; cases this
/-- what a walk kept of its caller's heap -/
theorem Away.all (W : Away h l g) (k : ∀ b o, g.get? b = some o → h'.get? b = some o) (hl : ∀ b ∈ l, b ∉ lc → ∃ o, h.get? b = some o ∧ h'.get? b = some o) : ∀ b o, b ∉ lc → h.get? b = some o → h'.get? b = some o := fun b o q e => by
  by_cases hb : b ∈ l
  · obtain ⟨o', e1, e2⟩ := hl b hb q
    rw [e1] at e
    cases e
    exact e2
  · exact k b o (W.keep b o hb e)
theorem Away.calm {frs : List Addr} (W : Away h l g) (k : ∀ b o, g.get? b = some o → h'.get? b = some o) (hl : ∀ b ∈ l, b ∉ lc → ∃ o, h.get? b = some o ∧ h'.get? b = some o)
    (hs : ∀ b ∈ lc, ∀ o, h.get? b = some o → (∀ vs, o.data ≠ .fields vs) → ∃ sl, h'.get? b = some { o with slots := sl }) : Calm lc frs h h' := by
  refine ⟨fun b o q1 _ e => W.all k hl b o q1 e, fun b o e hnf => ?_⟩
  by_cases q : b ∈ lc
  · exact hs b q o e hnf
  · exact ⟨o.slots, W.all k hl b o q e⟩
theorem Fr.butl {h₀ h h' : Heap} {L : Addr} {m : Str → Option Value} {l : List Addr} (F : Fr h₀ L h m) (k : ∀ b o, b ∉ l → h.get? b = some o → h'.get? b = some o) (hc : ∀ b ∈ l, h₀.get? b = none) (hL : L ∉ l) : Fr h₀ L h' m :=
  ⟨F.ns.at' fun o e => k _ o hL e, fun b o e => k b o (fun q => by rw [hc b q] at e; cases e) (F.keep b o e), F.above⟩
/-- behind a call that changed the objects of lc alone -/
theorem News.butl {h₀ h h' : Heap} {L : Addr} {news news' : List (Addr × Obj)} {lc : List Addr} (N : News h₀ L h news) (k : ∀ b o, b ∉ lc → h.get? b = some o → h'.get? b = some o)
    (e : ∀ p ∈ news', (p ∈ news ∧ p.1 ∉ lc) ∨ (h'.get? p.1 = some p.2 ∧ ∃ o, (p.1, o) ∈ news)) : News h₀ L h' news' := fun p hp => by
  rcases e p hp with ⟨h1, h2⟩ | ⟨h1, o, h2⟩
  · exact ⟨k _ _ h2 (N p h1).1, (N p h1).2⟩
  · exact ⟨h1, (N _ h2).2⟩
end
section
variable {prog : Program} {w : World} {A : Around} {s : Shared} {K : Frag}
  {R : Result → Shared → Prop} {name qual : Str} {params : Arguments} {body : List Stmt} {scope : Scope} {dV kV doc pm cdv ct oc : Value} {an od : Option Addr} {osl : Array (Option Value)} {f : Addr} {args : Args} {binds : List (Str × Value)}
/-- into a def that changes some objects of its caller: they are new beside the rest -/
theorem enterO {news : List (Addr × Obj)} (hN : ∀ p ∈ news, s.heap.get? p.1 = some p.2) (X : K.In s.heap) (hlim : s.heap.NoLimit)
    (ho : K.lookup f = some ⟨oc, od, .func (fnOf name qual params body scope dV kV doc pm an cdv ct), osl⟩) (hcd : codeIn K cdv qual = true) (hroom : A.depth < recursionLimit)
    (hbind : BindsTo s (fnOf name qual params body scope dV kV doc pm an cdv ct) args binds) (hloc : ∀ y ∈ binds, scope.names.lookup y.1 = some .local)
    (h : ∀ g L' h₁, Away s.heap (fsts news) g → Fr g L' h₁ (fun y => binds.reverse.lookup y) → News g L' h₁ news → s.heap.objs.size ≤ L' →
      wpAny (model prog w) (A.deeper (envOf qual scope L' f cdv)) (execs body (envOf qual scope L' f cdv))
        (fun fl s' => R (.ok (.ret (match fl with | .ret v => v | _ => .none))) s')
        (fun e s' => wpAny (model prog w) (A.deeper (envOf qual scope L' f cdv)) (leaving (envOf qual scope L' f cdv) e) (fun _ s'' => R (.error e) s'') (fun e' s'' => R (.error e') s'') s')
        { s with heap := h₁, toks := s.toks + binds.length })
    (hcell : ∀ x ∈ scope.names, x.2 ≠ .cell) (hco : scope.isCoroutine = false := by rfl) (hgen : scope.isGenerator = false := by rfl) (hk : scope.kind = .function := by rfl) : codeAny (model prog w) A (.call (.ref f) args) R s := by
  refine enterG (l := fsts news) (news := news) (fun p hp => ⟨List.mem_map.mpr ⟨p, hp, rfl⟩, hN p hp⟩) X hlim ho hcd hroom hbind hloc (fun L' h₁ F N => ?_) hcell hco hgen hk
  refine h _ L' h₁ (away_gone _ _) F N ?_
  have := F.above
  rwa [gone_size] at this
end
theorem Calm.offS {l frs : List Addr} {h h1 h2 : Heap} {S : Addr} (C : Calm l frs h h1) (k : ∀ b, b ≠ S → h2.get? b = h1.get? b) (hS : h.get? S = none) : Calm l frs h h2 := by
  have ne : ∀ b o, h.get? b = some o → b ≠ S := fun b o e q => by rw [q, hS] at e; cases e
  refine ⟨fun b o q1 q2 e => (k b (ne b o e)).trans (C.rest b o q1 q2 e), fun b o e hnf => ?_⟩
  obtain ⟨sl, hs⟩ := C.up b o e hnf
  exact ⟨sl, (k b (ne b o e)).trans hs⟩
theorem Calm.strict {l frs : List Addr} {h h1 : Heap} (k : ∀ b o, b ∉ l → h.get? b = some o → h1.get? b = some o) (hs : ∀ b ∈ l, ∀ o, h.get? b = some o → (∀ vs, o.data ≠ .fields vs) → ∃ sl, h1.get? b = some { o with slots := sl }) : Calm l frs h h1 := by
  refine ⟨fun b o q1 _ e => k b o q1 e, fun b o e hnf => ?_⟩
  by_cases q : b ∈ l
  · exact hs b q o e hnf
  · exact ⟨o.slots, k b o q e⟩
theorem notin2 {a b c : Addr} (h1 : a ≠ b) (h2 : a ≠ c) : a ∉ [b, c] := fun h => by
  rcases List.mem_cons.mp h with q | q
  · exact h1 q
  · exact h2 (List.mem_singleton.mp q)
theorem notin1 {a b : Addr} (h1 : a ≠ b) : a ∉ [b] := fun h => h1 (List.mem_singleton.mp h)
end Mine
end
section
open PySem PySem.W PySem.Calls PyProof.Rows PyProof.Rows.TI
set_option maxRecDepth 100000
namespace Mine
/-- the old part of a heap: what stands below a line, without some objects -/
structure Reb (h g : Heap) (n0 : Nat) (l : List Addr) : Prop where
  was : ∀ b o, g.get? b = some o → b < n0 ∧ b ∉ l ∧ h.get? b = some o
  keep : ∀ b o, b < n0 → b ∉ l → h.get? b = some o → g.get? b = some o
section
variable {h h0 h2 g base : Heap} {n0 : Nat} {l frs : List Addr} {L : Addr} {m : Str → Option Value} {news : List (Addr × Obj)} {A : Around} {envs : List Env}
theorem rebase (hn : h.Ns L m) (hL : n0 ≤ L) (hN : ∀ p ∈ news, h.get? p.1 = some p.2 ∧ p.1 ≠ L) : ∃ g, Reb h g n0 (fsts news) ∧ Fr g L h m ∧ News g L h news := by
  refine ⟨gone (trunc h n0) (fsts news), ⟨fun b o e => ?_, fun b o hb hl e => (gone_get hl).trans ((trunc_get hb).trans e)⟩, ⟨hn, fun b o e => (trunc_some (gone_some e).2).2, ?_⟩, fun p hp => ⟨(hN p hp).1, (hN p hp).2, gone_none (List.mem_map.mpr ⟨p, hp, rfl⟩)⟩⟩
  · obtain ⟨h1, h2⟩ := gone_some e
    obtain ⟨h3, h4⟩ := trunc_some h2
    exact ⟨h3, h1, h4⟩
  · rw [gone_size]; exact Nat.le_trans (trunc_size h n0) hL
theorem Reb.stays (R : Reb h g h0.objs.size l) (B : Below A base envs h0) (C : Calm [] (envs.filterMap (·.frame)) h0 h) (hl : ∀ b ∈ l, h0.get? b = none) : ∀ b o, base.get? b = some o → g.get? b = some o := fun b o e => by
  have e0 := B.stays b o e
  refine R.keep b o (Heap.lt_size e0) (fun hm => by rw [hl b hm] at e0; cases e0) (C.rest b o (fun z => nomatch z) (fun z => ?_) e0)
  rw [(B.frames.mem z).1] at e; cases e
theorem Reb.below (R : Reb h g h0.objs.size l) (B : Below A base envs h0) (C : Calm [] (envs.filterMap (·.frame)) h0 h) (hl : ∀ b ∈ l, h0.get? b = none) : Below A base envs g := by
  refine ⟨B.stack, R.stays B C hl, ?_⟩
  refine B.frames.of_keeps fun b o hb hnf => ?_
  obtain ⟨sl, hs⟩ := C.up b o hb hnf
  exact ⟨_, R.keep b _ (Heap.lt_size hb) (fun hm => by rw [hl b hm] at hb; cases hb) hs, rfl⟩
theorem Reb.calm (R : Reb h g h0.objs.size l) (C : Calm [] frs h0 h) (hl : ∀ b ∈ l, h0.get? b = none) (k : ∀ b o, g.get? b = some o → h2.get? b = some o) : Calm [] frs h0 h2 := by
  refine ⟨fun b o q1 q2 e => ?_, fun b o e hnf => ?_⟩
  · exact k b o (R.keep b o (Heap.lt_size e) (fun hm => by rw [hl b hm] at e; cases e) (C.rest b o q1 q2 e))
  · obtain ⟨sl, hs⟩ := C.up b o e hnf
    exact ⟨sl, k b _ (R.keep b _ (Heap.lt_size e) (fun hm => by rw [hl b hm] at e; cases e) hs)⟩
/-- a call in a walk that is calm: the caller's heap stays calm -/
theorem Calm.below {l2 : List Addr} {L : Addr} (C : Calm [] frs h0 h) (D : Calm l2 (L :: frs) h h2) (hL : h0.get? L = none) (hl : ∀ b ∈ l2, h0.get? b = none) : Calm [] frs h0 h2 := by
  refine ⟨fun b o q1 q2 e => D.rest b o (fun z => by rw [hl b z] at e; cases e) (fun z => ?_) (C.rest b o q1 q2 e), fun b o e hnf => ?_⟩
  · rcases List.mem_cons.mp z with rfl | z
    · rw [hL] at e; cases e
    · exact q2 z
  · obtain ⟨sl, hs⟩ := C.up b o e hnf
    obtain ⟨sl2, hs2⟩ := D.up b _ hs hnf
    exact ⟨sl2, hs2⟩
theorem Calm.strictOn {l2 : List Addr} (C : Calm [] frs h0 h) (k : ∀ b o, b ∉ l2 → h.get? b = some o → h2.get? b = some o) (hl : ∀ b ∈ l2, h0.get? b = none) : Calm [] frs h0 h2 := by
  have ne : ∀ b o, h0.get? b = some o → b ∉ l2 := fun b o e z => by rw [hl b z] at e; cases e
  refine ⟨fun b o q1 q2 e => k b o (ne b o e) (C.rest b o q1 q2 e), fun b o e hnf => ?_⟩
  obtain ⟨sl, hs⟩ := C.up b o e hnf
  exact ⟨sl, k b _ (ne b o e) hs⟩
end
/-- names of a frame, told by two facts -/
theorem Fr.one {g h : Heap} {L : Addr} {m : Str → Option Value} {x : Str} {v : Value} (F : Fr g L h m) (e1 : m x = some v) : Fr g L h (fun z => if z = x then some v else m z) := by
  have : (fun z => if z = x then some v else m z) = m := by
    funext z
    by_cases h1 : z = x
    · subst h1; simp [e1]
    · simp [h1]
  rw [this]; exact F
theorem Fr.two {g h : Heap} {L : Addr} {m : Str → Option Value} {x y : Str} {v u : Value} (F : Fr g L h m) (e1 : m x = some v) (e2 : m y = some u) : Fr g L h (fun z => if z = x then some v else if z = y then some u else m z) := by
  have F2 := Fr.one F e2
  by_cases h : x = y
  · subst h
    rw [e1] at e2; cases e2
    have : (fun z => if z = x then some v else if z = x then some v else m z) = fun z => if z = x then some v else m z := by
      funext z; by_cases q : z = x <;> simp [q]
    rw [this]; exact F2
  · exact Fr.one F2 (by simp [h, e1])
theorem isList_up {h h' : Heap} {D : Addr} {xs : Array Value} (up : h.UpToSlots h') (hl : h.IsList D xs) : h'.IsList D xs := by
  obtain ⟨o, e, c, n, d⟩ := hl
  obtain ⟨sl, e2⟩ := up D o e (fun vs q => by rw [d] at q; cases q)
  exact ⟨_, e2, c, n, d⟩
end Mine
end
section
open PySem PySem.W PySem.Calls PyProof.Rows PyProof.Rows.TI
set_option maxRecDepth 100000
namespace Mine
section
variable {h h0 g base : Heap} {l : List Addr} {A : Around} {envs : List Env} {a : Addr}
theorem Reb.fresh (R : Reb h g h0.objs.size l) (B : Below A base envs h0) (C : Calm [] (envs.filterMap (·.frame)) h0 h) (hl : ∀ b ∈ l, h0.get? b = none) (hn : g.get? a = none) : h0.get? a = none := by
  cases q : h0.get? a with
  | none => rfl
  | some o =>
    have hal : a ∉ l := fun hm => by rw [hl a hm] at q; cases q
    by_cases hm : a ∈ envs.filterMap (·.frame)
    · obtain ⟨o', q1, q2⟩ := (B.frames.mem hm).2
      obtain ⟨sl, e4⟩ := C.up a o' q1 q2
      rw [R.keep a _ (Heap.lt_size q) hal e4] at hn; cases hn
    · rw [R.keep a o (Heap.lt_size q) hal (C.rest a o (fun z => nomatch z) hm q)] at hn; cases hn
/-- a list that came of a call -/
theorem list_obj {D : Addr} {ws : Array Value} (hl : h.IsList D ws) : ∃ o, h.get? D = some o ∧ (∀ h2 : Heap, h2.get? D = some o → h2.IsList D ws) := by
  obtain ⟨o, e, c, n, d⟩ := hl
  exact ⟨o, e, fun h2 e2 => ⟨o, e2, c, n, d⟩⟩
theorem Reb.list {frs : List Addr} {D : Addr} {xs : Array Value} (R : Reb h g h0.objs.size l) (C : Calm [] frs h0 h) (hl : ∀ b ∈ l, h0.get? b = none) (hD : h0.IsList D xs) : g.IsList D xs := by
  obtain ⟨o, e, c, n, d⟩ := hD
  obtain ⟨sl, e2⟩ := C.up D o e (fun vs q => by rw [d] at q; cases q)
  exact ⟨_, R.keep D _ (Heap.lt_size e) (fun hm => by rw [hl D hm] at e; cases e) e2, c, n, d⟩
end
end Mine
end
section
open PySem PySem.W PySem.Calls PyProof.Rows
set_option maxRecDepth 100000
namespace Mine
section
variable {h0 h h' g : Heap} {L a b : Addr} {oa ob : Obj} {m : Str → Option Value} {news news' : List (Addr × Obj)}
theorem ne_data (ga : h.get? a = some oa) (gb : h.get? b = some ob) (hd : oa.data ≠ ob.data) : a ≠ b := by
  rintro rfl
  rw [ga] at gb
  exact hd (congrArg Obj.data (Option.some.inj gb))
theorem News.upd (N : News h0 L h news) (hh : ∀ p ∈ news', h'.get? p.1 = some p.2 ∧ ∃ o, (p.1, o) ∈ news) : News h0 L h' news' := fun p hp => by
  obtain ⟨e, o, ho⟩ := hh p hp
  exact ⟨e, (N _ ho).2⟩
theorem upd_nil : ∀ p ∈ ([] : List (Addr × Obj)), h'.get? p.1 = some p.2 ∧ ∃ o, (p.1, o) ∈ news := fun _ hp => nomatch hp
theorem upd_cons {a : Addr} {o : Obj} {r : List (Addr × Obj)} (e : h'.get? a = some o) (he : ∃ o, (a, o) ∈ news) (hr : ∀ p ∈ r, h'.get? p.1 = some p.2 ∧ ∃ o, (p.1, o) ∈ news) : ∀ p ∈ (a, o) :: r, h'.get? p.1 = some p.2 ∧ ∃ o, (p.1, o) ∈ news := fun p hp => by
  rcases List.mem_cons.mp hp with rfl | hp
  · exact ⟨e, he⟩
  · exact hr p hp
/-- a calm call from a frame that no other frame stands about -/
theorem Calm.alone (C : Calm [] [L] h h') (F : Fr h0 L h m) (N : News h0 L h news) : Fr h0 L h' m ∧ News h0 L h' news :=
  ⟨Calm.frame (frs := []) C F (fun _ q => nomatch q), Calm.others (frs := []) C N (fun _ q => nomatch q) (fun _ _ q => nomatch q)⟩
end
end Mine
end
section
open PySem PySem.W PySem.Calls PyProof.Rows
set_option maxRecDepth 100000
namespace Mine
theorem News.swap {h0 h : Heap} {L : Addr} {big small : List (Addr × Obj)} (N : News h0 L h (big ++ small)) : News h0 L h (small ++ big) := fun p hp => N p ((List.mem_append.mp hp).elim (List.mem_append_right _) (List.mem_append_left _))
/-- where the loop stands: the heap has all that it had, the iterator is at ii, the cells hold anything -/
inductive LoopAt (s : Shared) (h0 : Heap) (L I Dt c1 c2 c3 c4 c5 c6 : Addr) (tl : List (Addr × Obj)) (P : (Str → Option Value) → Prop) : Nat → Shared → Prop
  | mk (h : Heap) (tk : Nat) (m : Str → Option Value) (ii k : Nat) (oI o1 o2 o3 o4 o5 o6 : Obj) (v1 v2 v3 v4 v5 v6 : Option Value) : P m → Fr h0 L h m → News h0 L h ([(c6, o6), (c5, o5), (c4, o4), (c3, o3), (c2, o2), (c1, o1)] ++ ((I, oI) :: tl)) → oI.cls = .type "tuple_iterator" → oI.data = .fields #[.ref Dt, .int (ii : Nat) 0] → k = 3 - ii → ii ≤ 3 →
      o1.data = .cell v1 → o2.data = .cell v2 → o3.data = .cell v3 → o4.data = .cell v4 → o5.data = .cell v5 → o6.data = .cell v6 → LoopAt s h0 L I Dt c1 c2 c3 c4 c5 c6 tl P k { s with heap := h, toks := tk }
section
variable {prog : Program} {w : World} {A : Around} {E : Value → Shared → Prop} {s : Shared} {env : Env} {h0 : Heap} {L : Addr}
/-- for i, j in ((..), (..), (..)): .., i and j cells, four more cells stand about -/
theorem law_loop {m0 : Str → Option Value} {i j : Str} {p1 p2 p3 : Pos} {kk : Nat} {body : List Stmt} {Q : Flow → Shared → Prop} {D Dt a b c c1 c2 c3 c4 c5 c6 : Addr} {o1 o2 o3 o4 o5 o6 od oc ob oa oD : Obj} {us : Array Value} {z : Nat} {n1 n2 n3 n4 n5 n6 : Value} {zd zc zb za : Nat}
    (hA : A.handled = none) (hkind : env.scope.kind = .function) (hi : env.kindOf i = some .cell) (hj : env.kindOf j = some .cell) (hci : env.cells.lookup i = some c1) (hcj : env.cells.lookup j = some c2)
    (d12 : c1 ≠ c2) (d31 : c3 ≠ c1) (d32 : c3 ≠ c2) (d41 : c4 ≠ c1) (d42 : c4 ≠ c2) (d51 : c5 ≠ c1) (d52 : c5 ≠ c2) (d61 : c6 ≠ c1) (d62 : c6 ≠ c2)
    (F : Fr h0 L s.heap m0) (N : News h0 L s.heap ([(Dt, od), (c, oc), (b, ob), (a, oa), (D, oD)] ++ [(c6, o6), (c5, o5), (c4, o4), (c3, o3), (c2, o2), (c1, o1)])) (hd1 : od.cls = .type "tuple") (hd2 : od.data = .seq #[.ref a, .ref b, .ref c] zd) (hc1 : oc.cls = .type "tuple") (hc2 : oc.data = .seq #[n5, n6] zc) (hb1 : ob.cls = .type "tuple") (hb2 : ob.data = .seq #[n3, n4] zb) (ha1 : oa.cls = .type "tuple") (ha2 : oa.data = .seq #[n1, n2] za) (hD2 : oD.data = .seq us z)
    {v1 v2 v3 v4 v5 v6 : Option Value} (e1 : o1.data = .cell v1) (e2 : o2.data = .cell v2) (e3 : o3.data = .cell v3) (e4 : o4.data = .cell v4) (e5 : o5.data = .cell v5) (e6 : o6.data = .cell v6)
    (P : (Str → Option Value) → Prop) (hP : P m0) (G : Value → Value → Prop) (g1 : G n1 n2) (g2 : G n3 n4) (g3 : G n5 n6)
    (turn : ∀ tl : List (Addr × Obj), (D, oD) ∈ tl → (∀ p ∈ tl, p.1 ≠ c3) → (∀ p ∈ tl, p.1 ≠ c4) → (∀ p ∈ tl, p.1 ≠ c5) → (∀ p ∈ tl, p.1 ≠ c6) → ∀ (QQ : Flow → Shared → Prop) (EE : Value → Shared → Prop) h tk m' o1 o2 o3 o4 o5 o6 u v, G u v → P m' → Fr h0 L h m' → News h0 L h ((c6, o6) :: (c5, o5) :: (c4, o4) :: (c3, o3) :: (c2, o2) :: (c1, o1) :: tl) → o1.data = .cell (some u) → o2.data = .cell (some v) → (∃ v, o3.data = .cell v) → (∃ v, o4.data = .cell v) → (∃ v, o5.data = .cell v) → (∃ v, o6.data = .cell v) →
      (∀ h' tk' m' o1 o2 o3 o4 o5 o6, P m' → Fr h0 L h' m' → News h0 L h' ((c6, o6) :: (c5, o5) :: (c4, o4) :: (c3, o3) :: (c2, o2) :: (c1, o1) :: tl) → (∃ v, o1.data = .cell v) → (∃ v, o2.data = .cell v) → (∃ v, o3.data = .cell v) → (∃ v, o4.data = .cell v) → (∃ v, o5.data = .cell v) → (∃ v, o6.data = .cell v) → QQ .next { s with heap := h', toks := tk' }) →
      wpAny (model prog w) A (execs body env) QQ EE { s with heap := h, toks := tk })
    (done : ∀ h tk m', P m' → Fr h0 L h m' → Q .next { s with heap := h, toks := tk }) :
    wpAny (model prog w) A (pyIter (.ref Dt)) (ForHas prog w A E env (.Tuple [.Name i p1, .Name j p2] kk p3) body Q) E s := by
  have gD := (N _ (.head _)).1
  refine wpAny_pyIter_tuple ⟨_, gD, hd1, _, hd2⟩ ?_
  have up : ∀ b o, s.heap.get? b = some o → (s.heap.push { cls := .type "tuple_iterator", data := .fields #[.ref Dt, .int 0 0] }).get? b = some o := fun b o e => Heap.get?_push_of_some _ e
  have hIL : s.heap.objs.size ≠ L := Nat.ne_of_gt F.ns.lt
  have hI0 : h0.get? s.heap.objs.size = none := by
    cases q : h0.get? s.heap.objs.size with
    | none => rfl
    | some o => exact absurd (Heap.lt_size (F.keep _ _ q)) (Nat.lt_irrefl _)
  refine ⟨s.heap.objs.size, LoopAt s h0 L s.heap.objs.size Dt c1 c2 c3 c4 c5 c6 [(Dt, od), (c, oc), (b, ob), (a, oa), (D, oD)] P, 3, rfl, ?_, ?_⟩
  · exact .mk _ _ m0 0 3 { cls := .type "tuple_iterator", data := .fields #[.ref Dt, .int 0 0] } o1 o2 o3 o4 o5 o6 _ _ _ _ _ _ hP (F.keeps up) (News.swap (big := _ :: [(Dt, od), (c, oc), (b, ob), (a, oa), (D, oD)]) (News.new F (N.grown up) (Heap.get?_push_size _ rfl) (Heap.get?_none_of_le (Nat.le_refl _)))) rfl rfl rfl (by decide) e1 e2 e3 e4 e5 e6
  generalize s.heap.objs.size = I at hIL hI0 ⊢
  clear N F gD up hP e1 e2 e3 e4 e5 e6
  intro k s' J
  cases J with
  | mk h tk m' ii _ oI o1 o2 o3 o4 o5 o6 v1 v2 v3 v4 v5 v6 hPm F1 N1 hcI hdI hkk hii e1 e2 e3 e4 e5 e6 =>
  subst hkk
  have at' : ∀ (i : Nat) {q : Addr × Obj}, ([(c6, o6), (c5, o5), (c4, o4), (c3, o3), (c2, o2), (c1, o1)] ++ ((I, oI) :: [(Dt, od), (c, oc), (b, ob), (a, oa), (D, oD)]))[i]? = some q → h.get? q.1 = some q.2 := fun i q hq => (N1 q (List.mem_of_getElem? hq)).1
  have gI := at' 6 rfl
  have gt := at' 7 rfl
  have hit : h.IsTupleIter I Dt ii := ⟨oI, gI, hcI, hdI⟩
  have htp : h.IsTuple Dt #[.ref a, .ref b, .ref c] := ⟨_, gt, hd1, _, hd2⟩
  by_cases h3 : ii < 3
  · obtain ⟨t, u, v, ev, gv, hG⟩ : ∃ t u v, (#[Value.ref a, .ref b, .ref c] : Array Value)[ii]? = some (.ref t) ∧ h.IsTuple t #[u, v] ∧ G u v := by
      rcases (by omega : ii = 0 ∨ ii = 1 ∨ ii = 2) with rfl | rfl | rfl
      · exact ⟨a, _, _, rfl, ⟨_, at' 10 rfl, ha1, _, ha2⟩, g1⟩
      · exact ⟨b, _, _, rfl, ⟨_, at' 9 rfl, hb1, _, hb2⟩, g2⟩
      · exact ⟨c, _, _, rfl, ⟨_, at' 8 rfl, hc1, _, hc2⟩, g3⟩
    refine wpAny_pyNext_tuple_item hit htp ev fun h1 hit1 hs1 => ?_
    show wpAny _ A (letOwnedTupleGo _ _ _) _ _ _
    refine letGo_tupleiter hit1 ?_
    have l1 := at' 5 rfl
    have l2 := at' 4 rfl
    have nI1 : c1 ≠ I := ne_data l1 gI (by rw [e1, hdI]; exact fun z => nomatch z)
    have nI2 : c2 ≠ I := ne_data l2 gI (by rw [e2, hdI]; exact fun z => nomatch z)
    have gv1 : h1.IsTuple t #[u, v] := by
      obtain ⟨o, e, r1, n, r2⟩ := gv
      exact ⟨o, (hs1.2 _ (ne_data e gI (by rw [r2, hdI]; exact fun z => nomatch z))).trans e, r1, n, r2⟩
    refine assign_cells2 hA hkind hi hj hci hcj ⟨o1, (hs1.2 _ nI1).trans l1, e1⟩ ⟨o2, (hs1.2 _ nI2).trans l2, e2⟩ d12 gv1 fun h2 hc1' hc2' hk2 => ?_
    obtain ⟨oI1, gI1, cI1, dI1⟩ := hit1
    obtain ⟨o1', g1', q1'⟩ := hc1'
    obtain ⟨o2', g2', q2'⟩ := hc2'
    have mv : ∀ b o, h.get? b = some o → b ≠ I → b ≠ c1 → b ≠ c2 → h2.get? b = some o := fun b o e z1 z2 z3 => hk2 b o z2 z3 ((hs1.2 b z1).trans e)
    have mq : ∀ b o vs zz, h.get? b = some o → o.data = .seq vs zz → h2.get? b = some o := fun b o vs zz e hd => mv b o e (ne_data e gI (by rw [hd, hdI]; exact fun z => nomatch z)) (ne_data e l1 (by rw [hd, e1]; exact fun z => nomatch z)) (ne_data e l2 (by rw [hd, e2]; exact fun z => nomatch z))
    have mc : ∀ b o v, h.get? b = some o → o.data = .cell v → b ≠ c1 → b ≠ c2 → h2.get? b = some o := fun b o v e hd z1 z2 => mv b o e (ne_data e gI (by rw [hd, hdI]; exact fun z => nomatch z)) z1 z2
    have new : ∀ (i : Nat) {q : Addr × Obj}, ([(c6, o6), (c5, o5), (c4, o4), (c3, o3), (c2, o2), (c1, o1)] ++ ((I, oI) :: [(Dt, od), (c, oc), (b, ob), (a, oa), (D, oD)]))[i]? = some q → q.1 ≠ L ∧ h0.get? q.1 = none := fun i q hq => (N1 q (List.mem_of_getElem? hq)).2
    have base : ∀ b o, h0.get? b = some o → h2.get? b = some o := fun b o e => mv b o (F1.keep b o e) (fun z => by rw [z, hI0] at e; cases e) (fun z => by rw [z, (new 5 rfl).2] at e; cases e) (fun z => by rw [z, (new 4 rfl).2] at e; cases e)
    have F2 : Fr h0 L h2 m' := ⟨F1.ns.at' fun o e => mv _ _ e (Ne.symm hIL) (fun z => (new 5 rfl).1 z.symm) (fun z => (new 4 rfl).1 z.symm), base, F1.above⟩
    have w6 := mc _ _ _ (at' 0 rfl) e6 d61 d62
    have w5 := mc _ _ _ (at' 1 rfl) e5 d51 d52
    have w4 := mc _ _ _ (at' 2 rfl) e4 d41 d42
    have w3 := mc _ _ _ (at' 3 rfl) e3 d31 d32
    have wI := hk2 _ _ (Ne.symm nI1) (Ne.symm nI2) gI1
    have wt := mq _ _ _ _ gt hd2
    have wc := mq _ _ _ _ (at' 8 rfl) hc2
    have wb := mq _ _ _ _ (at' 9 rfl) hb2
    have wa := mq _ _ _ _ (at' 10 rfl) ha2
    have wD := mq _ _ _ _ (at' 11 rfl) hD2
    have ids : ∀ (i : Nat) {x : Addr} {o : Obj}, ([(c6, o6), (c5, o5), (c4, o4), (c3, o3), (c2, o2), (c1, o1)] ++ ((I, oI) :: [(Dt, od), (c, oc), (b, ob), (a, oa), (D, oD)]))[i]? = some (x, o) → ∃ o, (x, o) ∈ ([(c6, o6), (c5, o5), (c4, o4), (c3, o3), (c2, o2), (c1, o1)] ++ ((I, oI) :: [(Dt, od), (c, oc), (b, ob), (a, oa), (D, oD)])) := fun i x o hq => ⟨o, List.mem_of_getElem? hq⟩
    have N2 : News h0 L h2 ([(c6, o6), (c5, o5), (c4, o4), (c3, o3), (c2, o2'), (c1, o1')] ++ ((I, oI1) :: [(Dt, od), (c, oc), (b, ob), (a, oa), (D, oD)])) :=
      News.upd N1 (upd_cons w6 (ids 0 rfl) (upd_cons w5 (ids 1 rfl) (upd_cons w4 (ids 2 rfl) (upd_cons w3 (ids 3 rfl) (upd_cons g2' (ids 4 rfl) (upd_cons g1' (ids 5 rfl) (upd_cons wI (ids 6 rfl) (upd_cons wt (ids 7 rfl) (upd_cons wc (ids 8 rfl) (upd_cons wb (ids 9 rfl) (upd_cons wa (ids 10 rfl) (upd_cons wD (ids 11 rfl) upd_nil))))))))))))
    have off : ∀ (k : Addr) (o : Obj) v, h2.get? k = some o → o.data = .cell v → ∀ p ∈ (I, oI1) :: [(Dt, od), (c, oc), (b, ob), (a, oa), (D, oD)], p.1 ≠ k := fun k o v e hd => by
      have ns : ∀ {q : Addr} {oq : Obj} {vq : Array Value} {zq : Nat}, h2.get? q = some oq → oq.data = .seq vq zq → q ≠ k := fun g hq => ne_data g e (by rw [hd, hq]; exact fun z => nomatch z)
      exact List.forall_mem_cons.mpr ⟨ne_data wI e (by rw [hd, dI1]; exact fun z => nomatch z), List.forall_mem_cons.mpr ⟨ns wt hd2, List.forall_mem_cons.mpr ⟨ns wc hc2, List.forall_mem_cons.mpr ⟨ns wb hb2, List.forall_mem_cons.mpr ⟨ns wa ha2, List.forall_mem_cons.mpr ⟨ns wD hD2, List.forall_mem_nil _⟩⟩⟩⟩⟩⟩
    clear mv mq mc base new at' ids wt wc wb wa wI hs1 hk2 g1' g2' l1 l2 gI gt hit htp N1 F1
    refine turn ((I, oI1) :: [(Dt, od), (c, oc), (b, ob), (a, oa), (D, oD)]) (List.mem_of_getElem? (i := 5) rfl) (off _ _ _ w3 e3) (off _ _ _ w4 e4) (off _ _ _ w5 e5) (off _ _ _ w6 e6) _ _ h2 tk m' o1' o2' o3 o4 o5 o6 u v hG hPm F2 N2 q1' q2' ⟨_, e3⟩ ⟨_, e4⟩ ⟨_, e5⟩ ⟨_, e6⟩ ?_
    intro h' tk' m'' o1 o2 o3 o4 o5 o6 hP' F' N' x1 x2 x3 x4 x5 x6
    obtain ⟨_, x1⟩ := x1
    obtain ⟨_, x2⟩ := x2
    obtain ⟨_, x3⟩ := x3
    obtain ⟨_, x4⟩ := x4
    obtain ⟨_, x5⟩ := x5
    obtain ⟨_, x6⟩ := x6
    exact ⟨3 - (ii + 1), by omega, .mk h' tk' m'' (ii + 1) _ oI1 o1 o2 o3 o4 o5 o6 _ _ _ _ _ _ hP' F' N' cI1 dI1 rfl (by (assumption)) x1 x2 x3 x4 x5 x6⟩
  · obtain rfl : ii = 3 := by omega
    refine wpAny_pyNext_tuple_end hA hit htp rfl fun h2 he2 => ?_
    refine done h2 tk m' hPm ⟨F1.ns.at' fun o e => he2 _ _ (Ne.symm hIL) e, fun b o e => he2 b o (fun z => by rw [z, hI0] at e; cases e) (F1.keep b o e), F1.above⟩
end
end Mine
end
section
open PySem PySem.W PySem.Calls PyProof.Rows
set_option maxRecDepth 100000
namespace Mine
def modBy (i a : Int) : Int := if 0 < i then a.fmod i else a
/-- ints with tokens of their own -/
structure Told (ys : Array Value) (n : Nat) (f : Nat → Int) (yt : Nat → Tok) : Prop where
  size : ys.size = n
  at' : ∀ k, k < n → ys[k]? = some (.int (f k) (yt k))
  pos : ∀ k, k < n → yt k ≠ 0
  inj : ∀ j k, j < n → k < n → yt j = yt k → f j = f k
section
variable {prog : Program} {w : World} {A : Around} {E : Value → Shared → Prop} {s : Shared} {env : Env}
def ModG (iv : Int) (f : Nat → Int) (t0 : Nat) (ys : List Value) (tk : Nat) : Prop :=
  ∃ yt : Nat → Tok, (∀ k, k < ys.length → ys[k]? = some (.int (modBy iv (f k)) (yt k)) ∧ 0 < yt k ∧ (0 < iv → yt k < tk)) ∧ (∀ j k, j < ys.length → k < ys.length → yt j = yt k → j = k) ∧ (¬ 0 < iv → ∀ k, yt k = t0 + k)
theorem ModG.snoc {iv : Int} {f : Nat → Int} {t0 k tk tk' : Nat} {ys : List Value} {t : Tok} (g : ModG iv f t0 ys tk) (hk : ys.length = k) (h1 : 0 < iv → tk < t ∧ t < tk') (h2 : ¬ 0 < iv → t = t0 + k) (h0 : 0 < t0) : ModG iv f t0 (ys ++ [.int (modBy iv (f k)) t]) tk' := by
  obtain ⟨yt, g2, g3, g4⟩ := g
  rw [hk] at g2 g3
  obtain ⟨zt, z1, z2, z3⟩ : ∃ zt : Nat → Tok, (∀ j, j < k → zt j = yt j) ∧ zt k = t ∧ (¬ 0 < iv → ∀ j, zt j = t0 + j) := by
    by_cases hv : 0 < iv
    · exact ⟨fun j => if j < k then yt j else t, fun j hj => if_pos hj, if_neg (Nat.lt_irrefl _), fun q => absurd hv q⟩
    · exact ⟨yt, fun _ _ => rfl, by rw [g4 hv, h2 hv], g4⟩
  have low : ∀ i, i < k → 0 < iv → yt i ≠ t := fun i hi hv e => by
    have q1 := (g2 i hi).2.2 hv
    have q2 := (h1 hv).1
    rw [e] at q1
    exact absurd (Nat.lt_trans q1 q2) (Nat.lt_irrefl _)
  refine ⟨zt, fun j hj => ?_, fun i j hi hj e => ?_, z3⟩
  · rw [List.length_append, hk, List.length_singleton] at hj
    by_cases hjk : j < k
    · obtain ⟨q1, q2, q3⟩ := g2 j hjk
      rw [List.getElem?_append_left (hk ▸ hjk), z1 j hjk]
      exact ⟨q1, q2, fun hv => Nat.lt_trans (q3 hv) (Nat.lt_trans (h1 hv).1 (h1 hv).2)⟩
    · obtain rfl : j = k := by (clear hk h1 h2 h0 g2 g3 g4 z1 z2 z3 low; lia)
      rw [z2, List.getElem?_append_right (by (clear h1 h0 g4 z3 h2 g2 g3 z1 z2 low hj hjk; lia))]
      refine ⟨by simp [hk], ?_⟩
      by_cases hi : 0 < iv
      · obtain ⟨q1, q2⟩ := h1 hi
        exact ⟨Nat.lt_of_le_of_lt (Nat.zero_le _) q1, fun _ => q2⟩
      · rw [h2 hi]
        exact ⟨Nat.lt_of_lt_of_le h0 (Nat.le_add_right t0 j), fun q => absurd q hi⟩
  · rw [List.length_append, hk, List.length_singleton] at hi hj
    by_cases hv : 0 < iv
    · by_cases hik : i < k <;> by_cases hjk : j < k
      · rw [z1 i hik, z1 j hjk] at e; exact g3 i j hik hjk e
      · obtain rfl : j = k := by (clear hk h1 h2 h0 g2 g3 g4 z1 z2 z3 low hi e hv hik; lia)
        rw [z1 i hik, z2] at e; exact absurd e (low i hik hv)
      · obtain rfl : i = k := by (clear hk h1 h2 h0 g2 g3 g4 z1 z2 z3 low hj e hv hjk; lia)
        rw [z1 j hjk, z2] at e; exact absurd e.symm (low j hjk hv)
      · (clear hk h1 h2 h0 g2 g3 g4 z1 z2 z3 low e hv; lia)
    · rw [z3 hv, z3 hv] at e
      exact Nat.add_left_cancel e
/-- [a % i if i > 0 else a for a in a list of ints], i a cell -/
theorem ListComp_mod {iter : PySem.Expr} {a i : Str} {px p1 p2 p3 p4 p5 p6 p7 p8 pos : Pos} {q : Nat} {scope : Scope} {cl : List (Str × Addr)} {Q : Value → Shared → Prop} {ci : Addr} {iv : Int} (hA : A.handled = none)
    (hclos : closureFor scope env = pure cl) (hcell : ∀ y ∈ scope.names, y.2 ≠ .cell) (hkind : scope.kind = .function)
    (hnames : ∀ y ∈ scope.names, y.2 = .local → scope.names.lookup y.1 = some .local) (hx : scope.names.lookup a = some .local)
    (hxk : ∀ C, (compEnvC scope cl C env).kindOf a = some .local) (hik : ∀ C, (compEnvC scope cl C env).kindOf i = some .cell) (hci : cl.lookup i = some ci) (dx : (a == ("__debug__" : Str)) = false) (df : (i == ("__debug__" : Str)) = false)
    (h : wpAny (model prog w) A (eval iter env) (fun xv s₁ => ∃ (ax : Addr) (its : Array Value) (n : Nat) (f : Nat → Int) (t0 : Nat) (ti : Tok), xv = .ref ax ∧ s₁.heap.IsList ax its ∧ its.size = n ∧ n ≤ sizeLine ∧ 0 < t0 ∧ (∀ k, k < n → its[k]? = some (.int (f k) (t0 + k))) ∧ s₁.heap.IsCell ci (some (.int iv ti)) ∧
      ∀ (D : Addr) (h' : Heap) (tk : Nat) (ys : Array Value) (yt : Nat → Tok), (∀ b o, s₁.heap.get? b = some o → h'.get? b = some o) → h'.get? D = some (listOf ys ys.size) → s₁.heap.get? D = none → Told ys n (fun k => modBy iv (f k)) yt → Q (.ref D) { s₁ with heap := h', toks := tk }) E s)
    (hs : ∀ x, foldedSetIterable iter env x = pure x := by intro _; rfl) :
    wpAny (model prog w) A (eval (.ListComp (.IfExp (.Compare (.Name i p1) [.Gt] [.Constant (.int 0) q p2] p3) (.BinOp (.Name a p4) .Mod (.Name i p5) p6) (.Name a p7) p8) [⟨.Name a px, iter, [], 0⟩] scope pos) env) Q E s := by
  rw [eval_ListComp]
  refine wpAny_comprehension_free (use := none) rfl hs hclos hkind hnames (wpAny_mono h (fun xv s₁ h₁ => ?_) fun _ _ e => e)
  obtain ⟨ax, its, n, f, t0, ti, rfl, hl, hsz, hn, ht0, hits, hc, hQ⟩ := h₁
  refine block_tok (RR := fun acc C => compPost (model prog w) A E none Q acc C) (ModG iv f t0) (fun ys a b hab => ?_) hA hcell hkind hx hl (hsz ▸ hn) ⟨fun k => t0 + k, fun k hk => absurd hk (Nat.not_lt_zero _), fun j k hj => absurd hj (Nat.not_lt_zero _), fun _ k => rfl⟩ ?_ ?_
  · rintro ⟨yt, h2, h3, h4⟩
    exact ⟨yt, fun k hk => ⟨(h2 k hk).1, (h2 k hk).2.1, fun hv => Nat.lt_of_lt_of_le ((h2 k hk).2.2 hv) hab⟩, h3, h4⟩
  · rintro k v ys C h tk m' hv hyl ⟨yt, g2, g3, g4⟩ hns hm hk
    have hkn : k < n := by rw [← hsz]; exact (Array.getElem?_eq_some_iff.mp hv).1
    obtain rfl := Option.some.inj ((hits k hkn).symm.trans hv)
    have hc1 : h.IsCell ci (some (.int iv ti)) := by obtain ⟨o, e, d⟩ := hc; exact ⟨o, hk _ _ e, d⟩
    refine wpAny_IfExp ?_
    refine wpAny_isTrue_Compare1 ?_
    refine wpAny_Name (wpAny_loadName_cell hkind (hik C) hci hc1 ?_) df
    refine wpAny_Constant_int ?_
    refine gt_int ?_
    refine wpAny_truthy_bool ?_
    by_cases hi : 0 < iv
    · rw [decide_eq_true hi, if_pos rfl]
      refine wpAny_BinOp ?_
      refine wpAny_Name (wpAny_loadName_local hkind (hxk C) hns hm ?_) dx
      refine wpAny_Name (wpAny_loadName_cell hkind (hik C) hci hc1 ?_) df
      refine mod_int (by (clear hA hclos hcell hkind hnames hx hxk hik hci dx df hs hl hsz hn ht0 hits hc hQ hyl g2 g3 g4 hns hk hkn hv hm hc1; (exact Int.ne_of_gt (by assumption)))) ?_
      have e : modBy iv (f k) = (f k).fmod iv := if_pos hi
      rw [← e]
      exact ⟨h, _, rfl, fun _ _ e => e, ModG.snoc ⟨yt, g2, g3, g4⟩ hyl (fun _ => ⟨Nat.lt_succ_self _, Nat.lt_succ_self _⟩) (fun q => absurd hi q) ht0⟩
    · rw [decide_eq_false hi]
      refine wpAny_Name (wpAny_loadName_local hkind (hxk C) hns hm ?_) dx
      have e : modBy iv (f k) = f k := if_neg hi
      rw [← e]
      exact ⟨h, _, rfl, fun _ _ e => e, ModG.snoc ⟨yt, g2, g3, g4⟩ hyl (fun q => absurd q hi) (fun _ => rfl) ht0⟩
  · intro D C h' tk m'' ys hD hC hDC hn hl' hy hG hk
    refine ⟨m'', hn, fun h'' hs'' => ?_⟩
    have k2 : ∀ b o, s₁.heap.get? b = some o → h''.get? b = some o := fun b o e => (hs''.2 b (by rintro rfl; rw [hC] at e; cases e)).trans (hk b o e)
    obtain ⟨yt, g2, g3, g4⟩ := hG
    rw [hy, hsz] at g2 g3
    refine hQ D h'' tk ys.toArray yt k2 ?_ hD ⟨by rw [List.size_toArray, hy, hsz], fun k hk => ?_, fun k hk => Nat.ne_of_gt (g2 k hk).2.1, fun j k hj hk e => by rw [g3 j k hj hk e]⟩
    · rw [List.size_toArray]; exact (hs''.2 D hDC).trans hl'
    · rw [List.getElem?_toArray]; exact (g2 k hk).1
end
end Mine
end
section
open PySem PySem.W PySem.Calls PyProof.Rows
set_option maxRecDepth 100000
namespace Mine
inductive NoneAt (s₁ : Shared) (I ax D C : Addr) (n : Nat) (frs : List Addr) (k : Nat) (s' : Shared) : Prop
  | mk (h' : Heap) (tk : Nat) (m' : Str → Option Value) (i : Nat) : s' = { s₁ with heap := h', toks := tk } → h'.IsTupleIter I ax i → h'.get? D = some (PySem.W.listOf (List.toArray []) 0) → h'.Ns C m' → i ≤ n → k = n + 1 - i → Calm [] frs s₁.heap h' → NoneAt s₁ I ax D C n frs k s'
section
variable {prog : Program} {w : World} {A : Around} {E : Value → Shared → Prop} {s : Shared} {env : Env}
theorem Calm.get {frs : List Addr} {h h' : Heap} (C : Calm [] frs h h') {b : Addr} {o : Obj} (hb : b ∉ frs) (e : h.get? b = some o) : h'.get? b = some o := C.rest b o (fun z => nomatch z) hb e
/-- [x for x in a written tuple if ..]: no item passes; the tests turn the frames alone -/
theorem ListComp_none {iter : PySem.Expr} {x : Str} {px pe : Pos} {ifs : List PySem.Expr} {scope : Scope} {cl : List (Str × Addr)} {pos : Pos} {Q : Value → Shared → Prop} {frs : List Addr} (hA : A.handled = none)
    (hclos : closureFor scope env = pure cl) (hcell : ∀ y ∈ scope.names, y.2 ≠ .cell) (hkind : scope.kind = .function)
    (hnames : ∀ y ∈ scope.names, y.2 = .local → scope.names.lookup y.1 = some .local) (hx : scope.names.lookup x = some .local)
    (h : wpAny (model prog w) A (eval iter env) (fun xv s₁ => ∃ (ax : Addr) (its : Array Value), xv = .ref ax ∧ s₁.heap.IsTuple ax its ∧ its.size ≤ 100 ∧ ax ∉ frs ∧ (∀ b ∈ frs, ∃ o, s₁.heap.get? b = some o) ∧
      (∀ (i : Nat) v, its[i]? = some v → ∀ C h tk m', h.Ns C m' → m' x = some v → s₁.heap.get? C = none → Calm [] frs s₁.heap h →
        wpAny (model prog w) A (testsOf ifs (compEnvC scope cl C env)) (fun ok s₆ => ok = false ∧ ∃ h6 tk6, s₆ = { s₁ with heap := h6, toks := tk6 } ∧ Calm [] frs h h6) (fun _ _ => False) { s₁ with heap := h, toks := tk }) ∧
      ∀ D h' tk, Calm [] frs s₁.heap h' → h'.get? D = some (listOf #[] 0) → s₁.heap.get? D = none → Q (.ref D) { s₁ with heap := h', toks := tk }) E s)
    (hs : ∀ x, foldedSetIterable iter env x = pure x := by intro _; rfl) :
    wpAny (model prog w) A (eval (.ListComp (.Name x pe) [⟨.Name x px, iter, ifs, 0⟩] scope pos) env) Q E s := by
  rw [eval_ListComp]
  refine wpAny_comprehension_free (use := none) rfl hs hclos hkind hnames (wpAny_mono h (fun xv s₁ h₁ => ?_) fun _ _ e => e)
  obtain ⟨ax, its, rfl, hl, hsz, hax, hfr, he, hQ⟩ := h₁
  have hlt : ax < s₁.heap.objs.size := by obtain ⟨_, e, _⟩ := hl; exact Heap.lt_size e
  refine wpAny_pyIter_tuple hl ?_
  refine wpAny_newObj_type (wpAny_newFunctionEnv hcell (by intro y hy; simp at hy) (fun h₁ hns₁ hsb₁ => ?_) hkind)
  dsimp only at hns₁ hsb₁ ⊢
  generalize hH1 : s₁.heap.push { cls := .type "tuple_iterator", data := .fields #[.ref ax, .int 0 0] } = H1 at hns₁ hsb₁ ⊢
  generalize hH2 : H1.push { cls := .type "list", dict := none, data := .seq ([] : List Value).toArray } = H2 at hns₁ hsb₁ ⊢
  have n1 : H1.objs.size = s₁.heap.objs.size + 1 := by rw [← hH1, Heap.size_push]
  have n2 : H2.objs.size = s₁.heap.objs.size + 1 + 1 := by rw [← hH2, Heap.size_push, n1]
  have old : ∀ b o, s₁.heap.get? b = some o → h₁.get? b = some o := fun b o e => hsb₁.extBut b o (by have := Heap.lt_size e; rw [n2]; exact Nat.ne_of_lt (Nat.lt_succ_of_lt (Nat.lt_succ_of_lt this))) (Heap.get?_push_of_some _ (hH2 ▸ Heap.get?_push_of_some _ (hH1 ▸ Heap.get?_push_of_some _ e)))
  have hit : h₁.IsTupleIter s₁.heap.objs.size ax 0 := ⟨_, hsb₁.extBut _ _ (by rw [n2]; exact Nat.ne_of_lt (Nat.lt_succ_of_lt (Nat.lt_succ_self _))) (Heap.get?_push_of_some _ (hH2 ▸ Heap.get?_push_of_some _ (hH1 ▸ Heap.get?_push_size _ rfl))), rfl, rfl⟩
  have hacc : h₁.get? H1.objs.size = some (PySem.W.listOf (List.toArray []) 0) := hsb₁.extBut _ _ (by rw [n2, n1]; exact Nat.ne_of_lt (Nat.lt_succ_self _)) (Heap.get?_push_of_some _ (hH2 ▸ Heap.get?_push_size _ rfl))
  have fresh : ∀ a, s₁.heap.objs.size ≤ a → s₁.heap.get? a = none := fun a ha => Heap.get?_none_of_le ha
  have d1 : H1.objs.size ≠ H2.objs.size := by rw [n2, n1]; exact Nat.ne_of_lt (Nat.lt_succ_self _)
  have d2 : H1.objs.size ≠ s₁.heap.objs.size := by rw [n1]; exact Nat.ne_of_gt (Nat.lt_succ_self _)
  have d3 : H2.objs.size ≠ s₁.heap.objs.size := by rw [n2]; exact Nat.ne_of_gt (Nat.lt_succ_of_lt (Nat.lt_succ_self _))
  have fD := fresh H1.objs.size (by rw [n1]; exact Nat.le_succ _)
  have fC := fresh H2.objs.size (by rw [n2]; exact Nat.le_succ_of_le (Nat.le_succ _))
  have fI := fresh s₁.heap.objs.size (Nat.le_refl _)
  have hIax : ax ≠ s₁.heap.objs.size := Nat.ne_of_lt hlt
  generalize s₁.heap.objs.size = I at *
  generalize H2.objs.size = C at *
  generalize H1.objs.size = D at *
  have off : ∀ {a : Addr}, s₁.heap.get? a = none → ∀ b o, s₁.heap.get? b = some o → b ≠ a := fun ha b o e q => by rw [q, ha] at e; cases e
  have nfr : ∀ {a : Addr}, s₁.heap.get? a = none → a ∉ frs := fun ha q => by obtain ⟨o, e⟩ := hfr _ q; rw [ha] at e; cases e
  obtain ⟨oax, gax, cax, dax⟩ := hl
  have calm_set : ∀ {a : Addr} {h h' : Heap}, s₁.heap.get? a = none → (∀ b, b ≠ a → h'.get? b = h.get? b) → Calm [] frs s₁.heap h → Calm [] frs s₁.heap h' := fun ha hk C0 =>
    ⟨fun b o q1 q2 e => (hk b (off ha b o e)).trans (C0.rest b o q1 q2 e), fun b o e hnf => by
      obtain ⟨sl, e2⟩ := C0.up b o e hnf
      exact ⟨sl, (hk b (off ha b o e)).trans e2⟩⟩
  have loop : ∀ s₃ : Shared, s₃ = { s₁ with heap := h₁, toks := s₁.toks + ([] : List (Str × Value)).length } →
      codeAny (model prog w) A (.compLoop (.ListComp (.Name x pe) [⟨.Name x px, iter, ifs, 0⟩] scope pos) 0 (.ref I) (.ref D) (compEnvC scope cl C env)) (compPost (model prog w) A E none Q (.ref D) C) s₃ := by
    rintro s₃ rfl
    refine compLoop_go (NoneAt s₁ I ax D C its.size frs) ?_ (its.size + 1)
      ⟨h₁, _, _, 0, rfl, hit, hacc, hns₁, Nat.zero_le _, rfl, Calm.of_keeps old⟩
    rintro k s' ⟨h', tk, m', i, rfl, hit', hD', hn', hi, rfl, hk⟩
    have hl' : h'.IsTuple ax its := ⟨oax, Calm.get hk hax gax, cax, dax⟩
    by_cases hlt : i < its.size
    · refine wpAny_pyNext_tuple_item hit' hl' (x := its[i]) (by simp [hlt]) fun h₂ hit₂ hs₂ => ?_
      refine wpAny_of_eq (show letOwnedTupleGo (.Name x px) _ _ = pure () from rfl) ?_
      have hn₂ : h₂.Ns C m' := hn'.sameBut hs₂ d3
      refine wpAny_assign_Name (wpAny_storeName_local (lookup_relabel_local hx) hn₂ (fun h₃ hn₃ hs₃ => ?_) (by simp [compEnvC, relabel, hkind]))
      have hD₃ : h₃.get? D = some (PySem.W.listOf (List.toArray []) 0) := (hs₃.2 D d1).trans ((hs₂.2 D d2).trans hD')
      have hit₃ : h₃.IsTupleIter I ax (i + 1) := hit₂.at fun o e => (hs₃.2 I (Ne.symm d3)).trans e
      have k3 : Calm [] frs s₁.heap h₃ := calm_set fC hs₃.2 (calm_set fI hs₂.2 hk)
      refine wpAny_mono (he i its[i] (by simp [hlt]) C h₃ (tk + 1) _ hn₃ (by simp) fC k3) (fun ok s₆ h₆ => ?_) fun _ _ x => x
      obtain ⟨rfl, h6, tk6, rfl, hk6⟩ := h₆
      simp only [Bool.false_eq_true, if_false]
      refine ⟨its.size + 1 - (i + 1), by (clear hA hclos hcell hkind hnames hx h hs hsz hax hfr he hQ hH1 hH2 old hit fresh fI hIax hns₁ hsb₁ fC n2 d3 hacc fD n1 d2 d1 off nfr gax cax dax calm_set hit' hD' hn' hi hk hl' hit₂ hs₂ hn₂ hn₃ hs₃ hD₃ hit₃ k3 hk6; omega), h6, tk6, _, i + 1, rfl, hit₃.at fun o e => Calm.get hk6 (nfr fI) e, Calm.get hk6 (nfr fD) hD₃, hn₃.at' fun o e => Calm.get hk6 (nfr fC) e, hlt, rfl, k3.trans hk6⟩
    · obtain rfl : i = its.size := by (clear hA hclos hcell hkind hnames hx h hs hsz hax hfr he hQ hH1 hH2 old hit fresh fI hIax hns₁ hsb₁ fC n2 d3 hacc fD n1 d2 d1 off nfr gax cax dax calm_set hit' hD' hn' hk hl'; lia)
      refine wpAny_pyNext_tuple_end hA hit' hl' (by simp) fun h₂ he₂ => ?_
      refine ⟨m', hn'.at' fun o e => he₂ _ o d3 e, fun h'' hs'' => ?_⟩
      have k2 : Calm [] frs s₁.heap h₂ := ⟨fun b o q1 q2 e => he₂ b o (off fI b o e) (hk.rest b o q1 q2 e), fun b o e hnf => by
        obtain ⟨sl, e2⟩ := hk.up b o e hnf
        exact ⟨sl, he₂ b _ (off fI b o e) e2⟩⟩
      exact hQ D h'' tk (calm_set fC hs''.2 k2) ((hs''.2 D d1).trans (he₂ _ _ d2 hD')) fD
  exact codeAny_compStart_list (loop _ rfl) (wpAny_pyIter_tupleiter hit (loop _ rfl))
end
end Mine
end
section
open PySem PySem.W PySem.Calls PyProof.Rows
set_option maxRecDepth 100000
namespace Mine
/-- the tree of asks, answered by a plain order -/
def ev {α : Type} (lt : Nat → Nat → Bool) : KasT α → α
  | .ret a => a
  | .ask i j k => ev lt (k (lt i j))
theorem ev_bind {α β : Type} {lt : Nat → Nat → Bool} {f : α → KasT β} : ∀ t : KasT α, ev lt (t.bind f) = ev lt (f (ev lt t))
  | .ret _ => rfl
  | .ask i j k => ev_bind (k (lt i j))
structure Ord (lt : Nat → Nat → Bool) : Prop where
  trans : ∀ a b c, lt a b = true → lt b c = true → lt a c = true
  tot : ∀ a b, a ≠ b → lt a b = false → lt b a = true
def at' (p : Array Nat) (i : Nat) : Nat := p.getD i 0
def Dist (p : Array Nat) (N : Nat) : Prop := ∀ i j, i < N → j < N → i ≠ j → at' p i ≠ at' p j
def Asc (lt : Nat → Nat → Bool) (p : Array Nat) (m : Nat) : Prop := ∀ i j, i < j → j < m → lt (at' p i) (at' p j) = true
def Desc (lt : Nat → Nat → Bool) (p : Array Nat) (m : Nat) : Prop := ∀ i j, i < j → j < m → lt (at' p j) (at' p i) = true
theorem at_opt (p : Array Nat) (i : Nat) : at' p i = (p[i]?).getD 0 := by unfold at'; rw [Array.getD_eq_getD_getElem?]
section
variable {lt : Nat → Nat → Bool} (O : Ord lt) {p : Array Nat} {N : Nat}
include O
theorem Asc.step {n : Nat} (h : Asc lt p n) (hn : 1 ≤ n) (h1 : lt (at' p (n - 1)) (at' p n) = true) : Asc lt p (n + 1) := by
  intro i j hij hj
  rcases Nat.lt_succ_iff_lt_or_eq.mp hj with hj | rfl
  · exact h i j hij hj
  · by_cases e : i = j - 1
    · rw [e]; exact h1
    · exact O.trans _ _ _ (h i (j - 1) (by omega) (by omega)) h1
theorem Desc.step {n : Nat} (h : Desc lt p n) (hn : 1 ≤ n) (h1 : lt (at' p n) (at' p (n - 1)) = true) : Desc lt p (n + 1) := by
  intro i j hij hj
  rcases Nat.lt_succ_iff_lt_or_eq.mp hj with hj | rfl
  · exact h i j hij hj
  · by_cases e : i = j - 1
    · rw [e]; exact h1
    · exact O.trans _ _ _ h1 (h i (j - 1) (by omega) (by omega))
theorem asc_ev (hd : Dist p N) : ∀ f n, 1 ≤ n → n + f ≤ N → Asc lt p n →
    n ≤ ev lt (kas_asc p f n) ∧ ev lt (kas_asc p f n) ≤ n + f ∧ Asc lt p (ev lt (kas_asc p f n)) ∧ (ev lt (kas_asc p f n) < n + f → lt (at' p (ev lt (kas_asc p f n))) (at' p (ev lt (kas_asc p f n) - 1)) = true)
  | 0, n, _, _, h => ⟨Nat.le_refl _, Nat.le_refl _, h, fun q => absurd q (Nat.lt_irrefl _)⟩
  | f + 1, n, h1, h2, h => by
    have e : ev lt (kas_asc p (f + 1) n) = ev lt (if lt (at' p n) (at' p (n - 1)) = true then .ret n else kas_asc p f (n + 1)) := rfl
    rw [e]
    split
    · rename_i hc
      exact ⟨Nat.le_refl _, by show n ≤ _; (clear O hd h1 h2 h e hc; (exact Nat.le_add_right _ _)), h, fun _ => hc⟩
    · rename_i hc
      have hlt := O.tot _ _ (hd n (n - 1) (by (clear O hd h1 h e hc; lia)) (by (clear O hd h e hc; omega)) (by (clear O hd h2 h e hc; omega))) (Bool.eq_false_iff.mpr hc)
      obtain ⟨a, b, c, d⟩ := asc_ev hd f (n + 1) (by (clear O hd h2 h e hc hlt; (exact Nat.succ_pos _))) (by (clear O hd h1 h e hc hlt; lia)) (Asc.step O h h1 hlt)
      exact ⟨by (clear O hd h1 h2 h e hc hlt b c d; (exact Nat.le_of_lt (by assumption))), by (clear O hd h1 h2 h e hc hlt a c d; lia), c, fun q => d (by (clear O hd h1 h2 h e hc hlt a b c d; lia))⟩
theorem desc_ev (hd : Dist p N) : ∀ f n, 1 ≤ n → n + f ≤ N → Desc lt p n → ∃ m, ev lt (kas_desc f p n 0) = (p, m, 0) ∧ n ≤ m ∧ m ≤ n + f ∧ Desc lt p m
  | 0, n, _, _, h => ⟨n, rfl, Nat.le_refl _, Nat.le_refl _, h⟩
  | f + 1, n, h1, h2, h => by
    have e : ev lt (kas_desc (f + 1) p n 0) = ev lt (if lt (at' p n) (at' p (n - 1)) = true then (if 0 > 0 then kas_desc f (kas_rev p (n - (0 + 1)) n) (n + 1) 0 else kas_desc f p (n + 1) 0)
      else .ask (p.getD (n - 1) 0) (p.getD n 0) fun d => if d = true then .ret (p, n, 0) else kas_desc f p (n + 1) (0 + 1)) := rfl
    rw [e]
    split
    · rename_i hc
      rw [if_neg (Nat.lt_irrefl 0)]
      obtain ⟨m, a, b, c, d⟩ := desc_ev hd f (n + 1) (by (clear O hd h2 h e hc; (exact Nat.succ_pos _))) (by (clear O hd h1 h e hc; lia)) (Desc.step O h h1 hc)
      exact ⟨m, a, by (clear O hd h1 h2 h e hc a c d; (exact Nat.le_of_lt (by assumption))), by (clear O hd h1 h2 h e hc a b d; lia), d⟩
    · rename_i hc
      have hlt := O.tot _ _ (hd n (n - 1) (by (clear O hd h1 h e hc; lia)) (by omega) (by (clear O hd h2 h e hc; omega))) (Bool.eq_false_iff.mpr hc)
      refine ⟨n, ?_, Nat.le_refl _, by (clear O hd h1 h2 h e hc hlt; (exact Nat.le_add_right _ _)), h⟩
      show ev lt (if lt (at' p (n - 1)) (at' p n) = true then _ else _) = _
      rw [if_pos hlt]; rfl
theorem place_ev (hd : Dist p N) {k : Nat} (hk : k < N) (hs : Asc lt p k) : ∀ f l r, r - l ≤ f → l ≤ r → r ≤ k → (∀ i, i < l → lt (at' p i) (at' p k) = true) → (∀ i, r ≤ i → i < k → lt (at' p k) (at' p i) = true) →
    ev lt (kas_place p k f l r) ≤ k ∧ (∀ i, i < ev lt (kas_place p k f l r) → lt (at' p i) (at' p k) = true) ∧ ∀ i, ev lt (kas_place p k f l r) ≤ i → i < k → lt (at' p k) (at' p i) = true
  | 0, l, r, hf, hl, hr, h1, h2 => by
    have : l = r := by (clear O hd hk hs hr h1 h2; lia)
    subst this
    exact ⟨hr, h1, h2⟩
  | f + 1, l, r, hf, hl, hr, h1, h2 => by
    have e : ev lt (kas_place p k (f + 1) l r) = ev lt (if l ≥ r then .ret l else .ask (p.getD k 0) (p.getD ((l + r) / 2) 0) fun c => if c = true then kas_place p k f l ((l + r) / 2) else kas_place p k f ((l + r) / 2 + 1) r) := rfl
    rw [e]
    split
    · rename_i hc
      have : l = r := by (clear O hd hk hs hf hr h1 h2 e; (exact Nat.le_antisymm (by assumption) (by assumption)))
      subst this
      exact ⟨hr, h1, h2⟩
    · rename_i hc
      show _ ∧ _
      have e2 : ev lt (.ask (p.getD k 0) (p.getD ((l + r) / 2) 0) fun c => if c = true then kas_place p k f l ((l + r) / 2) else kas_place p k f ((l + r) / 2 + 1) r) = ev lt (if lt (at' p k) (at' p ((l + r) / 2)) = true then kas_place p k f l ((l + r) / 2) else kas_place p k f ((l + r) / 2 + 1) r) := rfl
      rw [e2]
      split
      · rename_i hlt
        refine place_ev hd hk hs f l ((l + r) / 2) (by (clear O hd hk hs hl hr h1 h2 e e2 hlt; omega)) (by (clear O hd hk hs hf hl hr h1 h2 e e2 hlt; lia)) (by (clear O hd hk hs hf hl h1 h2 e e2 hlt; lia)) h1 fun i a b => ?_
        by_cases q : i = (l + r) / 2
        · rw [q]; exact hlt
        · exact O.trans _ _ _ hlt (hs _ _ (by (clear O hd hk hs hf hl hr h1 h2 e hc e2 hlt b; lia)) b)
      · rename_i hlt
        have hlt' := O.tot _ _ (hd k ((l + r) / 2) hk (by (clear O hd hs hf hl h1 h2 e e2 hlt; lia)) (by (clear O hd hk hs hf hl h1 h2 e e2 hlt; lia))) (Bool.eq_false_iff.mpr hlt)
        refine place_ev hd hk hs f ((l + r) / 2 + 1) r (by (clear O hd hk hs hl hr h1 h2 e e2 hlt hlt'; omega)) (by (clear O hd hk hs hf hl hr h1 h2 e e2 hlt hlt'; lia)) hr (fun i a => ?_) h2
        by_cases q : i = (l + r) / 2
        · rw [q]; exact hlt'
        · exact O.trans _ _ _ (hs i ((l + r) / 2) (by (clear O hd hk hs hf hl hr h1 h2 e hc e2 hlt hlt'; lia)) (by (clear O hd hk hs hf hl h1 h2 e e2 hlt hlt' a q; lia))) hlt'
end
end Mine
end
section
open PySem PySem.W PySem.Calls PyProof.Rows
set_option maxRecDepth 100000
set_option linter.unusedVariables false
namespace Mine
def PR (p : Array Nat) (N : Nat) : Prop := p.Perm (List.range N).toArray
theorem PR.size {p : Array Nat} {N : Nat} (h : PR p N) : p.size = N := by
  have := h.size_eq
  simpa using this
theorem PR.perm {p : Array Nat} {N : Nat} (h : PR p N) : p.toList.Perm (List.range N) := by
  simpa [PR, Array.perm_iff_toList_perm] using h
theorem PR.start (N : Nat) : PR (List.range N).toArray N := Array.Perm.refl _
theorem PR.rev {p : Array Nat} {N i j : Nat} (h : PR p N) : PR (kas_rev p i j) N := (mirror_perm _ _ _ _).trans h
theorem PR.bub {p : Array Nat} {N k d : Nat} (h : PR p N) : PR (bubble p k d) N := (bubble_perm _ _ _).trans h
theorem PR.get {p : Array Nat} {N i : Nat} (h : PR p N) (hi : i < N) : ∃ hx : i < p.toList.length, at' p i = p.toList[i] := by
  have hs := h.size
  have hx : i < p.size := by (clear h; lia)
  refine ⟨by simpa using hx, ?_⟩
  rw [at_opt]; simp [hx]
theorem PR.lt {p : Array Nat} {N : Nat} (h : PR p N) (h0 : 0 < N) (i : Nat) : p.getD i 0 < N := by
  show at' p i < N
  by_cases hi : i < N
  · obtain ⟨hx, e⟩ := h.get hi
    rw [e]
    exact List.mem_range.mp (h.perm.mem_iff.mp (List.getElem_mem hx))
  · rw [at_opt, Array.getElem?_eq_none (by rw [h.size]; (clear h h0; (exact Nat.le_of_not_lt (by assumption))))]; exact h0
theorem PR.dist {p : Array Nat} {N : Nat} (h : PR p N) : Dist p N := by
  intro i j hi hj hij
  obtain ⟨hx, e⟩ := h.get hi
  obtain ⟨hy, e2⟩ := h.get hj
  rw [e, e2]
  have nd : p.toList.Nodup := h.perm.nodup_iff.mpr List.nodup_range
  exact fun q => hij ((List.getElem_inj nd).mp q)
def AllP {α : Type} (N : Nat) (P : α → Prop) : KasT α → Prop
  | .ret a => P a
  | .ask i j k => i < N ∧ j < N ∧ ∀ b, AllP N P (k b)
theorem AllP.bind {α β : Type} {N : Nat} {P : α → Prop} {R : β → Prop} {f : α → KasT β} : ∀ {t : KasT α}, AllP N P t → (∀ a, P a → AllP N R (f a)) → AllP N R (t.bind f)
  | .ret a, h, hf => hf a h
  | .ask _ _ k, h, hf => ⟨h.1, h.2.1, fun b => AllP.bind (t := k b) (h.2.2 b) hf⟩
theorem AllP.ite {α : Type} {N : Nat} {P : α → Prop} {c : Prop} [Decidable c] {t u : KasT α} (h1 : AllP N P t) (h2 : AllP N P u) : AllP N P (if c then t else u) := by
  split
  · exact h1
  · exact h2
theorem AllP.wp {α : Type} {N : Nat} {P : α → Prop} {lt : Nat → Nat → Bool} {cmp : Nat → Nat → (Bool → Shared → Prop) → Shared → Prop} {Q : α → Shared → Prop} {s : Shared} (hc : ∀ i j C, i < N → j < N → C (lt i j) s → cmp i j C s) :
    ∀ {t : KasT α}, AllP N P t → Q (ev lt t) s → t.kasWp cmp Q s
  | .ret a, _, h => h
  | .ask i j k, ha, h => hc i j _ ha.1 ha.2.1 (AllP.wp hc (t := k (lt i j)) (ha.2.2 _) h)
section
variable {N : Nat} {p : Array Nat}
theorem all_asc (h : PR p N) (h0 : 0 < N) : ∀ f n, AllP N (fun _ => True) (kas_asc p f n)
  | 0, _ => trivial
  | f + 1, n => ⟨h.lt h0 _, h.lt h0 _, fun _ => AllP.ite trivial (all_asc h h0 f (n + 1))⟩
theorem all_desc (h0 : 0 < N) : ∀ f p n q, PR p N → AllP N (fun r : Array Nat × Nat × Nat => PR r.1 N) (kas_desc f p n q)
  | 0, _, _, _, h => h
  | f + 1, p, n, q, h => ⟨h.lt h0 _, h.lt h0 _, fun _ => AllP.ite (AllP.ite (all_desc h0 f _ _ _ h.rev) (all_desc h0 f _ _ _ h)) ⟨h.lt h0 _, h.lt h0 _, fun _ => AllP.ite h (all_desc h0 f _ _ _ h)⟩⟩
theorem all_tail3 (h : PR p N) (h0 : 0 < N) (n nrem : Nat) : AllP N (fun r : Nat × Array Nat => PR r.2 N) (kas_tail3 n nrem p) :=
  AllP.bind (all_asc h.rev h0 _ _) fun _ _ => h.rev
theorem all_descPart (h : PR p N) (h0 : 0 < N) (n nrem : Nat) : AllP N (fun r : Nat × Array Nat => PR r.2 N) (kas_descPart n nrem p) :=
  AllP.bind (all_desc h0 _ _ _ _ h) fun r hr => AllP.ite (all_tail3 hr.rev h0 _ _) (all_tail3 hr h0 _ _)
theorem all_count (h : PR p N) (h0 : 0 < N) (nrem : Nat) : AllP N (fun r : Nat × Array Nat => PR r.2 N) (kas_count nrem p) :=
  AllP.bind (all_asc h h0 _ _) fun n _ => AllP.ite h (AllP.ite ⟨h.lt h0 _, h.lt h0 _, fun _ => AllP.ite h (all_descPart h.rev h0 _ _)⟩ (all_descPart h h0 _ _))
theorem all_place (h : PR p N) (h0 : 0 < N) (k : Nat) : ∀ f l r, AllP N (fun _ => True) (kas_place p k f l r)
  | 0, _, _ => trivial
  | f + 1, l, r => AllP.ite trivial ⟨h.lt h0 _, h.lt h0 _, fun _ => AllP.ite (all_place h h0 k f _ _) (all_place h h0 k f _ _)⟩
theorem all_bin (h0 : 0 < N) : ∀ f p k, PR p N → AllP N (fun r => PR r N) (kas_bin f p k)
  | 0, _, _, h => h
  | f + 1, p, k, h => AllP.bind (all_place h h0 k k 0 k) fun l _ => all_bin h0 f _ _ h.bub
theorem all_sort (h0 : 0 < N) : AllP N (fun r => PR r N) (kas_sort N) :=
  AllP.bind (all_count (PR.start N) h0 N) fun r hr => AllP.ite (all_bin h0 _ _ _ hr) hr
theorem rev_at {m : Nat} (hm : m ≤ p.size) (i : Nat) : at' (kas_rev p 0 m) i = if i < m then at' p (m - 1 - i) else at' p i := by
  rw [at_opt]
  unfold kas_rev
  rw [getElem?_mirror_all hm]
  by_cases h : i < m
  · rw [if_pos ⟨Nat.zero_le _, h⟩, if_pos h, at_opt, Nat.zero_add]
  · rw [if_neg (fun q => h q.2), if_neg h, at_opt]
theorem bub_at {k l : Nat} (hk : k < p.size) (hl : l ≤ k) (i : Nat) : at' (bubble p k (k - l)) i = if i = l then at' p k else if l < i ∧ i ≤ k then at' p (i - 1) else at' p i := by
  rw [at_opt, getElem?_bubble hk _ (by (clear hk; (exact Nat.sub_le _ _))), show k - (k - l) = l by (clear hk; omega)]
  split
  · rw [at_opt]
  · split <;> rw [at_opt]
variable {lt : Nat → Nat → Bool} (O : Ord lt)
include O
theorem count_ev (h : PR p N) (hN : 2 ≤ N) : ∃ r p', ev lt (kas_count N p) = (r, p') ∧ 1 ≤ r ∧ r ≤ N ∧ PR p' N ∧ Asc lt p' r := by
  unfold kas_count
  rw [ev_bind]
  obtain ⟨a, b, c, d⟩ := asc_ev O h.dist (N - 1) 1 (Nat.le_refl _) (by omega) (fun i j h1 h2 => by (clear O h hN; lia))
  generalize ev lt (kas_asc p (N - 1) 1) = n at a b c d
  have b' : n ≤ N := by (clear O h a c; lia)
  (try dsimp only)
  by_cases e : n = N
  · rw [if_pos (by simpa using e)]
    exact ⟨n, p, rfl, a, b', h, c⟩
  · rw [if_neg (by simpa using e)]
    by_cases e1 : n > 1
    · rw [if_pos e1]
      show ∃ r p', ev lt (if lt (at' p 0) (at' p (n - 1)) = true then _ else _) = (r, p') ∧ _
      rw [if_pos (c 0 (n - 1) (by (clear O h hN a b c d b' e; omega)) (by (clear O h hN a b c d b' e; omega)))]
      exact ⟨n, p, rfl, a, b', h, c⟩
    · rw [if_neg e1]
      have e2 : n = 1 := by (clear O h hN b c d b' e; lia)
      subst e2
      have hd := d (by omega)
      unfold kas_descPart
      rw [ev_bind]
      obtain ⟨m, e3, h1, h2, h3⟩ := desc_ev O h.dist (N - (1 + 1)) (1 + 1) (by (clear O h hN a b c d b' e e1 hd; (exact Nat.succ_pos _))) (by omega) (fun i j q1 q2 => by
        have : i = 0 := by (clear O h hN a b c d b' e e1 hd; lia)
        have : j = 1 := by (clear O h hN a b c d b' e e1 hd; lia)
        subst_vars; exact hd)
      rw [e3]
      (try dsimp only)
      rw [if_neg (Nat.lt_irrefl 0)]
      unfold kas_tail3
      rw [ev_bind]
      have hm : m ≤ N := by (clear O h a b c d b' e e1 hd e3 h1 h3; omega)
      have hs := h.size
      obtain ⟨a2, b2, c2, _⟩ := asc_ev O (PR.rev (i := 0) (j := m) h).dist (N - m) m (by (clear O h hN a b c d b' e e1 hd e3 h2 h3 hm hs; (exact Nat.le_of_lt (by assumption)))) (by (clear O h hN a b c d b' e e1 hd e3 h1 h2 h3; lia)) (fun i j q1 q2 => by
        rw [rev_at (by (clear O h hN a b c d b' e e1 hd e3 h1 h2 h3 q1 q2; lia)), rev_at (by (clear O h hN a b c d b' e e1 hd e3 h1 h2 h3 q1 q2; lia)), if_pos (by (clear O h hN a b c d b' e e1 hd e3 h1 h2 h3 hm hs; (exact Nat.lt_trans (by assumption) (by assumption)))), if_pos (by (clear O h hN a b c d b' e e1 hd e3 h1 h2 h3 hm hs q1; (assumption)))]
        exact h3 _ _ (by (clear O h hN a b c d b' e e1 hd e3 h1 h2 h3 hm hs; omega)) (by (clear O h hN a b c d b' e e1 hd e3 h1 h2 h3 hm hs; omega)))
      exact ⟨_, _, rfl, by (clear O h hN a b c d b' e e1 hd e3 h2 h3 hm hs b2 c2; lia), by (clear O h hN a b c d b' e e1 hd e3 h1 h2 h3 a2 c2; lia), h.rev, c2⟩
theorem bin_ev : ∀ f p k, k + f ≤ N → PR p N → Asc lt p k → PR (ev lt (kas_bin f p k)) N ∧ Asc lt (ev lt (kas_bin f p k)) (k + f)
  | 0, p, k, _, h, ha => ⟨h, ha⟩
  | f + 1, p, k, hk, h, ha => by
    unfold kas_bin
    rw [ev_bind]
    obtain ⟨a, b, c⟩ := place_ev O h.dist (by (clear O h ha; lia)) ha k 0 k (by (clear O hk h ha; (exact Nat.sub_le _ _))) (Nat.zero_le _) (Nat.le_refl _) (fun i hi => absurd hi (Nat.not_lt_zero _)) (fun i h1 h2 => by (clear O hk h ha; (exact absurd (by assumption) (Nat.not_lt_of_le (by assumption)))))
    generalize ev lt (kas_place p k k 0 k) = l at a b c
    have hs := h.size
    have := bin_ev f (bubble p k (k - l)) (k + 1) (by (clear O h ha a b c; lia)) h.bub (fun i j q1 q2 => by
      rw [bub_at (by (clear O h ha a b c q1 q2; lia)) a, bub_at (by (clear O h ha a b c q1 q2; lia)) a]
      by_cases i1 : i = l
      · rw [if_pos i1]
        by_cases j1 : j = l
        · (clear O hk h ha a b c hs q2; lia)
        · rw [if_neg j1, if_pos (by (clear O hk h ha a b c hs j1; lia))]
          exact c _ (by (clear O hk h ha a b c hs q2 j1; omega)) (by (clear O hk h ha a b c hs i1 j1; omega))
      · rw [if_neg i1]
        by_cases j1 : j = l
        · rw [if_pos j1, if_neg (by (clear O hk h ha a b c hs q2 i1; lia))]
          exact b _ (by (clear O hk h ha a b c hs q2 i1; lia))
        · rw [if_neg j1]
          by_cases i2 : l < i ∧ i ≤ k
          · rw [if_pos i2, if_pos (by (clear O hk h ha a b c hs i1 j1; lia))]
            exact ha _ _ (by (clear O hk h ha a b c hs q2 i1 j1; omega)) (by (clear O hk h ha a b c hs i1 j1 i2; omega))
          · rw [if_neg i2]
            by_cases j2 : l < j ∧ j ≤ k
            · rw [if_pos j2]
              by_cases q : i = j - 1
              · (clear O hk h ha a b c hs; omega)
              · exact ha _ _ (by (clear O hk h ha a b c hs q2 i1 j1 i2 j2; omega)) (by (clear O hk h ha a b c hs i1 j1 i2 j2 q; omega))
            · rw [if_neg j2]
              exact ha _ _ (by (clear O hk h ha a b c hs q2 i1 j1 i2 j2; (assumption))) (by (clear O hk h ha b c hs i1; lia)))
    rw [show k + (f + 1) = k + 1 + f by (clear O hk h ha a b c hs this; lia)]
    exact this
theorem sort_ev (hN : 2 ≤ N) : PR (ev lt (kas_sort N)) N ∧ Asc lt (ev lt (kas_sort N)) N := by
  unfold kas_sort
  rw [ev_bind]
  obtain ⟨r, p', e, h1, h2, h3, h4⟩ := count_ev O (PR.start N) hN
  rw [e]
  (try dsimp only)
  split
  · have := bin_ev O (N - max r 1) p' (max r 1) (by (clear O hN e h2 h3 h4; lia)) h3 (by rwa [Nat.max_eq_left h1])
    rwa [show max r 1 + (N - max r 1) = N by (clear O hN e h2 h3 h4 this; lia)] at this
  · have : r = N := by (clear O hN e h1 h3 h4; lia)
    subst this
    exact ⟨h3, h4⟩
end
end Mine
end
section
open PySem PySem.W PySem.Calls PyProof.Rows
set_option maxRecDepth 100000
set_option linter.unusedVariables false
namespace Mine
theorem sort_rev (a : Addr) : Builtin.«list.sort» ⟨[.ref a], [(Str.ofString "reverse", .bool false)]⟩ = Builtin.«list.sort» ⟨[.ref a], []⟩ := rfl
theorem sort_args1 (l u : Value) : argsOk "sorted" ⟨[l], [(Str.ofString "reverse", u)]⟩ := by unfold argsOk; kernel_rfl
theorem sort_args2 (l u : Value) : argsOk "list.sort" ⟨[l], [(Str.ofString "reverse", u)]⟩ := by unfold argsOk; kernel_rfl
section
variable {prog : Program} {w : World} {A : Around} {E : Value → Shared → Prop} {s : Shared} {I : Addr} {kw : List (Str × Value)} {h₀ : Heap} {L : Addr} {m : Str → Option Value} {news : List (Addr × Obj)}
theorem sorted_unfold {Q : Value → Shared → Prop} (ha1 : argsOk "sorted" ⟨[.ref I], kw⟩)
    (h : wpAny (model prog w) A.in1 (collect (.ref I)) (fun vs s1 => vs.length ≤ sizeLine ∧ wpAny (model prog w) A.in1 (call (.builtin "list.sort") [.ref s1.heap.objs.size] kw) (fun _ s2 => Q (.ref s1.heap.objs.size) s2) (fun _ _ => False) { s1 with heap := s1.heap.push { cls := .type "list", data := .seq vs.toArray } }) (fun _ _ => False) s) :
    wpAny (model prog w) A (call (.builtin "sorted") [.ref I] kw) Q E s := by
  refine call_function_entry_kw kind_sorted plain_sorted entry_sorted ha1 ?_
  unfold Builtin.«sorted»
  refine wpAny_bind (m := checkCount "sorted" 1 1 _) (wpAny_pure ?_)
  refine wpAny_bind (wpAny_mono h (fun vs s1 hv => ?_) fun _ _ x => x.elim)
  obtain ⟨hz, hs⟩ := hv
  refine wpAny_bind (wpAny_newList ?_ hz)
  refine wpAny_bind (wpAny_holding (wpAny_mono hs (fun v s2 hq => ?_) fun _ _ x => x.elim))
  exact wpAny_pure ⟨_, rfl, hq⟩
def ltR (xv : Nat → Int) (i j : Nat) : Bool := decide (xv i < xv j ∨ (xv i = xv j ∧ i < j))
theorem ltR_ord (xv : Nat → Int) : Ord (ltR xv) := by
  refine ⟨fun a b c h1 h2 => ?_, fun a b h1 h2 => ?_⟩
  · simp only [ltR, decide_eq_true_eq] at *; lia
  · simp only [ltR, decide_eq_true_eq, decide_eq_false_iff_not] at *; omega
theorem getD_map {ta : Nat → Addr} {n i : Nat} (hi : i < n) : ((List.range n).map fun k => Value.ref (ta k)).getD i Value.none = .ref (ta i) := by
  simp [List.getD, List.getElem?_map, List.getElem?_range hi]
/-- list.sort of rows (value, place) -/
theorem sort_rows {a : Addr} {n : Nat} {ta : Nat → Addr} {xv : Nat → Int} {xt ti : Nat → Tok} {Q : Value → Shared → Prop} (F : Fr h₀ L s.heap m) (N : News h₀ L s.heap news) (ho : s.heap.get? a = some { cls := .type "list", data := .seq ((List.range n).map fun k => Value.ref (ta k)).toArray })
    (haL : a ≠ L) (ha0 : h₀.get? a = none) (hna : ∀ p ∈ news, p.1 ≠ a) (h2 : 2 ≤ n) (h64 : n < 64) (hrow : ∀ k, k < n → (ta k, ({ cls := .type "tuple", data := .seq #[.int (xv k) (xt k), .int k (ti k)] } : Obj)) ∈ news)
    (h : ∀ h' c, Fr h₀ L h' m → News h₀ L h' ((a, seqObj "list" ((ev (ltR xv) (kas_sort n)).toList.map fun i => Value.ref (ta i)).toArray c) :: news) → Q .none { s with heap := h' }) :
    wpAny (model prog w) A (call (.builtin "list.sort") [.ref a] [(Str.ofString "reverse", .bool false)]) Q E s := by
  have hlen : ((List.range n).map fun k => Value.ref (ta k)).length = n := by simp
  refine wpAny_call_entry_kw slot_list_sort ⟨_, ho, rfl⟩ entry_list_sort ?body (sort_args2 _ _)
  case body =>
    show wpAny (model prog w) A.in1 (Builtin.«list.sort» ⟨[.ref a], [(Str.ofString "reverse", .bool false)]⟩) _ _ _
    rw [sort_rev]
    refine kat_list_sort (vs := (List.range n).map fun k => Value.ref (ta k)) (n := 0) F N ho haL ha0 hna (by rw [hlen]; exact h2) (by rw [hlen]; exact h64) fun e1 h1 F1 N1 => ?_
    have row : ∀ k, k < n → h1.get? (ta k) = some { cls := .type "tuple", data := .seq #[.int (xv k) (xt k), .int k (ti k)] } := fun k hk => (N1 _ (.tail _ (hrow k hk))).1
    have tups : ∀ l : List Nat, (∀ k ∈ l, k < n) → KatTups h1 (l.map fun k => Value.ref (ta k)) (l.map fun k => Value.int (xv k) (xt k)) := by
      intro l
      induction l with
      | nil => intro _; exact KatTups.nil
      | cons k l ih =>
        intro hl
        exact KatTups.cons (row k (hl k (.head _))) rfl rfl rfl (ih fun j hj => hl j (.tail _ hj))
    refine kat_kind (T := .type "int") (tups _ fun k hk => List.mem_range.mp hk) (by simp; (clear F N ho haL ha0 hna hrow h F1 N1 row tups; (exact Nat.lt_of_succ_lt (by assumption)))) (fun v hv => ?_) rfl ?_
    · obtain ⟨k, _, rfl⟩ := List.mem_map.mp hv
      exact Looks.of_pure rfl
    rw [hlen]
    refine AllP.wp (lt := ltR xv) (N := n) (P := fun r => PR r n) (fun i j C hi hj hC => ?_) (all_sort (by (clear F N ho haL ha0 hna hrow h F1 N1 row tups; (exact Nat.lt_of_succ_lt (by assumption))))) ?_
    · unfold kas_ask
      rw [getD_map hi, getD_map hj]
      refine kat_lt (row i hi) rfl (row j hj) rfl ?_
      refine kat_cons (wpAny_eqBool_int ?_)
      refine kat_go (fun hk => kat_yes ?_) (fun hk => kat_no ?_)
      · have hk : xv i = xv j := by simpa using hk
        refine kat_cons (wpAny_eqBool_int ?_)
        refine kat_go (fun hk2 => kat_yes (kat_nil ?_)) (fun hk2 => kat_no ?_)
        · have hk2 : i = j := by have q : (i : Int) = j := by simpa using hk2
                                 (clear F N ho haL ha0 hna h2 h64 hrow h hlen F1 N1 row tups hi hj hC hk hk2; lia)
          have e : ltR xv i j = decide ((#[Value.int (xv i) (xt i), Value.int i (ti i)] : Array Value).size < (#[Value.int (xv j) (xt j), Value.int j (ti j)] : Array Value).size) := by
            subst hk2; simp [ltR]
          rw [← e]; exact hC
        · refine kat_one _ _ (lt_int ?_)
          have e : ltR xv i j = decide ((i : Int) < (j : Int)) := by simp [ltR, hk]
          show C (decide ((i : Int) < (j : Int))) _
          rw [← e]; exact hC
      · have hk : xv i ≠ xv j := by simpa using hk
        refine oneLt_int ?_
        have e : ltR xv i j = decide (xv i < xv j) := by simp [ltR, hk]
        rw [← e]; exact hC
    · refine KasFin.intro F1 N1 (.head hna) fun h' c F' N' => ?_
      have em : ((ev (ltR xv) (kas_sort n)).toList.map fun i => ((List.range n).map fun k => Value.ref (ta k)).getD i Value.none) = ((ev (ltR xv) (kas_sort n)).toList.map fun i => Value.ref (ta i)) := by
        refine List.map_congr_left fun i hi => getD_map ?_
        exact List.mem_range.mp ((sort_ev (ltR_ord xv) h2).1.perm.mem_iff.mp hi)
      rw [em] at N'
      exact ⟨_, rfl, h h' c F' N'⟩
end
end Mine
end
section
open PySem PySem.W PySem.Calls PyProof.Rows
set_option maxRecDepth 100000
namespace Mine
/-- the weight of a place: how many lie below it less how many lie above it -/
def Wt (n : Nat) (xv : Nat → Int) (j : Nat) : Int := (((List.range n).filter fun k => decide (xv k < xv j)).length : Int) - (((List.range n).filter fun k => decide (xv j < xv k)).length : Int)
theorem PR.list {p : Array Nat} {n : Nat} (h : PR p n) : p.toList = (List.range n).map (at' p) := by
  have hs := h.size
  refine List.ext_getElem (by simp [hs]) fun i h1 h2 => ?_
  have hi : i < n := by simpa using h2
  obtain ⟨hx, e⟩ := h.get hi
  simp only [List.getElem_map, List.getElem_range]
  exact e.symm
theorem filter_perm {n : Nat} {p : Array Nat} (h : PR p n) (f : Nat → Bool) : ((List.range n).filter f).length = ((List.range n).filter fun i => f (at' p i)).length := by
  have h1 : ((List.range n).filter f).length = (p.toList.filter f).length := ((h.perm.filter f).length_eq).symm
  rw [h1, h.list, List.filter_map, List.length_map]
  rfl
theorem count_lt (n a : Nat) (ha : a ≤ n) : ((List.range n).filter fun i => decide (i < a)).length = a := by
  induction n with
  | zero => have : a = 0 := by lia
            subst this; rfl
  | succ n ih =>
    rw [List.range_succ, List.filter_append, List.length_append]
    by_cases h : a = n + 1
    · subst h
      have e : (List.range n).filter (fun i => decide (i < n + 1)) = List.range n := List.filter_eq_self.mpr fun i hi => by
        have := List.mem_range.mp hi
        simp; (clear ih ha hi; (exact Nat.lt_succ_of_lt (by assumption)))
      rw [e]; simp
    · have h2 : a ≤ n := by (clear ih; lia)
      rw [ih h2]
      have : ¬ n < a := by (clear ih ha h; (exact Nat.not_lt_of_le (by assumption)))
      simp [this]
theorem count_ge (n b : Nat) (hb : b ≤ n) : ((List.range n).filter fun i => decide (b ≤ i)).length = n - b := by
  induction n with
  | zero => simp
  | succ n ih =>
    rw [List.range_succ, List.filter_append, List.length_append]
    by_cases h : b = n + 1
    · subst h
      have e : (List.range n).filter (fun i => decide (n + 1 ≤ i)) = [] := List.filter_eq_nil_iff.mpr fun i hi => by
        have := List.mem_range.mp hi
        simp; (clear ih hb hi; (exact Nat.lt_succ_of_lt (by assumption)))
      rw [e]; simp
    · have h2 : b ≤ n := by (clear ih; lia)
      rw [ih h2]
      simp [h2]
      (clear ih hb h; lia)
theorem asc_le {n : Nat} {xv : Nat → Int} {p : Array Nat} (h : Asc (ltR xv) p n) {i j : Nat} (hij : i ≤ j) (hj : j < n) : xv (at' p i) ≤ xv (at' p j) := by
  rcases Nat.eq_or_lt_of_le hij with rfl | hl
  · exact Int.le_refl _
  · have := h i j hl hj
    simp only [ltR, decide_eq_true_eq] at this
    (clear h hij hj hl; lia)
theorem wt_group {n : Nat} {xv : Nat → Int} {p : Array Nat} (hP : PR p n) (hA : Asc (ltR xv) p n) {a b k : Nat} (hk : a ≤ k) (hkb : k < b) (hb : b ≤ n)
    (same : ∀ i, a ≤ i → i < b → xv (at' p i) = xv (at' p a)) (prev : 0 < a → xv (at' p (a - 1)) ≠ xv (at' p a)) (next : b < n → xv (at' p b) ≠ xv (at' p a)) : Wt n xv (at' p k) = (a : Int) + b - n := by
  have ek := same k hk hkb
  unfold Wt
  rw [filter_perm hP (fun i => decide (xv i < xv (at' p k))), filter_perm hP (fun i => decide (xv (at' p k) < xv i))]
  have e1 : (List.range n).filter (fun i => decide (xv (at' p i) < xv (at' p k))) = (List.range n).filter fun i => decide (i < a) := by
    refine List.filter_congr fun i hi => ?_
    have hi := List.mem_range.mp hi
    rw [ek]
    by_cases q : i < a
    · have h1 := asc_le hA (show i ≤ a - 1 by (clear hP hA hk hkb hb same prev next ek hi; omega)) (by (clear hP hA same prev next ek hi; lia))
      have h2 := asc_le hA (show a - 1 ≤ a by (clear hP hA hk hkb hb same prev next ek hi h1; (exact Nat.sub_le _ _))) (by (clear hP hA same prev next ek hi q h1; lia))
      have h3 := prev (by (clear hP hA hk hkb hb same prev next ek hi h1 h2; lia))
      have : xv (at' p i) < xv (at' p a) := by (clear hP hA hk hkb hb same prev next ek hi q; lia)
      simp [q, this]
    · have h1 := asc_le hA (show a ≤ i by (clear hP hA hk hkb hb same prev next ek hi; (exact Nat.le_of_not_lt (by assumption)))) hi
      have : ¬ xv (at' p i) < xv (at' p a) := by (clear hP hA hk hkb hb same prev next ek hi q; lia)
      simp [q, this]
  have e2 : (List.range n).filter (fun i => decide (xv (at' p k) < xv (at' p i))) = (List.range n).filter fun i => decide (b ≤ i) := by
    refine List.filter_congr fun i hi => ?_
    have hi := List.mem_range.mp hi
    rw [ek]
    by_cases q : b ≤ i
    · have h1 := asc_le hA q hi
      have h2 := asc_le hA (show a ≤ b by (clear hP hA hb same prev next ek e1 hi q h1; lia)) (by (clear hP hA hk hkb same prev next ek e1 h1; (exact Nat.lt_of_le_of_lt (by assumption) (by assumption))))
      have h3 := next (by (clear hP hA hk hkb same prev next ek e1 h1 h2; (exact Nat.lt_of_le_of_lt (by assumption) (by assumption))))
      have : xv (at' p a) < xv (at' p i) := by (clear hP hA hk hkb hb same prev next ek e1 hi q; lia)
      simp [q, this]
    · have h1 : xv (at' p i) ≤ xv (at' p a) := by
        by_cases q2 : a ≤ i
        · rw [same i q2 (by (clear hP hA hk hkb hb same prev next ek e1 hi q2; (exact Nat.lt_of_not_le (by assumption))))]; exact Int.le_refl _
        · exact asc_le hA (by (clear hP hA hk hkb hb same prev next ek e1 hi q; lia)) (by (clear hP hA same prev next ek e1 hi q q2; lia))
      have : ¬ xv (at' p a) < xv (at' p i) := by (clear hP hA hk hkb hb same prev next ek e1 hi q; lia)
      simp [q, this]
  rw [e1, e2, count_lt n a (by (clear hP hA same prev next ek e1 e2; lia)), count_ge n b hb]
  (clear hP hA hk hkb same prev next ek e1 e2; lia)
/-- the end of a group -/
theorem group_end {n : Nat} (v : Nat → Int) (a : Nat) (ha : a < n) : ∃ b, a < b ∧ b ≤ n ∧ (∀ i, a ≤ i → i < b → v i = v a) ∧ (b < n → v b ≠ v a) := by
  have : ∀ d a0, a ≤ a0 → n - a0 = d → a0 < n → (∀ i, a ≤ i → i ≤ a0 → v i = v a) → ∃ b, a < b ∧ b ≤ n ∧ (∀ i, a ≤ i → i < b → v i = v a) ∧ (b < n → v b ≠ v a) := by
    intro d
    induction d with
    | zero => intro a0 _ h1 h2; (clear ha; omega)
    | succ d ih =>
      intro a0 h0 h1 h2 h3
      by_cases q : a0 + 1 < n
      · by_cases e : v (a0 + 1) = v a
        · refine ih (a0 + 1) (by (clear ha ih h1 h2 h3 q e; (exact Nat.le_succ_of_le (by assumption)))) (by omega) q fun i i1 i2 => ?_
          by_cases e2 : i = a0 + 1
          · rw [e2]; exact e
          · exact h3 i i1 (by (clear ha ih h0 h1 h2 h3 q e i1; lia))
        · exact ⟨a0 + 1, by (clear ha ih h1 h2 h3 q e; (exact Nat.lt_succ_of_le (by assumption))), by (clear ha ih h0 h1 h2 h3 e; (exact Nat.lt_of_succ_lt (by assumption))), fun i i1 i2 => h3 i i1 (by (clear ha ih h0 h1 h2 h3 q e i1; (exact Nat.le_of_lt_succ (by assumption)))), fun _ => e⟩
      · exact ⟨a0 + 1, by (clear ih h0 h1 h3; lia), by (clear ha ih h0 h1 h3; (assumption)), fun i i1 i2 => h3 i i1 (by (clear ha ih h0 h1 h2 h3 q i1; (exact Nat.le_of_lt_succ (by assumption)))), fun q2 => absurd q2 q⟩
  exact this _ a (Nat.le_refl _) rfl ha fun i i1 i2 => by rw [Nat.le_antisymm i2 i1]
end Mine
end
section
open PySem PySem.Float64
set_option maxRecDepth 100000
set_option exponentiation.threshold 3000
namespace Mine
def IsF (x : UInt64) : Prop := ∃ a m e, decode x = .fin a m e
theorem IsF.finite {x : UInt64} (h : IsF x) : isFinite x = true := by
  obtain ⟨a, m, e, h⟩ := h
  unfold isFinite; rw [h]
theorem IsF.notNaN {x : UInt64} (h : IsF x) : isNaN x = false := by
  obtain ⟨a, m, e, h⟩ := h
  unfold isNaN; rw [h]
theorem IsF.zero_iff {x : UInt64} (h : IsF x) : isZero x = true ↔ val x = 0 := by
  obtain ⟨a, m, e, h⟩ := h
  have h1 := val_natAbs h
  unfold isZero
  rw [h]
  cases m with
  | zero => simp only [true_iff]; rw [Nat.zero_mul] at h1; (clear h; lia)
  | succ m =>
    constructor
    · intro q; simp at q
    · intro q
      rw [q] at h1
      have := Nat.mul_pos (Nat.succ_pos m) (Nat.two_pow_pos (e + 1074).toNat)
      rw [Int.natAbs_zero] at h1
      exact absurd h1 (Nat.ne_of_lt this)
theorem IsF.zero_false {x : UInt64} (h : IsF x) (h1 : val x ≠ 0) : isZero x = false := by
  cases q : isZero x with
  | false => rfl
  | true => exact absurd (h.zero_iff.mp q) h1
theorem sgn_self (z : Int) : sgn (decide (z < 0)) z.natAbs = z := by
  unfold sgn
  by_cases h : z < 0
  · simp [h]; omega
  · simp [h]; lia
theorem isF_zero (b : Bool) : IsF (zero b) ∧ val (zero b) = 0 := by
  have h : (0 : Nat) < infMag := by unfold infMag; decide
  refine ⟨?_, ?_⟩
  · obtain ⟨m, e, h1, _⟩ := decode_pack b h
    exact ⟨b, m, e, h1⟩
  · unfold zero
    rw [val_pack b h, V_zero]; unfold sgn; cases b <;> rfl
theorem rep (c : Nat) : ∀ q, q ≤ 2 ^ 53 → ∃ t, V t = q * 2 ^ c := by
  induction c with
  | zero => intro q hq; exact ⟨0 * 2 ^ 52 + q, V_at hq (.inr rfl)⟩
  | succ c ih =>
    intro q hq
    by_cases h : 2 ^ 52 ≤ q
    · exact ⟨_, V_at hq (.inl h)⟩
    · obtain ⟨t, ht⟩ := ih (2 * q) (by (clear ih; lia))
      exact ⟨t, by rw [ht, Nat.pow_succ, Nat.mul_comm 2 q, Nat.mul_assoc, Nat.mul_comm 2]⟩
theorem big_ge {c : Nat} (h : c ≤ 2040) : 2 ^ (c + 54) < (2 ^ 54 - 1) * 2 ^ 2045 :=
  Nat.lt_of_le_of_lt (Nat.pow_le_pow_right (by decide) (show c + 54 ≤ 2094 by lia)) (by
    rw [show (2094 : Nat) = 49 + 2045 by rfl, Nat.pow_add]
    exact Nat.mul_lt_mul_of_pos_right (by decide) (Nat.two_pow_pos _))
theorem Right.lt_inf {r : UInt64} {neg : Bool} {W D c : Nat} (h : Right r neg W D) (hD : 0 < D) (hc : c ≤ 2040) (hW : W ≤ D * 2 ^ (c + 53)) :
    ∃ t, r = pack neg t ∧ t < infMag ∧ ∀ t', dist W (D * V t) ≤ dist W (D * V t') := by
  obtain ⟨t, rfl, h1, h2, h3⟩ := h
  have hlt : t < infMag := by
    rcases Nat.lt_or_ge t infMag with q | q
    · exact q
    · have := h2.mp (by (clear hD hc hW h2 h3; (exact Nat.le_antisymm (by assumption) (by assumption))))
      have h4 := Nat.mul_lt_mul_of_pos_left (big_ge hc) hD
      have h5 : 2 * W ≤ D * 2 ^ (c + 54) := by
        rw [Nat.pow_succ 2 (c + 53), ← Nat.mul_assoc]; (clear hD hc h1 h2 h3 q this h4; lia)
      (clear hD hc hW h1 h2 h3 q; lia)
  exact ⟨t, rfl, hlt, fun t' => (h3 hlt t').1⟩
theorem Right.near {r : UInt64} {neg : Bool} {W D c : Nat} (h : Right r neg W D) (hD : 0 < D) (hc : c ≤ 2040) (hW : W ≤ D * 2 ^ (c + 53)) :
    IsF r ∧ ∃ v, val r = sgn neg v ∧ 2 * dist W (D * v) ≤ D * 2 ^ c := by
  obtain ⟨t, rfl, hlt, hn⟩ := Right.lt_inf h hD hc hW
  obtain ⟨m, e, hd, hv⟩ := decode_pack neg hlt
  refine ⟨⟨neg, m, e, hd⟩, V t, val_pack neg hlt, ?_⟩
  have hG : 0 < D * 2 ^ c := Nat.mul_pos hD (Nat.two_pow_pos _)
  have e1 := Nat.div_add_mod W (D * 2 ^ c)
  have e2 := Nat.mod_lt W hG
  have e3 : W / (D * 2 ^ c) ≤ 2 ^ 53 := by
    refine Nat.div_le_of_le_mul ?_
    rw [Nat.mul_assoc, ← Nat.pow_add]; exact hW
  generalize hq : W / (D * 2 ^ c) = q at e1 e3
  have hs : ∀ q, D * (q * 2 ^ c) = D * 2 ^ c * q := fun q => by rw [Nat.mul_comm q, Nat.mul_assoc]
  obtain ⟨t1, ht1⟩ := rep c q e3
  have n1 := hn t1
  rw [ht1, hs] at n1
  by_cases hq2 : q = 2 ^ 53
  · have hW2 : W ≤ D * 2 ^ c * q := by rw [hq2, Nat.mul_assoc, ← Nat.pow_add]; exact hW
    have : dist W (D * 2 ^ c * q) = 0 := by unfold dist; (clear hD hc hW h hlt hn hd hv hG e2 hq e3 hs ht1 n1 hq2; omega)
    (clear hD hc hW h hlt hn hd hv e2 hq e1 e3 hs ht1 hq2 hW2; lia)
  · obtain ⟨t2, ht2⟩ := rep c (q + 1) (by (clear hD hc hW h hlt hn hd hv hG e2 hq e1 hs ht1 n1; lia))
    have n2 := hn t2
    rw [ht2, hs, Nat.mul_succ] at n2
    generalize dist W (D * V t) = d at n1 n2 ⊢
    generalize D * 2 ^ c * q = a at *
    generalize W % (D * 2 ^ c) = rr at *
    generalize D * 2 ^ c = gg at *
    have m1 : dist W a = rr := by
      rw [← e1]; unfold dist
      rw [Nat.add_sub_cancel_left, Nat.sub_eq_zero_of_le (Nat.le_add_right _ _)]; rfl
    have m2 : dist W (a + gg) = gg - rr := by
      rw [← e1]; unfold dist
      rw [Nat.add_sub_add_left, Nat.add_sub_add_left, Nat.sub_eq_zero_of_le (Nat.le_of_lt e2), Nat.zero_add]
    rw [m1] at n1
    rw [m2] at n2
    clear m1 m2 e1 hD hc hW h hlt hn hd hv hG hq e3 hs ht1 hq2 ht2
    omega
/-- a float that is the nearest one to Z / D -/
def NearI (r : UInt64) (Z : Int) (D : Nat) : Prop := 0 < D ∧ ∃ neg W, Right r neg W D ∧ sgn neg W = Z
theorem sgn_dist (neg : Bool) (a b : Nat) : (sgn neg a - sgn neg b).natAbs = dist a b := by
  unfold sgn dist; cases neg <;> simp <;> lia
theorem sgn_mulD (neg : Bool) (D v : Nat) : (D : Int) * sgn neg v = sgn neg (D * v) := by
  unfold sgn; cases neg <;> simp [Int.mul_neg]
theorem NearI.near {r : UInt64} {Z : Int} {D c : Nat} (h : NearI r Z D) (hc : c ≤ 2040) (hZ : Z.natAbs ≤ D * 2 ^ (c + 53)) :
    IsF r ∧ 2 * (Z - D * val r).natAbs ≤ D * 2 ^ c := by
  obtain ⟨hD, neg, W, hR, rfl⟩ := h
  rw [sgn_natAbs] at hZ
  obtain ⟨hf, v, e1, e2⟩ := Right.near hR hD hc hZ
  refine ⟨hf, ?_⟩
  rw [e1, sgn_mulD, sgn_dist]; exact e2
theorem NearI.any {r : UInt64} {Z : Int} {D : Nat} {c q t' : Nat} (h : NearI r Z D) (hc : c ≤ 2040) (hZ : Z.natAbs ≤ D * 2 ^ (c + 53)) (hq : V t' = q) :
    ∃ t, t < infMag ∧ IsF r ∧ (val r).natAbs = V t ∧ dist Z.natAbs (D * (val r).natAbs) ≤ dist Z.natAbs (D * q) ∧ (0 ≤ Z → 0 ≤ val r ∨ val r = 0) := by
  obtain ⟨hD, neg, W, hR, rfl⟩ := h
  rw [sgn_natAbs] at hZ ⊢
  obtain ⟨t, rfl, hlt, hn⟩ := Right.lt_inf hR hD hc hZ
  obtain ⟨m, e, hd, hv⟩ := decode_pack neg hlt
  refine ⟨t, hlt, ⟨neg, m, e, hd⟩, by rw [val_pack neg hlt, sgn_natAbs], ?_, ?_⟩
  · rw [val_pack neg hlt, sgn_natAbs, ← hq]; exact hn t'
  · intro h0
    rw [val_pack neg hlt]
    unfold sgn at h0 ⊢
    cases neg
    · left; simp
    · simp only [if_true] at h0 ⊢
      have hW0 : W = 0 := by (clear hc hq hD hZ hlt hn hv hR hd; lia)
      right
      have := hn 0
      rw [V_zero, hW0] at this
      unfold dist at this
      have h3 : D * V t = 0 := by (clear hc hq hD hZ hlt hn hv hR hd h0 hW0; lia)
      rcases Nat.mul_eq_zero.mp h3 with q | q
      · (clear hc hq hZ hlt hn hv hR hd h0 hW0 this h3; lia)
      · rw [q]; rfl
theorem NearI.exact {r : UInt64} {Z q : Int} {D c : Nat} (h : NearI r Z D) (hc : c ≤ 1980) (hZ : Z = D * (q * (2 ^ c : Nat))) (hq : q.natAbs ≤ 2 ^ 53) :
    IsF r ∧ val r = q * (2 ^ c : Nat) := by
  have hb : Z.natAbs ≤ D * 2 ^ (c + 53) := by
    rw [hZ, Int.natAbs_mul, Int.natAbs_mul, Int.natAbs_natCast, Int.natAbs_natCast, Nat.add_comm, Nat.pow_add]
    exact Nat.mul_le_mul_left _ (Nat.mul_le_mul_right _ hq)
  obtain ⟨hD, neg, W, hR, e⟩ := h
  have hZ' := hZ
  rw [← e] at hb hZ
  rw [sgn_natAbs] at hb
  obtain ⟨t, rfl, hlt, hn⟩ := Right.lt_inf hR hD (by (clear hq hD hZ hb hR e hZ'; lia)) hb
  obtain ⟨m, e', hd, hv⟩ := decode_pack neg hlt
  refine ⟨⟨neg, m, e', hd⟩, ?_⟩
  obtain ⟨t', ht'⟩ := rep c q.natAbs hq
  have h1 := hn t'
  have hW : W = D * (q.natAbs * 2 ^ c) := by
    have := congrArg Int.natAbs hZ
    rw [sgn_natAbs, Int.natAbs_mul, Int.natAbs_mul, Int.natAbs_natCast, Int.natAbs_natCast] at this
    exact this
  rw [ht', ← hW] at h1
  have h2 : W = D * V t := by unfold dist at h1; (clear hc hq hD hZ hb e hZ' hR hlt hn hd hv ht'; omega)
  rw [val_pack neg hlt]
  refine Int.eq_of_mul_eq_mul_left (show (D : Int) ≠ 0 by (clear hc hq hZ hb e hZ' hR hlt hn hd hv ht' h1 hW h2; lia)) ?_
  rw [sgn_mulD, ← h2, e, hZ']
theorem isF_add {x y : UInt64} (hx : IsF x) (hy : IsF y) : NearI (add x y) (val x + val y) 1 := by
  obtain ⟨a, m, e, hx⟩ := hx
  obtain ⟨b, k, f, hy⟩ := hy
  obtain ⟨h1, h2⟩ := add_right hx hy
  by_cases h : val x + val y = 0
  · refine ⟨by decide, a && b, 0, ?_, by rw [h]; unfold sgn; simp⟩
    rw [h1 h]
    refine ⟨0, rfl, Nat.zero_le _, ?_, ?_⟩
    · constructor
      · intro q; unfold infMag at q; simp at q
      · intro q; rw [Nat.one_mul, Nat.mul_zero] at q; exact absurd (Nat.le_zero.mp q) (Nat.ne_of_gt (Nat.mul_pos (by decide) (Nat.two_pow_pos _)))
    · intro _ t'
      rw [V_zero]
      exact ⟨by unfold dist; (clear hx hy h1 h2 h; (exact Nat.zero_le _)), fun _ _ => rfl⟩
  · exact ⟨by decide, _, _, h2 h, sgn_self _⟩
theorem isF_neg {y : UInt64} (hy : IsF y) : IsF (neg y) ∧ val (neg y) = -val y := by
  obtain ⟨b, k, f, hy⟩ := hy
  exact ⟨⟨_, _, _, neg_decode hy⟩, neg_val hy⟩
theorem isF_sub {x y : UInt64} (hx : IsF x) (hy : IsF y) : NearI (sub x y) (val x - val y) 1 := by
  have h := isF_add hx (isF_neg hy).1
  rw [(isF_neg hy).2, ← Int.sub_eq_add_neg] at h
  unfold sub
  exact h
theorem sgn_xor (a b : Bool) (m k : Nat) : sgn (a != b) (m * k) = sgn a m * sgn b k := by
  unfold sgn; cases a <;> cases b <;> simp [Int.mul_neg, Int.neg_mul]
theorem val_sgn {x : UInt64} {a : Bool} {m : Nat} {e : Int} (h : decode x = .fin a m e) : val x = sgn a (val x).natAbs := by
  rw [val_natAbs h, val_eq h]
theorem isF_mul {x y : UInt64} (hx : IsF x) (hy : IsF y) : NearI (mul x y) (val x * val y) (2 ^ 1074) := by
  obtain ⟨a, m, e, hx⟩ := hx
  obtain ⟨b, k, f, hy⟩ := hy
  refine ⟨Nat.two_pow_pos _, _, _, mul_right hx hy, ?_⟩
  rw [sgn_xor, ← val_sgn hx, ← val_sgn hy]
theorem isF_div {x y : UInt64} (hx : IsF x) (hy : IsF y) (h0 : 0 < val y) : NearI (div x y) (val x * (2 ^ 1074 : Nat)) (val y).natAbs := by
  obtain ⟨a, m, e, hx⟩ := hx
  obtain ⟨b, k, f, hy⟩ := hy
  have hk : k ≠ 0 := by
    rintro rfl
    have := val_natAbs hy
    rw [Nat.zero_mul] at this
    omega
  refine ⟨by omega, _, _, div_right hx hy hk, ?_⟩
  have hb : b = false := by
    have := val_sgn hy
    cases b
    · rfl
    · unfold sgn at this; simp at this; (clear hx hk hy; lia)
  rw [hb]
  rw [show (a != false) = a by cases a <;> rfl, sgn_mul, ← val_sgn hx]
theorem isF_ofInt (i : Int) : NearI (ofInt i) (i * (2 ^ 1074 : Nat)) 1 := by
  refine ⟨by decide, _, _, ofInt_right i, ?_⟩
  rw [sgn_mul, sgn_self]
theorem isF_ofFrac (i : Int) (d : Nat) (hd : 0 < d) : NearI (ofFrac (decide (i < 0)) i.natAbs d) (i * (2 ^ 1074 : Nat)) d := by
  refine ⟨hd, _, _, ofFrac_right hd (D := d) (W := i.natAbs * 2 ^ 1074) rfl hd, ?_⟩
  rw [sgn_mul, sgn_self]
theorem toNat_sum {p q r s : Int} (hp : 0 ≤ p) (hq : 0 ≤ q) (hr : 0 ≤ r) (hs : 0 ≤ s) (h : p + q = r + s) : p.toNat + q.toNat = r.toNat + s.toNat := by
  refine Int.ofNat_inj.mp ?_
  rw [Int.natCast_add, Int.natCast_add, Int.toNat_of_nonneg hp, Int.toNat_of_nonneg hq, Int.toNat_of_nonneg hr, Int.toNat_of_nonneg hs]
  exact h
theorem abs_tri (Z y : Int) : y.natAbs ≤ Z.natAbs + (Z - y).natAbs ∧ Z.natAbs ≤ y.natAbs + (Z - y).natAbs := by
  have h1 := Int.natAbs_add_le Z (-(Z - y))
  have h2 := Int.natAbs_add_le y (Z - y)
  rw [Int.natAbs_neg, show Z + -(Z - y) = y by clear h1 h2; omega] at h1
  rw [show y + (Z - y) = Z by clear h1 h2; omega] at h2
  exact ⟨h1, h2⟩
theorem abs_comm (x y : Int) : (x - y).natAbs = (y - x).natAbs := by rw [← Int.natAbs_neg, Int.neg_sub]
theorem abs_chain {x y z : Int} {a b : Nat} (h1 : (x - y).natAbs ≤ a) (h2 : (y - z).natAbs ≤ b) : (x - z).natAbs ≤ a + b := by
  have h := Int.natAbs_add_le (x - y) (y - z)
  rw [show (x - y) + (y - z) = x - z by clear h h1 h2; omega] at h
  exact Nat.le_trans h (Nat.add_le_add h1 h2)
theorem abs_add_le {x y : Int} {a b : Nat} (h1 : x.natAbs ≤ a) (h2 : y.natAbs ≤ b) : (x + y).natAbs ≤ a + b := Nat.le_trans (Int.natAbs_add_le x y) (Nat.add_le_add h1 h2)
theorem abs_sub_le {x y : Int} {a b : Nat} (h1 : x.natAbs ≤ a) (h2 : y.natAbs ≤ b) : (x - y).natAbs ≤ a + b := by
  rw [Int.sub_eq_add_neg]
  exact abs_add_le h1 (by rw [Int.natAbs_neg]; exact h2)
theorem abs_from {x y : Int} {a b : Nat} (h1 : x.natAbs ≤ a) (h2 : (x - y).natAbs ≤ b) : y.natAbs ≤ a + b := Nat.le_trans (abs_tri x y).1 (Nat.add_le_add h1 h2)
theorem isF_fma {x y z : UInt64} (hx : IsF x) (hy : IsF y) (hz : IsF z) : NearI (fma x y z) (val x * val y + val z * (2 ^ 1074 : Nat)) (2 ^ 1074) := by
  obtain ⟨a, m, e, hx⟩ := hx
  obtain ⟨b, k, f, hy⟩ := hy
  obtain ⟨c, n, g, hz⟩ := hz
  have he := decode_ge hx
  have hf := decode_ge hy
  have hg := decode_ge hz
  have hfm : fma x y z = (if sgn (a != b) (m * k * 2 ^ ((e + f) - min (e + f) g).toNat) + sgn c (n * 2 ^ (g - min (e + f) g).toNat) == 0 then zero (if m * k == 0 && n == 0 then (a != b) && c else false)
      else ofBin (sgn (a != b) (m * k * 2 ^ ((e + f) - min (e + f) g).toNat) + sgn c (n * 2 ^ (g - min (e + f) g).toNat) < 0) (sgn (a != b) (m * k * 2 ^ ((e + f) - min (e + f) g).toNat) + sgn c (n * 2 ^ (g - min (e + f) g).toNat)).natAbs (min (e + f) g)) := by
    unfold fma
    rw [hx, hy, hz]
    rfl
  have hm : 0 ≤ min (e + f) g + 2148 := by
    clear hx hy hz hfm
    rcases Int.le_total (e + f) g with q | q
    · rw [Int.min_eq_left q]; clear q hg; omega
    · rw [Int.min_eq_right q]; clear q he hf; omega
  have hp : (sgn (a != b) (m * k * 2 ^ ((e + f) - min (e + f) g).toNat) + sgn c (n * 2 ^ (g - min (e + f) g).toNat)) * ((2 ^ (min (e + f) g + 2148).toNat : Nat) : Int) = val x * val y + val z * (2 ^ 1074 : Nat) := by
    rw [Int.add_mul, ← sgn_mul, ← sgn_mul, val_eq hx, val_eq hy, val_eq hz, ← sgn_xor, ← sgn_mul]
    congr 2
    · rw [Nat.mul_assoc, ← Nat.pow_add, show ((e + f) - min (e + f) g).toNat + (min (e + f) g + 2148).toNat = (e + 1074).toNat + (f + 1074).toNat from toNat_sum (Int.sub_nonneg.mpr (Int.min_le_left _ _)) hm (by clear hm hg hf hfm hx hy hz; omega) (by clear hm hg he hfm hx hy hz; omega) (by clear hm hg hf he hfm hx hy hz; generalize min (e + f) g = mm; omega), Nat.pow_add]
      ac_rfl
    · rw [Nat.mul_assoc, Nat.mul_assoc, ← Nat.pow_add, ← Nat.pow_add]
      congr 2
      exact toNat_sum (s := 1074) (Int.sub_nonneg.mpr (Int.min_le_right _ _)) hm (by clear hm he hf hfm hx hy hz; omega) (by decide) (by clear hm hg hf he hfm hx hy hz; generalize min (e + f) g = mm; omega)
  rw [hfm]
  generalize hs : sgn (a != b) (m * k * 2 ^ ((e + f) - min (e + f) g).toNat) + sgn c (n * 2 ^ (g - min (e + f) g).toNat) = t at hp ⊢
  by_cases h0 : t = 0
  · rw [if_pos (by simpa using h0)]
    rw [← hp, h0, Int.zero_mul]
    generalize (if m * k == 0 && n == 0 then (a != b) && c else false) = sg
    refine ⟨Nat.two_pow_pos _, sg, 0, ⟨0, rfl, Nat.zero_le _, ?_, ?_⟩, by unfold sgn; simp⟩
    · constructor
      · intro q; unfold infMag at q; simp at q
      · intro q; rw [Nat.mul_zero] at q; exact absurd (Nat.le_zero.mp q) (Nat.ne_of_gt (Nat.mul_pos (Nat.two_pow_pos _) (Nat.mul_pos (by decide) (Nat.two_pow_pos _))))
    · intro _ t'
      rw [V_zero]
      exact ⟨by unfold dist; (clear hx hy hz he hf hg hfm hs hp h0; (exact Nat.zero_le _)), fun _ _ => rfl⟩
  · rw [if_neg (by simpa using h0)]
    have hpos : (0 : Int) < ((2 ^ (min (e + f) g + 2148).toNat : Nat) : Int) := Int.ofNat_lt.mpr (Nat.two_pow_pos _)
    refine ⟨Nat.two_pow_pos _, decide (t < 0), t.natAbs * 2 ^ (min (e + f) g + 2148).toNat, ?_, by rw [sgn_mul, sgn_self, hp]⟩
    unfold ofBin
    refine ofFrac_right (shift_pos _ _ _ (by decide)) ?_ (Nat.two_pow_pos _)
    have := shift_one t.natAbs (min (e + f) g) 2148 (by (clear hx hy hz hfm hs hp h0 hpos; omega))
    rw [show (min (e + f) g + ((2148 : Nat) : Int)).toNat = (min (e + f) g + 2148).toNat by (clear hx hy hz he hf hfm hs hp h0 hpos this; (rfl))] at this
    rw [Nat.mul_assoc, ← Nat.pow_add]
    exact this
end Mine
end
section
open PySem PySem.W PySem.Calls PyProof.Rows PySem.Flt PySem.Builtin.Math
set_option maxRecDepth 100000
namespace Mine
/-- the floats that a list's items stand for -/
inductive RealsAre : List Value → List UInt64 → Prop
  | nil : RealsAre [] []
  | int (n : Int) (t : Tok) {vs bs} : ¬ Over n → RealsAre vs bs → RealsAre (.int n t :: vs) (Float64.ofInt n :: bs)
  | flt (b : UInt64) (t : Tok) {vs bs} : RealsAre vs bs → RealsAre (.float b t :: vs) (b :: bs)
def bitsOf (ps : List UInt64) : List Value := ps.map fun x => rawInt x.toNat
inductive FsRun : List UInt64 → List UInt64 → UInt64 → Prop
  | nil {ps} : FsRun ps [] (Float64.fsumEnd ps)
  | cons {ps x fs r} : Float64.isFinite (Float64.fsumAdd ps x).2 = true →
      (if Float64.isZero (Float64.fsumAdd ps x).2 then (Float64.fsumAdd ps x).1 else (Float64.fsumAdd ps x).1 ++ [(Float64.fsumAdd ps x).2]).length ≤ 100 →
      FsRun (if Float64.isZero (Float64.fsumAdd ps x).2 then (Float64.fsumAdd ps x).1 else (Float64.fsumAdd ps x).1 ++ [(Float64.fsumAdd ps x).2]) fs r → FsRun ps (x :: fs) r
section
variable {prog : Program} {w : World} {A : Around} {E : Value → Shared → Prop} {R : Result → Shared → Prop} {s : Shared}
theorem newTuple_ {vs : List Value} {Q : Value → Shared → Prop} (hz : vs.length ≤ sizeLine) (h : Q (.ref s.heap.objs.size) { s with heap := s.heap.push { cls := .type "tuple", data := .seq vs.toArray } }) :
    wpAny (model prog w) A (newTuple vs) Q E s := wpAny_newObj_type h (by show vs.toArray.size ≤ sizeLine; rw [List.size_toArray]; exact hz)
def Kp (s s' : Shared) (I : Addr) : Prop := ∃ h' tk, s' = { s with heap := h', toks := tk } ∧ ∀ b o, b ≠ I → s.heap.get? b = some o → h'.get? b = some o

end
end Mine
end
section
open PySem PySem.W PySem.Calls PyProof.Rows PySem.Flt PySem.Builtin.Math
set_option maxRecDepth 100000
namespace Mine

abbrev Tri := UInt64 × UInt64 × UInt64
inductive SpRun : Tri → List UInt64 → List UInt64 → Tri → Prop
  | nil {t} : SpRun t [] [] t
  | cons {t x y xs ys r} : Float64.isFinite (tlFma x y t).1 = true → SpRun (tlFma x y t) xs ys r → SpRun t (x :: xs) (y :: ys) r
theorem kind_sp : builtinKind "math.sumprod" = none := by decide +kernel
theorem plain_sp : plainId "math.sumprod" = true := by decide +kernel
theorem entry_sp : entryFor table "math.sumprod" = some Builtin.«math.sumprod» := entryFor_of_fast (by kernel_rfl)
theorem args_sp (a b : Value) : argsOk "math.sumprod" ⟨[a, b], []⟩ := by unfold argsOk; kernel_rfl
theorem plain_spL : plainId "math.sumprod.loop" = true := by decide +kernel
theorem entry_spL : entryFor table "math.sumprod.loop" = some Builtin.«math.sumprod.loop» := entryFor_of_fast (by kernel_rfl)
def triOf (t : Tri) : List Value := [rawInt t.1.toNat, rawInt t.2.1.toNat, rawInt t.2.2.toNat]
section
variable {prog : Program} {w : World} {A : Around} {E : Value → Shared → Prop} {R : Result → Shared → Prop} {s : Shared}
variable {I1 I2 : Addr} {fp1 fp2 wr1 wr2 : List Addr} {n : Nat} {its1 its2 : Array Value} {St1 St2 : Nat → Heap → Prop}
def Kp2 (s s' : Shared) (ws : List Addr) : Prop := ∃ h' tk, s' = { s with heap := h', toks := tk } ∧ ∀ b o, b ∉ ws → s.heap.get? b = some o → h'.get? b = some o
theorem item_at {its : Array Value} {I : Addr} {fp wr : List Addr} {n i : Nat} {St : Nat → Heap → Prop} {v : Value} {Q : Option Value → Shared → Prop}
    (W : Walks prog w A I fp wr n (fun i v => its[i]? = some v) St) (hlt : i < n) (e : its[i]? = some v) (h : St i s.heap)
    (q : ∀ h' tk, St (i + 1) h' → (∀ b o, b ∉ wr → s.heap.get? b = some o → h'.get? b = some o) → Q (some v) { s with heap := h', toks := tk }) :
    wpAny (model prog w) A (pyNext (.ref I)) Q E s :=
  W.item i s _ _ hlt h fun _ h' tk hv hs hk => Option.some.inj (e.symm.trans hv) ▸ q h' tk hs hk
theorem sp_loop (hA : A.handled = none) (W1 : Walks prog w A.in1 I1 fp1 wr1 n (fun i v => its1[i]? = some v) St1) (W2 : Walks prog w A.in1 I2 fp2 wr2 n (fun i v => its2[i]? = some v) St2)
    (d12 : ∀ b ∈ fp1, b ∉ wr2) (d21 : ∀ b ∈ fp2, b ∉ wr1) (hn1 : its1.size = n) (hn2 : its2.size = n) (hl1 : ∀ i h, St1 i h → ∀ b ∈ fp1, h.get? b ≠ none) (hl2 : ∀ i h, St2 i h → ∀ b ∈ fp2, h.get? b ≠ none) {t0 : Tok} :
    ∀ (k i : Nat) (s : Shared) (t r : Tri) (xs ys : List UInt64) (pp : Addr) (np : Nat) (b fu : Bool), n - i = k → i ≤ n → (i = n → fu = true) → St1 i s.heap → St2 i s.heap →
      s.heap.get? pp = some { cls := .type "tuple", data := .seq (triOf t).toArray np } → pp ∉ wr1 → pp ∉ wr2 →
      FloatsAre (its1.toList.drop i) xs → FloatsAre (its2.toList.drop i) ys → SpRun t xs ys r →
      (∀ s' tk, Kp2 s s' (wr1 ++ wr2) → R (.ok (.ret (.float (Float64.add (Float64.ofInt 0) (tlToFloat r)) tk))) s') →
      codeAny (model prog w) A (.builtin "math.sumprod.loop" ⟨[.ref I1, .ref I2, .int 0 t0, .bool b, .int 0 0, .bool false, .bool true, .ref pp, .bool fu], []⟩) R s := by
  have hA1 : A.in1.handled = none := hA
  have uc : ∀ x : UInt64, ((x.toNat : Int)).toNat.toUInt64 = x := fun x => by simp
  have back : ∀ t : Tri, (((t.1.toNat : Int)).toNat.toUInt64, ((t.2.1.toNat : Int)).toNat.toUInt64, ((t.2.2.toNat : Int)).toNat.toUInt64) = t := fun t => by rw [uc, uc, uc]
  intro k
  induction k with
  | zero =>
    intro i s t r xs ys pp np b fu hk hi hfu h1 h2 hpp hp1 hp2 hx hy hrun hR
    obtain rfl : i = n := by (clear hA W1 W2 d12 d21 hn1 hn2 hl1 hl2 hA1 uc h1 h2 hpp hp1 hp2 hx hy hrun hR; lia)
    obtain rfl := hfu rfl
    have e1 : its1.toList.drop i = [] := List.drop_eq_nil_of_le (by simp [hn1])
    have e2 : its2.toList.drop i = [] := List.drop_eq_nil_of_le (by simp [hn2])
    rw [e1] at hx; rw [e2] at hy
    cases hx; cases hy; cases hrun
    refine codeAny_builtin entry_spL ?_
    rw [Around.under_plainId plain_spL _]
    unfold Builtin.«math.sumprod.loop»
    dsimp -zeta only
    refine wpAny_bind (wpAny_seqItems hpp rfl ?_)
    dsimp -zeta only [Option.getD_some, triOf, rawInt, List.toList_toArray]
    refine wpAny_bind (W1.done s _ _ h1 fun h' tk hk1 => ?_)
    refine wpAny_bind (wpAny_holding (W2.done _ _ _ (W2.frame _ _ _ h2 fun c hc o e => hk1 c o (d21 c hc) e) fun h'' tk' hk2 => ?_))
    dsimp only [Option.isSome_none, bne, Bool.false_eq_true, ↓reduceIte, Option.toList_none, List.append_nil, BEq.rfl, Bool.not_true]
    simp only [uc]
    cases b
    all_goals
      (try dsimp only [Bool.false_eq_true, ↓reduceIte])
      repeat refine wpAny_bind (wpAny_rule ?_)
      refine wpAny_bind (wp_mkFloat ?_)
      refine wpAny_bind (wpAny_holding (add_if_fits (by decide +kernel) ?_))
      refine wpAny_pure (hR _ _ ⟨h'', _, rfl, fun b o hb e => hk2 b o (fun q => hb (List.mem_append_right _ q)) (hk1 b o (fun q => hb (List.mem_append_left _ q)) e)⟩)
  | succ k ih =>
    intro i s t r xs ys pp np b fu hk hi hfu h1 h2 hpp hp1 hp2 hx hy hrun hR
    have hlt : i < n := by (clear hA W1 W2 d12 d21 hn1 hn2 hl1 hl2 hA1 uc ih h1 h2 hpp hp1 hp2 hx hy hrun hR; omega)
    have e1 : its1[i]? = some (its1[i]'(by (clear hA W1 W2 d12 d21 hl1 hl2 hA1 uc ih hk hi hfu h1 h2 hpp hp1 hp2 hx hy hrun hR; lia))) := by simp [show i < its1.size by (clear hA W1 W2 d12 d21 hl1 hl2 hA1 uc ih hk hi hfu h1 h2 hpp hp1 hp2 hx hy hrun hR; lia)]
    have e2 : its2[i]? = some (its2[i]'(by (clear hA W1 W2 d12 d21 hn1 hl1 hl2 hA1 uc ih hk hi hfu h1 h2 hpp hp1 hp2 hx hy hrun hR e1; lia))) := by simp [show i < its2.size by (clear hA W1 W2 d12 d21 hn1 hl1 hl2 hA1 uc ih hk hi hfu h1 h2 hpp hp1 hp2 hx hy hrun hR e1; lia)]
    have d1 : its1.toList.drop i = its1[i]'(by (clear hA W1 W2 d12 d21 hl1 hl2 hA1 uc ih hk hi hfu h1 h2 hpp hp1 hp2 hx hy hrun hR e1 e2; lia)) :: its1.toList.drop (i + 1) := by
      rw [List.drop_eq_getElem_cons (by simp; (clear hA W1 W2 d12 d21 hl1 hl2 hA1 uc ih hk hi hfu h1 h2 hpp hp1 hp2 hx hy hrun hR e1 e2; lia))]; simp
    have d2 : its2.toList.drop i = its2[i]'(by (clear hA W1 W2 d12 d21 hn1 hl1 hl2 hA1 uc ih hk hi hfu h1 h2 hpp hp1 hp2 hx hy hrun hR e1 e2 d1; lia)) :: its2.toList.drop (i + 1) := by
      rw [List.drop_eq_getElem_cons (by simp; (clear hA W1 W2 d12 d21 hn1 hl1 hl2 hA1 uc ih hk hi hfu h1 h2 hpp hp1 hp2 hx hy hrun hR e1 e2 d1; lia))]; simp
    rw [d1] at hx; rw [d2] at hy
    generalize its1[i]'(by (clear hA W1 W2 d12 d21 hl1 hl2 hA1 uc ih hk hi hfu h1 h2 hpp hp1 hp2 hrun hR hy hx e1 e2 d1 d2; lia)) = v1 at e1 hx
    generalize its2[i]'(by (clear hA W1 W2 d12 d21 hn1 hl1 hl2 hA1 uc ih hk hi hfu h1 h2 hpp hp1 hp2 hrun hR hy e2 d1 d2 e1 hx; lia)) = v2 at e2 hy
    cases hx with
    | cons x t1 hx =>
    cases hy with
    | cons y t2 hy =>
    cases hrun with
    | cons hf hrun =>
    refine codeAny_builtin entry_spL ?_
    rw [Around.under_plainId plain_spL _]
    unfold Builtin.«math.sumprod.loop»
    dsimp -zeta only
    refine wpAny_bind (wpAny_seqItems hpp rfl ?_)
    dsimp -zeta only [Option.getD_some, triOf, rawInt, List.toList_toArray]
    refine wpAny_bind (item_at W1 hlt e1 h1 fun h' tk hs1 hk1 => ?_)
    refine wpAny_bind (wpAny_holding (item_at W2 hlt e2 (W2.frame _ _ _ h2 fun c hc o e => hk1 c o (d21 c hc) e) fun h'' tk' hs2 hk2 => ?_))
    have up : ∀ b o, b ∉ wr1 ++ wr2 → s.heap.get? b = some o → h''.get? b = some o := fun b o hb e => hk2 b o (fun q => hb (List.mem_append_right _ q)) (hk1 b o (fun q => hb (List.mem_append_left _ q)) e)
    have hs1' : St1 (i + 1) h'' := W1.frame _ _ _ hs1 fun c hc o e => hk2 c o (d12 c hc) e
    have live' : ∀ c ∈ fp1 ++ fp2, h''.get? c ≠ none := by
      intro c hc
      rcases List.mem_append.mp hc with hc | hc
      · exact hl1 _ _ hs1' c hc
      · exact hl2 _ _ hs2 c hc
    have next : wpAny (model prog w) A.in1 (do
        let t' ← newTuple [rawInt (tlFma x y t).1.toNat, rawInt (tlFma x y t).2.1.toNat, rawInt (tlFma x y t).2.2.toNat]
        again (.builtin "math.sumprod.loop" ⟨[.ref I1, .ref I2, .int 0 t0, .bool false, rawInt 0, .bool false, .bool true, t', .bool true], []⟩))
        (fun fin s' => match fin with | .done f => R (.ok f) s' | .again c' => c'.quiet = true ∧ codeAny (model prog w) A c' R s') (fun e s' => R (.error e) s') { s with heap := h'', toks := tk' } := by
      refine wpAny_bind (newTuple_ (by show 3 ≤ sizeLine; decide) (wpAny_pure ⟨plainId_quiet plain_spL _, ?_⟩))
      have push : ∀ b o, h''.get? b = some o → (h''.push { cls := .type "tuple", data := .seq (triOf (tlFma x y t)).toArray }).get? b = some o := fun b o e => Heap.get?_push_of_some _ e
      have fresh : ∀ c ∈ fp1 ++ fp2, h''.objs.size ≠ c := fun c hc q => by
        have := live' c hc
        cases e : h''.get? c with
        | none => exact this e
        | some o => exact absurd (Heap.lt_size e) (by rw [q]; exact Nat.lt_irrefl _)
      refine ih (i + 1) _ _ r _ _ _ 0 false true (by (clear hA W1 W2 d12 d21 hn1 hn2 hl1 hl2 hA1 uc ih hi h1 h2 hpp hp1 hp2 hR d1 d2 e1 hx e2 hy hf hrun hs1 hk1 hs2 hk2 up hs1' live' push fresh; omega)) hlt (fun _ => rfl) (W1.frame _ _ _ hs1' fun c _ o e => push c o e) (W2.frame _ _ _ hs2 fun c _ o e => push c o e) (Heap.get?_push_size _ rfl)
        (fun q => fresh _ (List.mem_append_left _ (W1.sub _ q)) rfl) (fun q => fresh _ (List.mem_append_right _ (W2.sub _ q)) rfl) hx hy hrun ?_
      · rintro s' tk2 ⟨h3, tk3, rfl, hk3⟩
        exact hR _ _ ⟨h3, tk3, rfl, fun c o hb e => hk3 c o hb (push c o (up c o hb e))⟩
    have hf' : Float64.isFinite (tlFma x y t).1 = true := hf
    dsimp only [Option.isSome_some, bne, Bool.false_eq_true, ↓reduceIte, Option.toList_some, Bool.or_self, Bool.or_true, BEq.rfl, Bool.not_true]
    simp only [uc, hf', ↓reduceIte]
    cases b
    all_goals
      (try dsimp only [Bool.false_eq_true, ↓reduceIte])
      repeat refine wpAny_bind (wpAny_rule ?_)
      first
        | exact next
        | exact wpAny_bind (wpAny_mono next (fun _ _ x => wpAny_pure x) (fun _ _ x => x))

/-- an iterable of floats: a list or a tuple -/
def SeqAt (h : Heap) (a : Addr) (its : Array Value) : Prop := h.IsList a its ∨ IsTup h a its
theorem SeqAt.lt {h : Heap} {a : Addr} {its : Array Value} (x : SeqAt h a its) : a < h.objs.size := by
  rcases x with ⟨_, e, _⟩ | ⟨_, e, _⟩ <;> exact Heap.lt_size e
theorem SeqAt.keep {h h' : Heap} {a : Addr} {its : Array Value} (x : SeqAt h a its) (k : ∀ o, h.get? a = some o → h'.get? a = some o) : SeqAt h' a its := by
  rcases x with x | ⟨o, e, r⟩
  · exact .inl (x.at k)
  · exact .inr ⟨o, k o e, r⟩
/-- its iterator, as pyIter makes it -/
theorem iterOf {a : Addr} {its : Array Value} {Q : Value → Shared → Prop} (x : SeqAt s.heap a its)
    (h : ∀ (I : Addr) (h' : Heap) (St : Nat → Heap → Prop), I = s.heap.objs.size → (∀ b o, s.heap.get? b = some o → h'.get? b = some o) →
      (∀ A' : Around, A'.handled = none → Walks prog w A' I [I, a] [I] its.size (fun i v => its[i]? = some v) St) → (∀ i h, St i h → ∀ b ∈ [I, a], h.get? b ≠ none) → St 0 h' → Q (.ref I) { s with heap := h' }) :
    wpAny (model prog w) A (pyIter (.ref a)) Q E s := by
  have hlt := x.lt
  rcases x with x | x
  · refine wpAny_pyIter_list x (h _ _ _ rfl (fun b o e => Heap.get?_push_of_some _ e) (fun A' hA => Walks.list hA _ a (Nat.ne_of_lt hlt) its) ?_ ⟨⟨_, Heap.get?_push_size _ rfl, rfl, rfl⟩, x.push _⟩)
    rintro i h ⟨⟨_, e1, _⟩, ⟨_, e2, _⟩⟩ b hb
    simp only [List.mem_cons, List.not_mem_nil, or_false] at hb
    rcases hb with rfl | rfl
    · rw [e1]; exact fun q => (nomatch q)
    · rw [e2]; exact fun q => (nomatch q)
  · refine wpAny_pyIter_tuple x (h _ _ _ rfl (fun b o e => Heap.get?_push_of_some _ e) (fun A' hA => Walks.tuple hA _ a (Nat.ne_of_lt hlt) its) ?_ ⟨⟨_, Heap.get?_push_size _ rfl, rfl, rfl⟩, Heap.IsTuple.at x fun o e => Heap.get?_push_of_some _ e⟩)
    rintro i h ⟨⟨_, e1, _⟩, ⟨_, e2, _⟩⟩ b hb
    simp only [List.mem_cons, List.not_mem_nil, or_false] at hb
    rcases hb with rfl | rfl
    · rw [e1]; exact fun q => (nomatch q)
    · rw [e2]; exact fun q => (nomatch q)
theorem SpRun.len {t r : Tri} {xs ys : List UInt64} (h : SpRun t xs ys r) : xs.length = ys.length := by
  induction h with
  | nil => rfl
  | cons _ _ ih => simp [ih]
theorem call_sumprod {a b : Addr} {its1 its2 : Array Value} {xs ys : List UInt64} {r : Tri} {Q : Value → Shared → Prop} (hA : A.handled = none) (h1 : SeqAt s.heap a its1) (h2 : SeqAt s.heap b its2)
    (hx : FloatsAre its1.toList xs) (hy : FloatsAre its2.toList ys) (hn : xs ≠ []) (hrun : SpRun (Float64.zero false, Float64.zero false, Float64.zero false) xs ys r)
    (h : ∀ h' tk t, (∀ b o, s.heap.get? b = some o → h'.get? b = some o) → Q (.float (Float64.add (Float64.ofInt 0) (tlToFloat r)) t) { s with heap := h', toks := tk }) :
    wpAny (model prog w) A (call (.builtin "math.sumprod") [.ref a, .ref b]) Q E s := by
  have hlen : xs.length = ys.length := hrun.len
  have n1 : its1.size = xs.length := by rw [← hx.length]; simp
  have n2 : its2.size = its1.size := by rw [n1, hlen, ← hy.length]; simp
  have hpos : 0 < xs.length := List.length_pos_iff.mpr hn
  refine call_function_tree kind_sp plain_sp entry_sp (args_sp _ _) ?_
  unfold Builtin.«math.sumprod»
  refine wpAny_bind (m := mathSome "sumprod" 2 2 _) (wpAny_of_eq (show mathSome "sumprod" 2 2 ⟨[.ref a, .ref b], []⟩ = pure [.ref a, .ref b] from by rfl) ?_)
  dsimp only
  refine wpAny_bind (iterOf h1 fun I1 g1 St1 e1 k1 W1 l1 s1 => ?_)
  refine wpAny_bind (wpAny_holding (iterOf (h2.keep fun o e => k1 _ o e) fun I2 g2 St2 e2 k2 W2 l2 s2 => ?_))
  refine wpAny_bind (wpAny_mkInt ?_)
  refine wpAny_bind (newTuple_ (by decide) ?_)
  refine wpAny_pure ⟨plainId_quiet plain_spL _, ?_⟩
  have hI1 : g1.get? I1 ≠ none := l1 _ _ s1 I1 (by simp)
  have ltI1 : I1 < g1.objs.size := by
    cases e : g1.get? I1 with
    | none => exact absurd e hI1
    | some o => exact Heap.lt_size e
  have la : a < s.heap.objs.size := h1.lt
  have lb : b < s.heap.objs.size := h2.lt
  have d : I2 ≠ I1 := by rw [e2]; exact Nat.ne_of_gt ltI1
  have d1 : a ≠ I2 := by
    rw [e2]; refine Nat.ne_of_lt (Nat.lt_of_lt_of_le la ?_)
    exact Nat.le_of_lt (by rw [e1] at ltI1; exact ltI1)
  have d2 : b ≠ I1 := by rw [e1]; exact Nat.ne_of_lt lb
  have s1' : St1 0 g2 := (W1 A.in1 hA).frame _ _ _ s1 fun c _ o e => k2 c o e
  have up : ∀ c o, g2.get? c = some o → (g2.push { cls := .type "tuple", data := .seq (triOf (Float64.zero false, Float64.zero false, Float64.zero false)).toArray }).get? c = some o := fun c o e => Heap.get?_push_of_some _ e
  have fresh : ∀ c, g2.get? c ≠ none → g2.objs.size ≠ c := fun c hc q => by
    cases e : g2.get? c with
    | none => exact hc e
    | some o => exact absurd (Heap.lt_size e) (by rw [q]; exact Nat.lt_irrefl _)
  refine sp_loop (n := its1.size) hA (W1 A.in1 hA) (n2 ▸ W2 A.in1 hA) ?_ ?_ rfl n2 l1 l2 its1.size 0 _ (Float64.zero false, Float64.zero false, Float64.zero false) r xs ys _ 0 true false rfl (Nat.zero_le _) (fun q => by (clear hA h1 h2 hx hy hn hrun h e1 k1 W1 l1 s1 e2 k2 W2 l2 s2 hI1 ltI1 la lb d d1 d2 s1' up fresh; lia))
    ((W1 A.in1 hA).frame _ _ _ s1' fun c _ o e => up c o e) ((W2 A.in1 hA).frame _ _ _ s2 fun c _ o e => up c o e) (Heap.get?_push_size _ rfl) ?_ ?_ (by simpa using hx) (by simpa using hy) hrun ?_
  · intro c hc q
    simp only [List.mem_cons, List.not_mem_nil, or_false] at hc q
    rcases hc with rfl | rfl
    · exact d q.symm
    · exact d1 q
  · intro c hc q
    simp only [List.mem_cons, List.not_mem_nil, or_false] at hc q
    rcases hc with rfl | rfl
    · exact d q
    · exact d2 q
  · intro q; exact fresh I1 (l1 _ _ s1' I1 (by simp)) (by simpa using q)
  · intro q; exact fresh I2 (l2 _ _ s2 I2 (by simp)) (by simpa using q)
  · rintro s' tk ⟨h', tk', rfl, hk⟩
    refine h h' tk' tk fun c o e => hk c o ?_ (up c o (k2 c o (k1 c o e)))
    intro q
    simp only [List.cons_append, List.nil_append, List.mem_cons, List.not_mem_nil, or_false] at q
    rcases q with rfl | rfl
    · exact absurd (Heap.lt_size e) (by rw [e1]; exact Nat.lt_irrefl _)
    · exact absurd (Heap.lt_size (k1 _ _ e)) (by rw [e2]; exact Nat.lt_irrefl _)
end
end Mine
end
section
open PySem PySem.Float64
set_option maxRecDepth 100000
set_option exponentiation.threshold 3000
namespace Mine
def E (c : Nat) (x : UInt64) (p : Int) : Prop := IsF x ∧ val x = p * (2 ^ c : Nat)
theorem E.add {c : Nat} {x y : UInt64} {p q : Int} (hx : E c x p) (hy : E c y q) (hb : (p + q).natAbs ≤ 2 ^ 53) (hc : c ≤ 1980) : E c (Float64.add x y) (p + q) :=
  NearI.exact (isF_add hx.1 hy.1) hc (by rw [hx.2, hy.2, Int.add_mul]; simp) hb
theorem E.sub {c : Nat} {x y : UInt64} {p q : Int} (hx : E c x p) (hy : E c y q) (hb : (p - q).natAbs ≤ 2 ^ 53) (hc : c ≤ 1980) : E c (Float64.sub x y) (p - q) :=
  NearI.exact (isF_sub hx.1 hy.1) hc (by rw [hx.2, hy.2, Int.sub_mul]; simp) hb
theorem E.neg {c : Nat} {x : UInt64} {p : Int} (hx : E c x p) : E c (Float64.neg x) (-p) :=
  ⟨(isF_neg hx.1).1, by rw [(isF_neg hx.1).2, hx.2, Int.neg_mul]⟩
theorem pow_add' (a b : Nat) : ((2 ^ (a + b) : Nat) : Int) = ((2 ^ a : Nat) : Int) * ((2 ^ b : Nat) : Int) := by rw [Nat.pow_add, Int.natCast_mul]
theorem E.prod {c d e : Nat} {x y : UInt64} {p q : Int} (hx : E c x p) (hy : E d y q) (h : c + d = e + 1074) : val x * val y = (2 ^ 1074 : Nat) * (p * q * (2 ^ e : Nat)) := by
  rw [hx.2, hy.2]
  have e1 := pow_add' c d
  rw [h, pow_add'] at e1
  generalize ((2 ^ 1074 : Nat) : Int) = K at *
  generalize ((2 ^ c : Nat) : Int) = a at *
  generalize ((2 ^ d : Nat) : Int) = b at *
  generalize ((2 ^ e : Nat) : Int) = g at *
  calc p * a * (q * b) = p * q * (a * b) := by ac_rfl
    _ = p * q * (g * K) := by rw [e1]
    _ = K * (p * q * g) := by ac_rfl
theorem E.mul {c d e : Nat} {x y : UInt64} {p q : Int} (hx : E c x p) (hy : E d y q) (h : c + d = e + 1074) (hb : (p * q).natAbs ≤ 2 ^ 53) (he : e ≤ 1980) : E e (Float64.mul x y) (p * q) :=
  NearI.exact (isF_mul hx.1 hy.1) he (by rw [hx.prod hy h]) hb
theorem E.fma {c d e : Nat} {x y z : UInt64} {p q r : Int} (hx : E c x p) (hy : E d y q) (hz : E e z r) (h : c + d = e + 1074) (hb : (p * q + r).natAbs ≤ 2 ^ 53) (he : e ≤ 1980) : E e (Float64.fma x y z) (p * q + r) :=
  NearI.exact (isF_fma hx.1 hy.1 hz.1) he (by
    rw [hx.prod hy h, hz.2, Int.add_mul, Int.mul_add]
    congr 1
    rw [Int.mul_comm]) hb
theorem E.zero {c : Nat} {x : UInt64} (h : IsF x) (hv : val x = 0) : E c x 0 := ⟨h, by rw [hv, Int.zero_mul]⟩
theorem E.to {c d : Nat} {x : UInt64} (h : E c x 0) : E d x 0 := ⟨h.1, by rw [h.2, Int.zero_mul, Int.zero_mul]⟩
theorem E.zeroF (c : Nat) (b : Bool) : E c (Float64.zero b) 0 := E.zero (isF_zero b).1 (isF_zero b).2
theorem E.ofInt {i : Int} (h : i.natAbs ≤ 2 ^ 53) : E 1074 (Float64.ofInt i) i :=
  NearI.exact (isF_ofInt i) (by decide) (by simp) h
theorem E.scale {c d : Nat} {x : UInt64} {p : Int} (h : E (c + d) x p) : E c x (p * (2 ^ d : Nat)) := ⟨h.1, by rw [h.2, pow_add']; ac_rfl⟩
theorem E.isZero_iff {c : Nat} {x : UInt64} {p : Int} (h : E c x p) : isZero x = true ↔ p = 0 := by
  rw [h.1.zero_iff, h.2]
  constructor
  · intro q
    rcases Int.mul_eq_zero.mp q with q | q
    · exact q
    · exact absurd (Int.ofNat_eq_zero.mp q) (Nat.ne_of_gt (Nat.two_pow_pos _))
  · rintro rfl; exact Int.zero_mul _
/-- the partials of a sum that is exact -/
def PS (c : Nat) (ps : List UInt64) (s : Int) : Prop := (ps = [] ∧ s = 0) ∨ ∃ p, ps = [p] ∧ E c p s
/-- an exact two-sum -/
theorem dlSum_exact {f : Nat} {a b : UInt64} {p q : Int} (ha : E f a p) (hb : E f b q) (hf : f ≤ 1980) (h : p.natAbs + q.natAbs ≤ 2 ^ 53) :
    E f (Builtin.Math.dlSum a b).1 (p + q) ∧ E f (Builtin.Math.dlSum a b).2 0 := by
  have h1 := ha.add hb (by omega) hf
  have h2 := h1.sub ha (by (clear ha hb hf h1; lia)) hf
  have h3 := h1.sub h2 (by (clear ha hb hf h1 h2; lia)) hf
  have h4 := ha.sub h3 (by (clear ha hb hf h h1 h2 h3; lia)) hf
  have h5 := hb.sub h2 (by (clear ha hb hf h h1 h2 h3 h4; lia)) hf
  have h6 := h4.add h5 (by (clear ha hb hf h h1 h2 h3 h4 h5; lia)) hf
  refine ⟨h1, ?_⟩
  rw [show p - (p + q - (p + q - p)) + (q - (p + q - p)) = 0 by (clear ha hb hf h h1 h2 h3 h4 h5 h6; lia)] at h6
  exact h6
theorem tlFma_exact {d e f : Nat} {x y t1 t2 t3 : UInt64} {a b s : Int} (hx : E d x a) (hy : E e y b) (h : d + e = f + 1074) (hf : f ≤ 1980) (h1 : E f t1 s) (h2 : E f t2 0) (h3 : E f t3 0) (hb : s.natAbs + (a * b).natAbs ≤ 2 ^ 53) :
    E f (Builtin.Math.tlFma x y (t1, t2, t3)).1 (s + a * b) ∧ E f (Builtin.Math.tlFma x y (t1, t2, t3)).2.1 0 ∧ E f (Builtin.Math.tlFma x y (t1, t2, t3)).2.2 0 := by
  have z := hx.mul hy h (by (clear hx hy h hf h1 h2 h3; lia)) hf
  have fz := hx.fma hy z.neg h (by (clear hx hy h hf h1 h2 h3 hb z; lia)) hf
  rw [show a * b + -(a * b) = 0 by (clear hx hy h hf h1 h2 h3 hb z fz; lia)] at fz
  obtain ⟨s1, s2⟩ := dlSum_exact h1 z hf hb
  obtain ⟨r1, r2⟩ := dlSum_exact h2 fz hf (by decide)
  obtain ⟨u1, u2⟩ := dlSum_exact r1 s2 hf (by decide)
  refine ⟨s1, u1, ?_⟩
  have := (h3.add r2 (by decide) hf).add u2 (by decide) hf
  exact this
theorem tlToFloat_exact {f : Nat} {t : UInt64 × UInt64 × UInt64} {s : Int} (hf : f ≤ 1980) (h1 : E f t.1 s) (h2 : E f t.2.1 0) (h3 : E f t.2.2 0) (hb : s.natAbs ≤ 2 ^ 53) : E f (Builtin.Math.tlToFloat t) s := by
  obtain ⟨u1, u2⟩ := dlSum_exact h2 h1 hf (by simpa using hb)
  have := (h3.add u2 (by decide) hf).add u1 (by simpa using hb) hf
  rw [show (0 : Int) + 0 + (0 + s) = s by (clear hf h1 h2 h3 hb u1 u2 this; lia)] at this
  exact this
inductive EL (c : Nat) : List UInt64 → List Int → Prop
  | nil : EL c [] []
  | cons {x a xs as} : E c x a → EL c xs as → EL c (x :: xs) (a :: as)
def dotI (as bs : List Int) : Int := ((as.zip bs).map fun p => p.1 * p.2).sum
theorem sp_run {d e f B : Nat} (h : d + e = f + 1074) (hf : f ≤ 1980) : ∀ {xs ys : List UInt64} {as bs : List Int} {t1 t2 t3 : UInt64} {s : Int}, EL d xs as → EL e ys bs → as.length = bs.length → E f t1 s → E f t2 0 → E f t3 0 →
    (∀ a ∈ as, a.natAbs ≤ B) → (∀ b ∈ bs, b.natAbs ≤ B) → s.natAbs + as.length * (B * B) ≤ 2 ^ 53 → ∃ r, SpRun (t1, t2, t3) xs ys r ∧ E f r.1 (s + dotI as bs) ∧ E f r.2.1 0 ∧ E f r.2.2 0
  | _, _, _, _, t1, t2, t3, s, .nil, .nil, _, h1, h2, h3, _, _, _ => ⟨_, .nil, by show E f t1 (s + 0); rw [Int.add_zero]; exact h1, h2, h3⟩
  | _, _, _, _, t1, t2, t3, s, .cons .., .nil, hl, _, _, _, _, _, _ => by simp at hl
  | _, _, _, _, t1, t2, t3, s, .nil, .cons .., hl, _, _, _, _, _, _ => by simp at hl
  | _, _, _, _, t1, t2, t3, s, .cons (x := x) (a := a) (as := as) hx hxs, .cons (x := y) (a := b) (as := bs) hy hys, hl, h1, h2, h3, ha, hb, hB => by
    rw [List.length_cons, Nat.succ_mul] at hB
    have hab : (a * b).natAbs ≤ B * B := by rw [Int.natAbs_mul]; exact Nat.mul_le_mul (ha a (.head _)) (hb b (.head _))
    obtain ⟨u1, u2, u3⟩ := tlFma_exact hx hy h hf h1 h2 h3 (by (clear h hf hx hxs hy hys hl h1 h2 h3 ha hb; omega))
    obtain ⟨r, r0, r1, r2, r3⟩ := sp_run h hf hxs hys (by simpa using hl) u1 u2 u3 (fun z hz => ha z (.tail _ hz)) (fun z hz => hb z (.tail _ hz)) (by (clear h hf hx hxs hy hys hl h1 h2 h3 ha hb u1 u2 u3; omega))
    refine ⟨r, .cons u1.1.finite r0, ?_, r2, r3⟩
    have : dotI (a :: as) (b :: bs) = a * b + dotI as bs := by simp [dotI]
    rw [this, ← Int.add_assoc]; exact r1
/-- the exact sum of products as a float -/
theorem sp_float {d e f B : Nat} (h : d + e = f + 1074) (hf : f ≤ 1980) {xs ys : List UInt64} {as bs : List Int} (h1 : EL d xs as) (h2 : EL e ys bs) (hl : as.length = bs.length)
    (ha : ∀ a ∈ as, a.natAbs ≤ B) (hb : ∀ b ∈ bs, b.natAbs ≤ B) (hB : as.length * (B * B) ≤ 2 ^ 53) (hs : (dotI as bs).natAbs ≤ 2 ^ 53) :
    ∃ r, SpRun (Float64.zero false, Float64.zero false, Float64.zero false) xs ys r ∧ E f (Float64.add (Float64.ofInt 0) (Builtin.Math.tlToFloat r)) (dotI as bs) := by
  obtain ⟨r, r0, r1, r2, r3⟩ := sp_run h hf h1 h2 hl (E.zeroF f false) (E.zeroF f false) (E.zeroF f false) ha hb (by simpa using hB)
  rw [Int.zero_add] at r1
  have := (E.ofInt (i := 0) (by decide)).to.add (tlToFloat_exact hf r1 r2 r3 hs) (by simpa using hs) hf
  rw [Int.zero_add] at this
  exact ⟨r, r0, this⟩
theorem dot_bound {B : Nat} : ∀ {as bs : List Int}, (∀ a ∈ as, a.natAbs ≤ B) → (∀ b ∈ bs, b.natAbs ≤ B) → (dotI as bs).natAbs ≤ as.length * (B * B)
  | [], _, _, _ => by simp [dotI]
  | _ :: _, [], _, _ => by simp [dotI]
  | a :: as, b :: bs, ha, hb => by
    have h1 := dot_bound (as := as) (bs := bs) (fun z hz => ha z (.tail _ hz)) (fun z hz => hb z (.tail _ hz))
    have h2 : (a * b).natAbs ≤ B * B := by rw [Int.natAbs_mul]; exact Nat.mul_le_mul (ha a (.head _)) (hb b (.head _))
    have e : dotI (a :: as) (b :: bs) = a * b + dotI as bs := by simp [dotI]
    rw [e, List.length_cons, Nat.succ_mul]
    omega
end Mine
end
section
open PySem PySem.W PySem.Calls PyProof.Rows
set_option maxRecDepth 100000
namespace Mine
section
variable {prog : Program} {w : World} {A : Around} {E : Value → Shared → Prop} {s : Shared} {env : Env} {h₀ : Heap} {L : Addr} {m : Str → Option Value} {news : List (Addr × Obj)}
theorem turnOk_range {elt : PySem.Expr} {x : Str} {px : Pos} {scope : Scope} {cl : List (Str × Addr)} {n : Nat} {wr : List Addr} {Fv : Nat → Value → Prop} {s₁ s₂ : Shared} (hkind : scope.kind = .function) (hx : scope.names.lookup x = some .local)
    (hs : ∃ h tk, s₂ = { s₁ with heap := h, toks := tk }) (hk : ∀ b o, s₁.heap.get? b = some o → b ∉ wr ∧ s₂.heap.get? b = some o) (he : ∀ i t, i < n → ElOk prog w A env elt scope cl x s₁ (.int (i : Nat) t) (Fv i)) :
    TurnOk prog w A env (.Name x px) elt [] scope cl n wr (fun i v _ => ∃ t, v = .int ((0 : Int) + (i : Nat) * 1) t) (fun _ => true) (fun _ i y _ => i < n ∧ Fv i y) s₂ := by
  obtain ⟨h2, tk2, rfl⟩ := hs
  rintro C hide i v h tk m' hi hC ⟨t, rfl⟩ hn hkeep hlive hh
  rw [show (0 : Int) + (i : Nat) * 1 = (i : Nat) by (clear hkind hx he hk hi hC hn hkeep hlive hh; lia)]
  refine wpAny_assign_Name (wpAny_storeName_local (lookup_relabel_local hx) hn (fun h' hn' hs' => ?_) (by simp [compEnvC, relabel, hkind]))
  refine wpAny_tests_nil ⟨rfl, ⟨h', _, rfl, fun b o hb e => (hs'.2 b hb).trans e, _, hn'⟩, fun _ => ?_⟩
  have hCs : ∀ b o, s₁.heap.get? b = some o → b ≠ C := fun b o e q => by
    have := Heap.lt_size (hk b o e).2
    rw [q] at this
    exact absurd this (Nat.not_lt.mpr hC)
  have k1 : ∀ b o, s₁.heap.get? b = some o → h'.get? b = some o := fun b o e => (hs'.2 b (hCs b o e)).trans (hkeep b o (hk b o e).1 (hk b o e).2)
  refine wpAny_mono (he i t hi C h' (tk + 1) _ hn' (by simp) k1) (fun y s₆ h6 => ?_) fun _ _ q => q
  obtain ⟨⟨h6, tk6, rfl, hk6⟩, hF⟩ := h6
  exact ⟨⟨h6, tk6, rfl, fun b o hb e => hk6 b o ((hs'.2 b hb).trans e), _, hn'.keeps hk6⟩, hi, hF⟩
/-- [elt for x in range(n)] as a value -/
theorem ListComp_range {elt iter : PySem.Expr} {x : Str} {px : Pos} {scope : Scope} {cl : List (Str × Addr)} {pos : Pos} {Q : Value → Shared → Prop} {Fv : Nat → Value → Prop} (hA : A.handled = none)
    (hclos : closureFor scope env = pure cl) (hcell : ∀ y ∈ scope.names, y.2 ≠ .cell) (hkind : scope.kind = .function)
    (hnames : ∀ y ∈ scope.names, y.2 = .local → scope.names.lookup y.1 = some .local) (hx : scope.names.lookup x = some .local)
    (h : wpAny (model prog w) A (eval iter env) (fun xv s₁ => ∃ r m' news' n t u v, xv = .ref r ∧ Fr h₀ L s₁.heap m' ∧ News h₀ L s₁.heap news' ∧ IsRange s₁.heap r 0 (n : Nat) 1 t u v ∧ n ≤ 1000 ∧ (∀ i t, i < n → ElOk prog w A env elt scope cl x s₁ (.int (i : Nat) t) (Fv i)) ∧
      ∀ D h' tk ys, Fr h₀ L h' m' → News h₀ L h' ((D, listOf (List.toArray ys) ys.length) :: news') → Paired (fun i y => i < n ∧ Fv i y) (List.range n) ys → Q (.ref D) { s₁ with heap := h', toks := tk }) E s)
    (hs : ∀ x, foldedSetIterable iter env x = pure x := by intro _; rfl) :
    wpAny (model prog w) A (eval (.ListComp elt [⟨.Name x px, iter, [], 0⟩] scope pos) env) Q E s := by
  rw [eval_ListComp]
  refine wpAny_comprehension_free (use := none) rfl hs hclos hkind hnames (wpAny_mono h (fun xv s₁ h₁ => ?_) fun _ _ e => e)
  obtain ⟨r, m', news', n, t, u, v, rfl, F, N, hR, hn, he, hQ⟩ := h₁
  refine wpAny_pyIter_range hR (small_one (by (clear hA hclos hcell hkind hnames hx h hs F N hR hn he hQ; (exact Int.natCast_nonneg _))) (by (clear hA hclos hcell hkind hnames hx h hs F N hR hn he hQ; (exact Int.natCast_nonneg _))) (by (clear hA hclos hcell hkind hnames hx h hs F N hR he hQ; (exact Int.natCast_nonneg _))) (by (clear hA hclos hcell hkind hnames hx h hs F N hR he hQ; lia))) ?_
  have up : ∀ b o, s₁.heap.get? b = some o → (s₁.heap.push { cls := .type "range_iterator", data := .fields #[rawInt 0, rawInt (Builtin.Range.rangeSize 0 (n : Nat) 1), rawInt 1] }).get? b = some o := fun b o e => Heap.get?_push_of_some _ e
  have W := Walks.range (prog := prog) (w := w) (A := A) hA s₁.heap.objs.size 0 1 n
  have off : ∀ b o, s₁.heap.get? b = some o → b ∉ [s₁.heap.objs.size] := fun b o e q => by
    rw [List.mem_singleton.mp q] at e
    exact absurd (Heap.lt_size e) (Nat.lt_irrefl _)
  refine comp_block_turns (RR := fun acc C => compPost (model prog w) A E none Q acc C) (KTurns.ofWalks (target := .Name x px) W (fun i v s Q E _ hq => wpAny_of_eq (show letOwnedTupleGo (.Name x px) _ v = pure () from rfl) hq)) W.self ?_ (Nat.le_trans hn (by decide)) (fun _ => true) (fun _ i y _ => i < n ∧ Fv i y) (fun _ _ _ _ _ _ h => h) hcell hkind
    ?_ (fun b hb => ?_) (turnOk_range hkind hx ⟨_, _, rfl⟩ (fun b o e => ⟨off b o e, up b o e⟩) he) ?_
  · rintro i h e1 b hb
    rw [List.mem_singleton.mp hb, e1]; exact fun q => (nomatch q)
  · show IsRangeIter _ _ _ _ _
    unfold IsRangeIter
    rw [show (0 : Int) + ((0 : Nat) : Int) * 1 = 0 from rfl, show ((n : Nat) : Int) - ((0 : Nat) : Int) = Builtin.Range.rangeSize 0 (n : Nat) 1 by rw [rangeSize_one]; split <;> (clear hA hclos hcell hkind hnames hx h hs F N hR he hQ up W off; lia)]
    exact Heap.get?_push_size _ rfl
  · show b < (s₁.heap.push _).objs.size
    rw [Heap.size_push, List.mem_singleton.mp hb]
    exact Nat.lt_succ_self _
  · intro D C h' tk m'' ys hD hC hDC hns hl' hp hk
    have none_of : ∀ c, (s₁.heap.push { cls := .type "range_iterator", data := .fields #[rawInt 0, rawInt (Builtin.Range.rangeSize 0 (n : Nat) 1), rawInt 1] }).get? c = none → s₁.heap.get? c = none := fun c e => by
      cases q : s₁.heap.get? c with
      | none => rfl
      | some o => rw [up c o q] at e; cases e
    refine ⟨m'', hns, fun h'' hs'' => ?_⟩
    have k2 : ∀ b o, s₁.heap.get? b = some o → h''.get? b = some o := fun b o e => (hs''.2 b (by rintro rfl; rw [none_of _ hC] at e; cases e)).trans (hk b o (off b o e) (up b o e))
    refine hQ D h'' tk ys (F.keeps k2) (News.new F (N.grown k2) ((hs''.2 D hDC).trans hl') (none_of _ hD)) ?_
    rw [List.filter_eq_self.mpr (fun _ _ => rfl)] at hp
    exact hp
/-- w[k], w a cell, k a local -/
theorem cell_item {p x : Str} {c l : Addr} {its : Array Value} {v : Value} {pp pk ps : Pos} {k : Nat} {t : Tok} {m' : Str → Option Value} {Q : Value → Shared → Prop} (hkind : env.scope.kind = .function) (hpk : env.kindOf p = some .cell) (hc : env.cells.lookup p = some c) (hg : s.heap.IsCell c (some (.ref l)))
    (hxk : env.kindOf x = some .local) (hn : s.heap.Ns env.locals m') (hxm : m' x = some (.int k t)) (hb : k < 1000)
    (hl : s.heap.IsList l its) (h0 : its[k]? = some v) (dp : (p == ("__debug__" : Str)) = false) (dx : (x == ("__debug__" : Str)) = false) (h : Q v s) :
    wpAny (model prog w) A (eval (.Subscript (.Name p pp) (.Name x pk) ps) env) Q E s := by
  refine Subscript_Name (wpAny_Name (wpAny_loadName_cell hkind hpk hc hg ?_) dp)
  refine wpAny_Name (wpAny_loadName_local hkind hxk hn hxm ?_) dx
  exact ⟨"list", "list.__getitem__", F.slot_list_getitem.lookup, (let ⟨o, ho, hc, _⟩ := hl; ⟨o, ho, hc⟩), wpAny_getItem_list hl (by (clear hkind hpk hc hg hxk hn hxm hl h0 dp dx h; (exact Int.natCast_nonneg _))) (by omega) (by simpa using h0) h⟩
end
end Mine
namespace Mine
section
variable {prog : Program} {w : World} {A : Around} {E : Value → Shared → Prop} {s : Shared} {env : Env}
theorem smallMul {a b : Int} (ha : a.natAbs < 2 ^ 400) (hb : b.natAbs < 2 ^ 400) : IntMulOk a b :=
  IntMulOk.of_le (intBits_le ha) (intBits_le hb) (by decide)
/-- w[k] * v[k] -/
theorem el_prod {p q x : Str} {p1 p2 p3 p4 p5 p6 p7 : Pos} {scope : Scope} {cl : List (Str × Addr)} {s₁ : Shared} {cp cq lp lq : Addr} {ps qs : Array Value} {k : Nat} {t : Tok} {a b : Int} {ta tb : Tok} (hkind : scope.kind = .function)
    (hxk : ∀ C, (compEnvC scope cl C env).kindOf x = some .local) (hpk : ∀ C, (compEnvC scope cl C env).kindOf p = some .cell) (hqk : ∀ C, (compEnvC scope cl C env).kindOf q = some .cell) (hcp : cl.lookup p = some cp) (hcq : cl.lookup q = some cq)
    (dx : (x == ("__debug__" : Str)) = false) (dp : (p == ("__debug__" : Str)) = false) (dq : (q == ("__debug__" : Str)) = false) (hk : k < 1000)
    (gp : s₁.heap.IsCell cp (some (.ref lp))) (gq : s₁.heap.IsCell cq (some (.ref lq))) (hlp : s₁.heap.IsList lp ps) (hlq : s₁.heap.IsList lq qs) (hp : ps[k]? = some (.int a ta)) (hq : qs[k]? = some (.int b tb)) (ha : a.natAbs < 2 ^ 400) (hb : b.natAbs < 2 ^ 400) :
    ElOk prog w A env (.BinOp (.Subscript (.Name p p1) (.Name x p2) p3) .Mult (.Subscript (.Name q p4) (.Name x p5) p6) p7) scope cl x s₁ (.int (k : Nat) t) (fun y => ∃ t, y = .int (a * b) t) := by
  intro C h tk m' hn hxm hkeep
  have cell : ∀ {c v}, s₁.heap.IsCell c v → h.IsCell c v := fun h => by obtain ⟨o, e, d⟩ := h; exact ⟨o, hkeep _ _ e, d⟩
  refine wpAny_BinOp ?_
  refine cell_item hkind (hpk C) hcp (cell gp) (hxk C) hn hxm hk (hlp.at fun o e => hkeep _ o e) hp dp dx ?_
  refine cell_item hkind (hqk C) hcq (cell gq) (hxk C) hn hxm hk (hlq.at fun o e => hkeep _ o e) hq dq dx ?_
  refine mul_int ?_ (smallMul ha hb)
  exact ⟨⟨h, _, rfl, fun _ _ e => e⟩, _, rfl⟩
/-- a * a -/
theorem el_sq {x : Str} {p1 p2 p3 : Pos} {scope : Scope} {cl : List (Str × Addr)} {s₁ : Shared} {a : Int} {ta : Tok} (hkind : scope.kind = .function) (hxk : ∀ C, (compEnvC scope cl C env).kindOf x = some .local) (dx : (x == ("__debug__" : Str)) = false) (ha : a.natAbs < 2 ^ 400) :
    ElOk prog w A env (.BinOp (.Name x p1) .Mult (.Name x p2) p3) scope cl x s₁ (.int a ta) (fun y => ∃ t, y = .int (a * a) t) := by
  intro C h tk m' hn hxm hkeep
  refine wpAny_BinOp ?_
  refine wpAny_Name (wpAny_loadName_local hkind (hxk C) hn hxm ?_) dx
  refine wpAny_Name (wpAny_loadName_local hkind (hxk C) hn hxm ?_) dx
  refine mul_int ?_ (smallMul ha ha)
  exact ⟨⟨h, _, rfl, fun _ _ e => e⟩, _, rfl⟩
theorem ints_of_paired {α : Type} {F : α → Value → Prop} (g : α → Int) : ∀ {l : List α} {ys : List Value}, Paired F l ys → (∀ i y, F i y → ∃ t, y = .int (g i) t) → IntsAre ys (l.map g)
  | _, _, .nil, _ => .nil
  | _, _, .cons hv ht, h => by
    obtain ⟨t, rfl⟩ := h _ _ hv
    exact .cons _ _ (ints_of_paired g ht h)
theorem ints_range {ws : List Value} : ∀ {n : Nat} (W : Nat → Int), ws.length = n → (∀ k, k < n → ∃ t, ws[k]? = some (.int (W k) t)) → IntsAre ws ((List.range n).map W) := by
  induction ws with
  | nil => intro n W h _; subst h; exact .nil
  | cons v r ih =>
    intro n W h hk
    subst h
    obtain ⟨t, e⟩ := hk 0 (Nat.succ_pos _)
    obtain rfl := Option.some.inj e
    rw [List.length_cons, List.range_succ_eq_map, List.map_cons, List.map_map]
    exact .cons _ _ (ih (W ∘ Nat.succ) rfl fun k hk' => by
      obtain ⟨t, e⟩ := hk (k + 1) (Nat.succ_lt_succ hk')
      exact ⟨t, by rw [List.getElem?_cons_succ] at e; exact e⟩)
theorem ints_sq : ∀ {ws : List Value} {as : List Int} {ys : List Value}, IntsAre ws as → Paired (fun v y => ∀ a t, v = .int a t → ∃ t', y = .int (a * a) t') ws ys → IntsAre ys (as.map fun a => a * a)
  | _, _, _, .nil, .nil => .nil
  | _, _, _, .cons _ _ h, .cons hv ht => by
    obtain ⟨t, rfl⟩ := hv _ _ rfl
    exact .cons _ _ (ints_sq h ht)
theorem dot_range (f g : Nat → Int) : ∀ l : List Nat, (l.map fun i => f i * g i).sum = dotI (l.map f) (l.map g)
  | [] => by simp [dotI]
  | a :: l => by
    have e := dot_range f g l
    simp only [List.map_cons, List.sum_cons, e]
    simp [dotI]
theorem dot_sq (l : List Int) : (l.map fun a => a * a).sum = dotI l l := by
  induction l with
  | nil => simp [dotI]
  | cons a l ih =>
    simp only [List.map_cons, List.sum_cons, ih]
    simp [dotI]
theorem wt_abs (n : Nat) (xv : Nat → Int) (j : Nat) : (Wt n xv j).natAbs ≤ n := by
  unfold Wt
  have h1 := List.length_filter_le (fun k => decide (xv k < xv j)) (List.range n)
  have h2 := List.length_filter_le (fun k => decide (xv j < xv k)) (List.range n)
  rw [List.length_range] at h1 h2
  omega
theorem dot_wt (n : Nat) (xv yv : Nat → Int) (hn : n ≤ 20) : (dotI ((List.range n).map (Wt n xv)) ((List.range n).map (Wt n yv))).natAbs ≤ 8000 := by
  have h := dot_bound (B := n) (as := (List.range n).map (Wt n xv)) (bs := (List.range n).map (Wt n yv))
    (fun a h => by obtain ⟨j, _, rfl⟩ := List.mem_map.mp h; exact wt_abs n xv j) (fun a h => by obtain ⟨j, _, rfl⟩ := List.mem_map.mp h; exact wt_abs n yv j)
  rw [List.length_map, List.length_range] at h
  refine Nat.le_trans h (Nat.le_trans (Nat.mul_le_mul hn (Nat.mul_le_mul hn hn)) (by decide))
theorem wt_one (n : Nat) (xv : Nat → Int) (hn : n < 2) : ∀ j, j < n → Wt n xv j = 0 := fun j hj => by
  obtain rfl : n = 1 := by omega
  obtain rfl : j = 0 := by omega
  unfold Wt
  simp [List.range_succ]
end
end Mine
end
section
open PySem PySem.W PySem.Calls PyProof.Rows
set_option maxRecDepth 100000
namespace Mine
section
variable {g h : Heap} {L : Addr} {m : Str → Option Value} {x y z : Str} {v u t : Value}
/-- the names of a frame, but for the ones told -/
theorem Fr.veil0 (F : Fr g L h m) : ∃ m', Fr g L h m' := ⟨m, F⟩
theorem Fr.veil1 (F : Fr g L h m) (x : Str) (e1 : m x = some v) : ∃ m' : Str → Option Value, Fr g L h (fun q => if q = x then some v else m' q) := ⟨m, Fr.one F e1⟩
theorem Fr.veil3 (F : Fr g L h m) (x y z : Str) (e1 : m x = some v) (e2 : m y = some u) (e3 : m z = some t) : ∃ m' : Str → Option Value, Fr g L h (fun q => if q = x then some v else if q = y then some u else if q = z then some t else m' q) := by
  refine ⟨m, ?_⟩
  have : (fun q => if q = x then some v else if q = y then some u else if q = z then some t else m q) = m := by
    funext q
    split
    · rename_i h; rw [h, e1]
    · split
      · rename_i h; rw [h, e2]
      · split
        · rename_i h; rw [h, e3]
        · rfl
  rw [this]; exact F
end
end Mine
end
section
open PySem PySem.W PySem.Calls PyProof.Rows PyProof.Rows.TI
set_option maxRecDepth 100000
namespace Mine
/-- an exception of any class that flies out of a call -/
structure FliesC (envs : List Env) (e : Addr) (cls : Value) (h h' : Heap) : Prop where
  fly : ∃ B a0, (hideAll h (envs.filterMap (·.frame))).StaysIn B ∧ Heap.FlyingW B envs e cls a0 h'
  up : h.UpToSlots h'
section
variable {h h0 h1 g base hc : Heap} {envs outer : List Env} {e L : Addr} {cls a0 : Value} {A : Around} {l : List Addr}
theorem FliesC.of_reb (C : Calm [] (envs.filterMap (·.frame)) h0 h) (R : Reb h g h0.objs.size l) (hl : ∀ b ∈ l, h0.get? b = none) (f : Heap.FlyingW (hideAll g (envs.filterMap (·.frame))) envs e cls a0 h1) (up : g.UpToSlots h1) : FliesC envs e cls h0 h1 := by
  refine ⟨⟨_, a0, fun b o q => ?_, f⟩, fun b o q hnf => ?_⟩
  · have q1 := of_hideAll _ q
    refine hideAll_get _ (R.keep b o (Heap.lt_size q1) (fun hm => by rw [hl b hm] at q1; cases q1) (C.rest b o (fun z => nomatch z) (fun z => ?_) q1)) fun z => ?_
    all_goals rw [hideAll_none _ z] at q; cases q
  · obtain ⟨sl, hs⟩ := C.up b o q hnf
    have e1 := R.keep b _ (Heap.lt_size q) (fun hm => by rw [hl b hm] at q; cases q) hs
    obtain ⟨sl2, hs2⟩ := up b _ e1 hnf
    exact ⟨sl2, hs2⟩
end
section
variable {M : Model} {A : Around} {E : Value → Shared → Prop} {s' : Shared} {h0 hc base : Heap} {outer : List Env} {env : Env} {L e : Addr} {m : Str → Option Value} {cls : Value} {args : List Value} {Q : Unit → Shared → Prop}
/-- raised in this frame: it leaves -/
theorem leave_madeC (B : Below A base outer h0) (C : Calm [] (outer.filterMap (·.frame)) h0 hc) (hf : env.frame = some L) (hk : env.scope.kind = .function) (hn : hc.Ns L m) (hL : h0.objs.size ≤ L)
    (hx : Heap.MadeExcOf hc s'.heap e cls args) (hQ : ∀ h', FliesC outer e cls h0 h' → Q () { s' with heap := h' }) :
    wpAny M (A.deeper env) (leaving env (.ref e)) Q E s' := by
  have FFo : hc.FunFrames (hideAll hc (L :: outer.filterMap (·.frame))) outer := funFrames_to (B.frames.of_keeps fun b o hb hnf => by
      obtain ⟨sl, hs⟩ := C.up b o hb hnf
      exact ⟨_, hs, rfl⟩) fun b hb => hideAll_none _ (.tail _ hb)
  refine wpAny_leaves_madeW (base := hideAll hc (L :: outer.filterMap (·.frame))) (outer := outer) (Around.frames_deeper B.stack) hf (fun b o e => of_hideAll _ e) ?_ hx fun h' t f1 _ _ f4 => hQ h' ⟨⟨_, _, fun b o q => ?_, f1⟩, ?_⟩
  · exact Heap.FunFrames.cons (by rw [hk]; decide) hf hn (hideAll_none _ (.head _)) FFo
  · have q3 := of_hideAll _ q
    have q2 : b ∉ outer.filterMap (·.frame) := fun z => by rw [hideAll_none _ z] at q; cases q
    refine hideAll_get _ (C.rest b o (fun z => nomatch z) q2 q3) fun z => ?_
    rcases List.mem_cons.mp z with rfl | z
    · exact absurd (Nat.lt_of_lt_of_le (Heap.lt_size q3) hL) (Nat.lt_irrefl _)
    · exact q2 z
  · exact (C.up.trans (Heap.UpToSlots.of_keeps hx.keeps)).trans f4
end
section
variable {prog : Program} {w : World} {A : Around} {E : Value → Shared → Prop} {s' : Shared} {env : Env}
/-- an exception of an own class that flew out of a call is taken here, without a name -/
theorem caught_own {base g h : Heap} {outer : List Env} {L e C : Addr} {m mg : Str → Option Value} {x : Str} {np pos : Pos} {b₀ : Stmt} {suite : List Stmt} {rest : List ExceptHandler} {Q : Flow → Shared → Prop} {bmB : List Value} {newId : String}
    (K : Below A base outer g) (F : Fr g L h m) (R : FliesC (env :: outer) e (.ref C) h s'.heap) (hf : env.frame = some L) (hk : env.scope.kind = .function) (hgl : env.globals = mainGlobals)
    (hg : base.Ns mainGlobals mg) (O : OwnCls x C bmB newId mg base) (hbase : bmB.contains (.type "BaseException") = true)
    (k : ∀ h', Calm [] (L :: outer.filterMap (·.frame)) h h' → h'.Ns L m →
      wpAny (model prog w) ((A.deeper env).mark (some (.ref e))) (execs (b₀ :: suite) env) Q E { s' with heap := h' })
    (hx : env.kindOf x = some .globalImplicit) (hd : (x == ("__debug__" : Str)) = false)
    (hE : PassesOwnAt (model prog w) ((A.deeper env).mark (some (.ref e))) (A.deeper env) env E := by passes_own) :
    wpAny (model prog w) (A.deeper env) (noteFrame (.ref e) env)
      (fun _ s₂ => wpAny (model prog w) (A.deeper env) (setFlight (.ref e) none) (fun _ s₃ =>
        wpAny (model prog w) (A.deeper env) (handleBy (.ref e) env (.ExceptHandler (some (.Name x np)) none (b₀ :: suite) pos :: rest)) Q E s₃) E s₂) E s' := by
  have K' := pushX K F hf hk
  obtain ⟨B2, a0, hst, hfl⟩ := R.fly
  have fm : (env :: outer).filterMap (·.frame) = L :: outer.filterMap (·.frame) := by simp [hf]
  rw [fm] at hst
  have st : base.StaysIn B2 := fun b o q => hst b o (hideAll_get _ (K'.stays b o q) fun hm => by
    rw [← fm] at hm
    rw [(K'.frames.mem hm).1] at q; cases q)
  have up0 := R.up
  refine wpAny_looks_onW K'.stack hf hfl fun h₄ hheld₄ hsm₄ => ?_
  refine wpAny_landsW hheld₄ fun h₅ hheld hsm₅' => ?_
  obtain ⟨ob, hob, hobc⟩ := hheld.there
  have bs : ∀ b o, base.get? b = some o → h₅.get? b = some o := fun b o q => hheld.1 b o (st b o q)
  refine wpAny_handleBy_cons (codeAny_handlers_test (Name_function_global hk hx (loadGlobal_global (by rw [hgl]; exact hg.keeps bs) O.bound ?_) hd)) (by intro q; cases q)
  obtain ⟨bm, Nn, nmm, qn, bs', hdct, sn, sub, ab, col, dd, k0, k1, k2, k3, k5, mN, hC, hN, hni, TL⟩ := (O.keeps bs).obj
  refine wpAny_excMatches_sub_self hC hob hobc (TL.hasType hbase) (codeAny_handlers_suite ?_)
  refine lands_againW hheld fun h₆ hfl₆ hsm₆ => ?_
  have up : h.UpToSlots h₆ := ((up0.trans hsm₄).trans hsm₅').trans hsm₆
  refine wpAny_passesOwnAt hE (k h₆ ⟨fun b o _ q2 e => hfl₆.1 b o (hst b o (hideAll_get _ e q2)), up⟩ (up.ns F.ns))
end
end Mine
end
section
open PySem PySem.W PySem.Calls PyProof.Rows PySem.Flt PySem.Builtin.Math
set_option maxRecDepth 100000
namespace Mine
section
variable {prog : Program} {w : World} {A : Around} {E : Value → Shared → Prop} {s : Shared} {h₀ : Heap} {L : Addr} {m : Str → Option Value} {news : List (Addr × Obj)}
theorem sumprod_K {a b : Addr} {its1 its2 : Array Value} {xs ys : List UInt64} {r : Tri} {Q : Value → Shared → Prop} (F : Fr h₀ L s.heap m) (N : News h₀ L s.heap news) (hA : A.handled = none) (h1 : SeqAt s.heap a its1) (h2 : SeqAt s.heap b its2)
    (hx : FloatsAre its1.toList xs) (hy : FloatsAre its2.toList ys) (hn : xs ≠ []) (hrun : SpRun (Float64.zero false, Float64.zero false, Float64.zero false) xs ys r)
    (h : ∀ h' tk t, Fr h₀ L h' m → News h₀ L h' news → Q (.float (Float64.add (Float64.ofInt 0) (tlToFloat r)) t) { s with heap := h', toks := tk }) :
    wpAny (model prog w) A (call (.builtin "math.sumprod") [.ref a, .ref b]) Q E s :=
  call_sumprod hA h1 h2 hx hy hn hrun fun h' tk t k => h h' tk t (F.keeps k) (N.grown k)
theorem len_K {its : Array Value} {l : Addr} {Q : Value → Shared → Prop} {n : Nat} (hl : s.heap.IsList l its) (hn : its.size = n) (hb : n ≤ 2 ^ 62) (h : Q (.int n (s.toks + 1)) { s with toks := s.toks + 1 + 1 }) :
    wpAny (model prog w) A (call (.builtin "len") [.ref l]) Q E s := by
  subst hn
  exact len_list hl (by have : (its.size : Int) ≤ ((2 ^ 62 : Nat) : Int) := by exact_mod_cast hb
                        have e : ((2 ^ 62 : Nat) : Int) < 2 ^ 63 := by decide
                        omega) h
/-- the float that a number stands for -/
inductive RealIs : Value → UInt64 → Prop
  | int (n : Int) (t : Tok) : ¬ Over n → RealIs (.int n t) (Float64.ofInt n)
  | flt (b : UInt64) (t : Tok) : RealIs (.float b t) b
end
end Mine
end
section
open PySem PySem.W PySem.Calls PyProof.Rows PySem.Flt
set_option maxRecDepth 100000
set_option maxHeartbeats 8000000
namespace Mine
abbrev z3 : Tri := (Float64.zero false, Float64.zero false, Float64.zero false)
/-- what _sqrtprod makes of two floats, where no scaling is wanted -/
inductive SqRun (a b : UInt64) : UInt64 → Prop
  | zero : Float64.isFinite (Float64.sqrt (Float64.mul a b)) = true → (Float64.isNaN (Float64.sqrt (Float64.mul a b)) && !Float64.isNaN (Float64.mul a b)) = false →
      Float64.isZero (Float64.sqrt (Float64.mul a b)) = true → (Float64.isZero a = true ∨ Float64.isZero b = true) → SqRun a b (Float64.sqrt (Float64.mul a b))
  | root {r : Tri} : Float64.isFinite (Float64.sqrt (Float64.mul a b)) = true → (Float64.isNaN (Float64.sqrt (Float64.mul a b)) && !Float64.isNaN (Float64.mul a b)) = false →
      Float64.isZero (Float64.sqrt (Float64.mul a b)) = false → SpRun z3 [a, Float64.sqrt (Float64.mul a b)] [b, Float64.neg (Float64.sqrt (Float64.mul a b))] r →
      Float64.isZero (Float64.mul 0x4000000000000000 (Float64.sqrt (Float64.mul a b))) = false →
      SqRun a b (Float64.add (Float64.sqrt (Float64.mul a b)) (Float64.div (Float64.add (Float64.ofInt 0) (Builtin.Math.tlToFloat r)) (Float64.mul 0x4000000000000000 (Float64.sqrt (Float64.mul a b)))))
end Mine
end
section
open PySem PySem.W PySem.Calls PyProof.Rows PySem.Flt
set_option maxRecDepth 100000
set_option maxHeartbeats 8000000
open Mine
namespace Two
local macro_rules | `(tactic| walk_at "False") => `(tactic| (simp_all; done))
local macro_rules | `(tactic| walk_at "ite") => `(tactic| first | refine ite_neg (by first | (simp; done) | (simp_all; done)) ?_ | refine ite_pos (by first | (simp; done) | (simp_all; done)) ?_)
local macro_rules | `(tactic| walk_at "call builtin:math.sumprod") => `(tactic| refine Hold.out ?_)
theorem sqrtprod_two {w : World} {p : Program} {loose : List Str} {mean : ExcName → Option Value} {mg mb : Str → Option Value} {e1 e2 e3 : Env} {s : Shared} {base : Heap} {Q E : Value → Shared → Prop} {a b o : UInt64} {ta tb : Tok}
  (X : (Two.hd.heap_1 w.params).In base) (T : Top p loose mean mg mb base) (hb : ∀ b o, base.get? b = some o → s.heap.get? b = some o) (hrun : SqRun a b o)
  (h : ∀ h' tk' t, (∀ b o, s.heap.get? b = some o → h'.get? b = some o) → Q (.float o t) {s with heap := h', toks := tk'}) :
  wpAny (model PySem.Challenge.rw_kp0009_02.row.prog w) (((callerA.deeper e1).deeper e2).deeper e3) (call (.ref 285) [.float a ta, .float b tb]) Q E s := by
  revert X; w_top off; k_fill; intro X
  have X1 := Frag.In.keeps X hb
  have T1 := Top.keeps T hb
  refine wpAny_call ?_
  refine enterP X1 T1.nolimit (by k_is) (by k_is) (by k_room) (by exact BindsTo.of_eq rfl) (locs rfl) ?_ (by decide) rfl rfl rfl
  intro L' h₁ F N
  refine wpAny_mono (E := fun _ _ => False) ?_ (fun _ _ h => h) (fun _ _ h => h.elim)
  dsimp only
  cases hrun with
  | zero h1 h2 h3 h4 =>
    k_steps
    all_goals k_steps
    all_goals ((rename Fr _ _ _ _ => F'); exact h _ _ _ F'.keep)
  | root h1 h2 h3 h4 h5 =>
    k_steps
    refine Hold.mk ?_
    (rename Fr _ _ _ _ => F'); (rename News _ _ _ _ => N')
    refine sumprod_K F' N' rfl (.inr (News.isTup N' (by k_mem))) (.inr (News.isTup N' (by k_mem))) (.cons _ _ (.cons _ _ .nil)) (.cons _ _ (.cons _ _ .nil)) (List.cons_ne_nil _ _) (by assumption) ?_
    intro h' tk' t' F2 N2
    clear F' N'
    k_steps
    all_goals ((rename Fr _ _ _ _ => F'); exact h _ _ _ F'.keep)
end Two
end
section
open PySem PySem.W PySem.Calls PyProof.Rows
set_option maxRecDepth 100000
namespace Mine
def listAt (S : Addr) (acc : List Value) (h : Heap) : Prop := ∃ c, h.get? S = some { cls := .type "list", dict := none, data := .seq (List.toArray acc) c, slots := #[] }
/-- an iterator that gives n items, beside the list S that takes them -/
structure Pulls (prog : Program) (w : World) (A : Around) (I S : Addr) (n : Nat) (Inv : Nat → List Value → Shared → Prop) (Fin : List Value → Shared → Prop) : Prop where
  item : ∀ i acc s, i < n → Inv i acc s → wpAny (model prog w) A (pyNext (.ref I)) (fun r s' => ∃ v, r = some v ∧ listAt S acc s'.heap ∧
    ∀ h', (∀ b, b ≠ S → h'.get? b = s'.heap.get? b) → h'.objs.size = s'.heap.objs.size → listAt S (acc ++ [v]) h' → Inv (i + 1) (acc ++ [v]) { s' with heap := h' }) (fun _ _ => False) s
  done : ∀ acc s, Inv n acc s → wpAny (model prog w) A (pyNext (.ref I)) (fun r s' => r = none ∧ Fin acc s') (fun _ _ => False) s
section
variable {prog : Program} {w : World} {A : Around} {R : Result → Shared → Prop} {I S : Addr} {n : Nat} {Inv : Nat → List Value → Shared → Prop} {Fin : List Value → Shared → Prop}
theorem extend_loop_any (P : Pulls prog w A.in1 I S n Inv Fin) (hn : n ≤ sizeLine) (res : Value) (hR : ∀ acc s', acc.length = n → Fin acc s' → R (.ok (.ret res)) s') :
    ∀ (k i : Nat) (acc : List Value) (s : Shared), n - i = k → i ≤ n → acc.length = i → Inv i acc s → codeAny (model prog w) A (.builtin "list.extend.loop" ⟨[.ref S, .ref I, res], []⟩) R s := by
  intro k
  induction k with
  | zero =>
    intro i acc s hk hi hl hI
    have hin : i = n := by (clear P hn hR hI; lia)
    subst hin
    refine codeAny_builtin F.entry_extend_loop ?_
    rw [Around.under_plainId F.plain_extend_loop _]
    show wpAny _ A.in1 (pyNext (.ref I) >>= _) _ _ s
    refine wpAny_bind (wpAny_mono (P.done acc s hI) (fun r s' h => ?_) fun _ _ h => h.elim)
    obtain ⟨rfl, h⟩ := h
    exact wpAny_pure (hR acc s' hl h)
  | succ k ih =>
    intro i acc s hk hi hl hI
    have hlt : i < n := by (clear P hn hR ih hI; lia)
    refine codeAny_builtin F.entry_extend_loop ?_
    rw [Around.under_plainId F.plain_extend_loop _]
    show wpAny _ A.in1 (pyNext (.ref I) >>= _) _ _ s
    refine wpAny_bind (wpAny_mono (P.item i acc s hlt hI) (fun r s' h => ?_) fun _ _ h => h.elim)
    obtain ⟨v, rfl, ⟨c, hS⟩, h⟩ := h
    show wpAny _ A.in1 (updateSeq S (·.push v) >>= _) _ _ _
    refine wpAny_bind ?_
    have hA : listAt S (acc ++ [v]) (s'.heap.update S (Obj.mapSeq (·.push v))) := by
      have hS₂ := Heap.get?_update_self (Obj.mapSeq (·.push v)) hS rfl
      unfold Obj.mapSeq at hS₂
      dsimp only at hS₂
      rw [List.push_toArray] at hS₂
      exact ⟨_, hS₂⟩
    refine wpAny_updateSeq hS rfl (wpAny_pure ⟨plainId_quiet F.plain_extend_loop _, ih (i + 1) (acc ++ [v]) _ (by (clear P hn hR ih hi hl hI h hS hA; omega)) hlt (by simp [hl]) (h _ (fun b hb => Heap.get?_update_other _ _ (Ne.symm hb)) (Heap.size_update ..) hA)⟩)
      (by rw [List.size_toArray, hl]; (clear P hR ih hk hi hl hI h hS hA; lia)) (by show ((List.toArray acc).push v).size ≤ sizeLine + 1; rw [Array.size_push, List.size_toArray, hl]; (clear P hR ih hk hi hl hI h hS hA; lia))

theorem listAt_update {acc acc' : List Value} {h : Heap} (hS : listAt S acc h) (g : Array Value → Array Value) (hg : g (List.toArray acc) = List.toArray acc') : listAt S acc' (h.update S (Obj.mapSeq g)) := by
  obtain ⟨c, hS⟩ := hS
  have hS₂ := Heap.get?_update_self (Obj.mapSeq g) hS rfl
  unfold Obj.mapSeq at hS₂
  dsimp only at hS₂
  rw [hg] at hS₂
  exact ⟨_, hS₂⟩
theorem extendWith_any {s : Shared} {T : Value} {J : Shared → Prop} {res : Value} (P : Pulls prog w A.in1 I S n Inv Fin) (hn : n ≤ sizeLine)
    (hT : ∀ (Q : Value → Shared → Prop) (E : Value → Shared → Prop), Q T s → wpAny (model prog w) A.in1 (typeOf (.ref I)) Q E s) (n1 : (T == Value.type "list") = false) (n2 : (T == Value.type "tuple") = false) (hSI : S ≠ I)
    (hit : wpAny (model prog w) A.in1 (pyIter (.ref I)) (fun v s' => v = .ref I ∧ J s') (fun _ _ => False) s)
    (hlen : ∀ (s' : Shared) (Q : Bool → Shared → Prop) (E : Value → Shared → Prop), J s' → Q true s' → wpAny (model prog w) A.in1 (Builtin.List.listLengthHint (.ref I)) Q E s')
    (hJ : ∀ s', J s' → listAt S [] s'.heap ∧ ∀ h', (∀ b, b ≠ S → h'.get? b = s'.heap.get? b) → h'.objs.size = s'.heap.objs.size → listAt S [] h' → Inv 0 [] { s' with heap := h' })
    (hR : ∀ acc s', acc.length = n → Fin acc s' → R (.ok (.ret res)) s') :
    wpAny (model prog w) A.in1 (Builtin.List.listExtendWith (.ref S) (.ref I) res)
      (fun fin s' => match fin with | .done f => R (.ok f) s' | .again c' => c'.quiet = true ∧ codeAny (model prog w) A c' R s') (fun e s' => R (.error e) s') s := by
  unfold Builtin.List.listExtendWith
  refine wpAny_bind (hT _ _ ?_)
  have h1 : Builtin.List.listSameRef (.ref S) (.ref I) = false := by simp [Builtin.List.listSameRef, hSI]
  simp only [h1, n1, n2, Bool.or_false, Bool.false_eq_true, if_false]
  refine wpAny_bind (wpAny_mono hit (fun v s' hv => ?_) fun _ _ h => h.elim)
  obtain ⟨rfl, hJs⟩ := hv
  refine wpAny_bind (wpAny_holding (hlen s' _ _ hJs ?_))
  obtain ⟨hS, hI⟩ := hJ s' hJs
  show wpAny _ A.in1 (rule "list.extend.makes-room" >>= fun _ => Builtin.List.listTouch (.ref S) >>= fun _ =>
    again (.builtin "list.extend.loop" ⟨[.ref S, .ref I, res], []⟩)) _ _ _
  refine wpAny_bind (wpAny_rule ?_)
  refine wpAny_bind ?_
  show wpAny _ A.in1 (updateSeq S (·.push .none) >>= fun _ => updateSeq S (·.pop)) _ _ _
  obtain ⟨c, hS1⟩ := id hS
  refine wpAny_bind (wpAny_updateSeq hS1 rfl ?_)
  have hS₂ := Heap.get?_update_self (Obj.mapSeq (·.push Value.none)) hS1 rfl
  have hA1 : listAt S [.none] (s'.heap.update S (Obj.mapSeq (·.push Value.none))) := listAt_update hS _ rfl
  have hA2 : listAt S [] ((s'.heap.update S (Obj.mapSeq (·.push Value.none))).update S (Obj.mapSeq (·.pop))) := listAt_update hA1 _ rfl
  refine wpAny_updateSeq (hz := by seq_fits) hS₂ rfl ?_
  refine wpAny_pure ⟨plainId_quiet F.plain_extend_loop _, extend_loop_any P hn res hR n 0 [] _ rfl (Nat.zero_le _) rfl (hI _ (fun b hb => ?_) ?_ hA2)⟩
  · exact (Heap.get?_update_other _ _ (Ne.symm hb)).trans (Heap.get?_update_other _ _ (Ne.symm hb))
  · rw [Heap.size_update, Heap.size_update]
theorem collect_code {s : Shared} {T : Value} {J : Shared → Prop} (P : Pulls prog w A.in1 I s.heap.objs.size n Inv Fin) (hn : n ≤ sizeLine) (hI : s.heap.objs.size ≠ I)
    (hT : ∀ (Q : Value → Shared → Prop) (E : Value → Shared → Prop), Q T { s with heap := s.heap.push { cls := .type "list", data := .seq ([] : List Value).toArray } } → wpAny (model prog w) A.in1 (typeOf (.ref I)) Q E { s with heap := s.heap.push { cls := .type "list", data := .seq ([] : List Value).toArray } }) (n1 : (T == Value.type "list") = false) (n2 : (T == Value.type "tuple") = false)
    (hit : wpAny (model prog w) A.in1 (pyIter (.ref I)) (fun v s' => v = .ref I ∧ J s') (fun _ _ => False) { s with heap := s.heap.push { cls := .type "list", data := .seq ([] : List Value).toArray } })
    (hlen : ∀ (s' : Shared) (Q : Bool → Shared → Prop) (E : Value → Shared → Prop), J s' → Q true s' → wpAny (model prog w) A.in1 (Builtin.List.listLengthHint (.ref I)) Q E s')
    (hJ : ∀ s', J s' → listAt s.heap.objs.size [] s'.heap ∧ ∀ h', (∀ b, b ≠ s.heap.objs.size → h'.get? b = s'.heap.get? b) → h'.objs.size = s'.heap.objs.size → listAt s.heap.objs.size [] h' → Inv 0 [] { s' with heap := h' })
    (hQ : ∀ acc s', acc.length = n → Fin acc s' → R (.ok (.ret (.ref s.heap.objs.size))) s') :
    codeAny (model prog w) A (.builtin "proto.collect" ⟨[.ref I], []⟩) R s := by
  refine codeAny_builtin F.entry_proto_collect ?_
  rw [Around.under_plainId F.plain_proto_collect _]
  show wpAny _ A.in1 (newList [] >>= fun l => again (.builtin "list.__iadd__" ⟨[l, .ref I], []⟩)) _ _ s
  refine wpAny_bind (wpAny_newObj_type ?_)
  refine wpAny_pure ⟨plainId_quiet F.plain_list_iadd _, codeAny_builtin F.entry_list_iadd ?_⟩
  rw [Around.under_plainId F.plain_list_iadd _]
  show wpAny _ A.in1 (Builtin.List.listExtendWith (.ref s.heap.objs.size) (.ref I) (.ref s.heap.objs.size)) _ _ _
  exact extendWith_any P hn hT n1 n2 hI hit hlen hJ hQ
/-- what an iterator of its own kind gives, as a list of values -/
theorem collect_any {s : Shared} {T : Value} {J : Shared → Prop} {Q : List Value → Shared → Prop} {E : Value → Shared → Prop} (P : Pulls prog w A.in1 I s.heap.objs.size n Inv Fin) (hn : n ≤ sizeLine) (hI : s.heap.objs.size ≠ I)
    (hT : ∀ (Q : Value → Shared → Prop) (E : Value → Shared → Prop), Q T { s with heap := s.heap.push { cls := .type "list", data := .seq ([] : List Value).toArray } } → wpAny (model prog w) A.in1 (typeOf (.ref I)) Q E { s with heap := s.heap.push { cls := .type "list", data := .seq ([] : List Value).toArray } }) (n1 : (T == Value.type "list") = false) (n2 : (T == Value.type "tuple") = false)
    (hit : wpAny (model prog w) A.in1 (pyIter (.ref I)) (fun v s' => v = .ref I ∧ J s') (fun _ _ => False) { s with heap := s.heap.push { cls := .type "list", data := .seq ([] : List Value).toArray } })
    (hlen : ∀ (s' : Shared) (Q : Bool → Shared → Prop) (E : Value → Shared → Prop), J s' → Q true s' → wpAny (model prog w) A.in1 (Builtin.List.listLengthHint (.ref I)) Q E s')
    (hJ : ∀ s', J s' → listAt s.heap.objs.size [] s'.heap ∧ ∀ h', (∀ b, b ≠ s.heap.objs.size → h'.get? b = s'.heap.get? b) → h'.objs.size = s'.heap.objs.size → listAt s.heap.objs.size [] h' → Inv 0 [] { s' with heap := h' })
    (hQ : ∀ acc s', acc.length = n → Fin acc s' → listAt s.heap.objs.size acc s'.heap ∧ Q acc s') :
    wpAny (model prog w) A (collect (.ref I)) Q E s := by
  unfold collect
  refine wpAny_bind (wpAny_runValue (collect_code P hn hI hT n1 n2 hit hlen hJ fun acc s' hl hF => ?_))
  obtain ⟨⟨c, hS⟩, hq⟩ := hQ acc s' hl hF
  show wpAny _ A (load s.heap.objs.size >>= _) _ _ s'
  refine wpAny_bind (wpAny_load hS ?_)
  exact wpAny_pure hq
/-- list(x) of an iterator of its own kind -/
theorem list_any {s : Shared} {T : Value} {J : Shared → Prop} {Q : Value → Shared → Prop} {E : Value → Shared → Prop} (P : Pulls prog w A.in1.in1 I s.heap.objs.size n Inv Fin) (hn : n ≤ sizeLine) (hI : s.heap.objs.size ≠ I)
    (hT : ∀ (s' : Shared) (Q : Value → Shared → Prop) (E : Value → Shared → Prop), (∀ b, b ≠ s.heap.objs.size → s'.heap.get? b = s.heap.get? b) → Q T s' → wpAny (model prog w) A.in1.in1 (typeOf (.ref I)) Q E s') (n1 : (T == Value.type "list") = false) (n2 : (T == Value.type "tuple") = false)
    (hit : ∀ h', (∀ b, b ≠ s.heap.objs.size → h'.get? b = s.heap.get? b) → h'.objs.size = s.heap.objs.size + 1 → listAt s.heap.objs.size [] h' → wpAny (model prog w) A.in1.in1 (pyIter (.ref I)) (fun v s' => v = .ref I ∧ J s') (fun _ _ => False) { s with heap := h' })
    (hlen : ∀ (s' : Shared) (Q : Bool → Shared → Prop) (E : Value → Shared → Prop), J s' → Q true s' → wpAny (model prog w) A.in1.in1 (Builtin.List.listLengthHint (.ref I)) Q E s')
    (hJ : ∀ s', J s' → listAt s.heap.objs.size [] s'.heap ∧ ∀ h', (∀ b, b ≠ s.heap.objs.size → h'.get? b = s'.heap.get? b) → h'.objs.size = s'.heap.objs.size → listAt s.heap.objs.size [] h' → Inv 0 [] { s' with heap := h' })
    (hQ : ∀ acc s', acc.length = n → Fin acc s' → Q (.ref s.heap.objs.size) s') :
    wpAny (model prog w) A (call (.type "list") [.ref I]) Q E s := by
  refine callType_codes (Q₁ := fun obj s₁ => obj = .ref s.heap.objs.size ∧ s₁ = { s with heap := s.heap.push { cls := .type "list", data := .seq #[] } }) F.called_list (F.typeCall_list_1 _) F.entry_list_init
    (code_list_new _ ⟨rfl, rfl⟩) fun obj s₁ h₁ => ?_
  obtain ⟨rfl, rfl⟩ := h₁
  have hS : (s.heap.push { cls := .type "list", data := .seq #[] }).get? s.heap.objs.size = some { cls := .type "list", data := .seq #[] } := Heap.get?_push_size _ rfl
  refine ⟨⟨_, hS, rfl⟩, F.args_list_init_2 _ _, ?_⟩
  show wpAny _ A.in1.in1 (do let old ← Builtin.List.listItems (.ref s.heap.objs.size); Builtin.List.listUpdate (.ref s.heap.objs.size) (fun _ => #[]); letGo old.toList.reverse; Builtin.List.listExtendWith (.ref s.heap.objs.size) (.ref I) .none) _ _ _
  refine wpAny_bind ?_
  unfold Builtin.List.listItems
  refine wpAny_bind (wpAny_seqItems hS rfl (wpAny_pure ?_))
  show wpAny _ A.in1.in1 (updateSeq s.heap.objs.size (fun _ => #[]) >>= fun _ => letGo (#[] : Array Value).toList.reverse >>= fun _ => Builtin.List.listExtendWith (.ref s.heap.objs.size) (.ref I) .none) _ _ _
  refine wpAny_bind (wpAny_updateSeq hS rfl ?_)
  refine wpAny_bind (wpAny_letGo ?_)
  have k1 : ∀ b, b ≠ s.heap.objs.size → ((s.heap.push { cls := .type "list", data := .seq #[] }).update s.heap.objs.size (Obj.mapSeq (fun _ => (#[] : Array Value)))).get? b = s.heap.get? b := fun b hb => by
    rw [Heap.get?_update_other _ _ (Ne.symm hb)]
    exact Heap.get?_push_ne _ _ _ hb
  refine extendWith_any P hn (fun Q E hq => hT _ Q E k1 hq) n1 n2 hI (hit _ k1 ?_ ?_) hlen hJ fun acc s' hl hF => ?_
  · rw [Heap.size_update, Heap.size_push]
  · exact listAt_update (acc := []) ⟨_, hS⟩ _ rfl
  · exact ⟨rfl, hQ acc s' hl hF⟩
end
end Mine
end
section
open PySem PySem.W PySem.Calls PyProof.Rows PyProof.Rows.TI
set_option maxRecDepth 100000
namespace Mine
section
variable {prog : Program} {w : World} {A : Around} {E : Value → Shared → Prop} {s : Shared} {K : Frag} {x C f e : Addr} {ox : Obj} {od : Option Obj} {h0 : Heap} {l : List Addr} {envs : List Env} {news : List (Addr × Obj)}
theorem own_next {Q : Option Value → Shared → Prop} (X : K.In s.heap) (I : InstAt s.heap x ox C od) (hs : findIn K (.ref C) "__next__" = some (some (.ref f))) (hf : typeIn K (.ref f) = some (.type "function"))
    (h : wpAny (model prog w) A (call (.ref f) [.ref x]) (fun v s' => Q (some v) s') (OwitStop (model prog w) A Q E) s) : wpAny (model prog w) A (pyNext (.ref x)) Q E s := by
  unfold pyNext
  refine wpAny_bind (wpAny_attempt (special_fn (name := "__next__") (args := []) X I hs hf (wpAny_mono h (fun v s' hq => ?_) (fun e s' he => ?_))))
  · exact wpAny_pure hq
  · refine wpAny_bind (wpAny_mono he (fun b s₂ hb => ?_) fun _ _ z => z)
    cases b with
    | true => exact wpAny_pure hb
    | false => exact wpAny_throw hb
theorem stop_flies {Q : Option Value → Shared → Prop} (R : Flies l envs e "StopIteration" news h0 s.heap) (k : Q none s) : OwitStop (model prog w) A Q E (.ref e) s := by
  obtain ⟨ob, hob, hobc⟩ := R.there
  have hT : s.TypeIs (.ref e) "StopIteration" := ⟨ob, hob, hobc⟩
  unfold OwitStop
  refine wpAny_isInstance hT (b := true) (by rw [isSubtype_type]; kernel_rfl) ?_
  show (if true = true then Q none s else E (.ref e) s)
  rw [if_pos rfl]
  exact k
/-- iter(x) where __iter__ gives the object itself -/
theorem own_iter {Q : Value → Shared → Prop} {g : Value} (X : K.In s.heap) (I : InstAt s.heap x ox C od) (hs : findIn K (.ref C) "__iter__" = some (some (.ref f))) (hn : findIn K (.ref C) "__next__" = some (some g)) (hf : typeIn K (.ref f) = some (.type "function"))
    (h : ∀ Q' : Value → Shared → Prop, (∀ s', K.In s'.heap → InstAt s'.heap x ox C od → Q (.ref x) s' → Q' (.ref x) s') → wpAny (model prog w) A (call (.ref f) [.ref x]) Q' E s) : wpAny (model prog w) A (pyIter (.ref x)) Q E s := by
  have h' := h (OwitIt (model prog w) A Q E) fun s' X' I' hq => by
    unfold OwitIt
    exact wpAny_bind (I'.type.here ((looks_findIn X' hn).here hq))
  have fin : wpAny (model prog w) A (call (.ref f) [.ref x] >>= fun v => pure (some v)) (fun r s' => ∃ v, r = some v ∧ OwitIt (model prog w) A Q E v s') E s :=
    wpAny_bind (wpAny_mono h' (fun v s' h' => wpAny_pure ⟨v, rfl, h'⟩) fun _ _ z => z)
  have one : ∀ refuse : Sem Value, wpAny (model prog w) A (callSpecialIfBoundUnlessNone? (.ref x) "__iter__" refuse) (fun r s' => ∃ v, r = some v ∧ OwitIt (model prog w) A Q E v s') E s := by
    intro refuse
    simp only [callSpecialIfBoundUnlessNone?, bindSpecialIfBound?]
    refine wpAny_holding (wpAny_bind (wpAny_bind (wpAny_bind (I.type.here ((looks_findIn X hs).here ?_)))))
    refine wpAny_bind (wpAny_askSetting (wpAny_ite ?_))
    have fin2 : wpAny (model prog w) A (if (Value.ref f == Value.none) = true then (refuse >>= fun v => pure (some v)) else (call (.ref f) [.ref x] >>= fun v => pure (some v))) (fun r s' => ∃ v, r = some v ∧ OwitIt (model prog w) A Q E v s') E s := by
      rw [if_neg (show ¬ ((Value.ref f == Value.none) = true) from Bool.false_ne_true)]
      exact fin
    split
    · exact wpAny_bind ((bind_fn X _ hf).here (wpAny_pure (by exact fin2)))
    · exact wpAny_tryCatch (wpAny_bind ((bind_fn X _ hf).here (wpAny_pure (by exact fin2))))
  unfold pyIter
  refine wpAny_bind (wpAny_bind (I.type.here ((looks_findIn X hs).here ?_)))
  show wpAny (model prog w) A (callSpecialIfBoundUnlessNone? (.ref x) "__iter__" _ >>= _) Q E s
  refine wpAny_bind (wpAny_mono (one _) (fun r s' hr => ?_) fun _ _ z => z)
  obtain ⟨v, rfl, hv⟩ := hr
  refine wpAny_bind (wpAny_mono hv (fun r s₂ hr => ?_) fun _ _ z => z)
  cases r with
  | none => exact hr.elim
  | some g => exact wpAny_pure hr
theorem own_hint {Q : Bool → Shared → Prop} (X : K.In s.heap) (I : InstAt s.heap x ox C od) (h1 : findIn K (.ref C) "__len__" = some none) (h2 : findIn K (.ref C) "__length_hint__" = some none) (h : Q true s) :
    wpAny (model prog w) A (Builtin.List.listLengthHint (.ref x)) Q E s := by
  unfold Builtin.List.listLengthHint
  refine wpAny_bind (wpAny_bind (I.type.here ((looks_findIn X h1).here ?_)))
  dsimp only
  refine wpAny_bind (wpAny_bind (I.type.here ((looks_findIn X h2).here ?_)))
  exact wpAny_pure h
theorem own_type {Q : Value → Shared → Prop} (I : InstAt s.heap x ox C od) (h : Q (.ref C) s) : wpAny (model prog w) A (typeOf (.ref x)) Q E s := I.type.here h
end
end Mine
end
section
open PySem PySem.W PySem.Calls PyProof.Rows PyProof.Rows.TI
set_option maxRecDepth 100000
set_option maxHeartbeats 8000000
open Mine
namespace Two
local macro_rules | `(tactic| walk_at "call builtin:next") => `(tactic| refine Hold.out ?_)
local macro_rules | `(tactic| walk_at "exec Try") => `(tactic| refine wpAny_Try_except ?_)
theorem pull_item {w : World} {p : Program} {loose : List Str} {mean : ExcName → Option Value} {mg mb : Str → Option Value} {A : Around} {s : Shared} {base : Heap} {Q E : Value → Shared → Prop} {it V : Addr} {i : Nat} {items : Array Value} {x : Value} {io : Obj}
  (hA : A.depth < recursionLimit) (X : (Two.hd.heap_1 w.params).In base) (T : Top p loose mean mg mb base) (hb : ∀ b o, base.get? b = some o → s.heap.get? b = some o) (hc0 : base.get? it = none)
  (hit : s.heap.get? it = some io) (hi : LI io V i) (hl : s.heap.IsList V items) (hx : items[i]? = some x)
  (h : ∀ h' tk' tp o', (∀ b o, b ≠ it → s.heap.get? b = some o → h'.get? b = some o) → h'.get? it = some o' → LI o' V (i + 1) → s.heap.get? tp = none → h'.get? tp = some { cls := .type "tuple", data := .seq #[.bool true, x] } → Q (.ref tp) {s with heap := h', toks := tk'}) :
  wpAny (model PySem.Challenge.rw_kp0009_02.row.prog w) A (call (.ref 76) [.ref it]) Q E s := by
  revert X; w_top off; k_fill; intro X
  have X1 := Frag.In.keeps X (gone_in hb (l := [it]) (by simpa using hc0))
  have T1 := Top.keeps T (gone_in hb (l := [it]) (by simpa using hc0))
  have hVne : V ≠ it := by
    rintro rfl
    obtain ⟨o, e1, e2, _⟩ := hl
    rw [hit] at e1
    cases e1
    rw [hi.1] at e2
    exact absurd e2 (by decide)
  have hl1 : (gone s.heap [it]).IsList V items := hl.at fun o e => (gone_get (by simpa using hVne)).trans e
  refine wpAny_call ?_
  refine enterG (l := [it]) (news := [(it, io)]) (by simp [hit]) (Frag.In.keeps X hb) (Top.keeps T hb).nolimit (by k_is) (by k_is) hA (by exact BindsTo.of_eq rfl) (locs rfl) ?_ (by decide) rfl rfl rfl
  intro L' h₁ F N
  refine wpAny_mono (E := fun _ _ => False) ?_ (fun _ _ h => h) (fun _ _ h => h.elim)
  dsimp only
  k_steps
  refine Hold.mk ?_
  (rename Fr _ _ _ _ => F'); (rename News _ _ _ _ => N')
  refine' next_item F' N' ?U ?i ?l ?x ?_
  case U => k_updF
  case i => assumption
  case l => exact stays_list (Fr.keep (by k_asm)) (by assumption)
  case x => assumption
  intro h' o' F2 N2 i2
  (try dsimp only at N2)
  clear F' N'
  k_steps
  (rename Fr _ _ _ _ => F'); (rename News _ _ _ _ => N'); (rename LI _ _ _ => hi')
  have hf := N'.fresh (.head _)
  rw [gone_get (fun hm => absurd (List.mem_singleton.mp hm) (Nat.ne_of_gt (by assumption)))] at hf
  exact h _ _ _ _ (fun b o hb e => gone_keep F'.keep b o (by simpa using hb) e) (N'.get (by k_mem)) hi' hf (N'.get (.head _))
end Two
end
section
open PySem PySem.W PySem.Calls PyProof.Rows PyProof.Rows.TI
set_option maxRecDepth 100000
set_option maxHeartbeats 8000000
open Mine
namespace Two
local macro_rules | `(tactic| walk_at "call ref") => `(tactic| refine Hold.out ?_)
local macro_rules | `(tactic| walk_at "assign Tuple") => `(tactic| refine Hold.out ?_)
local macro_rules | `(tactic| walk_at "getMethod ref") => `(tactic| refine Hold.out ?_)
local macro_rules | `(tactic| walk_at "callWith ref") => `(tactic| (kco_here; refine Hold.out ?_))
theorem step_item {w : World} {p : Program} {loose : List Str} {mean : ExcName → Option Value} {mg mb : Str → Option Value} {A : Around} {s : Shared} {base : Heap} {Q E : Value → Shared → Prop}
  {gb dgb it ig dig T0 t V : Addr} {i : Nat} {items : Array Value} {io : Obj} {cg ck cv hck hcv htg ser tk : Value} {z tv ti tz : Tok} {v j : Int}
  (hA : A.depth + 1 < recursionLimit) (hh : A.handled = none) (X : (Two.hd.heap_1 w.params).In base) (T : Top p loose mean mg mb base) (hb : ∀ b o, base.get? b = some o → s.heap.get? b = some o) (hl0 : ∀ b ∈ [gb, dgb, it, ig, dig, T0, t], base.get? b = none)
  (hgb : s.heap.get? gb = some (gbObj dgb cg ck cv hck hcv htg (.ref it) (.ref ig) ser tk)) (hdgb : s.heap.get? dgb = some (dictOf [] 0)) (hig : s.heap.get? ig = some (igObj dig T0)) (hdig : s.heap.get? dig = some (dictOf [] 0)) (hT0 : s.heap.get? T0 = some (tup1Obj (.int 0 tz)))
  (ht : s.heap.get? t = some (tupObj (.int v tv) (.int j ti)))
  (hit : s.heap.get? it = some io) (hi : LI io V i) (hl : s.heap.IsList V items) (hx : items[i]? = some (.ref t))
  (d1 : @Ne Nat gb dgb) (d2 : @Ne Nat gb it) (d3 : @Ne Nat gb ig) (d4 : @Ne Nat gb dig) (d5 : @Ne Nat gb T0) (d6 : @Ne Nat gb t) (d7 : @Ne Nat it dgb) (d8 : @Ne Nat it ig) (d9 : @Ne Nat it dig) (e1 : @Ne Nat it T0) (e2 : @Ne Nat it t)
  (h : ∀ h' tk' o', (∀ b o, b ≠ gb → b ≠ it → s.heap.get? b = some o → h'.get? b = some o) → h'.get? it = some o' → LI o' V (i + 1) → h'.get? gb = some (gbObj dgb cg (.int v tv) (.ref t) (.bool true) (.bool true) htg (.ref it) (.ref ig) ser tk) → Q .none {s with heap := h', toks := tk'}) :
  wpAny (model PySem.Challenge.rw_kp0009_02.row.prog w) A (call (.ref 113) [.ref gb]) Q E s := by
  revert X; w_top off; k_fill; intro X
  have X1 := Frag.In.keeps X (gone_in hb hl0)
  have T1 := Top.keeps T (gone_in hb hl0)
  refine wpAny_call ?_
  refine enterG (l := [gb, dgb, it, ig, dig, T0, t]) (news := [(gb, gbObj dgb cg ck cv hck hcv htg (.ref it) (.ref ig) ser tk), (dgb, dictOf [] 0), (it, io), (ig, igObj dig T0), (dig, dictOf [] 0), (T0, tup1Obj (.int 0 tz)), (t, tupObj (.int v tv) (.int j ti))])
    (by simp [hgb, hdgb, hit, hig, hdig, hT0, ht]) (Frag.In.keeps X hb) (Top.keeps T hb).nolimit (by k_is) (by k_is) (by (clear hh T hb hl0 hgb hdgb hig hdig hT0 ht hit hi hl hx d1 d2 d3 d4 d5 d6 d7 d8 d9 e1 e2 h X X1 T1; (exact Nat.lt_of_succ_lt (by assumption)))) (by exact BindsTo.of_eq rfl) (locs rfl) ?_ (by decide) rfl rfl rfl
  intro L' h₁ F N
  refine wpAny_mono (E := fun _ _ => False) ?_ (fun _ _ h => h) (fun _ _ h => h.elim)
  dsimp only [gbObj, igObj, tupObj, tup1Obj] at N ⊢
  k_steps
  refine Hold.mk ?_
  (rename Fr _ _ _ _ => F'); (rename News _ _ _ _ => N')
  have hV : V ∉ [gb, dgb, it, ig, dig, T0, t] := by
    intro hm
    obtain ⟨o, a1, a2, _⟩ := hl
    simp only [List.mem_cons, List.not_mem_nil, or_false] at hm
    rcases hm with rfl | rfl | rfl | rfl | rfl | rfl | rfl
    · rw [hgb] at a1; cases a1; cases a2
    · rw [hdgb] at a1; cases a1; exact absurd a2 (by decide)
    · rw [hit] at a1; cases a1; rw [hi.1] at a2; exact absurd a2 (by decide)
    · rw [hig] at a1; cases a1; cases a2
    · rw [hdig] at a1; cases a1; exact absurd a2 (by decide)
    · rw [hT0] at a1; cases a1; exact absurd (show Value.type "tuple" = Value.type "list" from a2) (by decide)
    · rw [ht] at a1; cases a1; exact absurd (show Value.type "tuple" = Value.type "list" from a2) (by decide)
  have hl1 : (gone s.heap [gb, dgb, it, ig, dig, T0, t]).IsList V items := hl.at fun o e => (gone_get hV).trans e
  refine pull_item (base := base) (by show A.depth + 1 < _; exact hA) X T (fun b o e => F'.keep b o (gone_in hb hl0 b o e)) (hl0 it (by simp)) (N'.get (by k_mem)) hi (stays_list F'.keep hl1) hx ?_
  intro h2 tk2 tp o2 k2 g1 i2 f2 g2
  have hitL : L' ≠ it := fun q => (N' (it, io) (by k_mem)).2.1 q.symm
  have htpL : tp ≠ L' := fun q => by obtain ⟨_, _, _, e, _⟩ := F'.ns; rw [← q, f2] at e; cases e
  have e3 : @Ne Nat gb tp := fun q => by
    have e := N'.get (a := gb) (by k_mem)
    rw [show gb = tp from q] at e
    exact absurd (f2.symm.trans e) (by simp)
  have F2 := Fr.but F' k2 (gone_none (by simp)) hitL
  have N2 := News.butF (c := it) (oc := io) N' (by k_updF) k2 g1
  have N3 := News.put N2 g2 htpL (by
    cases q : (gone s.heap [gb, dgb, it, ig, dig, T0, t]).get? tp with
    | none => rfl
    | some o => rw [F'.keep _ _ q] at f2; cases f2)
  clear F' N' N2 k2
  dsimp only at N3 ⊢
  k_steps
  refine Hold.mk ?_
  (k_here; k_dflt (refine' unpackN_ ?F ?N ?T ?k1 ?k2 ?k3 ?_; (case F => k_asm); (case N => k_asm); (case T => exact News.isTup (by k_asm) (by k_mem)); (case k1 => assumption); (case k2 => exact rfl); (case k3 => exact rfl)); intro h' F' N')
  k_steps
  refine Hold.mk ?_
  (k_here; k_dflt (refine' method_slot ?F ?X ?I ?a ?b ?c ?d ?_; (case F => k_asm); (case X => k_asm); (case I => k_inst); (case a => k_is); (case b => k_is); (case c => k_is); (case d => k_is); k_whole))
  k_steps
  refine Hold.mk ?_
  (rename Fr _ _ _ _ => F'); (rename News _ _ _ _ => N')
  refine kco_callWith (C := 267) (f := 249) (od := some (dictOf [] 0)) (Frag.In.keeps X1 F'.keep) ⟨N'.get (by k_mem), rfl, by rfl, N'.get (a := dig) (by k_mem)⟩ rfl (by k_is) ?_
  k_steps
  refine Hold.mk ?_
  (rename Fr _ _ _ _ => F'); (rename News _ _ _ _ => N')
  refine ig_call (base := base) (dig := dig) (T0 := T0) (by show A.depth + 1 < _; exact hA) hh X T (fun b o e => F'.keep b o (gone_in hb hl0 b o e)) (fun b hb' => hl0 b (by simp only [List.mem_cons, List.not_mem_nil, or_false] at hb' ⊢; rcases hb' with q | q | q | q <;> simp [q])) (N'.get (by k_mem)) (N'.get (by k_mem)) (N'.get (by k_mem)) (N'.get (by k_mem)) ?_
  intro h3 tk3 k3
  have F3 := F'.keeps k3
  have N3 := N'.grown k3
  clear F' N' k3
  k_steps
  (rename Fr _ _ _ _ => F'); (rename News _ _ _ _ => N')
  refine h _ _ _ (fun b o q1 q2 e => ?_) (N'.get (by k_mem)) i2 (N'.get (by k_mem))
  by_cases hm : b ∈ [gb, dgb, it, ig, dig, T0, t]
  · simp only [List.mem_cons, List.not_mem_nil, or_false] at hm
    rcases hm with rfl | rfl | rfl | rfl | rfl | rfl | rfl
    · exact absurd rfl q1
    · rw [hdgb] at e; cases e; exact N'.get (by k_mem)
    · exact absurd rfl q2
    · rw [hig] at e; cases e; exact N'.get (by k_mem)
    · rw [hdig] at e; cases e; exact N'.get (by k_mem)
    · rw [hT0] at e; cases e; exact N'.get (by k_mem)
    · rw [ht] at e; cases e; exact N'.get (by k_mem)
  · exact gone_keep F'.keep b o hm e
end Two
end
section
open PySem PySem.W PySem.Calls PyProof.Rows PyProof.Rows.TI
set_option maxRecDepth 100000
set_option maxHeartbeats 8000000
open Mine
namespace Two
theorem told_none {prog : Program} {w : World} {A : Around} {E : Value → Shared → Prop} {s : Shared} {K : Frag} {Q : Bool → Shared → Prop} {t : Tok} (X : K.In s.heap) (e : nsIn K cStatics sharingNotToldKey = some none) (h : Q false s) : wpAny (model prog w) A (sharingNotTold t) Q E s := by
  unfold sharingNotTold
  refine wpAny_bind ((looks_nsIn X e).here ?_)
  exact wpAny_pure h
theorem isSame_ints {prog : Program} {w : World} {A : Around} {E : Value → Shared → Prop} {s : Shared} {a b : Int} {ta tb : Tok} {Q : Bool → Shared → Prop}
    (h1 : ta ≠ 0) (h2 : tb ≠ 0) (inj : ta = tb → a = b) (hn : ∀ (Q : Bool → Shared → Prop) t, Q false s → wpAny (model prog w) A (sharingNotTold t) Q E s) (hq : ∀ r, (r = true → a = b) → Q r s) : wpAny (model prog w) A (isSame (.int a ta) (.int b tb)) Q E s := by
  have h0 : ¬ ((ta == 0 || tb == 0) = true) := by simp [h1, h2]
  show wpAny _ A (if (a == b && smallInt a) = true then isSame.cachedInt ta tb else isSame.created (a == b) ta tb) Q E s
  by_cases hc : (a == b && smallInt a) = true
  · rw [if_pos hc]
    unfold isSame.cachedInt
    rw [if_neg h0]
    have : a = b := by simp only [Bool.and_eq_true, beq_iff_eq] at hc; exact hc.1
    exact wpAny_bind (wpAny_rule (wpAny_pure (hq _ fun _ => this)))
  · rw [if_neg hc]
    unfold isSame.created
    refine wpAny_ite ?_
    split
    · rename_i h; exact absurd h h0
    refine wpAny_ite ?_
    split
    · rename_i h; exact wpAny_pure (hq _ fun _ => inj (by simpa using h))
    refine wpAny_ite ?_
    split
    · exact wpAny_pure (hq _ fun h => by cases h)
    rename_i he
    have he : a = b := by simpa using he
    refine wpAny_bind (hn _ _ ?_)
    first | rw [if_neg Bool.false_ne_true] | simp only [Bool.false_eq_true, if_false]
    refine wpAny_bind (hn _ _ ?_)
    first | rw [if_neg Bool.false_ne_true] | simp only [Bool.false_eq_true, if_false]
    exact wpAny_bind (wpAny_rule (wpAny_bind (wpAny_askSetting (wpAny_pure (hq _ fun _ => he)))))
theorem compare_is_ints {prog : Program} {w : World} {A : Around} {E : Value → Shared → Prop} {s : Shared} {a b : Int} {ta tb : Tok} {Q : Value → Shared → Prop}
    (h1 : ta ≠ 0) (h2 : tb ≠ 0) (inj : ta = tb → a = b) (hn : ∀ (Q : Bool → Shared → Prop) t, Q false s → wpAny (model prog w) A (sharingNotTold t) Q E s) (hq : ∀ r, (r = true → a = b) → Q (.bool r) s) : wpAny (model prog w) A (compareOp .Is (.int a ta) (.int b tb)) Q E s := by
  show wpAny _ A (isSame (.int a ta) (.int b tb) >>= fun r => pure (.bool r)) Q E s
  exact wpAny_bind (isSame_ints h1 h2 inj hn fun r hr => wpAny_pure (hq r hr))
local macro_rules | `(tactic| walk_at "compareOp Is") => `(tactic| refine Hold.out ?_)
theorem same_ints {w : World} {p : Program} {loose : List Str} {mean : ExcName → Option Value} {mg mb : Str → Option Value} {A : Around} {s : Shared} {base : Heap} {Q E : Value → Shared → Prop} {a b : Int} {ta tb : Tok}
  (hA : A.depth < recursionLimit) (X : (Two.hd.heap_1 w.params).In base) (T : Top p loose mean mg mb base) (hb : ∀ b o, base.get? b = some o → s.heap.get? b = some o)
  (h1 : ta ≠ 0) (h2 : tb ≠ 0) (inj : ta = tb → a = b)
  (h : ∀ h' tk', (∀ b o, s.heap.get? b = some o → h'.get? b = some o) → Q (.bool (a == b)) {s with heap := h', toks := tk'}) :
  wpAny (model PySem.Challenge.rw_kp0009_02.row.prog w) A (call (.ref 83) [.int a ta, .int b tb]) Q E s := by
  revert X; w_top off; k_fill; intro X
  have X1 := Frag.In.keeps X hb
  have T1 := Top.keeps T hb
  refine wpAny_call ?_
  refine enterP X1 T1.nolimit (by k_is) (by k_is) hA (by exact BindsTo.of_eq rfl) (locs rfl) ?_ (by decide) rfl rfl rfl
  intro L' h₁ F N
  refine wpAny_mono (E := fun _ _ => False) ?_ (fun _ _ h => h) (fun _ _ h => h.elim)
  dsimp only
  k_steps
  refine Hold.mk ?_
  (rename Fr _ _ _ _ => F'); (rename News _ _ _ _ => N')
  refine compare_is_ints h1 h2 inj (fun Q t hq => told_none (Frag.In.keeps X1 F'.keep) (by k_is) hq) fun r hr => ?_
  cases r with
  | true =>
    obtain rfl := hr rfl
    k_steps
    rw [show (a == a) = true from beq_self_eq_true a] at h
    exact h _ _ F'.keep
  | false =>
    k_steps
    · rename_i q
      rw [q, show (b == b) = true from beq_self_eq_true b] at h
      exact h _ _ F'.keep
    k_steps
    rename_i q
    rw [show (a == b) = false from by simpa using q] at h
    exact h _ _ F'.keep
end Two
end
local macro_rules | `(tactic| walk_at "pad 0") => `(tactic| fail)
local macro_rules | `(tactic| walk_at "pad 1") => `(tactic| fail)
local macro_rules | `(tactic| walk_at "pad 2") => `(tactic| fail)
section
open PySem PySem.W PySem.Calls PyProof.Rows PyProof.Rows.TI
set_option maxRecDepth 100000
set_option maxHeartbeats 8000000
open Mine
namespace Two
local macro_rules | `(tactic| walk_at "exec Try") => `(tactic| refine wpAny_Try_except ?_)
local macro_rules | `(tactic| walk_at "call builtin:next") => `(tactic| refine Hold.out ?_)
theorem pull_end {w : World} {p : Program} {loose : List Str} {mean : ExcName → Option Value} {mg mb : Str → Option Value} {A : Around} {s : Shared} {base : Heap} {envs : List Env} {Q E : Value → Shared → Prop} {it V : Addr} {i : Nat} {items : Array Value} {io : Obj}
  (hA : A.depth < recursionLimit) (hh : A.handled = none) (B : Below A base envs s.heap) (X : (Two.hd.heap_1 w.params).In base) (T : Top p loose mean mg mb base) (hc0 : base.get? it = none) (hfrm : ∀ b ∈ envs.filterMap (·.frame), b ∉ [it])
  (hit : s.heap.get? it = some io) (hi : (LI io V i ∧ s.heap.IsList V items ∧ items[i]? = none) ∨ DI io)
  (h : ∀ h' tk' tp o', (hideAll (gone s.heap [it]) (envs.filterMap (·.frame))).StaysIn h' → s.heap.UpToSlots h' → h'.get? it = some o' → DI o' → s.heap.get? tp = none → h'.get? tp = some { cls := .type "tuple", data := .seq #[.bool false, .none] } → Q (.ref tp) {s with heap := h', toks := tk'}) :
  wpAny (model PySem.Challenge.rw_kp0009_02.row.prog w) A (call (.ref 76) [.ref it]) Q E s := by
  revert X; w_top off; k_fill; intro X
  have hb := B.stays
  have X1 := Frag.In.keeps X (gone_in hb (l := [it]) (by simpa using hc0))
  have T1 := Top.keeps T (gone_in hb (l := [it]) (by simpa using hc0))
  have B1 := below_gone B hfrm (by simpa using hc0)
  refine wpAny_call ?_
  refine enterG (l := [it]) (news := [(it, io)]) (by simp [hit]) (Frag.In.keeps X hb) (Top.keeps T hb).nolimit (by k_is) (by k_is) hA (by exact BindsTo.of_eq rfl) (locs rfl) ?_ (by decide) rfl rfl rfl
  intro L' h₁ F N
  refine wpAny_mono (E := fun _ _ => False) ?_ (fun _ _ h => h) (fun _ _ h => h.elim)
  dsimp only
  k_steps
  refine Hold.mk ?_
  (rename Fr _ _ _ _ => F'); (rename News _ _ _ _ => N')
  have hS : mg "StopIteration" = none := ns_none_of X T.g (by k_is)
  have hSb : mb "StopIteration" = some (.type "StopIteration") := (T.builtins _ (by decide)).trans PyProof.Rows.Boot.«StopIteration»
  have hsz : s.heap.objs.size ≤ L' := by have := F'.above; rwa [gone_size] at this
  have hitlt : it < s.heap.objs.size := Heap.lt_size hit
  have hio : ∀ o, s.heap.get? it = some o → ∃ vs, o.data = .fields vs := fun o e => by
    rw [hit] at e
    cases e
    rcases hi with ⟨hi, _⟩ | ⟨_, v, hi⟩
    · exact ⟨_, hi.2⟩
    · exact ⟨_, hi⟩
  have fin : ∀ (h2 h4 h' : Heap) (tk' : Nat) (tp : Addr) {o2 : Obj}, (∀ b o, (gone s.heap [it]).get? b = some o → h2.get? b = some o) → h2.UpToSlots h4 → (hideAll (gone s.heap [it]) (envs.filterMap (·.frame))).StaysIn h4 → (∀ b o, (gone (trunc h4 s.heap.objs.size) [it]).get? b = some o → h'.get? b = some o) →
      DI o2 → h'.get? it = some o2 → h'.get? tp = some { cls := .type "tuple", data := .seq #[.bool false, .none] } → (gone (trunc h4 s.heap.objs.size) [it]).get? tp = none → it < tp → Q (.ref tp) { s with heap := h', toks := tk' } := by
    intro h2 h4 h' tk' tp o2 k2 up st K hd e1 e2 e3 lt
    obtain ⟨c1, c2, c3⟩ := after_catch (h0 := s.heap) (l := [it]) k2 up st (fun b hb => (B1.frames.mem hb).2) K
    refine h h' tk' tp o2 c1 (fun b o e hnf => ?_) e1 hd (c3 tp (fun hm => absurd (List.mem_singleton.mp hm) (Nat.ne_of_gt lt)) e3) e2
    refine c2 b o (fun hm => ?_) e hnf
    obtain rfl := List.mem_singleton.mp hm
    obtain ⟨vs, q⟩ := hio o e
    exact hnf vs q
  rcases hi with ⟨hi, hl, hx⟩ | hi
  · have hVne : V ≠ it := by
      rintro rfl
      obtain ⟨o, e1, e2, _⟩ := hl
      rw [hit] at e1
      cases e1
      rw [hi.1] at e2
      exact absurd e2 (by decide)
    have hl1 : (gone s.heap [it]).IsList V items := hl.at fun o e => (gone_get (by simpa using hVne)).trans e
    refine next_end (g := fun o => [(it, o)]) hh F' N' (by k_updF) hi (stays_list F'.keep hl1) hx fun h2 o2 h3 e F2 N2 hd hn => ?_
    refine caught_deep (base := base) (mg := mg) (mb := mb) (X := "StopIteration") (x := "StopIteration") B1 F2 N2 hn rfl rfl rfl rfl T.g T.b hS hSb rfl (by decide) (by rw [isSubtype_type]; kernel_rfl) (by rw [isSubtype_type]; kernel_rfl) (by rw [isSubtype_type]; kernel_rfl) ?_
    intro h4 F4 N4 up
    clear F' N'
    have F5 := Fr.anew (l := [it]) F4 hsz
    have N5 := News.anew (l := [it]) (n := s.heap.objs.size) N4 (by simp)
    clear N4
    have st := F4.keep
    clear F4
    k_steps
    (rename Fr _ _ _ _ => F'); (rename News _ _ _ _ => N')
    exact fin _ _ _ _ _ F2.keep up st F'.keep hd (N'.get (by k_mem)) (N'.get (.head _)) (N'.fresh (.head _)) (by assumption)
  · refine next_done hh N' (.head _) hi fun h3 e hn => ?_
    refine caught_deep (base := base) (mg := mg) (mb := mb) (X := "StopIteration") (x := "StopIteration") B1 F' N' hn rfl rfl rfl rfl T.g T.b hS hSb rfl (by decide) (by rw [isSubtype_type]; kernel_rfl) (by rw [isSubtype_type]; kernel_rfl) (by rw [isSubtype_type]; kernel_rfl) ?_
    intro h4 F4 N4 up
    have k2 := F'.keep
    clear F' N'
    have F5 := Fr.anew (l := [it]) F4 hsz
    have N5 := News.anew (l := [it]) (n := s.heap.objs.size) N4 (by simp)
    clear N4
    have st := F4.keep
    clear F4
    k_steps
    (rename Fr _ _ _ _ => F'); (rename News _ _ _ _ => N')
    exact fin _ _ _ _ _ k2 up st F'.keep hi (N'.get (by k_mem)) (N'.get (.head _)) (N'.fresh (.head _)) (by assumption)
end Two
end
section
open PySem PySem.W PySem.Calls PyProof.Rows PyProof.Rows.TI
set_option maxRecDepth 100000
set_option maxHeartbeats 8000000
open Mine
namespace Two
local macro_rules | `(tactic| walk_at "call ref") => `(tactic| refine Hold.out ?_)
local macro_rules | `(tactic| walk_at "exec Raise some none") => `(tactic| refine Hold.out ?_)
local macro_rules | `(tactic| walk_at "assign Tuple") => `(tactic| refine Hold.out ?_)
theorem step_end {w : World} {p : Program} {loose : List Str} {mean : ExcName → Option Value} {mg mb : Str → Option Value} {A : Around} {s : Shared} {base : Heap} {envs : List Env} {Q E : Value → Shared → Prop}
  {gb dgb it ig V : Addr} {i : Nat} {items : Array Value} {io : Obj} {cg ck cv hck hcv htg ser tk : Value}
  (hA : A.depth + 1 < recursionLimit) (hh : A.handled = none) (B : Below A base envs s.heap) (X : (Two.hd.heap_1 w.params).In base) (T : Top p loose mean mg mb base) (hl0 : ∀ b ∈ [gb, dgb, it], base.get? b = none) (hfrm : ∀ b ∈ envs.filterMap (·.frame), b ∉ [gb, dgb, it])
  (hgb : s.heap.get? gb = some (gbObj dgb cg ck cv hck hcv htg (.ref it) (.ref ig) ser tk)) (hdgb : s.heap.get? dgb = some (dictOf [] 0))
  (hit : s.heap.get? it = some io) (hi : (LI io V i ∧ s.heap.IsList V items ∧ items[i]? = none) ∨ DI io)
  (d1 : @Ne Nat gb dgb) (d2 : @Ne Nat gb it) (d7 : @Ne Nat it dgb)
  (hE : ∀ h' tk' e o', Flies [it] envs e "StopIteration" [(it, o')] s.heap h' → DI o' → E (.ref e) {s with heap := h', toks := tk'}) :
  wpAny (model PySem.Challenge.rw_kp0009_02.row.prog w) A (call (.ref 113) [.ref gb]) Q E s := by
  revert X; w_top off; k_fill; intro X
  have hb := B.stays
  have X1 := Frag.In.keeps X (gone_in hb hl0)
  have T1 := Top.keeps T (gone_in hb hl0)
  refine wpAny_call ?_
  refine enterG (l := [gb, dgb, it]) (news := [(gb, gbObj dgb cg ck cv hck hcv htg (.ref it) (.ref ig) ser tk), (dgb, dictOf [] 0), (it, io)])
    (by simp [hgb, hdgb, hit]) (Frag.In.keeps X hb) (Top.keeps T hb).nolimit (by k_is) (by k_is) (by (clear hh B T hl0 hfrm hgb hdgb hit hi d1 d2 d7 hE X hb X1 T1; (exact Nat.lt_of_succ_lt (by assumption)))) (by exact BindsTo.of_eq rfl) (locs rfl) ?_ (by decide) rfl rfl rfl
  intro L' h₁ F N
  have hsz : s.heap.objs.size ≤ L' := by have := F.above; rwa [gone_size] at this
  dsimp only [gbObj] at N ⊢
  k_steps
  refine Hold.mk ?_
  (rename Fr _ _ _ _ => F'); (rename News _ _ _ _ => N')
  have Bg := below_gone B hfrm hl0
  refine pull_end (base := base) (items := items) (V := V) (i := i) (by show A.depth + 1 < _; exact hA) hh (pushX Bg F' rfl rfl) X T (hl0 it (by first | k_mem | simp)) ?_ (N'.get (by k_mem)) ?_ ?_
  · intro b hb' hm
    obtain rfl := List.mem_singleton.mp hm
    rcases List.mem_cons.mp hb' with q | q
    · exact (N' (b, io) (by k_mem)).2.1 q
    · exact hfrm b q (by first | k_mem | simp)
  · refine hi.imp (fun z => ⟨z.1, ?_, z.2.2⟩) id
    obtain ⟨hi1, hl, _⟩ := z
    have hV : V ∉ [gb, dgb, it] := by
      intro hm
      obtain ⟨o, a1, a2, _⟩ := hl
      simp only [List.mem_cons, List.not_mem_nil, or_false] at hm
      rcases hm with rfl | rfl | rfl
      · rw [hgb] at a1; cases a1; cases a2
      · rw [hdgb] at a1; cases a1; exact absurd a2 (by decide)
      · rw [hit] at a1; cases a1; rw [hi1.1] at a2; exact absurd a2 (by decide)
    exact stays_list F'.keep (hl.at fun o e => (gone_get hV).trans e)
  intro h2 tk2 tp o2 st up g2 i2 f2 gt
  have C := Calm.of_stays st up
  obtain ⟨F2, N2⟩ := C.anew (n := s.heap.objs.size) (l2 := [tp, gb, dgb, it]) F' (news := [(gb, gbObj dgb cg ck cv hck hcv htg (.ref it) (.ref ig) ser tk), (dgb, dictOf [] 0)]) (fun p hp => N' p (by simp only [List.mem_cons, List.not_mem_nil, or_false] at hp; rcases hp with rfl | rfl <;> k_mem)) (by intro b hm; obtain rfl := List.mem_singleton.mp hm; exact gone_none (by first | k_mem | simp))
    (Below.has Bg) (by simp [d2, Ne.symm d7]) hsz (by first | k_mem | simp)
  have hLt : tp ≠ L' := fun q => by obtain ⟨_, _, _, e, _⟩ := F'.ns; rw [← q] at e; exact absurd (f2.symm.trans e) (by first | k_mem | simp)
  have hLi : it ≠ L' := (N' (it, io) (by k_mem)).2.1
  have N3 := News.put (News.put N2 g2 hLi (gone_none (by first | k_mem | simp))) gt hLt (gone_none (by first | k_mem | simp))
  have k0 := F'.keep
  have kB2 := (Below.calm (pushX Bg F' rfl rfl) C (by intro b hm; obtain rfl := List.mem_singleton.mp hm; exact hl0 b (by first | k_mem | simp)) rfl).stays
  have hftp := none_base (fun b o e => F'.keep b o (gone_in hb hl0 b o e)) f2
  clear F' N' N2
  have kX2 := in_trunc (h := s.heap) (l2 := [tp, gb, dgb, it]) hb kB2 (by simpa [hl0 gb (by first | k_mem | simp), hl0 dgb (by first | k_mem | simp), hl0 it (by first | k_mem | simp)] using hftp)
  have X2 : (hd.heap_1 w.params).In (gone (trunc h2 s.heap.objs.size) [tp, gb, dgb, it]) := Frag.In.keeps X kX2
  have T2 := Top.keeps T kX2
  dsimp only [gbObj] at N3 ⊢
  k_steps
  refine Hold.mk ?_
  (k_here; k_dflt (refine' unpackN_ ?F ?N ?T ?k1 ?k2 ?k3 ?_; (case F => k_asm); (case N => k_asm); (case T => exact News.isTup (by k_asm) (by k_mem)); (case k1 => assumption); (case k2 => exact rfl); (case k3 => exact rfl)); intro h' F' N')
  k_steps
  refine Hold.mk ?_
  (k_here; (with_reducible rename Fr _ _ _ _ => kF); k_dflt (refine' owsi_raiseC ?hh ?hx ?_; (case hh => assumption); (case hx => (refine' name_B kF ?k1 ?k2 ?k3 ?k4 ?k5 ?_; (case k1 => k_asm); (case k2 => k_asm); (case k3 => k_is); (case k4 => boot_by_name); (case k5 => decide); exact ⟨rfl, rfl⟩))); refine Hold.out ?_)
  refine Hold.mk ?_
  (rename Fr _ _ _ _ => F'); (rename News _ _ _ _ => N')
  intro h5 e hm
  refine leave_made B (l := [it]) (Calm.close k0 C hsz (by first | k_mem | simp) F'.keep (x := [tp]) (by simpa using f2) ?_ ?_) (news := [(it, o2)]) rfl rfl F'.ns hsz (by intro p hp; obtain rfl := List.mem_singleton.mp hp; exact ⟨N'.get (by k_mem), hLi, fun z => hfrm _ z (by first | k_mem | simp)⟩) hm.of ?_
  · intro b hm q o e
    simp only [List.mem_cons, List.not_mem_nil, or_false] at hm q
    rcases hm with rfl | rfl | rfl
    · rw [hgb] at e; cases e; exact N'.get (by k_mem)
    · rw [hdgb] at e; cases e; exact N'.get (by k_mem)
    · exact absurd rfl q
  · intro b hm o e hnf
    simp only [List.mem_cons, List.not_mem_nil, or_false] at hm
    rcases hm with rfl | rfl | rfl
    · rw [hgb] at e; cases e; exact ⟨_, N'.get (by k_mem)⟩
    · rw [hdgb] at e; cases e; exact ⟨_, N'.get (by k_mem)⟩
    · rw [hit] at e; cases e
      rcases hi with ⟨z, _⟩ | ⟨_, v, z⟩
      · exact absurd z.2 (hnf _)
      · exact absurd z (hnf _)
  intro h6 hf
  exact hE _ _ _ _ hf i2
end Two
end
local macro_rules | `(tactic| walk_at "pad 3") => `(tactic| fail)
section
open PySem PySem.W PySem.Calls PyProof.Rows PyProof.Rows.TI
set_option maxRecDepth 100000
set_option maxHeartbeats 8000000
open Mine
namespace Two
def grObj (dx : Addr) (n p t : Value) : Obj := { cls := .ref 169, dict := some dx, data := .plain, slots := #[some n, some p, some t] }
theorem ne_cls {h : Heap} {a b : Addr} {o1 o2 : Obj} (e1 : h.get? a = some o1) (e2 : h.get? b = some o2) (hc : o1.cls ≠ o2.cls) : @Ne Nat a b := fun q => by
  rw [show a = b from q, e2] at e1
  exact hc (by rw [Option.some.inj e1])
local macro_rules | `(tactic| walk_at "call ref") => `(tactic| refine Hold.out ?_)
local macro_rules | `(tactic| walk_at "exec Raise some none") => `(tactic| refine Hold.out ?_)
local macro_rules | `(tactic| walk_at "ite") => `(tactic| first | refine ite_neg (by first | omega | (simp; done) | (simp [*]; done) | (simp; omega)) ?_ | refine ite_pos (by first | omega | (simp; done) | (simp [*]; done) | (simp; omega)) ?_)
theorem gn_first {w : World} {p : Program} {loose : List Str} {mean : ExcName → Option Value} {mg mb : Str → Option Value} {A : Around} {s : Shared} {base : Heap} {Q E : Value → Shared → Prop}
  {gb dgb it ig gr dgr : Addr} {c : Int} {tc tc' : Tok} {v : Int} {tv tv' : Tok} {t : Addr} {htg ser tg : Value}
  (hA : A.depth + 1 < recursionLimit) (X : (Two.hd.heap_1 w.params).In base) (T : Top p loose mean mg mb base) (hb : ∀ b o, base.get? b = some o → s.heap.get? b = some o) (hl0 : ∀ b ∈ [gb, dgb, gr, dgr], base.get? b = none)
  (hgb : s.heap.get? gb = some (gbObj dgb (.int c tc) (.int v tv) (.ref t) (.bool true) (.bool true) htg (.ref it) (.ref ig) ser tg)) (hdgb : s.heap.get? dgb = some (dictOf [] 0))
  (hgr : s.heap.get? gr = some (grObj dgr (.int c tc') (.ref gb) (.int v tv'))) (hdgr : s.heap.get? dgr = some (dictOf [] 0)) (ht1 : tv ≠ 0) (ht2 : tv' ≠ 0)
  (h : ∀ h' tk', (∀ b o, b ≠ gb → s.heap.get? b = some o → h'.get? b = some o) → h'.get? gb = some (gbObj dgb (.int c tc) .none .none (.bool false) (.bool false) htg (.ref it) (.ref ig) ser tg) → Q (.ref t) {s with heap := h', toks := tk'}) :
  wpAny (model PySem.Challenge.rw_kp0009_02.row.prog w) A (call (.ref 165) [.ref gr]) Q E s := by
  revert X; w_top off; k_fill; intro X
  have d1 := ne_cls hgb hdgb (by simp [gbObj, grObj, dictOf])
  have d2 := ne_cls hgb hgr (by simp [gbObj, grObj, dictOf])
  have d3 := ne_cls hgb hdgr (by simp [gbObj, grObj, dictOf])
  have X1 := Frag.In.keeps X (gone_in hb hl0)
  have T1 := Top.keeps T (gone_in hb hl0)
  refine wpAny_call ?_
  refine enterG (l := [gb, dgb, gr, dgr]) (news := [(gb, gbObj dgb (.int c tc) (.int v tv) (.ref t) (.bool true) (.bool true) htg (.ref it) (.ref ig) ser tg), (dgb, dictOf [] 0), (gr, grObj dgr (.int c tc') (.ref gb) (.int v tv')), (dgr, dictOf [] 0)])
    (by simp [hgb, hdgb, hgr, hdgr]) (Frag.In.keeps X hb) (Top.keeps T hb).nolimit (by k_is) (by k_is) (by (clear T hb hl0 hgb hdgb hgr hdgr ht1 ht2 h X d1 d2 d3 X1 T1; (exact Nat.lt_of_succ_lt (by assumption)))) (by exact BindsTo.of_eq rfl) (locs rfl) ?_ (by decide) rfl rfl rfl
  intro L' h₁ F N
  refine wpAny_mono (E := fun _ _ => False) ?_ (fun _ _ h => h) (fun _ _ h => h.elim)
  dsimp only [gbObj, grObj] at N ⊢
  k_steps
  refine Hold.mk ?_
  (rename Fr _ _ _ _ => F'); (rename News _ _ _ _ => N')
  refine same_ints (base := base) (by show A.depth + 1 < _; exact hA) X T (fun b o e => F'.keep b o (gone_in hb hl0 b o e)) ht2 ht1 (fun _ => rfl) ?_
  rw [beq_self_eq_true]
  intro h3 tk3 k3
  have F3 := F'.keeps k3
  have N3 := N'.grown k3
  clear F' N' k3
  k_steps
  (rename Fr _ _ _ _ => F'); (rename News _ _ _ _ => N')
  refine h _ _ (fun b o q1 e => ?_) (N'.get (by k_mem))
  by_cases hm : b ∈ [gb, dgb, gr, dgr]
  · simp only [List.mem_cons, List.not_mem_nil, or_false] at hm
    rcases hm with rfl | rfl | rfl | rfl
    · exact absurd rfl q1
    · rw [hdgb] at e; cases e; exact N'.get (by k_mem)
    · rw [hgr] at e; cases e; exact N'.get (by k_mem)
    · rw [hdgr] at e; cases e; exact N'.get (by k_mem)
  · exact gone_keep F'.keep b o hm e
end Two
end
section
open PySem PySem.W PySem.Calls PyProof.Rows PyProof.Rows.TI
set_option maxRecDepth 100000
set_option maxHeartbeats 8000000
open Mine
namespace Two
local macro_rules | `(tactic| walk_at "callWith ref") => `(tactic| ((with_reducible show wpAny _ _ (callWith _ (Value.ref _) _ (backTo _ (starEach [] _)) []) _ _ _); k_here; k_dflt (refine' callWith_K0 ?k1 ?k2 ?_; (case k1 => k_in); (case k2 => k_is); k_whole)))
local macro_rules | `(tactic| walk_at "call ref") => `(tactic| refine Hold.out ?_)
local macro_rules | `(tactic| walk_at "exec Raise some none") => `(tactic| refine Hold.out ?_)
local macro_rules | `(tactic| walk_at "ite") => `(tactic| first | refine ite_neg (by first | omega | (simp; done) | (simp [*]; done) | (simp; omega)) ?_ | refine ite_pos (by first | omega | (simp; done) | (simp [*]; done) | (simp; omega)) ?_)
theorem gn_more {w : World} {p : Program} {loose : List Str} {mean : ExcName → Option Value} {mg mb : Str → Option Value} {A : Around} {s : Shared} {base : Heap} {Q E : Value → Shared → Prop}
  {gb dgb it ig dig T0 t V gr dgr : Addr} {i : Nat} {items : Array Value} {io : Obj} {c : Int} {tc tc' : Tok} {v v' j : Int} {tv tv' tz ti : Tok} {htg ser tg : Value}
  (hA : A.depth + 2 < recursionLimit) (hh : A.handled = none) (X : (Two.hd.heap_1 w.params).In base) (T : Top p loose mean mg mb base) (hb : ∀ b o, base.get? b = some o → s.heap.get? b = some o) (hl0 : ∀ b ∈ [gb, dgb, gr, dgr, it, ig, dig, T0, t], base.get? b = none)
  (hgb : s.heap.get? gb = some (gbObj dgb (.int c tc) .none .none (.bool false) (.bool false) htg (.ref it) (.ref ig) ser tg)) (hdgb : s.heap.get? dgb = some (dictOf [] 0))
  (hgr : s.heap.get? gr = some (grObj dgr (.int c tc') (.ref gb) (.int v' tv'))) (hdgr : s.heap.get? dgr = some (dictOf [] 0))
  (hig : s.heap.get? ig = some (igObj dig T0)) (hdig : s.heap.get? dig = some (dictOf [] 0)) (hT0 : s.heap.get? T0 = some (tup1Obj (.int 0 tz))) (ht : s.heap.get? t = some (tupObj (.int v tv) (.int j ti)))
  (hit : s.heap.get? it = some io) (hi : LI io V i) (hl : s.heap.IsList V items) (hx : items[i]? = some (.ref t))
  (ht1 : tv ≠ 0) (ht2 : tv' ≠ 0) (hvv : v' = v)
  (h : ∀ h' tk' o', (∀ b o, b ∉ [gb, it] → s.heap.get? b = some o → h'.get? b = some o) → h'.get? it = some o' → LI o' V (i + 1) → h'.get? gb = some (gbObj dgb (.int c tc) .none .none (.bool false) (.bool false) htg (.ref it) (.ref ig) ser tg) → Q (.ref t) {s with heap := h', toks := tk'}) :
  wpAny (model PySem.Challenge.rw_kp0009_02.row.prog w) A (call (.ref 165) [.ref gr]) Q E s := by
  revert X; w_top off; k_fill; intro X
  subst hvv
  have d1 := ne_cls hgb hdgb (by simp [gbObj])
  have d2 := ne_cls hgb hgr (by simp [gbObj, grObj])
  have d3 := ne_cls hgb hdgr (by simp [gbObj])
  have d4 := ne_cls hgb hit (by rw [hi.1]; simp [gbObj])
  have d5 := ne_cls hgb hig (by simp [gbObj, igObj])
  have d6 := ne_cls hgb hdig (by simp [gbObj])
  have d7 := ne_cls hgb hT0 (by simp [gbObj, tup1Obj])
  have d8 := ne_cls hgb ht (by simp [gbObj, tupObj])
  have e1 := ne_cls hit hdgb (by rw [hi.1]; decide)
  have e2 := ne_cls hit hig (by rw [hi.1]; simp [igObj])
  have e3 := ne_cls hit hdig (by rw [hi.1]; decide)
  have e4 := ne_cls hit hT0 (by rw [hi.1]; simp [tup1Obj])
  have e5 := ne_cls hit ht (by rw [hi.1]; simp [tupObj])
  have e6 := ne_cls hit hgr (by rw [hi.1]; simp [grObj])
  have e7 := ne_cls hit hdgr (by rw [hi.1]; decide)
  have hN : ∀ p ∈ [(gb, gbObj dgb (.int c tc) .none .none (.bool false) (.bool false) htg (.ref it) (.ref ig) ser tg), (dgb, dictOf [] 0), (gr, grObj dgr (.int c tc') (.ref gb) (.int v' tv')), (dgr, dictOf [] 0), (it, io), (ig, igObj dig T0), (dig, dictOf [] 0), (T0, tup1Obj (.int 0 tz)), (t, tupObj (.int v' tv) (.int j ti))], s.heap.get? p.1 = some p.2 := by (repeat' (first | exact List.forall_mem_nil _ | refine List.forall_mem_cons.mpr ⟨?_, ?_⟩)) <;> first | assumption | simp [hgb, hdgb, hgr, hdgr, hit, hig, hdig, hT0, ht]
  refine wpAny_call ?_
  refine enterO hN (Frag.In.keeps X hb) (Top.keeps T hb).nolimit (by k_is) (by k_is) (by (clear hh T hb hl0 hgb hdgb hgr hdgr hig hdig hT0 hit hi hl hx ht1 ht2 h X ht d1 d2 d3 d4 d5 d6 d7 d8 e1 e2 e3 e4 e5 e6 e7 hN; lia)) (by exact BindsTo.of_eq rfl) (locs rfl) ?_ (by decide) rfl rfl rfl
  intro g L' h₁ W F N hsz
  have hbg := W.bas hb hl0
  have X1 := Frag.In.keeps X hbg
  have T1 := Top.keeps T hbg
  have hl1 := W.list hN hl (by simp [gbObj, grObj, igObj, tupObj, tup1Obj, hi.1, dictOf])
  refine wpAny_mono (E := fun _ _ => False) ?_ (fun _ _ h => h) (fun _ _ h => h.elim)
  dsimp only [gbObj, grObj, igObj, tupObj, tup1Obj] at N ⊢
  clear hN
  k_steps
  refine Hold.mk ?_
  (rename Fr _ _ _ _ => F'); (rename News _ _ _ _ => N')
  refine step_item (z := 0) (base := base) (dig := dig) (T0 := T0) (t := t) (by show A.depth + 1 + 1 < _; (clear hh T hb hl0 hgb hdgb hgr hdgr hig hdig hT0 hit hi hl hx ht1 ht2 h X ht d1 d2 d3 d4 d5 d6 d7 d8 e1 e2 e3 e4 e5 e6 e7 W hsz hbg X1 T1 hl1 F' N'; (assumption))) hh X T (fun b o e => F'.keep b o (hbg b o e)) (fun b hb' => hl0 b (by simp only [List.mem_cons, List.not_mem_nil, or_false] at hb' ⊢; rcases hb' with q | q | q | q | q | q | q <;> simp [q])) (N'.get (by k_mem)) (N'.get (by k_mem)) (N'.get (by k_mem)) (N'.get (by k_mem)) (N'.get (by k_mem)) (N'.get (by k_mem)) (N'.get (by k_mem)) hi (stays_list F'.keep hl1) hx d1 d4 d5 d6 d7 d8 e1 e2 e3 e4 e5 ?_
  intro h2 tk2 o2 k2 g1 i2 g2
  have hitL : L' ≠ it := fun q => (N' (it, io) (by k_mem)).2.1 q.symm
  have hgbL : L' ≠ gb := fun q => (N' (gb, _) (by k_mem)).2.1 q.symm
  have k3 : ∀ b o, b ∉ [gb, it] → _ := fun b o q => k2 b o (fun z => q (by simp [z])) (fun z => q (by simp [z]))
  have F2 := Fr.butl F' k3 (fun b hm => W.away b (by simp only [List.mem_cons, List.not_mem_nil, or_false] at hm; rcases hm with q | q <;> simp [q, fsts])) (by simp [hitL, hgbL])
  have N2 := News.butl N' k3 (news' := [(gb, gbObj dgb (.int c tc) (.int v' tv) (.ref t) (.bool true) (.bool true) htg (.ref it) (.ref ig) ser tg), (dgb, dictOf [] 0), (gr, grObj dgr (.int c tc') (.ref gb) (.int v' tv')), (dgr, dictOf [] 0), (it, o2), (ig, igObj dig T0), (dig, dictOf [] 0), (T0, tup1Obj (.int 0 tz)), (t, tupObj (.int v' tv) (.int j ti))]) (by
    (repeat' (first | exact List.forall_mem_nil _ | refine List.forall_mem_cons.mpr ⟨?_, ?_⟩))
    all_goals first | exact Or.inr ⟨g2, _, by k_mem⟩ | exact Or.inr ⟨g1, _, by k_mem⟩ | exact Or.inl ⟨by k_mem, notin2 (Ne.symm (by assumption)) (Ne.symm (by assumption))⟩)
  clear F' N' k2 k3
  dsimp only [gbObj, grObj, igObj, tupObj, tup1Obj] at N2 ⊢
  k_steps
  refine Hold.mk ?_
  (rename Fr _ _ _ _ => F'); (rename News _ _ _ _ => N')
  refine same_ints (base := base) (by show A.depth + 1 < _; (clear hh T hb hl0 hgb hdgb hgr hdgr hig hdig hT0 hit hi hl hx ht1 ht2 h X ht d1 d2 d3 d4 d5 d6 d7 d8 e1 e2 e3 e4 e5 e6 e7 W hsz hbg X1 T1 hl1 g1 i2 g2 hitL hgbL F' N'; (exact Nat.lt_of_succ_lt (by assumption)))) X T (fun b o e => F'.keep b o (hbg b o e)) ht2 ht1 (fun _ => rfl) ?_
  rw [beq_self_eq_true]
  intro h3 tk3 k3
  have F3 := F'.keeps k3
  have N3 := N'.grown k3
  clear F' N' k3
  k_steps
  (rename Fr _ _ _ _ => F'); (rename News _ _ _ _ => N')
  refine h _ _ o2 (W.all F'.keep ?_) (N'.get (by k_mem)) i2 (N'.get (by k_mem))
  simp only [fsts, List.map_cons, List.map_nil, List.mem_cons, List.not_mem_nil, or_false, forall_eq_or_imp, forall_eq, true_or, not_true_eq_false, or_true, false_implies, true_and, and_true]
  exact ⟨fun _ => ⟨_, hdgb, N'.get (by k_mem)⟩, fun _ => ⟨_, hgr, N'.get (by k_mem)⟩, fun _ => ⟨_, hdgr, N'.get (by k_mem)⟩, fun _ => ⟨_, hig, N'.get (by k_mem)⟩, fun _ => ⟨_, hdig, N'.get (by k_mem)⟩, fun _ => ⟨_, hT0, N'.get (by k_mem)⟩, fun _ => ⟨_, ht, N'.get (by k_mem)⟩⟩
theorem gn_other {w : World} {p : Program} {loose : List Str} {mean : ExcName → Option Value} {mg mb : Str → Option Value} {A : Around} {s : Shared} {base : Heap} {envs : List Env} {Q E : Value → Shared → Prop}
  {gb dgb it ig dig T0 t V gr dgr : Addr} {i : Nat} {items : Array Value} {io : Obj} {c : Int} {tc tc' : Tok} {v v' j : Int} {tv tv' tz ti : Tok} {htg ser tg : Value}
  (hA : A.depth + 2 < recursionLimit) (hh : A.handled = none) (X : (Two.hd.heap_1 w.params).In base) (T : Top p loose mean mg mb base) (B : Below A base envs s.heap) (hl0 : ∀ b ∈ [gb, dgb, gr, dgr, it, ig, dig, T0, t], base.get? b = none)
  (hgb : s.heap.get? gb = some (gbObj dgb (.int c tc) .none .none (.bool false) (.bool false) htg (.ref it) (.ref ig) ser tg)) (hdgb : s.heap.get? dgb = some (dictOf [] 0))
  (hgr : s.heap.get? gr = some (grObj dgr (.int c tc') (.ref gb) (.int v' tv'))) (hdgr : s.heap.get? dgr = some (dictOf [] 0))
  (hig : s.heap.get? ig = some (igObj dig T0)) (hdig : s.heap.get? dig = some (dictOf [] 0)) (hT0 : s.heap.get? T0 = some (tup1Obj (.int 0 tz))) (ht : s.heap.get? t = some (tupObj (.int v tv) (.int j ti)))
  (hit : s.heap.get? it = some io) (hi : LI io V i) (hl : s.heap.IsList V items) (hx : items[i]? = some (.ref t))
  (ht1 : tv ≠ 0) (ht2 : tv' ≠ 0) (hvv : v' ≠ v) (inj : tv' = tv → v' = v) (hfrm : ∀ b ∈ envs.filterMap (·.frame), b ∉ [gb, it])
  (hE : ∀ h' tk' e o', Flies [gb, it] envs e "StopIteration" [(gb, gbObj dgb (.int c tc) (.int v tv) (.ref t) (.bool true) (.bool true) htg (.ref it) (.ref ig) ser tg), (it, o')] s.heap h' → LI o' V (i + 1) → E (.ref e) {s with heap := h', toks := tk'}) :
  wpAny (model PySem.Challenge.rw_kp0009_02.row.prog w) A (call (.ref 165) [.ref gr]) Q E s := by
  revert X; w_top off; k_fill; intro X
  have hb := B.stays
  have d1 := ne_cls hgb hdgb (by simp [gbObj])
  have d2 := ne_cls hgb hgr (by simp [gbObj, grObj])
  have d3 := ne_cls hgb hdgr (by simp [gbObj])
  have d4 := ne_cls hgb hit (by rw [hi.1]; simp [gbObj])
  have d5 := ne_cls hgb hig (by simp [gbObj, igObj])
  have d6 := ne_cls hgb hdig (by simp [gbObj])
  have d7 := ne_cls hgb hT0 (by simp [gbObj, tup1Obj])
  have d8 := ne_cls hgb ht (by simp [gbObj, tupObj])
  have e1 := ne_cls hit hdgb (by rw [hi.1]; decide)
  have e2 := ne_cls hit hig (by rw [hi.1]; simp [igObj])
  have e3 := ne_cls hit hdig (by rw [hi.1]; decide)
  have e4 := ne_cls hit hT0 (by rw [hi.1]; simp [tup1Obj])
  have e5 := ne_cls hit ht (by rw [hi.1]; simp [tupObj])
  have e6 := ne_cls hit hgr (by rw [hi.1]; simp [grObj])
  have e7 := ne_cls hit hdgr (by rw [hi.1]; decide)
  have hN : ∀ p ∈ [(gb, gbObj dgb (.int c tc) .none .none (.bool false) (.bool false) htg (.ref it) (.ref ig) ser tg), (dgb, dictOf [] 0), (gr, grObj dgr (.int c tc') (.ref gb) (.int v' tv')), (dgr, dictOf [] 0), (it, io), (ig, igObj dig T0), (dig, dictOf [] 0), (T0, tup1Obj (.int 0 tz)), (t, tupObj (.int v tv) (.int j ti))], s.heap.get? p.1 = some p.2 := by (repeat' (first | exact List.forall_mem_nil _ | refine List.forall_mem_cons.mpr ⟨?_, ?_⟩)) <;> first | assumption | simp [hgb, hdgb, hgr, hdgr, hit, hig, hdig, hT0, ht]
  refine wpAny_call ?_
  refine enterO hN (Frag.In.keeps X hb) (Top.keeps T hb).nolimit (by k_is) (by k_is) (by (clear hh T B hl0 hgb hdgb hgr hdgr hig hdig hT0 ht hit hi hl hx ht1 ht2 hvv inj hfrm hE X hb d1 d2 d3 d4 d5 d6 d7 d8 e1 e2 e3 e4 e5 e6 e7 hN; lia)) (by exact BindsTo.of_eq rfl) (locs rfl) ?_ (by decide) rfl rfl rfl
  intro g L' h₁ W F N hsz
  have hbg := W.bas hb hl0
  have X1 := Frag.In.keeps X hbg
  have T1 := Top.keeps T hbg
  have hl1 := W.list hN hl (by simp [gbObj, grObj, igObj, tupObj, tup1Obj, hi.1, dictOf])
  dsimp only [gbObj, grObj, igObj, tupObj, tup1Obj] at N ⊢
  clear hN
  k_steps
  refine Hold.mk ?_
  (rename Fr _ _ _ _ => F'); (rename News _ _ _ _ => N')
  refine step_item (z := 0) (base := base) (dig := dig) (T0 := T0) (t := t) (by show A.depth + 1 + 1 < _; (clear hh T B hl0 hgb hdgb hgr hdgr hig hdig hT0 ht hit hi hl hx ht1 ht2 hvv inj hfrm hE X hb d1 d2 d3 d4 d5 d6 d7 d8 e1 e2 e3 e4 e5 e6 e7 W hsz hbg X1 T1 hl1 F' N'; (assumption))) hh X T (fun b o e => F'.keep b o (hbg b o e)) (fun b hb' => hl0 b (by simp only [List.mem_cons, List.not_mem_nil, or_false] at hb' ⊢; rcases hb' with q | q | q | q | q | q | q <;> simp [q])) (N'.get (by k_mem)) (N'.get (by k_mem)) (N'.get (by k_mem)) (N'.get (by k_mem)) (N'.get (by k_mem)) (N'.get (by k_mem)) (N'.get (by k_mem)) hi (stays_list F'.keep hl1) hx d1 d4 d5 d6 d7 d8 e1 e2 e3 e4 e5 ?_
  intro h2 tk2 o2 k2 g1 i2 g2
  have hitL : L' ≠ it := fun q => (N' (it, io) (by k_mem)).2.1 q.symm
  have hgbL : L' ≠ gb := fun q => (N' (gb, _) (by k_mem)).2.1 q.symm
  have k3 : ∀ b o, b ∉ [gb, it] → _ := fun b o q => k2 b o (fun z => q (by simp [z])) (fun z => q (by simp [z]))
  have F2 := Fr.butl F' k3 (fun b hm => W.away b (by simp only [List.mem_cons, List.not_mem_nil, or_false] at hm; rcases hm with q | q <;> simp [q, fsts])) (by simp [hitL, hgbL])
  have N2 := News.butl N' k3 (news' := [(gb, gbObj dgb (.int c tc) (.int v tv) (.ref t) (.bool true) (.bool true) htg (.ref it) (.ref ig) ser tg), (dgb, dictOf [] 0), (gr, grObj dgr (.int c tc') (.ref gb) (.int v' tv')), (dgr, dictOf [] 0), (it, o2), (ig, igObj dig T0), (dig, dictOf [] 0), (T0, tup1Obj (.int 0 tz)), (t, tupObj (.int v tv) (.int j ti))]) (by
    (repeat' (first | exact List.forall_mem_nil _ | refine List.forall_mem_cons.mpr ⟨?_, ?_⟩))
    all_goals first | exact Or.inr ⟨g2, _, by k_mem⟩ | exact Or.inr ⟨g1, _, by k_mem⟩ | exact Or.inl ⟨by k_mem, notin2 (Ne.symm (by assumption)) (Ne.symm (by assumption))⟩)
  clear F' N' k2 k3
  dsimp only [gbObj, grObj, igObj, tupObj, tup1Obj] at N2 ⊢
  k_steps
  refine Hold.mk ?_
  (rename Fr _ _ _ _ => F'); (rename News _ _ _ _ => N')
  refine same_ints (base := base) (by show A.depth + 1 < _; (clear hh T B hl0 hgb hdgb hgr hdgr hig hdig hT0 ht hit hi hl hx ht1 ht2 hvv inj hfrm hE X hb d1 d2 d3 d4 d5 d6 d7 d8 e1 e2 e3 e4 e5 e6 e7 W hsz hbg X1 T1 hl1 g1 i2 g2 hitL hgbL F' N'; (exact Nat.lt_of_succ_lt (by assumption)))) X T (fun b o e => F'.keep b o (hbg b o e)) ht2 ht1 inj ?_
  rw [show (v' == v) = false from by simpa using hvv]
  intro h3 tk3 k3
  have F3 := F'.keeps k3
  have N3 := N'.grown k3
  clear F' N' k3
  k_steps
  refine Hold.mk ?_
  (k_here; (with_reducible rename Fr _ _ _ _ => kF); k_dflt (refine' owsi_raiseC ?hh ?hx ?_; (case hh => assumption); (case hx => (refine' name_B kF ?k1 ?k2 ?k3 ?k4 ?k5 ?_; (case k1 => k_asm); (case k2 => k_asm); (case k3 => k_is); (case k4 => boot_by_name); (case k5 => decide); exact ⟨rfl, rfl⟩))); refine Hold.out ?_)
  (rename Fr _ _ _ _ => F'); (rename News _ _ _ _ => N')
  refine Hold.mk ?_
  (rename Fr _ _ _ _ => F'); (rename News _ _ _ _ => N')
  intro h5 e hm
  refine leave_made B (l := [gb, it]) (W.calm F'.keep ?_ ?_) (news := [(gb, gbObj dgb (.int c tc) (.int v tv) (.ref t) (.bool true) (.bool true) htg (.ref it) (.ref ig) ser tg), (it, o2)]) rfl rfl F'.ns hsz ?_ hm.of fun h6 hf => hE _ _ _ _ hf i2
  · simp only [fsts, List.map_cons, List.map_nil, List.mem_cons, List.not_mem_nil, or_false, forall_eq_or_imp, forall_eq, true_or, not_true_eq_false, or_true, false_implies, true_and]
    exact ⟨fun _ => ⟨_, hdgb, N'.get (by k_mem)⟩, fun _ => ⟨_, hgr, N'.get (by k_mem)⟩, fun _ => ⟨_, hdgr, N'.get (by k_mem)⟩, fun _ => ⟨_, hig, N'.get (by k_mem)⟩, fun _ => ⟨_, hdig, N'.get (by k_mem)⟩, fun _ => ⟨_, hT0, N'.get (by k_mem)⟩, fun _ => ⟨_, ht, N'.get (by k_mem)⟩⟩
  · intro b hm o e hnf
    rcases List.mem_cons.mp hm with rfl | hm
    · rw [hgb] at e; cases e; exact ⟨_, N'.get (by k_mem)⟩
    · obtain rfl := List.mem_singleton.mp hm
      rw [hit] at e; cases e; exact absurd hi.2 (hnf _)
  · intro p hp
    rcases List.mem_cons.mp hp with rfl | hp
    · exact ⟨N'.get (by k_mem), fun q => hgbL q.symm, fun z => hfrm _ z (by simp)⟩
    · obtain rfl := List.mem_singleton.mp hp
      exact ⟨N'.get (by k_mem), fun q => hitL q.symm, fun z => hfrm _ z (by simp)⟩
theorem gn_end {w : World} {p : Program} {loose : List Str} {mean : ExcName → Option Value} {mg mb : Str → Option Value} {A : Around} {s : Shared} {base : Heap} {envs : List Env} {Q E : Value → Shared → Prop}
  {gb dgb it ig V gr dgr : Addr} {i : Nat} {items : Array Value} {io : Obj} {c : Int} {tc tc' : Tok} {vv htg ser tg : Value}
  (hA : A.depth + 2 < recursionLimit) (hh : A.handled = none) (X : (Two.hd.heap_1 w.params).In base) (T : Top p loose mean mg mb base) (B : Below A base envs s.heap) (hl0 : ∀ b ∈ [gb, dgb, gr, dgr, it], base.get? b = none) (hfrm : ∀ b ∈ envs.filterMap (·.frame), b ∉ [gb, dgb, gr, dgr, it])
  (hgb : s.heap.get? gb = some (gbObj dgb (.int c tc) .none .none (.bool false) (.bool false) htg (.ref it) (.ref ig) ser tg)) (hdgb : s.heap.get? dgb = some (dictOf [] 0))
  (hgr : s.heap.get? gr = some (grObj dgr (.int c tc') (.ref gb) vv)) (hdgr : s.heap.get? dgr = some (dictOf [] 0))
  (hit : s.heap.get? it = some io) (hi : (LI io V i ∧ s.heap.IsList V items ∧ items[i]? = none) ∨ DI io)
  (hE : ∀ h' tk' e o', Flies [it] envs e "StopIteration" [(it, o')] s.heap h' → DI o' → E (.ref e) {s with heap := h', toks := tk'}) :
  wpAny (model PySem.Challenge.rw_kp0009_02.row.prog w) A (call (.ref 165) [.ref gr]) Q E s := by
  revert X; w_top off; k_fill; intro X
  have hb := B.stays
  have hic : io.cls = .type "list_iterator" := by rcases hi with hi | hi; exact hi.1.1; exact hi.1
  have d1 := ne_cls hgb hdgb (by simp [gbObj])
  have d2 := ne_cls hgb hgr (by simp [gbObj, grObj])
  have d3 := ne_cls hgb hdgr (by simp [gbObj])
  have d4 := ne_cls hgb hit (by rw [hic]; simp [gbObj])
  have e1 := ne_cls hit hdgb (by rw [hic]; decide)
  have hN : ∀ p ∈ [(gb, gbObj dgb (.int c tc) .none .none (.bool false) (.bool false) htg (.ref it) (.ref ig) ser tg), (dgb, dictOf [] 0), (gr, grObj dgr (.int c tc') (.ref gb) vv), (dgr, dictOf [] 0), (it, io)], s.heap.get? p.1 = some p.2 := by (repeat' (first | exact List.forall_mem_nil _ | refine List.forall_mem_cons.mpr ⟨?_, ?_⟩)) <;> first | assumption | simp [hgb, hdgb, hgr, hdgr, hit]
  refine wpAny_call ?_
  refine enterO hN (Frag.In.keeps X hb) (Top.keeps T hb).nolimit (by k_is) (by k_is) (by (clear hh T B hl0 hfrm hgb hdgb hgr hdgr hit hi hE X hb hic d1 d2 d3 d4 e1 hN; lia)) (by exact BindsTo.of_eq rfl) (locs rfl) ?_ (by decide) rfl rfl rfl
  intro g L' h₁ W F N hsz
  have hbg := W.bas hb hl0
  have X1 := Frag.In.keeps X hbg
  have T1 := Top.keeps T hbg
  have hi1 : (LI io V i ∧ g.IsList V items ∧ items[i]? = none) ∨ DI io := hi.imp (fun z => ⟨z.1, W.list hN z.2.1 (by simp [gbObj, grObj, dictOf, hic]), z.2.2⟩) id
  dsimp only [gbObj, grObj] at N ⊢
  clear hN
  k_steps
  refine Hold.mk ?_
  (rename Fr _ _ _ _ => F'); (rename News _ _ _ _ => N')
  have Bg := W.below B (l := fsts [(gb, gbObj dgb (.int c tc) .none .none (.bool false) (.bool false) htg (.ref it) (.ref ig) ser tg), (dgb, dictOf [] 0), (gr, grObj dgr (.int c tc') (.ref gb) vv), (dgr, dictOf [] 0), (it, io)]) hfrm hl0
  refine step_end (base := base) (items := items) (V := V) (i := i) (by show A.depth + 1 + 1 < _; (clear hh T B hl0 hfrm hgb hdgb hgr hdgr hit hi hE X hb hic d1 d2 d3 d4 e1 W hsz hbg X1 T1 hi1 F' N' Bg; (assumption))) hh (pushX Bg F' rfl rfl) X T (fun b hb' => hl0 b (by simp only [List.mem_cons, List.not_mem_nil, or_false] at hb' ⊢; rcases hb' with q | q | q <;> simp [q])) ?_ (N'.get (by k_mem)) (N'.get (by k_mem)) (N'.get (by k_mem)) (hi1.imp (fun z => ⟨z.1, stays_list F'.keep z.2.1, z.2.2⟩) id) d1 d4 e1 ?_
  · intro b hb' hm
    simp only [List.mem_cons, List.not_mem_nil, or_false] at hm
    rcases List.mem_cons.mp hb' with q | q
    · rcases hm with rfl | rfl | rfl
      · exact (N' (b, _) (by k_mem)).2.1 q
      · exact (N' (b, dictOf [] 0) (by k_mem)).2.1 q
      · exact (N' (b, io) (by k_mem)).2.1 q
    · exact hfrm b q (by rcases hm with q | q | q <;> simp [q])
  intro h2 tk2 e o2 hf di
  refine leave_on (l := [it]) B (W.calm F'.keep ?_ ?_) rfl hsz (fun b hm => Or.inl hm) hf fun h3 hf3 => hE _ _ _ _ hf3 di
  · simp only [fsts, List.map_cons, List.map_nil, List.mem_cons, List.not_mem_nil, or_false, forall_eq_or_imp, forall_eq, true_or, not_true_eq_false, or_true, false_implies, true_and, and_true]
    exact ⟨fun _ => ⟨_, hgb, N'.get (by k_mem)⟩, fun _ => ⟨_, hdgb, N'.get (by k_mem)⟩, fun _ => ⟨_, hgr, N'.get (by k_mem)⟩, fun _ => ⟨_, hdgr, N'.get (by k_mem)⟩⟩
  · intro b hm o e hnf
    obtain rfl := List.mem_singleton.mp hm
    rw [hit] at e; cases e
    rcases hi with ⟨z, _⟩ | ⟨_, v, z⟩
    · exact absurd z.2 (hnf _)
    · exact absurd z (hnf _)
end Two
end
local macro_rules | `(tactic| walk_at "pad 4") => `(tactic| fail)
local macro_rules | `(tactic| walk_at "pad 5") => `(tactic| fail)
local macro_rules | `(tactic| walk_at "pad 6") => `(tactic| fail)
local macro_rules | `(tactic| walk_at "pad 7") => `(tactic| fail)
local macro_rules | `(tactic| walk_at "pad 8") => `(tactic| fail)
section
open PySem PySem.W PySem.Calls PyProof.Rows PyProof.Rows.TI
set_option maxRecDepth 100000
set_option maxHeartbeats 8000000
open Mine
namespace Two
/-- __iter__ of the own iterators: the object itself -/
theorem gr_iter {w : World} {p : Program} {loose : List Str} {mean : ExcName → Option Value} {mg mb : Str → Option Value} {A : Around} {s : Shared} {base : Heap} {Q E : Value → Shared → Prop} {x : Addr}
  (hA : A.depth < recursionLimit) (X : (Two.hd.heap_1 w.params).In base) (T : Top p loose mean mg mb base) (hb : ∀ b o, base.get? b = some o → s.heap.get? b = some o)
  (h : ∀ h' tk', (∀ b o, s.heap.get? b = some o → h'.get? b = some o) → Q (.ref x) {s with heap := h', toks := tk'}) :
  wpAny (model PySem.Challenge.rw_kp0009_02.row.prog w) A (call (.ref 158) [.ref x]) Q E s := by
  revert X; w_top off; k_fill; intro X
  have X1 := Frag.In.keeps X hb
  refine wpAny_call ?_
  refine enterP X1 (Top.keeps T hb).nolimit (by k_is) (by k_is) hA (by exact BindsTo.of_eq rfl) (locs rfl) ?_ (by decide) rfl rfl rfl
  intro L' h₁ F N
  refine wpAny_mono (E := fun _ _ => False) ?_ (fun _ _ h => h) (fun _ _ h => h.elim)
  dsimp only
  k_steps
  (rename Fr _ _ _ _ => F')
  exact h _ _ F'.keep
theorem gb_iter {w : World} {p : Program} {loose : List Str} {mean : ExcName → Option Value} {mg mb : Str → Option Value} {A : Around} {s : Shared} {base : Heap} {Q E : Value → Shared → Prop} {x : Addr}
  (hA : A.depth < recursionLimit) (X : (Two.hd.heap_1 w.params).In base) (T : Top p loose mean mg mb base) (hb : ∀ b o, base.get? b = some o → s.heap.get? b = some o)
  (h : ∀ h' tk', (∀ b o, s.heap.get? b = some o → h'.get? b = some o) → Q (.ref x) {s with heap := h', toks := tk'}) :
  wpAny (model PySem.Challenge.rw_kp0009_02.row.prog w) A (call (.ref 106) [.ref x]) Q E s := by
  revert X; w_top off; k_fill; intro X
  have X1 := Frag.In.keeps X hb
  refine wpAny_call ?_
  refine enterP X1 (Top.keeps T hb).nolimit (by k_is) (by k_is) hA (by exact BindsTo.of_eq rfl) (locs rfl) ?_ (by decide) rfl rfl rfl
  intro L' h₁ F N
  refine wpAny_mono (E := fun _ _ => False) ?_ (fun _ _ h => h) (fun _ _ h => h.elim)
  dsimp only
  k_steps
  (rename Fr _ _ _ _ => F')
  exact h _ _ F'.keep
theorem cn_iter {w : World} {p : Program} {loose : List Str} {mean : ExcName → Option Value} {mg mb : Str → Option Value} {A : Around} {s : Shared} {base : Heap} {Q E : Value → Shared → Prop} {x : Addr}
  (hA : A.depth < recursionLimit) (X : (Two.hd.heap_1 w.params).In base) (T : Top p loose mean mg mb base) (hb : ∀ b o, base.get? b = some o → s.heap.get? b = some o)
  (h : ∀ h' tk', (∀ b o, s.heap.get? b = some o → h'.get? b = some o) → Q (.ref x) {s with heap := h', toks := tk'}) :
  wpAny (model PySem.Challenge.rw_kp0009_02.row.prog w) A (call (.ref 204) [.ref x]) Q E s := by
  revert X; w_top off; k_fill; intro X
  have X1 := Frag.In.keeps X hb
  refine wpAny_call ?_
  refine enterP X1 (Top.keeps T hb).nolimit (by k_is) (by k_is) hA (by exact BindsTo.of_eq rfl) (locs rfl) ?_ (by decide) rfl rfl rfl
  intro L' h₁ F N
  refine wpAny_mono (E := fun _ _ => False) ?_ (fun _ _ h => h) (fun _ _ h => h.elim)
  dsimp only
  k_steps
  (rename Fr _ _ _ _ => F')
  exact h _ _ F'.keep
/-- what stands still while groupby runs: the sorted rows, the key's getter -/
structure GW (h : Heap) (dgb ig dig T0 V : Addr) (tz : Tok) (n : Nat) (ta : Nat → Addr) (vs : Nat → Int) (tv : Nat → Tok) (ps : Nat → Int) (tp : Nat → Tok) : Prop where
  hdgb : h.get? dgb = some (dictOf [] 0)
  hig : h.get? ig = some (igObj dig T0)
  hdig : h.get? dig = some (dictOf [] 0)
  hT0 : h.get? T0 = some (tup1Obj (.int 0 tz))
  hV : h.IsList V ((List.range n).map fun k => Value.ref (ta k)).toArray
  tup : ∀ k, k < n → h.get? (ta k) = some (tupObj (.int (vs k) (tv k)) (.int (ps k) (tp k)))
def GIn (dgb ig dig T0 V : Addr) (n : Nat) (ta : Nat → Addr) (b : Addr) : Prop := b ∈ [dgb, ig, dig, T0, V] ∨ ∃ k, k < n ∧ b = ta k
section
variable {h h' : Heap} {gb dgb it ig dig T0 V : Addr} {tz : Tok} {n : Nat} {ta : Nat → Addr} {vs : Nat → Int} {tv : Nat → Tok} {ps : Nat → Int} {tp : Nat → Tok}
theorem GW.move (G : GW h dgb ig dig T0 V tz n ta vs tv ps tp) (k : ∀ b o, GIn dgb ig dig T0 V n ta b → h.get? b = some o → h'.get? b = some o) : GW h' dgb ig dig T0 V tz n ta vs tv ps tp :=
  ⟨k _ _ (.inl (by first | k_mem | simp)) G.hdgb, k _ _ (.inl (by first | k_mem | simp)) G.hig, k _ _ (.inl (by first | k_mem | simp)) G.hdig, k _ _ (.inl (by first | k_mem | simp)) G.hT0, G.hV.at fun o e => k _ _ (.inl (by first | k_mem | simp)) e, fun j hj => k _ _ (.inr ⟨j, hj, rfl⟩) (G.tup j hj)⟩
theorem GW.apart (G : GW h dgb ig dig T0 V tz n ta vs tv ps tp) {x : Addr} {ox : Obj} (e : h.get? x = some ox) (hc : ox.cls = .ref 124 ∨ ox.cls = .type "list_iterator" ∨ ox.cls = .ref 169) : ∀ b, GIn dgb ig dig T0 V n ta b → b ≠ x := by
  rintro b (hb | ⟨k, hk, rfl⟩) rfl
  · simp only [List.mem_cons, List.not_mem_nil, or_false] at hb
    rcases hb with rfl | rfl | rfl | rfl | rfl
    · rw [G.hdgb] at e; cases e; revert hc; decide
    · rw [G.hig] at e; cases e; revert hc; simp [igObj]
    · rw [G.hdig] at e; cases e; revert hc; decide
    · rw [G.hT0] at e; cases e; revert hc; simp [tup1Obj]
    · obtain ⟨o, e1, e2, _⟩ := G.hV
      rw [e1] at e; cases e; rw [e2] at hc; revert hc; decide
  · rw [G.tup k hk] at e; cases e; revert hc; simp [tupObj]
theorem GW.item (_ : GW h dgb ig dig T0 V tz n ta vs tv ps tp) {i : Nat} (hi : i < n) : (((List.range n).map fun k => Value.ref (ta k)).toArray)[i]? = some (Value.ref (ta i)) := by
  rw [List.getElem?_toArray, List.getElem?_map, List.getElem?_range hi]; rfl
theorem GW.past (_ : GW h dgb ig dig T0 V tz n ta vs tv ps tp) : (((List.range n).map fun k => Value.ref (ta k)).toArray)[n]? = none := by
  rw [List.getElem?_toArray, List.getElem?_map, List.getElem?_eq_none (by first | k_mem | simp)]; rfl
end
end Two
end
section
open PySem PySem.W PySem.Calls PyProof.Rows PyProof.Rows.TI
set_option maxRecDepth 100000
set_option maxHeartbeats 8000000
open Mine
namespace Two
inductive LgInv (s : Shared) (gb it S : Addr) (frs : List Addr) (O1 O2 io : Obj) (V : Addr) (a : Nat) (ta : Nat → Addr) (i : Nat) (acc : List Value) (s' : Shared) : Prop
  | mk (h' : Heap) (tk' : Nat) : s' = { s with heap := h', toks := tk' } → acc = ((List.range i).map fun k => Value.ref (ta (a + k))) → listAt S acc h' → Calm [gb, it] frs s.heap h' → (i = 0 → h'.get? gb = some O1 ∧ h'.get? it = some io) →
      (0 < i → h'.get? gb = some O2 ∧ ∃ io', h'.get? it = some io' ∧ LI io' V (a + i)) → LgInv s gb it S frs O1 O2 io V a ta i acc s'
inductive LgFin (s : Shared) (gb it S : Addr) (frs : List Addr) (O1 O2 : Obj) (V : Addr) (a b n : Nat) (ta : Nat → Addr) (acc : List Value) (s' : Shared) : Prop
  | mk (h' : Heap) (tk' : Nat) : s' = { s with heap := h', toks := tk' } → acc = ((List.range (b - a)).map fun k => Value.ref (ta (a + k))) → listAt S acc h' → Calm [gb, it] frs s.heap h' → (b < n → h'.get? gb = some O1 ∧ ∃ io', h'.get? it = some io' ∧ LI io' V (b + 1)) →
      (b = n → h'.get? gb = some O2 ∧ ∃ io', h'.get? it = some io' ∧ DI io') → LgFin s gb it S frs O1 O2 V a b n ta acc s'
theorem list_group {w : World} {p : Program} {loose : List Str} {mean : ExcName → Option Value} {mg mb : Str → Option Value} {A : Around} {s : Shared} {base : Heap} {envs : List Env} {Q E : Value → Shared → Prop}
  {gb dgb it ig dig T0 V gr dgr : Addr} {tz : Tok} {n : Nat} {ta : Nat → Addr} {vs : Nat → Int} {tv : Nat → Tok} {ps : Nat → Int} {tp : Nat → Tok} {a b : Nat} {c : Int} {tc tc' : Tok} {htg ser tg : Value} {io : Obj}
  (hA : A.depth + 2 < recursionLimit) (hh : A.handled = none) (X : (Two.hd.heap_1 w.params).In base) (T : Top p loose mean mg mb base) (B : Below A base envs s.heap)
  (hl0 : ∀ x, GIn dgb ig dig T0 V n ta x ∨ x ∈ [gb, it, gr, dgr] → base.get? x = none) (hfrm : ∀ x ∈ envs.filterMap (·.frame), ¬ GIn dgb ig dig T0 V n ta x ∧ x ∉ [gb, it, gr, dgr])
  (G : GW s.heap dgb ig dig T0 V tz n ta vs tv ps tp)
  (hgb : s.heap.get? gb = some (gbObj dgb (.int c tc) (.int (vs a) (tv a)) (.ref (ta a)) (.bool true) (.bool true) htg (.ref it) (.ref ig) ser tg))
  (hgr : s.heap.get? gr = some (grObj dgr (.int c tc') (.ref gb) (.int (vs a) (tv a)))) (hdgr : s.heap.get? dgr = some (dictOf [] 0))
  (hit : s.heap.get? it = some io) (hi : LI io V (a + 1)) (hab : a < b) (hbn : b ≤ n) (hn : n ≤ sizeLine)
  (htk : ∀ k, k < n → tv k ≠ 0) (inj : ∀ j k, j < n → k < n → tv j = tv k → vs j = vs k) (hsame : ∀ k, a ≤ k → k < b → vs k = vs a) (hnext : b < n → vs b ≠ vs a)
  (h : ∀ h' tk' S, Calm [gb, it] (envs.filterMap (·.frame)) s.heap h' → s.heap.get? S = none → listAt S ((List.range (b - a)).map fun k => Value.ref (ta (a + k))) h' →
    (b < n → h'.get? gb = some (gbObj dgb (.int c tc) (.int (vs b) (tv b)) (.ref (ta b)) (.bool true) (.bool true) htg (.ref it) (.ref ig) ser tg) ∧ ∃ io', h'.get? it = some io' ∧ LI io' V (b + 1)) →
    (b = n → h'.get? gb = some (gbObj dgb (.int c tc) .none .none (.bool false) (.bool false) htg (.ref it) (.ref ig) ser tg) ∧ ∃ io', h'.get? it = some io' ∧ DI io') → Q (.ref S) {s with heap := h', toks := tk'}) :
  wpAny (model PySem.Challenge.rw_kp0009_02.row.prog w) A (call (.type "list") [.ref gr]) Q E s := by
  revert X; w_top off; k_fill; intro X
  have hS0 : s.heap.get? s.heap.objs.size = none := Heap.get?_none_of_le (Nat.le_refl _)
  have neS : ∀ {x o}, s.heap.get? x = some o → x ≠ s.heap.objs.size := fun {x o} e q => by rw [q, hS0] at e; cases e
  have dgi := ne_cls hgb hit (by rw [hi.1]; simp [gbObj])
  have dgg := ne_cls hgb hgr (by simp [gbObj, grObj])
  have dgd := ne_cls hgb hdgr (by simp [gbObj])
  have dig' := ne_cls hit hgr (by rw [hi.1]; simp [grObj])
  have did := ne_cls hit hdgr (by rw [hi.1]; decide)
  have Gg := G.apart hgb (.inl rfl)
  have Gi := G.apart hit (.inr (.inl hi.1))
  have hSf : s.heap.objs.size ∉ envs.filterMap (·.frame) := fun hm => by
    obtain ⟨o, e⟩ := Below.has B _ hm
    exact neS e rfl
  have hC2 : ∀ x ∈ [gb, it], base.get? x = none := fun x hx => hl0 x (.inr (by rcases List.mem_cons.mp hx with q | q; simp [q]; simp [List.mem_singleton.mp q]))
  have hf2 : ∀ x ∈ envs.filterMap (·.frame), x ∉ [gb, it] := fun x hx hm => (hfrm x hx).2 (by rcases List.mem_cons.mp hm with q | q; simp [q]; simp [List.mem_singleton.mp q])
  have kC : ∀ {h' : Heap}, Calm [gb, it] (envs.filterMap (·.frame)) s.heap h' → GW h' dgb ig dig T0 V tz n ta vs tv ps tp ∧ h'.get? gr = some (grObj dgr (.int c tc') (.ref gb) (.int (vs a) (tv a))) ∧ h'.get? dgr = some (dictOf [] 0) ∧ Below A base envs h' := fun {h'} C =>
    ⟨G.move fun x o g e => C.rest x o (notin2 (Gg x g) (Gi x g)) (fun hm => (hfrm x hm).1 g) e,
     C.rest _ _ (notin2 (Ne.symm dgg) (Ne.symm dig')) (fun hm => (hfrm _ hm).2 (by first | k_mem | simp)) hgr, C.rest _ _ (notin2 (Ne.symm dgd) (Ne.symm did)) (fun hm => (hfrm _ hm).2 (by first | k_mem | simp)) hdgr, Below.calm B C hC2 rfl⟩
  have hl9 : ∀ x ∈ [gb, dgb, gr, dgr, it, ig, dig, T0], base.get? x = none := fun x hx => by
    simp only [List.mem_cons, List.not_mem_nil, or_false] at hx
    rcases hx with q | q | q | q | q | q | q | q <;> rw [q]
    · exact hl0 _ (.inr (by first | k_mem | simp))
    · exact hl0 _ (.inl (.inl (by first | k_mem | simp)))
    · exact hl0 _ (.inr (by first | k_mem | simp))
    · exact hl0 _ (.inr (by first | k_mem | simp))
    · exact hl0 _ (.inr (by first | k_mem | simp))
    · exact hl0 _ (.inl (.inl (by first | k_mem | simp)))
    · exact hl0 _ (.inl (.inl (by first | k_mem | simp)))
    · exact hl0 _ (.inl (.inl (by first | k_mem | simp)))
  have hl9t : ∀ k, k < n → ∀ x ∈ [gb, dgb, gr, dgr, it, ig, dig, T0, ta k], base.get? x = none := fun k hk x hx => by
    by_cases q : x = ta k
    · exact hl0 _ (.inl (.inr ⟨k, hk, q⟩))
    · exact hl9 x (by simp only [List.mem_cons, List.not_mem_nil, or_false] at hx ⊢; simpa [q] using hx)
  refine list_any (I := gr) (n := b - a) (T := .ref 169)
    (J := fun s' => ∃ h' tk', s' = { s with heap := h', toks := tk' } ∧ (∀ x o, s.heap.get? x = some o → h'.get? x = some o) ∧ listAt s.heap.objs.size [] h')
    (Inv := LgInv s gb it s.heap.objs.size (envs.filterMap (·.frame)) (gbObj dgb (.int c tc) (.int (vs a) (tv a)) (.ref (ta a)) (.bool true) (.bool true) htg (.ref it) (.ref ig) ser tg) (gbObj dgb (.int c tc) .none .none (.bool false) (.bool false) htg (.ref it) (.ref ig) ser tg) io V a ta)
    (Fin := LgFin s gb it s.heap.objs.size (envs.filterMap (·.frame)) (gbObj dgb (.int c tc) (.int (vs b) (tv b)) (.ref (ta b)) (.bool true) (.bool true) htg (.ref it) (.ref ig) ser tg) (gbObj dgb (.int c tc) .none .none (.bool false) (.bool false) htg (.ref it) (.ref ig) ser tg) V a b n ta)
    ⟨?item, ?done⟩ (by (clear hA hh T B hl0 hfrm G hgb hgr hdgr hit hi htk inj hsame hnext h X hS0 neS dgi dgg dgd dig' did Gg Gi hSf hC2 hf2 kC hl9 hl9t; lia)) (fun q => neS hgr q.symm) ?hT rfl rfl ?hit ?hlen ?hJ ?hQ
  case hT =>
    intro s' Q E k hq
    exact own_type (C := 169) (od := some (dictOf [] 0)) ⟨(k gr (neS hgr)).trans hgr, rfl, by rfl, (k dgr (neS hdgr)).trans hdgr⟩ hq
  case hit =>
    intro h' k _ hS
    have st : ∀ x o, s.heap.get? x = some o → h'.get? x = some o := fun x o e => (k x (neS e)).trans e
    refine own_iter (C := 169) (f := 158) (g := .ref 165) (od := some (dictOf [] 0)) (Frag.In.keeps X fun x o e => st x o (B.stays x o e)) ⟨st _ _ hgr, rfl, by rfl, st _ _ hdgr⟩ (by k_is) (by k_is) (by k_is) ?_
    intro Q' hQ'
    refine gr_iter (base := base) (by show A.depth < _; (clear hh T B hl0 hfrm G hgb hgr hdgr hit hi hab hbn hn htk inj hsame hnext h X hS0 neS dgi dgg dgd dig' did Gg Gi hSf hC2 hf2 kC hl9 hl9t k hS st hQ'; lia)) X T (fun x o e => st x o (B.stays x o e)) fun h2 tk2 k2 => ?_
    obtain ⟨cc, hc⟩ := hS
    exact hQ' _ (Frag.In.keeps X fun x o e => k2 _ _ (st x o (B.stays x o e))) ⟨k2 _ _ (st _ _ hgr), rfl, by rfl, k2 _ _ (st _ _ hdgr)⟩ ⟨rfl, h2, tk2, rfl, fun x o e => k2 _ _ (st x o e), cc, k2 _ _ hc⟩
  case hlen =>
    rintro s' Q E ⟨h', tk', rfl, st, _⟩ hq
    exact own_hint (C := 169) (od := some (dictOf [] 0)) (Frag.In.keeps X fun x o e => st x o (B.stays x o e)) ⟨st _ _ hgr, rfl, by rfl, st _ _ hdgr⟩ (by k_is) (by k_is) hq
  case hJ =>
    rintro s' ⟨h', tk', rfl, st, hS⟩
    refine ⟨hS, fun h2 k2 _ hS2 => ⟨h2, tk', rfl, rfl, hS2, ?_, fun _ => ?_, fun q => absurd q (Nat.lt_irrefl _)⟩⟩
    · exact (Calm.of_keeps st).offS k2 hS0
    · exact ⟨(k2 _ (neS hgb)).trans (st _ _ hgb), (k2 _ (neS hit)).trans (st _ _ hit)⟩
  case hQ =>
    rintro acc s' hl ⟨h', tk', rfl, rfl, hS, C, f1, f2⟩
    exact h h' tk' _ C hS0 hS f1 f2
  case item =>
    rintro i acc s' hlt ⟨h', tk', rfl, rfl, ⟨cc, hS⟩, C, i0, i1⟩
    obtain ⟨G', hgr', hdgr', B'⟩ := kC C
    have hin : a + i < n := by (clear hA hh T B hl0 hfrm G hgb hgr hdgr hit hi hn htk inj hsame hnext h X hS0 neS dgi dgg dgd dig' did Gg Gi hSf hC2 hf2 kC hl9 hl9t hS C G' hgr' hdgr' B'; omega)
    refine own_next (C := 169) (f := 165) (od := some (dictOf [] 0)) (Frag.In.keeps X B'.stays) ⟨hgr', rfl, by rfl, hdgr'⟩ (by k_is) (by k_is) ?_
    have fin : ∀ (h2 : Heap) (tk2 : Nat), Calm [gb, it] (envs.filterMap (·.frame)) s.heap h2 → listAt s.heap.objs.size ((List.range i).map fun k => Value.ref (ta (a + k))) h2 →
        h2.get? gb = some (gbObj dgb (.int c tc) .none .none (.bool false) (.bool false) htg (.ref it) (.ref ig) ser tg) → (∃ io', h2.get? it = some io' ∧ LI io' V (a + (i + 1))) →
        ∃ v, some (Value.ref (ta (a + i))) = some v ∧ listAt s.heap.objs.size ((List.range i).map fun k => Value.ref (ta (a + k))) h2 ∧ ∀ h3 : Heap, (∀ x, x ≠ s.heap.objs.size → h3.get? x = h2.get? x) → h3.objs.size = h2.objs.size →
          listAt s.heap.objs.size (((List.range i).map fun k => Value.ref (ta (a + k))) ++ [v]) h3 → LgInv s gb it s.heap.objs.size (envs.filterMap (·.frame)) (gbObj dgb (.int c tc) (.int (vs a) (tv a)) (.ref (ta a)) (.bool true) (.bool true) htg (.ref it) (.ref ig) ser tg) (gbObj dgb (.int c tc) .none .none (.bool false) (.bool false) htg (.ref it) (.ref ig) ser tg) io V a ta (i + 1) (((List.range i).map fun k => Value.ref (ta (a + k))) ++ [v]) { { s with heap := h2, toks := tk2 } with heap := h3 } := by
      rintro h2 tk2 C2 hS2 g2 ⟨io', g3, i3⟩
      refine ⟨_, rfl, hS2, fun h3 k3 _ hS3 => ⟨h3, tk2, rfl, ?_, hS3, C2.offS k3 hS0, fun q => absurd q (Nat.succ_ne_zero _), fun _ => ⟨(k3 _ (neS hgb)).trans g2, io', (k3 _ (neS hit)).trans g3, i3⟩⟩⟩
      rw [List.range_succ, List.map_append]; rfl
    rcases Nat.eq_zero_or_pos i with rfl | hpos
    · obtain ⟨g1, g2⟩ := i0 rfl
      refine gn_first (base := base) (by show A.depth + 1 < _; (clear hh T B hl0 hfrm G hgb hgr hdgr hit hi hab hbn hn htk inj hsame hnext h X hS0 neS dgi dgg dgd dig' did Gg Gi hSf hC2 hf2 kC hl9 hl9t C G' hgr' hdgr' B' hlt hS i0 i1 hin fin g1 g2; (exact Nat.lt_of_succ_lt (by assumption)))) X T B'.stays (fun x hx => hl9 x (by simp only [List.mem_cons, List.not_mem_nil, or_false] at hx ⊢; rcases hx with q | q | q | q <;> simp [q])) g1 G'.hdgb hgr' hdgr' (htk a (by (clear hA hh T B hl0 hfrm G hgb hgr hdgr hit hi hab hbn hn htk inj hsame hnext h X hS0 neS dgi dgg dgd dig' did Gg Gi hSf hC2 hf2 kC hl9 hl9t C G' hgr' hdgr' B' hlt hS i0 i1 fin g1 g2; (assumption)))) (htk a (by (clear hA hh T B hl0 hfrm G hgb hgr hdgr hit hi hab hbn hn htk inj hsame hnext h X hS0 neS dgi dgg dgd dig' did Gg Gi hSf hC2 hf2 kC hl9 hl9t C G' hgr' hdgr' B' hlt hS i0 i1 fin g1 g2; (assumption)))) ?_
      intro h2 tk2 k2 g3
      have C2 : Calm [gb, it] (envs.filterMap (·.frame)) h' h2 := Calm.strict (fun x o q e => k2 x o (fun z => q (by simp [z])) e) fun x hx o e hnf => by
        rcases List.mem_cons.mp hx with rfl | hx
        · rw [g1] at e; cases e; exact ⟨_, g3⟩
        · obtain rfl := List.mem_singleton.mp hx
          exact ⟨o.slots, k2 _ _ (Ne.symm dgi) e⟩
      exact fin h2 tk2 (C.trans C2) ⟨cc, k2 _ _ (Ne.symm (neS hgb)) hS⟩ g3 ⟨io, k2 _ _ (Ne.symm dgi) g2, hi⟩
    · obtain ⟨g1, io1, g2, hi1⟩ := i1 hpos
      refine gn_more (base := base) (dig := dig) (T0 := T0) (t := ta (a + i)) (by show A.depth + 2 < _; (clear hh T B hl0 hfrm G hgb hgr hdgr hit hi hab hbn hn htk inj hsame hnext h X hS0 neS dgi dgg dgd dig' did Gg Gi hSf hC2 hf2 kC hl9 hl9t hlt hS C i0 i1 G' hgr' hdgr' B' hin fin hpos g1 g2 hi1; (assumption))) hh X T B'.stays (hl9t _ hin) g1 G'.hdgb hgr' hdgr' G'.hig G'.hdig G'.hT0 (G'.tup _ hin) g2 hi1 G'.hV (G'.item hin) (htk _ hin) (htk a (by (clear hA hh T B hl0 hfrm G hgb hgr hdgr hit hi hn htk inj hsame hnext h X hS0 neS dgi dgg dgd dig' did Gg Gi hSf hC2 hf2 kC hl9 hl9t hlt hS C i0 i1 G' hgr' hdgr' B' hin fin hpos g1 g2 hi1; (exact Nat.lt_of_lt_of_le (by assumption) (by assumption))))) (hsame _ (by (clear hA hh T B hl0 hfrm G hgb hgr hdgr hit hi hab hbn hn htk inj hsame hnext h X hS0 neS dgi dgg dgd dig' did Gg Gi hSf hC2 hf2 kC hl9 hl9t hlt hS C i0 i1 G' hgr' hdgr' B' hin fin g1 g2 hi1; (exact Nat.le_add_right _ _))) (by (clear hA hh T B hl0 hfrm G hgb hgr hdgr hit hi hbn hn htk inj hsame hnext h X hS0 neS dgi dgg dgd dig' did Gg Gi hSf hC2 hf2 kC hl9 hl9t hS C G' hgr' hdgr' B' hin fin g1 g2 hi1; omega))).symm ?_
      intro h2 tk2 o2 k2 g3 i3 g4
      have C2 : Calm [gb, it] (envs.filterMap (·.frame)) h' h2 := Calm.strict k2 fun x hx o e hnf => by
        rcases List.mem_cons.mp hx with rfl | hx
        · rw [g1] at e; cases e; exact ⟨_, g4⟩
        · obtain rfl := List.mem_singleton.mp hx
          rw [g2] at e; cases e; exact absurd hi1.2 (hnf _)
      exact fin h2 tk2 (C.trans C2) ⟨cc, k2 _ _ (notin2 (Ne.symm (neS hgb)) (Ne.symm (neS hit))) hS⟩ g4 ⟨o2, g3, i3⟩
  case done =>
    rintro acc s' ⟨h', tk', rfl, rfl, ⟨cc, hS⟩, C, _, i1⟩
    obtain ⟨G', hgr', hdgr', B'⟩ := kC C
    obtain ⟨g1, io1, g2, hi1⟩ := i1 (by (clear hA hh T B hl0 hfrm G hgb hgr hdgr hit hi hbn hn htk inj hsame hnext h X hS0 neS dgi dgg dgd dig' did Gg Gi hSf hC2 hf2 kC hl9 hl9t hS C i1 G' hgr' hdgr' B'; omega))
    have hab' : a + (b - a) = b := by (clear hA hh T B hl0 hfrm G hgb hgr hdgr hit hi hbn hn htk inj hsame hnext h X hS0 neS dgi dgg dgd dig' did Gg Gi hSf hC2 hf2 kC hl9 hl9t hS C i1 G' hgr' hdgr' B' g1 g2 hi1; lia)
    rw [hab'] at hi1
    refine own_next (C := 169) (f := 165) (od := some (dictOf [] 0)) (Frag.In.keeps X B'.stays) ⟨hgr', rfl, by rfl, hdgr'⟩ (by k_is) (by k_is) ?_
    have hSn : s.heap.objs.size ∉ [gb, it] := notin2 (Ne.symm (neS hgb)) (Ne.symm (neS hit))
    rcases Nat.lt_or_ge b n with hbl | hbl
    · refine gn_other (base := base) (envs := envs) (dig := dig) (T0 := T0) (t := ta b) (by show A.depth + 2 < _; (clear hh T B hl0 hfrm G hgb hgr hdgr hit hi hab hbn hn htk inj hsame hnext h X hS0 neS dgi dgg dgd dig' did Gg Gi hSf hC2 hf2 kC hl9 hl9t hS C i1 G' hgr' hdgr' B' g1 g2 hi1 hab' hSn hbl; (assumption))) hh X T ⟨B'.stack, B'.stays, B'.frames⟩ (hl9t _ hbl) g1 G'.hdgb hgr' hdgr' G'.hig G'.hdig G'.hT0 (G'.tup _ hbl) g2 hi1 G'.hV (G'.item hbl) (htk _ hbl) (htk a (by (clear hA hh T B hl0 hfrm G hgb hgr hdgr hit hi hbn hn htk inj hsame hnext h X hS0 neS dgi dgg dgd dig' did Gg Gi hSf hC2 hf2 kC hl9 hl9t hS C i1 G' hgr' hdgr' B' g1 g2 hi1 hSn; (exact Nat.lt_trans (by assumption) (by assumption))))) (hnext hbl).symm (fun q => inj _ _ (by (clear hA hh T B hl0 hfrm G hgb hgr hdgr hit hi hbn hn htk inj hsame hnext h X hS0 neS dgi dgg dgd dig' did Gg Gi hSf hC2 hf2 kC hl9 hl9t hS C i1 G' hgr' hdgr' B' g1 g2 hi1 hSn q; (exact Nat.lt_trans (by assumption) (by assumption)))) hbl q) hf2 ?_
      intro h2 tk2 e o2 hf hi2
      refine stop_flies hf ⟨rfl, h2, tk2, rfl, rfl, ⟨cc, hf.calm.rest _ _ hSn hSf hS⟩, C.trans hf.calm, fun _ => ⟨?_, o2, ?_, hi2⟩, fun q => absurd q (by (clear hA hh T B hl0 hfrm G hgb hgr hdgr hit hi hab hbn hn htk inj hsame hnext h X hS0 neS dgi dgg dgd dig' did Gg Gi hSf hC2 hf2 kC hl9 hl9t hS C i1 G' hgr' hdgr' B' g1 g2 hi1 hab' hSn hf hi2; (exact Nat.ne_of_lt (by assumption))))⟩
      · exact hf.has (gb, _) (.head _)
      · exact hf.has (it, o2) (.tail _ (.head _))
    · have hbe : b = n := by (clear hA hh T B hl0 hfrm G hgb hgr hdgr hit hi hab hn htk inj hsame hnext h X hS0 neS dgi dgg dgd dig' did Gg Gi hSf hC2 hf2 kC hl9 hl9t hS C i1 G' hgr' hdgr' B' g1 g2 hi1 hSn; (exact Nat.le_antisymm (by assumption) (by assumption)))
      subst hbe
      refine gn_end (base := base) (envs := envs) (V := V) (i := b) (items := ((List.range b).map fun k => Value.ref (ta k)).toArray) (by show A.depth + 2 < _; (clear hh T B hgb hgr hdgr hit hi hab hsame X hS0 neS dgi dgg dgd dig' did hSf hC2 hf2 hl9 hS C i1 hgr' hdgr' B' g1 g2 hi1 hab' hSn hl0 hfrm G hbn hn htk inj hnext h Gg Gi kC hl9t G' hbl; (assumption))) hh X T ⟨B'.stack, B'.stays, B'.frames⟩ (fun x hx => hl9 x (by simp only [List.mem_cons, List.not_mem_nil, or_false] at hx ⊢; rcases hx with q | q | q | q | q <;> simp [q])) (fun x hx hm => ?_) g1 G'.hdgb hgr' hdgr' g2 (.inl ⟨hi1, G'.hV, G'.past⟩) ?_
      · simp only [List.mem_cons, List.not_mem_nil, or_false] at hm
        rcases hm with q | q | q | q | q <;> rw [q] at hx
        · exact (hfrm _ hx).2 (by first | k_mem | simp)
        · exact (hfrm _ hx).1 (.inl (by first | k_mem | simp))
        · exact (hfrm _ hx).2 (by first | k_mem | simp)
        · exact (hfrm _ hx).2 (by first | k_mem | simp)
        · exact (hfrm _ hx).2 (by first | k_mem | simp)
      intro h2 tk2 e o2 hf hi2
      have C2 : Calm [gb, it] (envs.filterMap (·.frame)) h' h2 := hf.calm.mono fun x hx => by simp [List.mem_singleton.mp hx]
      refine stop_flies hf ⟨rfl, h2, tk2, rfl, rfl, ⟨cc, hf.calm.rest _ _ (notin1 (Ne.symm (neS hit))) hSf hS⟩, C.trans C2, fun q => absurd q (Nat.lt_irrefl _), fun _ => ⟨?_, o2, ?_, hi2⟩⟩
      · exact hf.calm.rest _ _ (notin1 dgi) (fun hm => (hfrm _ hm).2 (by first | k_mem | simp)) g1
      · exact hf.has (it, o2) (.head _)
end Two
end
section
open PySem PySem.W PySem.Calls PyProof.Rows
set_option maxRecDepth 100000
namespace Mine
abbrev ZipO (h : Heap) (z TI TO : Addr) (f0 f1 : Value) : Prop := h.get? z = some { cls := .type "zip", dict := none, data := .fields #[f0, f1, .bool false, .ref TI, .ref TO], slots := #[] }
section
variable {prog : Program} {w : World} {A : Around} {E : Value → Shared → Prop} {s : Shared} {z TI TO i1 c l1 : Addr} {k : Nat} {xs : Array Value} {x a b f1 : Value} {Q : Value → Shared → Prop} {P : Value → Heap → Prop}
structure ZApart (z TI TO i1 c l1 : Addr) : Prop where
  TIz : TI ≠ z
  TOz : TO ≠ z
  i1z : i1 ≠ z
  cz : c ≠ z
  TITO : TI ≠ TO
  TIi1 : TI ≠ i1
  TIc : TI ≠ c
  TOi1 : TO ≠ i1
  TOc : TO ≠ c
  i1c : i1 ≠ c
  l1z : l1 ≠ z
  l1TO : l1 ≠ TO
  l1i1 : l1 ≠ i1
  l1c : l1 ≠ c
/-- what next() of the second iterator gives -/
def NextIs (prog : Program) (w : World) (A : Around) (E : Value → Shared → Prop) (s : Shared) (l : List Addr) (c : Addr) (P : Value → Heap → Prop) : Prop :=
  ∀ h₃ : Heap, (∀ b o, b ∉ l → s.heap.get? b = some o → h₃.get? b = some o) → h₃.objs.size = s.heap.objs.size → ∀ Q' : Value → Shared → Prop,
    (∀ y h₄ tk₄, (∀ b o, b ≠ c → h₃.get? b = some o → h₄.get? b = some o) → P y h₄ → Q' y { s with heap := h₄, toks := tk₄ }) → wpAny (model prog w) A (Builtin.SmallTypes.nextOf (.ref c)) Q' E { s with heap := h₃ }
theorem zip_own_first (D : ZApart z TI TO i1 c l1) (hz : ZipO s.heap z TI TO .none (.bool false)) (hTI : IsPair s.heap TI (.ref i1) (.ref c)) (hTO : IsPair s.heap TO a b)
    (h1 : s.heap.IsListIter i1 l1 k) (hl1 : s.heap.IsList l1 xs) (hx : xs[k]? = some x) (hPc : ∀ y h, P y h → ∃ o, h.get? c = some o) (hc : NextIs prog w A (fun x s' => wpAny (model prog w) A (setField (.ref z) 0 .none) (fun _ s'' => E x s'') E s') s [z, TO, i1] c P)
    (hQ : ∀ h' tk' y h₄, ZipO h' z TI TO (rawInt h₄.objs.size) (.bool false) → IsPair h' h₄.objs.size x y → s.heap.get? h₄.objs.size = none → (∃ a b, IsPair h' TO a b) → h'.IsListIter i1 l1 (k + 1) → P y h₄ → (∀ o, h₄.get? c = some o → h'.get? c = some o) →
      (∀ b o, b ∉ [z, TO, i1, c] → s.heap.get? b = some o → h'.get? b = some o) → Q (.ref h₄.objs.size) { s with heap := h', toks := tk' }) :
    wpAny (model prog w) A (Builtin.«zip.__next__» ⟨[.ref z], []⟩) (fun fin s' => ∃ v, fin = .done (.ret v) ∧ Q v s') E s := by
  show wpAny _ _ (field (.ref z) 2 >>= _) _ _ _
  refine wpAny_bind (wpAny_field hz rfl (x := .bool false) rfl ?_)
  show wpAny _ _ (field (.ref z) 3 >>= _) _ _ _
  refine wpAny_bind (wpAny_field hz rfl (x := .ref TI) rfl ?_)
  refine wpAny_bind (wpAny_seqItems hTI rfl ?_)
  show wpAny _ _ (Builtin.SmallTypes.ownedTupleIsFree (.ref z) >>= _) _ _ _
  refine wpAny_bind ?_
  unfold Builtin.SmallTypes.ownedTupleIsFree
  refine wpAny_bind (wpAny_field hz rfl (x := .none) rfl (wpAny_pure ?_))
  simp only [if_true]
  refine wpAny_bind (wpAny_rule ?_)
  refine wpAny_bind (wpAny_field hz rfl (x := .ref TO) rfl ?_)
  refine wpAny_bind (wpAny_setField_rec hz (by simp) fun h₁ hz₁ hs₁ => ?_)
  replace hz₁ : ZipO h₁ z TI TO .ellipsis (.bool false) := hz₁
  refine wpAny_bind ?_
  simp only [List.zipIdx_cons, List.zipIdx_nil, List.forIn_cons, List.forIn_nil]
  refine wpAny_bind (wpAny_bind (wpAny_onRaise ?_))
  show wpAny _ _ (Builtin.SmallTypes.nextOf (.ref i1) >>= _) _ _ _
  refine wpAny_bind (wpAny_nextOf_list_item (h1.extBut hs₁.extBut D.i1z) (hl1.extBut hs₁.extBut D.l1z) hx fun h₂ h1₂ hs₂ => wpAny_pure ?_)
  have hTO₂ : IsPair h₂ TO a b := hs₂.extBut _ _ D.TOi1 (hs₁.extBut _ _ D.TOz hTO)
  refine wpAny_bind (wpAny_seqItems hTO₂ rfl ?_)
  refine wpAny_bind (wpAny_updateSeq_pair hTO₂ fun h₃ hTO₃ hs₃ => ?_)
  replace hTO₃ : IsPair h₃ TO x b := hTO₃
  refine wpAny_bind (wpAny_letGo (wpAny_pure ?_))
  refine wpAny_bind (wpAny_bind (wpAny_onRaise ?_))
  show wpAny _ _ (Builtin.SmallTypes.nextOf (.ref c) >>= _) _ _ _
  have k3 : ∀ b o, b ∉ [z, TO, i1] → s.heap.get? b = some o → h₃.get? b = some o := fun d o hd e =>
    hs₃.extBut _ _ (fun q => hd (by simp [q])) (hs₂.extBut _ _ (fun q => hd (by simp [q])) (hs₁.extBut _ _ (fun q => hd (by simp [q])) e))
  have sz3 : h₃.objs.size = s.heap.objs.size := by rw [hs₃.1, hs₂.1, hs₁.1]
  refine wpAny_bind (hc h₃ k3 sz3 _ fun y h₄ tk₄ k4 hP => ?_)
  refine wpAny_pure ?_
  have hTO₄ : IsPair h₄ TO x b := k4 _ _ D.TOc hTO₃
  refine wpAny_bind (wpAny_seqItems hTO₄ rfl ?_)
  refine wpAny_bind (wpAny_updateSeq_pair hTO₄ fun h₅ hTO₅ hs₅ => ?_)
  replace hTO₅ : IsPair h₅ TO x y := hTO₅
  refine wpAny_bind (wpAny_letGo (wpAny_pure (wpAny_pure ?_)))
  refine wpAny_bind (wpAny_seqItems hTO₅ rfl ?_)
  refine wpAny_bind (wpAny_newTuple ?_)
  have sz5 : h₅.objs.size = h₄.objs.size := hs₅.1
  have hz₅ : ZipO h₅ z TI TO .ellipsis (.bool false) := hs₅.extBut _ _ D.TOz.symm (k4 _ _ D.cz.symm (hs₃.extBut _ _ D.TOz.symm (hs₂.extBut _ _ D.i1z.symm hz₁)))
  have hk₅ : ∀ d o, d ∉ [z, TO, i1, c] → s.heap.get? d = some o → h₅.get? d = some o := fun d o hd e =>
    hs₅.extBut _ _ (fun q => hd (by simp [q])) (k4 _ _ (fun q => hd (by simp [q])) (k3 d o (fun q => hd (by simp only [List.mem_cons, List.not_mem_nil, or_false] at q ⊢; rcases q with q | q | q <;> simp [q])) e))
  have h1₅ : h₅.IsListIter i1 l1 (k + 1) := ((h1₂.extBut hs₃.extBut D.TOi1.symm).at fun o e => k4 _ _ D.i1c e).extBut hs₅.extBut D.TOi1.symm
  show wpAny _ _ (Builtin.SmallTypes.ownedTupleHandOut (.ref z) (.ref h₅.objs.size) >>= _) _ _ _
  refine wpAny_bind ?_
  unfold Builtin.SmallTypes.ownedTupleHandOut
  have hz₆ : ZipO (h₅.push { cls := .type "tuple", data := .seq #[x, y] }) z TI TO .ellipsis (.bool false) := Heap.get?_push_of_some _ hz₅
  refine wpAny_bind (wpAny_setField_rec hz₆ (by simp) fun h₇ hz₇ hs₇ => ?_)
  replace hz₇ : ZipO h₇ z TI TO (rawInt h₅.objs.size) (.bool false) := hz₇
  refine wpAny_setField_rec hz₇ (by simp) fun h₈ hz₈ hs₈ => ?_
  replace hz₈ : ZipO h₈ z TI TO (rawInt h₅.objs.size) (.bool false) := hz₈
  have hzlt : z < h₅.objs.size := Heap.lt_size hz₅
  have up : ∀ d o, d ≠ z → h₅.get? d = some o → h₈.get? d = some o := fun d o c1 e => hs₈.extBut _ _ c1 (hs₇.extBut _ _ c1 (Heap.get?_push_of_some _ e))
  have hT₈ : IsPair h₈ h₅.objs.size x y := hs₈.extBut _ _ (Nat.ne_of_gt hzlt) (hs₇.extBut _ _ (Nat.ne_of_gt hzlt) (Heap.get?_push_size _ rfl))
  refine wpAny_pure ⟨_, rfl, ?_⟩
  show Q (.ref h₅.objs.size) _
  rw [sz5] at hz₈ hT₈ ⊢
  refine hQ h₈ tk₄ y h₄ hz₈ hT₈ ?_ ⟨x, y, up _ _ D.TOz hTO₅⟩ (h1₅.at fun o e => up _ o D.i1z e) hP (fun o e => up _ _ D.cz (hs₅.extBut _ _ D.TOc.symm e)) fun d o hd e => up d o (fun q => hd (by simp [q])) (hk₅ d o hd e)
  have ex5 : ∀ d, s.heap.get? d ≠ none → h₅.get? d ≠ none := fun d hd => by
    by_cases q : d ∈ [z, TO, i1, c]
    · simp only [List.mem_cons, List.not_mem_nil, or_false] at q
      rcases q with q | q | q | q <;> rw [q]
      · rw [hz₅]; exact fun z => nomatch z
      · rw [hTO₅]; exact fun z => nomatch z
      · obtain ⟨_, e, _⟩ := h1₅; rw [e]; exact fun z => nomatch z
      · obtain ⟨o, e⟩ := hPc _ _ hP
        rw [hs₅.extBut _ _ D.TOc.symm e]; exact fun z => nomatch z
    · cases e : s.heap.get? d with
      | none => exact absurd e hd
      | some o => rw [hk₅ d o q e]; exact fun z => nomatch z
  cases e : s.heap.get? h₄.objs.size with
  | none => rfl
  | some o => exact absurd (Heap.get?_none_of_le (Nat.le_of_eq sz5)) (ex5 _ (by rw [e]; exact fun z => nomatch z))
/-- the tuple that was handed out lives on: a new one each time -/
theorem zip_own_later {T0 : Addr} {oT : Obj} (D : ZApart z TI TO i1 c l1) (hz : ZipO s.heap z TI TO (rawInt T0) f1) (hf1 : ∃ b, f1 = .bool b) (hT0 : s.heap.get? T0 = some oT) (hTz : T0 ≠ z) (hTI : IsPair s.heap TI (.ref i1) (.ref c)) (hTO : IsPair s.heap TO a b)
    (h1 : s.heap.IsListIter i1 l1 k) (hl1 : s.heap.IsList l1 xs) (hx : xs[k]? = some x) (hPc : ∀ y h, P y h → ∃ o, h.get? c = some o) (hc : NextIs prog w A E s [z, TO, i1] c P)
    (hQ : ∀ h' tk' y h₄, (∃ b, ZipO h' z TI TO (rawInt T0) (.bool b)) → IsPair h' h₄.objs.size x y → s.heap.get? h₄.objs.size = none → (∃ a b, IsPair h' TO a b) → h'.IsListIter i1 l1 (k + 1) → P y h₄ → (∀ o, h₄.get? c = some o → h'.get? c = some o) →
      (∀ b o, b ∉ [z, TO, i1, c] → s.heap.get? b = some o → h'.get? b = some o) → Q (.ref h₄.objs.size) { s with heap := h', toks := tk' }) :
    wpAny (model prog w) A (Builtin.«zip.__next__» ⟨[.ref z], []⟩) (fun fin s' => ∃ v, fin = .done (.ret v) ∧ Q v s') E s := by
  show wpAny _ _ (field (.ref z) 2 >>= _) _ _ _
  refine wpAny_bind (wpAny_field hz rfl (x := .bool false) rfl ?_)
  show wpAny _ _ (field (.ref z) 3 >>= _) _ _ _
  refine wpAny_bind (wpAny_field hz rfl (x := .ref TI) rfl ?_)
  refine wpAny_bind (wpAny_seqItems hTI rfl ?_)
  show wpAny _ _ (Builtin.SmallTypes.ownedTupleIsFree (.ref z) >>= _) _ _ _
  refine wpAny_bind ?_
  refine wpAny_mono (Q := fun r s' => r = false ∧ ∃ h₁, s' = { s with heap := h₁ } ∧ (∃ b, ZipO h₁ z TI TO (rawInt T0) (.bool b)) ∧ Heap.SameBut z s.heap h₁) (E := fun _ _ => False) ?_ (fun r s' hr => ?_) (fun _ _ h => h.elim)
  · unfold Builtin.SmallTypes.ownedTupleIsFree
    refine wpAny_bind (wpAny_field hz rfl (x := rawInt T0) rfl ?_)
    show wpAny _ _ (loadIfAlive ((T0 : Int)).toNat >>= _) _ _ _
    rw [Int.toNat_natCast]
    refine wpAny_bind (kdx_alive hT0 ?_)
    simp only [Option.isNone_some, Bool.false_eq_true, if_false]
    refine wpAny_bind (wpAny_field hz rfl (x := f1) rfl ?_)
    obtain ⟨b, rfl⟩ := hf1
    cases b with
    | true =>
      rw [if_neg (by decide)]
      exact wpAny_pure ⟨rfl, s.heap, rfl, ⟨_, hz⟩, rfl, fun _ _ => rfl⟩
    | false =>
      rw [if_pos (by decide)]
      refine wpAny_bind (wpAny_setField_rec hz (by simp) fun h₁ hz₁ hs₁ => ?_)
      exact wpAny_pure ⟨rfl, h₁, rfl, ⟨true, hz₁⟩, hs₁⟩
  obtain ⟨rfl, h₁, rfl, ⟨b', hz₁⟩, hs₁⟩ := hr
  simp only [Bool.false_eq_true, if_false]
  first
    | rw [List.forIn_toArray]
    | (rw [← Array.forIn_toList]; simp only [List.toList_toArray])
    | rw [← Array.forIn_toList]
  refine wpAny_bind ?_
  simp only [List.forIn_cons, List.forIn_nil]
  refine wpAny_bind (wpAny_bind (wpAny_holding ?_))
  show wpAny _ _ (Builtin.SmallTypes.nextOf (.ref i1) >>= _) _ _ _
  refine wpAny_bind (wpAny_nextOf_list_item (h1.extBut hs₁.extBut D.i1z) (hl1.extBut hs₁.extBut D.l1z) hx fun h₂ h1₂ hs₂ => wpAny_pure (wpAny_pure ?_))
  refine wpAny_bind (wpAny_bind (wpAny_holding ?_))
  show wpAny _ _ (Builtin.SmallTypes.nextOf (.ref c) >>= _) _ _ _
  have k2 : ∀ b o, b ∉ [z, TO, i1] → s.heap.get? b = some o → h₂.get? b = some o := fun d o hd e =>
    (hs₂.extBut _ _ (fun q => hd (by simp [q])) (hs₁.extBut _ _ (fun q => hd (by simp [q])) e))
  have sz2 : h₂.objs.size = s.heap.objs.size := by rw [hs₂.1, hs₁.1]
  refine wpAny_bind (hc h₂ k2 sz2 _ fun y h₄ tk₄ k4 hP => ?_)
  refine wpAny_pure (wpAny_pure (wpAny_pure ?_))
  have hTO₄ : IsPair h₄ TO a b := k4 _ _ D.TOc (hs₂.extBut _ _ D.TOi1 (hs₁.extBut _ _ D.TOz hTO))
  have hz₄ : ZipO h₄ z TI TO (rawInt T0) (.bool b') := k4 _ _ D.cz.symm (hs₂.extBut _ _ D.i1z.symm hz₁)
  have h1₄ : h₄.IsListIter i1 l1 (k + 1) := h1₂.at fun o e => k4 _ _ D.i1c e
  have hk₄ : ∀ d o, d ∉ [z, TO, i1, c] → s.heap.get? d = some o → h₄.get? d = some o := fun d o hd e =>
    k4 _ _ (fun q => hd (by simp [q])) (k2 d o (fun q => hd (by simp only [List.mem_cons, List.not_mem_nil, or_false] at q ⊢; rcases q with q | q | q <;> simp [q])) e)
  refine wpAny_bind (wpAny_newTuple ?_ (by show 2 ≤ sizeLine; decide))
  refine wpAny_pure ⟨_, rfl, ?_⟩
  refine hQ _ tk₄ y h₄ ⟨b', Heap.get?_push_of_some _ hz₄⟩ (Heap.get?_push_size _ rfl) ?_ ⟨a, b, Heap.get?_push_of_some _ hTO₄⟩ (h1₄.at fun o e => Heap.get?_push_of_some _ e) hP (fun o e => Heap.get?_push_of_some _ e) fun d o hd e => Heap.get?_push_of_some _ (hk₄ d o hd e)
  have ex4 : ∀ d, s.heap.get? d ≠ none → h₄.get? d ≠ none := fun d hd => by
    by_cases q : d ∈ [z, TO, i1, c]
    · simp only [List.mem_cons, List.not_mem_nil, or_false] at q
      rcases q with q | q | q | q <;> rw [q]
      · rw [hz₄]; exact fun z => nomatch z
      · rw [hTO₄]; exact fun z => nomatch z
      · obtain ⟨_, e, _⟩ := h1₄; rw [e]; exact fun z => nomatch z
      · obtain ⟨o, e⟩ := hPc _ _ hP
        rw [e]; exact fun z => nomatch z
    · cases e : s.heap.get? d with
      | none => exact absurd e hd
      | some o => rw [hk₄ d o q e]; exact fun z => nomatch z
  cases e : s.heap.get? h₄.objs.size with
  | none => rfl
  | some o => exact absurd (Heap.get?_none_of_le (Nat.le_refl _)) (ex4 _ (by rw [e]; exact fun z => nomatch z))
theorem zip_own_end {T0 : Addr} {oT : Obj} {Q : PySem.Fin → Shared → Prop} (hh : A.handled = none) (D : ZApart z TI TO i1 c l1) (hz : ZipO s.heap z TI TO (rawInt T0) f1) (hf1 : ∃ b, f1 = .bool b) (hT0 : s.heap.get? T0 = some oT) (hTI : IsPair s.heap TI (.ref i1) (.ref c))
    (h1 : s.heap.IsListIter i1 l1 k) (hl1 : s.heap.IsList l1 xs) (hx : xs[k]? = none)
    (hE : ∀ h' e, (∀ b o, b ∉ [z, i1] → s.heap.get? b = some o → h'.get? b = some o) → (∃ o, h'.get? e = some o ∧ o.cls = .type "StopIteration") → E (.ref e) { s with heap := h' }) :
    wpAny (model prog w) A (Builtin.«zip.__next__» ⟨[.ref z], []⟩) Q E s := by
  show wpAny _ _ (field (.ref z) 2 >>= _) _ _ _
  refine wpAny_bind (wpAny_field hz rfl (x := .bool false) rfl ?_)
  show wpAny _ _ (field (.ref z) 3 >>= _) _ _ _
  refine wpAny_bind (wpAny_field hz rfl (x := .ref TI) rfl ?_)
  refine wpAny_bind (wpAny_seqItems hTI rfl ?_)
  show wpAny _ _ (Builtin.SmallTypes.ownedTupleIsFree (.ref z) >>= _) _ _ _
  refine wpAny_bind ?_
  refine wpAny_mono (Q := fun r s' => r = false ∧ ∃ h₁, s' = { s with heap := h₁ } ∧ Heap.SameBut z s.heap h₁) (E := fun _ _ => False) ?_ (fun r s' hr => ?_) (fun _ _ h => h.elim)
  · unfold Builtin.SmallTypes.ownedTupleIsFree
    refine wpAny_bind (wpAny_field hz rfl (x := rawInt T0) rfl ?_)
    show wpAny _ _ (loadIfAlive ((T0 : Int)).toNat >>= _) _ _ _
    rw [Int.toNat_natCast]
    refine wpAny_bind (kdx_alive hT0 ?_)
    simp only [Option.isNone_some, Bool.false_eq_true, if_false]
    refine wpAny_bind (wpAny_field hz rfl (x := f1) rfl ?_)
    obtain ⟨b, rfl⟩ := hf1
    cases b with
    | true =>
      rw [if_neg (by decide)]
      exact wpAny_pure ⟨rfl, s.heap, rfl, rfl, fun _ _ => rfl⟩
    | false =>
      rw [if_pos (by decide)]
      refine wpAny_bind (wpAny_setField_rec hz (by simp) fun h₁ hz₁ hs₁ => ?_)
      exact wpAny_pure ⟨rfl, h₁, rfl, hs₁⟩
  obtain ⟨rfl, h₁, rfl, hs₁⟩ := hr
  simp only [Bool.false_eq_true, if_false]
  first
    | rw [List.forIn_toArray]
    | (rw [← Array.forIn_toList]; simp only [List.toList_toArray])
    | rw [← Array.forIn_toList]
  refine wpAny_bind ?_
  simp only [List.forIn_cons, List.forIn_nil]
  refine wpAny_bind (wpAny_bind (wpAny_holding ?_))
  show wpAny _ _ (Builtin.SmallTypes.nextOf (.ref i1) >>= _) _ _ _
  refine wpAny_bind (wpAny_nextOf_list_end hh (h1.extBut hs₁.extBut D.i1z) (hl1.extBut hs₁.extBut D.l1z) hx fun h₂ e hs₂ he => hE h₂ e (fun d o hd e => ?_) he)
  exact hs₂ _ _ (fun q => hd (by simp [q])) (hs₁.extBut _ _ (fun q => hd (by simp [q])) e)
theorem next_zipO {f0 : Value} {Q : Option Value → Shared → Prop} (hz : ZipO s.heap z TI TO f0 f1) (h : wpAny (model prog w) A.in1 (Builtin.«zip.__next__» ⟨[.ref z], []⟩) (fun fin s' => ∃ v, fin = .done (.ret v) ∧ Q (some v) s')
    (fun e s' => ∃ o a, e = .ref a ∧ s'.heap.get? a = some o ∧ o.cls = .type "StopIteration" ∧ Q none s') s) : wpAny (model prog w) A (pyNext (.ref z)) Q E s := by
  have hT : s.TypeIs (.ref z) "zip" := ⟨_, hz, rfl⟩
  unfold pyNext
  refine wpAny_bind (wpAny_attempt (wpAny_callSpecial?_slot (name := Str.ofString "__next__") hT F.slot_zip_next
    (wpAny_call_entry F.slot_zip_next hT F.entry_zip_next (wpAny_mono h (fun fin s' hf => ?_) (fun e s' he => ?_)) (F.args_zip_next_1 _))))
  · obtain ⟨v, rfl, hq⟩ := hf
    exact ⟨v, rfl, wpAny_pure hq⟩
  · obtain ⟨o, a, rfl, ho, hc, hq⟩ := he
    refine wpAny_bind (wpAny_isInstance (T := "StopIteration") (b := true) ⟨o, ho, hc⟩ isSubtype_stop ?_)
    exact wpAny_pure hq
end
end Mine
end
section
open PySem PySem.W PySem.Calls PyProof.Rows
set_option maxRecDepth 100000
namespace Mine
theorem zip_no_len : typeLookup (.type "zip") "__len__" = pure none := by rw [typeLookup_type, builtinLookup_eq_fast]; kernel_rfl
theorem zip_no_hint : typeLookup (.type "zip") "__length_hint__" = pure none := by rw [typeLookup_type, builtinLookup_eq_fast]; kernel_rfl
theorem zapart_of {z TI TO i1 c l1 : Nat} (h1 : c < i1) (h2 : l1 < i1) (h3 : i1 < TI) (h4 : TI < TO) (h5 : TO < z) (h6 : l1 ≠ c) : ZApart z TI TO i1 c l1 := by
  constructor <;> (try assumption) <;> (refine (fun (e f : Nat) (q : e ≠ f) => q) _ _ ?_; (clear h6; lia))
section
variable {prog : Program} {w : World} {A : Around} {E : Value → Shared → Prop} {s : Shared} {z TI TO i1 c l1 : Addr} {k : Nat} {xs : Array Value}
theorem zip_hint {Q : Bool → Shared → Prop} (hT : s.TypeIs (.ref z) "zip") (h : Q true s) : wpAny (model prog w) A (Builtin.List.listLengthHint (.ref z)) Q E s := by
  unfold Builtin.List.listLengthHint
  refine wpAny_bind (wpAny_specialOf hT zip_no_len ?_)
  show wpAny _ _ (specialOf (Value.ref z) (Str.ofString "__length_hint__") >>= _) _ _ _
  refine wpAny_bind (wpAny_specialOf hT zip_no_hint ?_)
  exact wpAny_pure h
theorem zip_new_own {Q : Value → Shared → Prop} (hl1 : s.heap.IsList l1 xs) (hne : @Ne Nat l1 c) (hcx : ∃ o, s.heap.get? c = some o)
    (hc : ∀ (A' : Around) (E' : Value → Shared → Prop), A'.depth = A.depth → ∀ (h₁ : Heap) (Q' : Value → Shared → Prop), (∀ b o, s.heap.get? b = some o → h₁.get? b = some o) → (∀ h₂ tk₂, (∀ b o, h₁.get? b = some o → h₂.get? b = some o) → Q' (.ref c) { s with heap := h₂, toks := tk₂ }) → wpAny (model prog w) A' (pyIter (.ref c)) Q' E' { s with heap := h₁ })
    (h : ∀ h' tk' z TI TO i1, (∀ b o, s.heap.get? b = some o → h'.get? b = some o) → ZipO h' z TI TO .none (.bool false) → IsPair h' TI (.ref i1) (.ref c) → IsPair h' TO .none .none → h'.IsListIter i1 l1 0 →
      (∀ b ∈ [z, TI, TO, i1], s.heap.get? b = none) → ZApart z TI TO i1 c l1 → Q (.ref z) { s with heap := h', toks := tk' }) :
    wpAny (model prog w) A (call (.type "zip") [.ref l1, .ref c]) Q E s := by
  refine callType_codes (Q₁ := fun obj s₁ => s₁.TypeIs obj "zip" ∧ Q obj s₁) F.called_zip (F.typeCall_zip_2 _ _) F.entry_object_init (codeAny_call_builtin F.called_zip.plain F.entry_zip_new (wpAny_of_eq (F.newCall_zip_2 _ _) ?_)) fun obj s₁ h₁ => ?_
  · unfold Builtin.«zip.__new__»
    have hsub := sub_zip
    obtain ⟨hp, g, d, tk, os⟩ := s
    have hL1 : Heap.IsList (Shared.heap ⟨hp, g, d, tk, os⟩) l1 xs := hl1
    have hL1' := hL1
    repeat (any_goals (first | assumption | with_reducible refine wpAny_pyIter_list hL1 ?_ | with_reducible refine hc A.in1.in1 _ rfl _ _ ?_ ?_ | wp_step))
    · exact fun b o e => Heap.get?_push_of_some _ e
    intro h₂ tk₂ k₂
    repeat (any_goals (first | assumption | wp_step))
    have z1 : (h₂.push { cls := .type "tuple", data := .seq #[.ref hp.objs.size, .ref c] }).objs.size = h₂.objs.size + 1 := Heap.size_push ..
    have z2 : ((h₂.push { cls := .type "tuple", data := .seq #[.ref hp.objs.size, .ref c] }).push { cls := .type "tuple", data := .seq #[.none, .none] }).objs.size = h₂.objs.size + 2 := by rw [Heap.size_push, z1]
    have up : ∀ b o, h₂.get? b = some o → (((h₂.push { cls := .type "tuple", data := .seq #[.ref hp.objs.size, .ref c] }).push { cls := .type "tuple", data := .seq #[.none, .none] }).push { cls := .type "zip", data := .fields #[.none, .bool false, .bool false, .ref h₂.objs.size, .ref (h₂.push { cls := .type "tuple", data := .seq #[.ref hp.objs.size, .ref c] }).objs.size] }).get? b = some o :=
      fun b o e => Heap.get?_push_of_some _ (Heap.get?_push_of_some _ (Heap.get?_push_of_some _ e))
    have hi : (hp.push { cls := .type "list_iterator", data := .fields #[.ref l1, .int 0 0] }).get? hp.objs.size = some { cls := .type "list_iterator", data := .fields #[.ref l1, .int 0 0] } := Heap.get?_push_size _ rfl
    have kk : ∀ b o, hp.get? b = some o → h₂.get? b = some o := fun b o e => k₂ b o (Heap.get?_push_of_some _ e)
    have hi2 := Heap.lt_size (k₂ _ _ hi)
    have no : ∀ b, hp.objs.size ≤ b → hp.get? b = none := fun b hb => Heap.get?_none_of_le hb
    have hcx2 : c < hp.objs.size := by obtain ⟨o, e⟩ := hcx; exact Heap.lt_size e
    have hlx : l1 < hp.objs.size := by obtain ⟨o, e, _⟩ := hL1; exact Heap.lt_size e
    show Shared.TypeIs _ (.ref ((h₂.push { cls := .type "tuple", data := .seq #[.ref hp.objs.size, .ref c] }).push { cls := .type "tuple", data := .seq #[.none, .none] }).objs.size) "zip" ∧ Q (.ref ((h₂.push { cls := .type "tuple", data := .seq #[.ref hp.objs.size, .ref c] }).push { cls := .type "tuple", data := .seq #[.none, .none] }).objs.size)
      (Shared.mk (((h₂.push { cls := .type "tuple", data := .seq #[.ref hp.objs.size, .ref c] }).push { cls := .type "tuple", data := .seq #[.none, .none] }).push { cls := .type "zip", data := .fields #[.none, .bool false, .bool false, .ref h₂.objs.size, .ref (h₂.push { cls := .type "tuple", data := .seq #[.ref hp.objs.size, .ref c] }).objs.size] }) g d tk₂ os)
    refine ⟨⟨_, Heap.get?_push_size _ rfl, rfl⟩, ?_⟩
    refine h _ tk₂ _ h₂.objs.size (h₂.push { cls := .type "tuple", data := .seq #[.ref hp.objs.size, .ref c] }).objs.size hp.objs.size (fun b o e => up b o (kk b o e)) (Heap.get?_push_size _ rfl) (Heap.get?_push_of_some _ (Heap.get?_push_of_some _ (Heap.get?_push_size _ rfl))) (Heap.get?_push_of_some _ (Heap.get?_push_size _ rfl)) ⟨_, up _ _ (k₂ _ _ hi), rfl, rfl⟩ ?_ ?_
    · intro b hb
      simp only [List.mem_cons, List.not_mem_nil, or_false] at hb
      rcases hb with q | q | q | q <;> refine no b ?_ <;> rw [q]
      · rw [z2]; exact Nat.le_trans (Nat.le_of_lt hi2) (Nat.le_add_right _ _)
      · exact Nat.le_of_lt hi2
      · rw [z1]; exact Nat.le_trans (Nat.le_of_lt hi2) (Nat.le_add_right _ _)
      · exact Nat.le_refl _
    · rw [z1, z2]
      exact zapart_of hcx2 hlx hi2 (Nat.lt_succ_self _) (Nat.lt_succ_self _) hne
  · refine ⟨h₁.1, F.args_object_init_3 _ _ _, ?_⟩
    have ht := h₁.1
    exact wpAny_mono (object_init_meets F.called_zip.init.lookup F.called_zip.made (by decide) prog w A.in1 (wants (fun r s₂ => r = .none ∧ Q obj s₂) E) s₁ ⟨ht, rfl, h₁.2⟩) (fun _ _ x => x) (fun _ _ x => x)
end
end Mine
end
section
open PySem PySem.W PySem.Calls PyProof.Rows PyProof.Rows.TI
set_option maxRecDepth 100000
set_option maxHeartbeats 8000000
open Mine
namespace Two
def countObj (dx : Addr) (k : Int) (t t' : Tok) : Obj := { cls := .ref 222, dict := some dx, data := .plain, slots := #[some (.int k t), some (.bool true), some (.int 1 t')] }
theorem count_next {w : World} {p : Program} {loose : List Str} {mean : ExcName → Option Value} {mg mb : Str → Option Value} {A : Around} {s : Shared} {base : Heap} {Q E : Value → Shared → Prop} {cn dx : Addr} {k : Int} {t t' : Tok}
  (hA : A.depth < recursionLimit) (X : (Two.hd.heap_1 w.params).In base) (T : Top p loose mean mg mb base) (hb : ∀ b o, base.get? b = some o → s.heap.get? b = some o) (hc0 : base.get? cn = none)
  (hd0 : base.get? dx = none) (hd : s.heap.get? dx = some (dictOf [] 0)) (hne : @Ne Nat cn dx) (hc : s.heap.get? cn = some (countObj dx k t t'))
  (h : ∀ h' tk' v t2, (∀ b o, b ≠ cn → s.heap.get? b = some o → h'.get? b = some o) → h'.get? cn = some (countObj dx (k + 1) t2 t') → Q (.int k v) {s with heap := h', toks := tk'}) :
  wpAny (model PySem.Challenge.rw_kp0009_02.row.prog w) A (call (.ref 211) [.ref cn]) Q E s := by
  revert X; w_top off; k_fill; intro X
  have X1 := Frag.In.keeps X (gone_in hb (l := [cn, dx]) (by simp [hc0, hd0]))
  have T1 := Top.keeps T (gone_in hb (l := [cn, dx]) (by simp [hc0, hd0]))
  refine wpAny_call ?_
  refine enterG (l := [cn, dx]) (news := [(cn, countObj dx k t t'), (dx, dictOf [] 0)]) (by simp [hc, hd]) (Frag.In.keeps X hb) (Top.keeps T hb).nolimit (by k_is) (by k_is) hA (by exact BindsTo.of_eq rfl) (locs rfl) ?_ (by decide) rfl rfl rfl
  intro L' h₁ F N
  refine wpAny_mono (E := fun _ _ => False) ?_ (fun _ _ h => h) (fun _ _ h => h.elim)
  dsimp only [countObj] at N ⊢
  k_steps
  (rename Fr _ _ _ _ => F'); (rename News _ _ _ _ => N')
  refine h _ _ _ _ (fun b o hb e => ?_) (N'.get (by k_mem))
  by_cases q : b = dx
  · rw [q] at e ⊢
    rw [hd] at e
    cases e
    exact N'.get (by k_mem)
  · exact gone_keep F'.keep b o (by simp [hb, q]) e
end Two
end
section
open PySem PySem.W PySem.Calls PyProof.Rows PyProof.Rows.TI
set_option maxRecDepth 100000
set_option maxHeartbeats 8000000
open Mine
namespace Two
local macro_rules | `(tactic| walk_at "call ref") => `(tactic| ((with_reducible show wpAny _ _ (call (Value.ref 181) _) _ _ _); refine Hold.out ?_))
theorem ck_int {w : World} {p : Program} {loose : List Str} {mean : ExcName → Option Value} {mg mb : Str → Option Value} {A : Around} {s : Shared} {base : Heap} {Q E : Value → Shared → Prop} {k : Int} {t : Tok}
  (hA : A.depth < recursionLimit) (X : (Two.hd.heap_1 w.params).In base) (T : Top p loose mean mg mb base) (hb : ∀ b o, base.get? b = some o → s.heap.get? b = some o)
  (h : ∀ h' tk' t', (∀ b o, s.heap.get? b = some o → h'.get? b = some o) → Q (.int 0 t') {s with heap := h', toks := tk'}) :
  wpAny (model PySem.Challenge.rw_kp0009_02.row.prog w) A (call (.ref 181) [.int k t]) Q E s := by
  revert X; w_top off; k_fill; intro X
  have X1 := Frag.In.keeps X hb
  have T1 := Top.keeps T hb
  refine wpAny_call ?_
  refine enterP X1 T1.nolimit (by k_is) (by k_is) hA (by exact BindsTo.of_eq rfl) (locs rfl) ?_ (by decide) rfl rfl rfl
  intro L' h₁ F N
  refine wpAny_mono (E := fun _ _ => False) ?_ (fun _ _ h => h) (fun _ _ h => h.elim)
  dsimp only
  k_steps
  (rename Fr _ _ _ _ => F')
  exact h _ _ _ F'.keep
theorem cn_init {w : World} {p : Program} {loose : List Str} {mean : ExcName → Option Value} {mg mb : Str → Option Value} {A : Around} {s : Shared} {base : Heap} {R : Result → Shared → Prop}
  {cn dx : Addr}
  (hA : A.depth + 1 < recursionLimit) (X : (Two.hd.heap_1 w.params).In base) (T : Top p loose mean mg mb base) (hb : ∀ b o, base.get? b = some o → s.heap.get? b = some o) (hl0 : ∀ b ∈ [cn, dx], base.get? b = none)
  (hcn : s.heap.get? cn = some (instObj 222 dx)) (hdx : s.heap.get? dx = some (dictOf [] 0))
  (h : ∀ h' tk' t1 t2, (∀ b o, b ∉ [cn] → s.heap.get? b = some o → h'.get? b = some o) → h'.get? cn = some (countObj dx 0 t1 t2) → R (.ok (.ret .none)) {s with heap := h', toks := tk'}) :
  codeAny (model PySem.Challenge.rw_kp0009_02.row.prog w) A (.call (.ref 197) ⟨[.ref cn], []⟩) R s := by
  revert X; w_top off; k_fill; intro X
  have d1 := ne_cls hcn hdx (by simp [instObj])
  have hN : ∀ p ∈ [(cn, instObj 222 dx), (dx, dictOf [] 0)], s.heap.get? p.1 = some p.2 := by (repeat' (first | exact List.forall_mem_nil _ | refine List.forall_mem_cons.mpr ⟨?_, ?_⟩)) <;> first | assumption | simp [hcn, hdx]
  have Xs := Frag.In.keeps X hb
  refine enterO hN Xs (Top.keeps T hb).nolimit (by k_is) (by k_is) (by (clear T hb hl0 hcn hdx h X d1 hN Xs; (exact Nat.lt_of_succ_lt (by assumption)))) (by first | exact BindsTo.of_eq rfl | exact binds_K Xs rfl (by k_is) rfl rfl rfl) (locs rfl) ?_ (by decide) rfl rfl rfl
  intro g L' h₁ W F N hsz
  have hbg := W.bas hb hl0
  have X1 := Frag.In.keeps X hbg
  have T1 := Top.keeps T hbg
  refine wpAny_mono (E := fun _ _ => False) ?_ (fun _ _ h => h) (fun _ _ h => h.elim)
  dsimp only [instObj] at N ⊢
  clear hN
  k_steps
  refine Hold.mk ?_
  refine ck_int (base := base) (by show A.depth + 1 < _; exact hA) X T (fun b o e => F.keep b o (hbg b o e)) ?_
  intro h2 tk2 t2 k2
  have F2 := F.keeps k2
  have N2 := N.grown k2
  clear F N k2
  k_steps
  refine Hold.mk ?_
  (rename Fr _ _ _ _ => F'); (rename News _ _ _ _ => N')
  refine ck_int (base := base) (by show A.depth + 1 < _; exact hA) X T (fun b o e => F'.keep b o (hbg b o e)) ?_
  intro h3 tk3 t3 k3
  have F3 := F'.keeps k3
  have N3 := N'.grown k3
  clear F' N' k3
  k_steps
  (rename Fr _ _ _ _ => F'); (rename News _ _ _ _ => N')
  refine h _ _ _ _ (W.all F'.keep ?_) (N'.get (by k_mem))
  simp only [fsts, List.map_cons, List.map_nil, List.mem_cons, List.not_mem_nil, or_false, forall_eq_or_imp, forall_eq, true_or, not_true_eq_false, or_true, false_implies, true_and, and_true]
  exact fun _ => ⟨_, hdx, N'.get (by k_mem)⟩
end Two
end
section
open PySem PySem.W PySem.Calls PyProof.Rows PyProof.Rows.TI
set_option maxRecDepth 100000
set_option maxHeartbeats 8000000
open Mine
namespace Two
theorem cn_nextOf {w : World} {p : Program} {loose : List Str} {mean : ExcName → Option Value} {mg mb : Str → Option Value} {A : Around} {s : Shared} {base : Heap} {Q E : Value → Shared → Prop} {cn dx : Addr} {k : Int} {t t' : Tok}
  (hA : A.depth < recursionLimit) (X : (Two.hd.heap_1 w.params).In base) (T : Top p loose mean mg mb base) (hb : ∀ b o, base.get? b = some o → s.heap.get? b = some o) (hc0 : base.get? cn = none)
  (hd0 : base.get? dx = none) (hd : s.heap.get? dx = some (dictOf [] 0)) (hc : s.heap.get? cn = some (countObj dx k t t'))
  (h : ∀ h' tk' v t2, (∀ b o, b ≠ cn → s.heap.get? b = some o → h'.get? b = some o) → h'.get? cn = some (countObj dx (k + 1) t2 t') → Q (.int k v) {s with heap := h', toks := tk'}) :
  wpAny (model PySem.Challenge.rw_kp0009_02.row.prog w) A (Builtin.SmallTypes.nextOf (.ref cn)) Q E s := by
  revert X; w_top off; k_fill; intro X
  unfold Builtin.SmallTypes.nextOf
  refine wpAny_bind (special_fn (name := "__next__") (args := []) (C := 222) (f := 211) (od := some (dictOf [] 0)) (Frag.In.keeps X hb) ⟨hc, rfl, by rfl, hd⟩ (by k_is) (by k_is) ?_)
  refine count_next (base := base) hA X T hb hc0 hd0 hd (ne_cls hc hd (by simp [countObj])) hc fun h' tk' v t2 k2 e => ?_
  exact wpAny_pure (h h' tk' v t2 k2 e)
inductive ZcInv (s : Shared) (z TI TO i1 cn dx D : Addr) (xs : Array Value) (t' : Tok) (S : Addr) (i : Nat) (acc : List Value) (s' : Shared) : Prop
  | mk (h' : Heap) (tk' : Nat) (ta : Nat → Addr) (ti : Nat → Tok) (tc : Tok) : s' = { s with heap := h', toks := tk' } → acc = ((List.range i).map fun k => Value.ref (ta k)) → listAt S acc h' →
      (∀ k, k < i → h'.get? (ta k) = some (tupObj (xs.getD k .none) (.int k (ti k))) ∧ s.heap.get? (ta k) = none ∧ ta k ≠ S) → (∀ b o, b ∉ [z, TO, i1, cn] → s.heap.get? b = some o → h'.get? b = some o) →
      (∃ a b, IsPair h' TO a b) → h'.IsListIter i1 D i → h'.get? cn = some (countObj dx i tc t') → (i = 0 → ZipO h' z TI TO .none (.bool false)) → (0 < i → ∃ b, ZipO h' z TI TO (rawInt (ta 0)) (.bool b)) → ZcInv s z TI TO i1 cn dx D xs t' S i acc s'
inductive ZcFin (s : Shared) (z TO i1 cn : Addr) (xs : Array Value) (n : Nat) (S : Addr) (acc : List Value) (s' : Shared) : Prop
  | mk (h' : Heap) (tk' : Nat) (ta : Nat → Addr) (ti : Nat → Tok) : s' = { s with heap := h', toks := tk' } → acc = ((List.range n).map fun k => Value.ref (ta k)) → listAt S acc h' →
      (∀ k, k < n → h'.get? (ta k) = some (tupObj (xs.getD k .none) (.int k (ti k))) ∧ s.heap.get? (ta k) = none) → (∀ b o, b ∉ [z, TO, i1, cn] → s.heap.get? b = some o → h'.get? b = some o) → ZcFin s z TO i1 cn xs n S acc s'
theorem zc_collect {w : World} {p : Program} {loose : List Str} {mean : ExcName → Option Value} {mg mb : Str → Option Value} {A : Around} {s : Shared} {base : Heap} {E : Value → Shared → Prop} {Q : List Value → Shared → Prop}
  {z TI TO i1 cn dx D : Addr} {xs : Array Value} {n : Nat} {t t' : Tok}
  (hA : A.depth < recursionLimit) (hh : A.handled = none) (X : (Two.hd.heap_1 w.params).In base) (T : Top p loose mean mg mb base) (hb : ∀ b o, base.get? b = some o → s.heap.get? b = some o) (hl0 : ∀ b ∈ [z, TO, i1, cn, dx], base.get? b = none)
  (hz : ZipO s.heap z TI TO .none (.bool false)) (hTI : IsPair s.heap TI (.ref i1) (.ref cn)) (hTO : IsPair s.heap TO .none .none) (h1 : s.heap.IsListIter i1 D 0) (hl1 : s.heap.IsList D xs) (hxs : xs.size = n) (hn0 : 0 < n) (hn : n ≤ sizeLine)
  (hcn : s.heap.get? cn = some (countObj dx 0 t t')) (hdx : s.heap.get? dx = some (dictOf [] 0)) (Z : ZApart z TI TO i1 cn D)
  (h : ∀ h' tk' (ta : Nat → Addr) (ti : Nat → Tok), (∀ b o, b ∉ [z, TO, i1, cn] → s.heap.get? b = some o → h'.get? b = some o) → (∀ k, k < n → h'.get? (ta k) = some (tupObj (xs.getD k .none) (.int k (ti k))) ∧ s.heap.get? (ta k) = none) → Q ((List.range n).map fun k => .ref (ta k)) {s with heap := h', toks := tk'}) :
  wpAny (model PySem.Challenge.rw_kp0009_02.row.prog w) A (collect (.ref z)) Q E s := by
  have hS0 : s.heap.get? s.heap.objs.size = none := Heap.get?_none_of_le (Nat.le_refl _)
  have neS : ∀ {x o}, s.heap.get? x = some o → x ≠ s.heap.objs.size := fun {x o} e q => by rw [q, hS0] at e; cases e
  have hdz : dx ∉ [z, TO, i1, cn] := by
    intro hm
    simp only [List.mem_cons, List.not_mem_nil, or_false] at hm
    rcases hm with rfl | rfl | rfl | rfl
    · exact absurd (hdx.symm.trans hz) (by simp [dictOf])
    · exact absurd (hdx.symm.trans hTO) (by simp [dictOf])
    · obtain ⟨o, e, ec, _⟩ := h1
      rw [hdx] at e; cases e; exact absurd ec (by decide)
    · exact absurd (hdx.symm.trans hcn) (by simp [dictOf, countObj])
  have hcn4 : cn ∉ [z, TO, i1] := fun hm => by
    simp only [List.mem_cons, List.not_mem_nil, or_false] at hm
    rcases hm with q | q | q
    · exact Z.cz q
    · exact Z.TOc q.symm
    · exact Z.i1c q.symm
  have sub3 : ∀ {b}, b ∉ [z, TO, i1, cn] → b ∉ [z, TO, i1] := fun {b} h1 h2 => h1 (by simp only [List.mem_cons, List.not_mem_nil, or_false] at h2 ⊢; rcases h2 with q | q | q <;> simp [q])
  have hTI4 : TI ∉ [z, TO, i1, cn] := fun hm => by
    simp only [List.mem_cons, List.not_mem_nil, or_false] at hm
    rcases hm with q | q | q | q
    · exact Z.TIz q
    · exact Z.TITO q
    · exact Z.TIi1 q
    · exact Z.TIc q
  have hD4 : D ∉ [z, TO, i1, cn] := fun hm => by
    simp only [List.mem_cons, List.not_mem_nil, or_false] at hm
    rcases hm with q | q | q | q
    · exact Z.l1z q
    · exact Z.l1TO q
    · exact Z.l1i1 q
    · exact Z.l1c q
  have hbn : ∀ b o, base.get? b = some o → b ∉ [z, TO, i1, cn] := fun b o e hm => by
    rw [hl0 b (by simp only [List.mem_cons, List.not_mem_nil, or_false] at hm ⊢; rcases hm with q | q | q | q <;> simp [q])] at e; cases e
  refine collect_any (I := z) (n := n) (T := .type "zip")
    (J := fun s' => ∃ h', s' = { s with heap := h' } ∧ (∀ x o, s.heap.get? x = some o → h'.get? x = some o) ∧ listAt s.heap.objs.size [] h')
    (Inv := ZcInv s z TI TO i1 cn dx D xs t' s.heap.objs.size)
    (Fin := ZcFin s z TO i1 cn xs n s.heap.objs.size)
    ⟨?item, ?done⟩ hn (fun q => neS hz q.symm) ?hT rfl rfl ?hit ?hlen ?hJ ?hQ
  case hT =>
    intro Q E hq
    have hT : Shared.TypeIs { s with heap := s.heap.push { cls := .type "list", data := .seq ([] : List Value).toArray } } (.ref z) "zip" := ⟨_, Heap.get?_push_of_some _ hz, rfl⟩
    exact wpAny_typeOf hT hq
  case hit =>
    exact wpAny_pyIter_zip (show IsZip _ z TI TO .none from Heap.get?_push_of_some _ hz) ⟨rfl, _, rfl, fun x o e => Heap.get?_push_of_some _ e, _, Heap.get?_push_size _ rfl⟩
  case hlen =>
    rintro s' Q E ⟨h', rfl, st, _⟩ hq
    exact zip_hint ⟨_, st _ _ hz, rfl⟩ hq
  case hJ =>
    rintro s' ⟨h', rfl, st, hS⟩
    refine ⟨hS, fun h2 k2 _ hS2 => ⟨h2, s.toks, fun _ => 0, fun _ => 0, t, rfl, rfl, hS2, fun k hk => absurd hk (Nat.not_lt_zero _), fun b o _ e => (k2 b (neS e)).trans (st b o e), ⟨_, _, (k2 _ (neS hTO)).trans (st _ _ hTO)⟩, ?_, (k2 _ (neS hcn)).trans (st _ _ hcn), fun _ => (k2 _ (neS hz)).trans (st _ _ hz), fun q => absurd q (Nat.lt_irrefl _)⟩⟩
    exact h1.at fun o e => (k2 _ (neS e)).trans (st _ _ e)
  case hQ =>
    rintro acc s' hl ⟨h', tk', ta, ti, rfl, rfl, hS, ht, k⟩
    exact ⟨hS, h h' tk' ta ti k ht⟩
  case item =>
    rintro i acc s' hlt ⟨h', tk', ta, ti, tc, rfl, rfl, ⟨cc, hS⟩, ht, kk, ⟨a, b, hTO'⟩, h1', hcn', z0, z1⟩
    have hx : xs[i]? = some (xs.getD i .none) := by simp [Array.getD, hxs, hlt]
    have hTI' : IsPair h' TI (.ref i1) (.ref cn) := kk _ _ hTI4 hTI
    have hl1' : h'.IsList D xs := hl1.at fun o e => kk _ _ hD4 e
    have hnx : ∀ E', NextIs PySem.Challenge.rw_kp0009_02.row.prog w (A.in1.in1) E' { s with heap := h', toks := tk' } [z, TO, i1] cn (fun y h => (∃ t, y = .int i t) ∧ ∃ t2, h.get? cn = some (countObj dx (i + 1) t2 t')) := by
      intro E' h₃ k3 _ Q' hq
      refine cn_nextOf (base := base) (by show A.depth < _; exact hA) X T (fun b o e => k3 b o (sub3 (hbn b o e)) (kk b o (hbn b o e) (hb b o e))) (hl0 _ (by simp)) (hl0 _ (by simp)) (k3 _ _ (sub3 hdz) (kk _ _ hdz hdx)) (k3 _ _ hcn4 hcn') fun h4 tk4 v t2 k4 e4 => ?_
      exact hq _ _ _ k4 ⟨⟨_, rfl⟩, _, e4⟩
    have hPc : ∀ (y : Value) (h : Heap), ((∃ t, y = .int i t) ∧ ∃ t2, h.get? cn = some (countObj dx ((i : Int) + 1) t2 t')) → ∃ o, h.get? cn = some o := fun y h hp => ⟨_, hp.2.choose_spec⟩
    have hSz : s.heap.objs.size ∉ [z, TO, i1, cn] := fun hm => by
      simp only [List.mem_cons, List.not_mem_nil, or_false] at hm
      rcases hm with q | q | q | q
      · exact neS hz q.symm
      · exact neS hTO q.symm
      · obtain ⟨o, e, _⟩ := h1; exact neS e q.symm
      · exact neS hcn q.symm
    have fin : ∀ (h2 : Heap) (tk2 : Nat) (y : Value) (h₄ : Heap), (∃ b, ZipO h2 z TI TO (rawInt (if i = 0 then h₄.objs.size else ta 0)) (.bool b)) → IsPair h2 h₄.objs.size (xs.getD i .none) y → h'.get? h₄.objs.size = none → (∃ a b, IsPair h2 TO a b) → h2.IsListIter i1 D (i + 1) →
        ((∃ t, y = .int i t) ∧ ∃ t2, h₄.get? cn = some (countObj dx (i + 1) t2 t')) → (∀ o, h₄.get? cn = some o → h2.get? cn = some o) → (∀ b o, b ∉ [z, TO, i1, cn] → h'.get? b = some o → h2.get? b = some o) →
        ∃ v, some (Value.ref h₄.objs.size) = some v ∧ listAt s.heap.objs.size ((List.range i).map fun k => Value.ref (ta k)) h2 ∧ ∀ h3 : Heap, (∀ x, x ≠ s.heap.objs.size → h3.get? x = h2.get? x) → h3.objs.size = h2.objs.size →
          listAt s.heap.objs.size (((List.range i).map fun k => Value.ref (ta k)) ++ [v]) h3 → ZcInv s z TI TO i1 cn dx D xs t' s.heap.objs.size (i + 1) (((List.range i).map fun k => Value.ref (ta k)) ++ [v]) { { s with heap := h2, toks := tk2 } with heap := h3 } := by
      rintro h2 tk2 _ h₄ ⟨bz, hz2⟩ hp2 hfr ⟨a2, b2, hTO2⟩ h12 ⟨⟨t, rfl⟩, t2, hc4⟩ hcc k2
      have hTS : h₄.objs.size ≠ s.heap.objs.size := fun q => by rw [q, hS] at hfr; cases hfr
      refine ⟨_, rfl, ⟨cc, k2 _ _ hSz hS⟩, fun h3 k3 _ hS3 => ⟨h3, tk2, fun k => if k = i then h₄.objs.size else ta k, fun k => if k = i then t else ti k, t2, rfl, ?_, hS3, fun k hk => ?_, fun b o q e => (k3 b (neS e)).trans (k2 b o q (kk b o q e)), ⟨a2, b2, (k3 _ (neS hTO)).trans hTO2⟩, ?_, ?_, fun q => absurd q (Nat.succ_ne_zero _), fun _ => ⟨bz, ?_⟩⟩⟩
      · rw [List.range_succ, List.map_append]
        congr 1
        · refine List.map_congr_left fun k hk => ?_
          try dsimp only
          rw [if_neg (Nat.ne_of_lt (List.mem_range.mp hk))]
        · simp
      · by_cases q : k = i
        · subst q
          try dsimp only
          rw [if_pos rfl, if_pos rfl]
          refine ⟨(k3 _ hTS).trans hp2, ?_, hTS⟩
          cases e : s.heap.get? h₄.objs.size with
          | none => rfl
          | some o =>
            by_cases hm : h₄.objs.size ∈ [z, TO, i1, cn]
            · simp only [List.mem_cons, List.not_mem_nil, or_false] at hm
              rcases hm with q | q | q | q <;> rw [q] at hfr
              · rcases Nat.eq_zero_or_pos k with r | r
                · rw [show h'.get? z = _ from z0 r] at hfr; cases hfr
                · obtain ⟨b, e⟩ := z1 r; rw [show h'.get? z = _ from e] at hfr; cases hfr
              · rw [hTO'] at hfr; cases hfr
              · obtain ⟨o, e, _⟩ := h1'; rw [e] at hfr; cases hfr
              · rw [hcn'] at hfr; cases hfr
            · rw [kk _ _ hm e] at hfr; cases hfr
        · try dsimp only
          rw [if_neg q, if_neg q]
          obtain ⟨e1, e2, e3⟩ := ht k (by (clear hA hh X T hb hl0 hz hTI hTO h1 hl1 hxs hn0 hn hcn hdx Z h hS0 neS hdz hcn4 sub3 hTI4 hD4 hbn hlt hS ht kk hTO' h1' hcn' z0 z1 hx hTI' hl1' hnx hPc hSz hz2 hfr hTO2 h12 hp2 hc4 hcc k2 hTS k3 hS3; lia))
          refine ⟨(k3 _ e3).trans (k2 _ _ (fun hm => ?_) e1), e2, e3⟩
          simp only [List.mem_cons, List.not_mem_nil, or_false] at hm
          rcases hm with q | q | q | q <;> rw [q] at e2
          · rw [show s.heap.get? z = _ from hz] at e2; cases e2
          · rw [hTO] at e2; cases e2
          · obtain ⟨o, e, _⟩ := h1; rw [e] at e2; cases e2
          · rw [hcn] at e2; cases e2
      · exact h12.at fun o e => (k3 _ (by obtain ⟨o, e, _⟩ := h1; exact neS e)).trans e
      · exact (k3 _ (neS hcn)).trans (hcc _ hc4)
      · refine (k3 _ (neS hz)).trans ?_
        try dsimp only
        by_cases q : i = 0
        · subst q; rw [if_pos rfl] at hz2; rw [if_pos rfl]; exact hz2
        · rw [if_neg q] at hz2; rw [if_neg (Ne.symm q)]; exact hz2
    rcases Nat.eq_zero_or_pos i with hi0 | hpos
    · refine next_zipO (z0 hi0) (zip_own_first Z (z0 hi0) hTI' hTO' h1' hl1' hx hPc (hnx _) ?_)
      intro h2 tk2 y h₄ q1 q2 q3 q4 q5 q6 q7 q8
      exact fin h2 tk2 y h₄ ⟨_, by rw [if_pos hi0]; exact q1⟩ q2 q3 q4 q5 q6 q7 q8
    · obtain ⟨bz, hz'⟩ := z1 hpos
      refine next_zipO hz' (zip_own_later Z hz' ⟨bz, rfl⟩ (ht 0 hpos).1 (fun q => ?_) hTI' hTO' h1' hl1' hx hPc (hnx _) ?_)
      · have := (ht 0 hpos).2.1
        rw [q, show s.heap.get? z = _ from hz] at this; cases this
      intro h2 tk2 y h₄ q1 q2 q3 q4 q5 q6 q7 q8
      exact fin h2 tk2 y h₄ (by rw [if_neg (Nat.ne_of_gt hpos)]; exact q1) q2 q3 q4 q5 q6 q7 q8
  case done =>
    rintro acc s' ⟨h', tk', ta, ti, tc, rfl, rfl, ⟨cc, hS⟩, ht, kk, ⟨a, b, hTO'⟩, h1', hcn', z0, z1⟩
    have hx : xs[n]? = none := by rw [← hxs]; exact Array.getElem?_eq_none (Nat.le_refl _)
    obtain ⟨bz, hz'⟩ := z1 hn0
    refine next_zipO hz' (zip_own_end (by exact hh) Z hz' ⟨bz, rfl⟩ (ht 0 hn0).1 (kk _ _ hTI4 hTI) h1' (hl1.at fun o e => kk _ _ hD4 e) hx ?_)
    intro h2 e k2 he
    obtain ⟨o, ho, hc⟩ := he
    have n2 : ∀ {x}, x ∉ [z, TO, i1, cn] → x ∉ [z, i1] := fun {x} h1 h2 => h1 (by simp only [List.mem_cons, List.not_mem_nil, or_false] at h2 ⊢; rcases h2 with q | q <;> simp [q])
    refine ⟨o, e, rfl, ho, hc, rfl, h2, tk', ta, ti, rfl, rfl, ⟨cc, k2 _ _ (notin2 (fun q => neS hz q.symm) (fun q => by obtain ⟨o, e, _⟩ := h1; exact neS e q.symm)) hS⟩, fun k hk => ?_, fun b o q e => k2 b o (n2 q) (kk b o q e)⟩
    obtain ⟨e1, e2, e3⟩ := ht k hk
    refine ⟨k2 _ _ (notin2 (fun q => ?_) fun q => ?_) e1, e2⟩
    · rw [q, show s.heap.get? z = _ from hz] at e2; cases e2
    · rw [q] at e2; obtain ⟨o, e, _⟩ := h1; rw [e] at e2; cases e2
end Two
end
section
open PySem PySem.W PySem.Calls PyProof.Rows PyProof.Rows.TI
set_option maxRecDepth 100000
namespace Mine
theorem peek_alloc {α : Type} {K : Frag} {M : Model} {A : Around} {E : Value → Shared → Prop} {Q : α → Shared → Prop} {s : Shared} {o : Obj} {r : Addr → α} (X : K.In s.heap) (q : Q (r s.heap.objs.size) { s with heap := s.heap.push o }) :
    ∀ (t : Sem α) (g : Addr → Option α), peek1 K ⟨M.prog, M.w.params⟩ t = some (o, g) → (∀ D, g D = some (r D)) → wpAny M A t Q E s := by
  intro t
  induction t with
  | rule _ k ih => intro g e hg Γ p hΓ; exact ih () g e hg Γ p hΓ
  | point _ k ih => intro g e hg Γ p hΓ; exact ih () g e hg Γ p hΓ
  | ask k ih => intro g e hg Γ p hΓ; exact ih _ g e hg Γ p hΓ
  | load a _ k ih =>
    intro g e hg Γ p hΓ
    simp only [peek1] at e
    split at e
    · rename_i ob ho; exact ⟨ob, X _ _ ho, ih ob g e hg Γ p hΓ⟩
    · cases e
  | alloc ob k _ =>
    intro g e hg
    have e : some (ob, fun D => peek K ⟨M.prog, M.w.params⟩ (k D)) = some (o, g) := e
    obtain ⟨e1, e2⟩ := Prod.mk.inj (Option.some.inj e)
    subst e1
    subst e2
    have X' : K.In (s.heap.push ob) := X.keeps fun b x hb => Heap.get?_push_of_some _ hb
    show wpAny M A (alloc ob >>= k) Q E s
    refine wpAny_bind (wpAny_alloc ?_)
    exact (Looks.of_peek (M := M) (h := s.heap.push ob) X' (hg s.heap.objs.size)).here (s := { s with heap := s.heap.push ob }) q
  | _ => intro g e; cases e
section
variable {prog : Program} {w : World} {A : Around} {s : Shared} {K : Frag}
  {R : Result → Shared → Prop} {name qual : Str} {params : Arguments} {body : List Stmt} {scope : Scope} {dV kV doc pm cdv ct oc : Value} {an od : Option Addr} {osl : Array (Option Value)} {f : Addr} {args : Args} {vs : List Value} {g₁ : Addr → Option (List (Str × Value))} {binds : Addr → List (Str × Value)}
/-- into a def with *rest that changes some objects of its caller -/
theorem enterR {news : List (Addr × Obj)} (hN : ∀ p ∈ news, s.heap.get? p.1 = some p.2) (X : K.In s.heap) (hlim : s.heap.NoLimit)
    (ho : K.lookup f = some ⟨oc, od, .func (fnOf name qual params body scope dV kV doc pm an cdv ct), osl⟩) (hcd : codeIn K cdv qual = true) (hroom : A.depth < recursionLimit)
    (hp : peek1 K ⟨prog, w.params⟩ (bindArgs (fnOf name qual params body scope dV kV doc pm an cdv ct) args) = some (({ cls := .type "tuple", data := .seq vs.toArray } : Obj), g₁))
    (hg : ∀ D, g₁ D = some (binds D)) (hloc : ∀ D, ∀ y ∈ binds D, scope.names.lookup y.1 = some .local)
    (h : ∀ D g L' h₁, Away s.heap (fsts news) g → s.heap.get? D = none → Fr g L' h₁ (fun y => (binds D).reverse.lookup y) → News g L' h₁ ((D, ({ cls := .type "tuple", data := .seq vs.toArray } : Obj)) :: news) → s.heap.objs.size ≤ L' → (∀ p ∈ news, p.1 < D) →
      wpAny (model prog w) (A.deeper (envOf qual scope L' f cdv)) (execs body (envOf qual scope L' f cdv))
        (fun fl s' => R (.ok (.ret (match fl with | .ret v => v | _ => .none))) s')
        (fun e s' => wpAny (model prog w) (A.deeper (envOf qual scope L' f cdv)) (leaving (envOf qual scope L' f cdv) e) (fun _ s'' => R (.error e) s'') (fun e' s'' => R (.error e') s'') s')
        { s with heap := h₁, toks := s.toks + (binds D).length })
    (hcell : ∀ x ∈ scope.names, x.2 ≠ .cell) (hco : scope.isCoroutine = false := by rfl) (hgen : scope.isGenerator = false := by rfl) (hk : scope.kind = .function := by rfl) : codeAny (model prog w) A (.call (.ref f) args) R s := by
  refine codeAny_call_function (fd := fnOf name qual params body scope dV kV doc pm an cdv ct) (body := body) hroom (X _ _ ho) rfl hco hgen rfl (codeRec_of X hcd) ?_
  refine peek_alloc (o := ({ cls := .type "tuple", data := .seq vs.toArray } : Obj)) X (r := binds) ?_ _ g₁ hp hg
  generalize hP : s.heap.push ({ cls := .type "tuple", data := .seq vs.toArray } : Obj) = hp1
  have kP : ∀ b o, s.heap.get? b = some o → hp1.get? b = some o := fun b o e => hP ▸ Heap.get?_push_of_some _ e
  have szP : hp1.objs.size = s.heap.objs.size + 1 := hP ▸ Heap.size_push ..
  have hD : hp1.get? s.heap.objs.size = some ({ cls := .type "tuple", data := .seq vs.toArray } : Obj) := hP ▸ Heap.get?_push_size _ rfl
  have hD0 : s.heap.get? s.heap.objs.size = none := Heap.get?_none_of_le (Nat.le_refl _)
  have hlim1 : hp1.NoLimit := hlim.keeps kP
  refine wpAny_newFunctionEnv hcell (hloc _) (fun h₁ hns hsb => ⟨hlim1.fresh _ hsb, codeAny_func ?_⟩) hk
  have hk₁ : ∀ b o, hp1.get? b = some o → h₁.get? b = some o := fun b o e => hsb.extBut b o (Nat.ne_of_lt (Heap.lt_size e)) (Heap.get?_push_of_some _ e)
  have W := away_gone s.heap (fsts news)
  have lt : ∀ p ∈ news, p.1 < s.heap.objs.size := fun p hp => Heap.lt_size (hN p hp)
  refine h s.heap.objs.size (gone s.heap (fsts news)) hp1.objs.size h₁ W hD0 ⟨hns, fun b o e => hk₁ b o (kP b o (W.was b o e).2), ?_⟩ (fun p hp => ?_) (by show s.heap.objs.size ≤ hp1.objs.size; rw [szP]; exact Nat.le_succ _) lt
  · rw [W.sz, szP]; exact Nat.le_succ _
  · rcases List.mem_cons.mp hp with rfl | hp
    · refine ⟨hk₁ _ _ hD, fun q => ?_, ?_⟩
      · have q' : s.heap.objs.size = s.heap.objs.size + 1 := (show s.heap.objs.size = hp1.objs.size from q).trans szP
        exact absurd q' (Nat.ne_of_lt (Nat.lt_succ_self _))
      · cases e : (gone s.heap (fsts news)).get? s.heap.objs.size with
        | none => rfl
        | some o => have := (W.was _ _ e).2; rw [hD0] at this; cases this
    · refine ⟨hk₁ _ _ (kP _ _ (hN p hp)), fun q => ?_, W.away _ (List.mem_map.mpr ⟨p, hp, rfl⟩)⟩
      have l := lt p hp
      rw [q, szP] at l
      exact absurd l (Nat.not_lt.mpr (Nat.le_succ _))
end
end Mine
end
local macro_rules | `(tactic| walk_at "pad 9") => `(tactic| fail)
section
open PySem PySem.W PySem.Calls PyProof.Rows PyProof.Rows.TI
set_option maxRecDepth 100000
set_option maxHeartbeats 8000000
open Mine
namespace Two
theorem call_iter_list {prog : Program} {w : World} {A : Around} {E : Value → Shared → Prop} {s : Shared} {l : Addr} {items : Array Value} {Q : Value → Shared → Prop} (hl : s.heap.IsList l items)
    (hQ : Q (.ref s.heap.objs.size) { s with heap := s.heap.push { cls := .type "list_iterator", data := .fields #[.ref l, .int 0 0] } }) : wpAny (model prog w) A (call (.builtin "iter") [.ref l]) Q E s := by
  refine call_function_entry (by decide +kernel) (by decide +kernel) kdk_entry_iter (kdk_args_iter _) ?_
  unfold Builtin.«iter»
  refine wpAny_bind (m := someArgs "iter" 1 2 _) (wpAny_of_eq (a := [Value.ref l]) (by first | rfl | kernel_rfl!) ?_)
  dsimp only
  refine wpAny_bind (wpAny_pyIter_list hl ?_)
  exact wpAny_pure ⟨_, rfl, hQ⟩
local macro_rules | `(tactic| walk_at "call builtin:iter") => `(tactic| refine Hold.out ?_)
theorem ig_init {w : World} {p : Program} {loose : List Str} {mean : ExcName → Option Value} {mg mb : Str → Option Value} {A : Around} {s : Shared} {base : Heap} {R : Result → Shared → Prop}
  {ig dig : Addr} {tz : Tok}
  (hA : A.depth < recursionLimit) (hh : A.handled = none) (X : (Two.hd.heap_1 w.params).In base) (T : Top p loose mean mg mb base) (hb : ∀ b o, base.get? b = some o → s.heap.get? b = some o) (hl0 : ∀ b ∈ [ig, dig], base.get? b = none)
  (hig : s.heap.get? ig = some (instObj 267 dig)) (hdig : s.heap.get? dig = some (dictOf [] 0))
  (h : ∀ h' tk' T0, (∀ b o, b ∉ [ig] → s.heap.get? b = some o → h'.get? b = some o) → s.heap.get? T0 = none → h'.get? T0 = some (tup1Obj (.int 0 tz)) → h'.get? ig = some (igObj dig T0) → R (.ok (.ret .none)) {s with heap := h', toks := tk'}) :
  codeAny (model PySem.Challenge.rw_kp0009_02.row.prog w) A (.call (.ref 242) ⟨[.ref ig, .int 0 tz], []⟩) R s := by
  revert X; w_top off; k_fill; intro X
  have d1 := ne_cls hig hdig (by simp [instObj])
  have hN : ∀ p ∈ [(ig, instObj 267 dig), (dig, dictOf [] 0)], s.heap.get? p.1 = some p.2 := by (repeat' (first | exact List.forall_mem_nil _ | refine List.forall_mem_cons.mpr ⟨?_, ?_⟩)) <;> first | assumption | simp [hig, hdig]
  have Xs := Frag.In.keeps X hb
  refine enterR (vs := []) hN Xs (Top.keeps T hb).nolimit (by k_is) (by k_is) (by (clear hh T hb hl0 hig hdig h X d1 hN Xs; (assumption))) (by exact rfl) (by exact fun _ => rfl) (fun _ => locs rfl) ?_ (by decide) rfl rfl rfl
  intro D g L' h₁ W hD F N hsz lD
  have hbg := W.bas hb hl0
  have X1 := Frag.In.keeps X hbg
  have T1 := Top.keeps T hbg
  refine wpAny_mono (E := fun _ _ => False) ?_ (fun _ _ h => h) (fun _ _ h => h.elim)
  dsimp only [instObj] at N ⊢
  clear hN
  have d2 := Nat.ne_of_lt (lD (ig, _) (.head _))
  have d3 := Nat.ne_of_lt (lD (dig, _) (.tail _ (.head _)))
  k_steps
  (rename Fr _ _ _ _ => F'); (rename News _ _ _ _ => N')
  rename _ ∧ _ => l1
  refine h _ _ _ (W.all F'.keep ?_) (W.fresh (N'.fresh (.head _)) ?_) (N'.get (.head _)) (N'.get (by k_mem))
  · simp only [fsts, List.map_cons, List.map_nil, List.mem_cons, List.not_mem_nil, or_false, forall_eq_or_imp, forall_eq, true_or, not_true_eq_false, or_true, false_implies, true_and, and_true]
    exact fun _ => ⟨_, hdig, N'.get (by k_mem)⟩
  · simp only [fsts, List.map_cons, List.map_nil, List.mem_cons, List.not_mem_nil, or_false, forall_eq_or_imp, forall_eq]
    exact l1.2
theorem gb_init {w : World} {p : Program} {loose : List Str} {mean : ExcName → Option Value} {mg mb : Str → Option Value} {A : Around} {s : Shared} {base : Heap} {R : Result → Shared → Prop}
  {gb dgb ig V : Addr} {items : Array Value}
  (hA : A.depth < recursionLimit) (X : (Two.hd.heap_1 w.params).In base) (T : Top p loose mean mg mb base) (hb : ∀ b o, base.get? b = some o → s.heap.get? b = some o) (hl0 : ∀ b ∈ [gb, dgb], base.get? b = none)
  (hgb : s.heap.get? gb = some (instObj 124 dgb)) (hdgb : s.heap.get? dgb = some (dictOf [] 0)) (hl : s.heap.IsList V items)
  (h : ∀ h' tk' it io t1 t2, (∀ b o, b ∉ [gb] → s.heap.get? b = some o → h'.get? b = some o) → s.heap.get? it = none → h'.get? it = some io → LI io V 0 → h'.get? gb = some (gbObj dgb (.int 0 t1) .none .none (.bool false) (.bool false) (.bool false) (.ref it) (.ref ig) (.int 0 t2) .none) → R (.ok (.ret .none)) {s with heap := h', toks := tk'}) :
  codeAny (model PySem.Challenge.rw_kp0009_02.row.prog w) A (.call (.ref 99) ⟨[.ref gb, .ref V], [(Str.ofString "key", .ref ig)]⟩) R s := by
  revert X; w_top off; k_fill; intro X
  have d1 := ne_cls hgb hdgb (by simp [instObj])
  have hN : ∀ p ∈ [(gb, instObj 124 dgb), (dgb, dictOf [] 0)], s.heap.get? p.1 = some p.2 := by (repeat' (first | exact List.forall_mem_nil _ | refine List.forall_mem_cons.mpr ⟨?_, ?_⟩)) <;> first | assumption | simp [hgb, hdgb]
  have Xs := Frag.In.keeps X hb
  refine enterO hN Xs (Top.keeps T hb).nolimit (by k_is) (by k_is) (by (clear T hb hl0 hgb hdgb hl h X d1 hN Xs; (assumption))) (by first | exact BindsTo.of_eq rfl | exact binds_K Xs rfl (by k_is) rfl rfl rfl) (locs rfl) ?_ (by decide) rfl rfl rfl
  intro g L' h₁ W F N hsz
  have hbg := W.bas hb hl0
  have X1 := Frag.In.keeps X hbg
  have T1 := Top.keeps T hbg
  have hl1 := W.list hN hl (by simp [instObj, dictOf])
  refine wpAny_mono (E := fun _ _ => False) ?_ (fun _ _ h => h) (fun _ _ h => h.elim)
  dsimp only [instObj] at N ⊢
  clear hN
  k_steps
  refine Hold.mk ?_
  (rename Fr _ _ _ _ => F'); (rename News _ _ _ _ => N')
  refine call_iter_list (stays_list F'.keep hl1) ?_
  have F2 := F'.push ({ cls := .type "list_iterator", data := .fields #[.ref V, .int 0 0] })
  have N2 := News.push F' N' ({ cls := .type "list_iterator", data := .fields #[.ref V, .int 0 0] }) rfl
  have q1 := Nat.ne_of_lt (Heap.lt_size (N'.get (a := gb) (by k_mem)))
  have q2 := Nat.ne_of_lt (Heap.lt_size (N'.get (a := dgb) (by k_mem)))
  have l1 := Heap.lt_size (N'.get (a := gb) (by k_mem))
  have l2 := Heap.lt_size (N'.get (a := dgb) (by k_mem))
  clear F' N'
  (try dsimp only)
  k_steps
  (rename Fr _ _ _ _ => F'); (rename News _ _ _ _ => N')
  refine h _ _ _ _ _ _ (W.all F'.keep ?_) (W.fresh (N'.fresh (.head _)) ?_) (N'.get (.head _)) ⟨rfl, rfl⟩ (N'.get (by k_mem))
  · simp only [fsts, List.map_cons, List.map_nil, List.mem_cons, List.not_mem_nil, or_false, forall_eq_or_imp, forall_eq, true_or, not_true_eq_false, or_true, false_implies, true_and, and_true]
    exact fun _ => ⟨_, hdgb, N'.get (by k_mem)⟩
  · simp only [fsts, List.map_cons, List.map_nil, List.mem_cons, List.not_mem_nil, or_false, forall_eq_or_imp, forall_eq]
    exact ⟨l1, l2⟩
end Two
end
local macro_rules | `(tactic| walk_at "pad 10") => `(tactic| fail)
local macro_rules | `(tactic| walk_at "pad 11") => `(tactic| fail)
section
open PySem PySem.W PySem.Calls PyProof.Rows PyProof.Rows.TI
set_option maxRecDepth 100000
set_option maxHeartbeats 8000000
open Mine
namespace Two
theorem gr_init {w : World} {p : Program} {loose : List Str} {mean : ExcName → Option Value} {mg mb : Str → Option Value} {A : Around} {s : Shared} {base : Heap} {R : Result → Shared → Prop}
  {gb dgb gr dgr : Addr} {it ig cg ck cv hck hcv htg tk vv : Value} {ts : Tok} {c : Int}
  (hA : A.depth < recursionLimit) (X : (Two.hd.heap_1 w.params).In base) (T : Top p loose mean mg mb base) (hb : ∀ b o, base.get? b = some o → s.heap.get? b = some o) (hl0 : ∀ b ∈ [gb, dgb, gr, dgr], base.get? b = none)
  (hgb : s.heap.get? gb = some (gbObj dgb cg ck cv hck hcv htg it ig (.int c ts) tk)) (hdgb : s.heap.get? dgb = some (dictOf [] 0)) (hgr : s.heap.get? gr = some (instObj 169 dgr)) (hdgr : s.heap.get? dgr = some (dictOf [] 0)) (hdd : @Ne Nat dgb dgr)
  (h : ∀ h' tk' t1 t2 t3, (∀ b o, b ∉ [gb, gr] → s.heap.get? b = some o → h'.get? b = some o) →
    h'.get? gb = some (gbObj dgb (.int (c + 1) t1) ck cv hck hcv htg it ig (.int (c + 1) t2) tk) → h'.get? gr = some (grObj dgr (.int (c + 1) t3) (.ref gb) vv) → R (.ok (.ret .none)) {s with heap := h', toks := tk'}) :
  codeAny (model PySem.Challenge.rw_kp0009_02.row.prog w) A (.call (.ref 151) ⟨[.ref gr, .ref gb, vv], []⟩) R s := by
  revert X; w_top off; k_fill; intro X
  have d1 := ne_cls hgb hdgb (by simp [gbObj])
  have d2 := ne_cls hgb hgr (by simp [gbObj, instObj])
  have d3 := ne_cls hgb hdgr (by simp [gbObj])
  have d4 := ne_cls hgr hdgb (by simp [instObj])
  have d5 := ne_cls hgr hdgr (by simp [instObj])
  have hN : ∀ p ∈ [(gb, gbObj dgb cg ck cv hck hcv htg it ig (.int c ts) tk), (dgb, dictOf [] 0), (gr, instObj 169 dgr), (dgr, dictOf [] 0)], s.heap.get? p.1 = some p.2 := by (repeat' (first | exact List.forall_mem_nil _ | refine List.forall_mem_cons.mpr ⟨?_, ?_⟩)) <;> first | assumption | simp [hgb, hdgb, hgr, hdgr]
  refine enterO hN (Frag.In.keeps X hb) (Top.keeps T hb).nolimit (by k_is) (by k_is) (by (clear T hb hl0 hgb hdgb hgr hdgr hdd h X d1 d2 d3 d4 d5 hN; (assumption))) (by exact BindsTo.of_eq rfl) (locs rfl) ?_ (by decide) rfl rfl rfl
  intro g L' h₁ W F N hsz
  have hbg := W.bas hb hl0
  have X1 := Frag.In.keeps X hbg
  have T1 := Top.keeps T hbg
  refine wpAny_mono (E := fun _ _ => False) ?_ (fun _ _ h => h) (fun _ _ h => h.elim)
  dsimp only [gbObj, instObj] at N ⊢
  clear hN
  k_steps
  (rename Fr _ _ _ _ => F'); (rename News _ _ _ _ => N')
  refine h _ _ _ _ _ (W.all F'.keep ?_) (N'.get (by k_mem)) (N'.get (by k_mem))
  simp only [fsts, List.map_cons, List.map_nil, List.mem_cons, List.not_mem_nil, or_false, forall_eq_or_imp, forall_eq, true_or, not_true_eq_false, or_true, false_implies, true_and, and_true]
  exact ⟨fun _ => ⟨_, hdgb, N'.get (by k_mem)⟩, fun _ => ⟨_, hdgr, N'.get (by k_mem)⟩⟩
end Two
end
section
open PySem PySem.W PySem.Calls PyProof.Rows PyProof.Rows.TI
set_option maxRecDepth 100000
set_option maxHeartbeats 8000000
open Mine
namespace Two
local macro_rules | `(tactic| walk_at "callWith ref") => `(tactic| ((with_reducible show wpAny _ _ (callWith _ (Value.ref _) _ (backTo _ (starEach [] _)) []) _ _ _); k_here; k_dflt (refine' callWith_K0 ?k1 ?k2 ?_; (case k1 => k_in); (case k2 => k_is); k_whole)))
local macro_rules | `(tactic| walk_at "call ref") => `(tactic| ((with_reducible show wpAny _ _ (call (Value.ref 113) _) _ _ _); refine Hold.out ?_))
local macro_rules | `(tactic| walk_at "call ref") => `(tactic| ((with_reducible show wpAny _ _ (call (Value.ref 83) _) _ _ _); refine Hold.out ?_))
local macro_rules | `(tactic| walk_at "call ref") => `(tactic| ((with_reducible show wpAny _ _ (call (Value.ref 169) _) _ _ _); refine Hold.out ?_))
local macro_rules | `(tactic| walk_at "exec While") => `(tactic| refine Hold.out ?_)
local macro_rules | `(tactic| walk_at "WhRest") => `(tactic| refine WhRest.succ ?_)
local macro_rules | `(tactic| walk_at "WhFlow") => `(tactic| dsimp only [WhFlow])
theorem gb_first {w : World} {p : Program} {loose : List Str} {mean : ExcName → Option Value} {mg mb : Str → Option Value} {A : Around} {s : Shared} {base : Heap} {Q E : Value → Shared → Prop}
  {gb dgb it ig dig T0 t V : Addr} {i : Nat} {items : Array Value} {io : Obj} {cg ck cv hcv tk : Value} {ts tv ti tz : Tok} {c v j : Int}
  (hA : A.depth + 2 < recursionLimit) (hh : A.handled = none) (X : (Two.hd.heap_1 w.params).In base) (T : Top p loose mean mg mb base) (hb : ∀ b o, base.get? b = some o → s.heap.get? b = some o) (hl0 : ∀ b ∈ [gb, dgb, it, ig, dig, T0, t], base.get? b = none)
  (hgb : s.heap.get? gb = some (gbObj dgb cg ck cv (.bool false) hcv (.bool false) (.ref it) (.ref ig) (.int c ts) tk)) (hdgb : s.heap.get? dgb = some (dictOf [] 0))
  (hig : s.heap.get? ig = some (igObj dig T0)) (hdig : s.heap.get? dig = some (dictOf [] 0)) (hT0 : s.heap.get? T0 = some (tup1Obj (.int 0 tz))) (ht : s.heap.get? t = some (tupObj (.int v tv) (.int j ti)))
  (hit : s.heap.get? it = some io) (hi : LI io V i) (hl : s.heap.IsList V items) (hx : items[i]? = some (.ref t))
  (h : ∀ h' tk' o' tp gr dgr t1 t2 t3, (∀ b o, b ∉ [gb, it] → s.heap.get? b = some o → h'.get? b = some o) → h'.get? it = some o' → LI o' V (i + 1) →
    h'.get? gb = some (gbObj dgb (.int (c + 1) t1) (.int v tv) (.ref t) (.bool true) (.bool true) (.bool true) (.ref it) (.ref ig) (.int (c + 1) t2) (.int v tv)) →
    s.heap.get? tp = none → s.heap.get? gr = none → s.heap.get? dgr = none → h'.get? tp = some (tupObj (.int v tv) (.ref gr)) → h'.get? gr = some (grObj dgr (.int (c + 1) t3) (.ref gb) (.int v tv)) → h'.get? dgr = some (dictOf [] 0) → Q (.ref tp) {s with heap := h', toks := tk'}) :
  wpAny (model PySem.Challenge.rw_kp0009_02.row.prog w) A (call (.ref 120) [.ref gb]) Q E s := by
  revert X; w_top off; k_fill; intro X
  have d1 := ne_cls hgb hdgb (by simp [gbObj])
  have d4 := ne_cls hgb hit (by rw [hi.1]; simp [gbObj])
  have d5 := ne_cls hgb hig (by simp [gbObj, igObj])
  have d6 := ne_cls hgb hdig (by simp [gbObj])
  have d7 := ne_cls hgb hT0 (by simp [gbObj, tup1Obj])
  have d8 := ne_cls hgb ht (by simp [gbObj, tupObj])
  have e1 := ne_cls hit hdgb (by rw [hi.1]; decide)
  have e2 := ne_cls hit hig (by rw [hi.1]; simp [igObj])
  have e3 := ne_cls hit hdig (by rw [hi.1]; decide)
  have e4 := ne_cls hit hT0 (by rw [hi.1]; simp [tup1Obj])
  have e5 := ne_cls hit ht (by rw [hi.1]; simp [tupObj])
  have hN : ∀ p ∈ [(gb, gbObj dgb cg ck cv (.bool false) hcv (.bool false) (.ref it) (.ref ig) (.int c ts) tk), (dgb, dictOf [] 0), (it, io), (ig, igObj dig T0), (dig, dictOf [] 0), (T0, tup1Obj (.int 0 tz)), (t, tupObj (.int v tv) (.int j ti))], s.heap.get? p.1 = some p.2 := by (repeat' (first | exact List.forall_mem_nil _ | refine List.forall_mem_cons.mpr ⟨?_, ?_⟩)) <;> first | assumption | simp [hgb, hdgb, hit, hig, hdig, hT0, ht]
  refine wpAny_call ?_
  refine enterO hN (Frag.In.keeps X hb) (Top.keeps T hb).nolimit (by k_is) (by k_is) (by (clear hh T hb hl0 hgb hdgb hig hdig hT0 ht hit hi hl hx h X d1 d4 d5 d6 d7 d8 e1 e2 e3 e4 e5 hN; lia)) (by exact BindsTo.of_eq rfl) (locs rfl) ?_ (by decide) rfl rfl rfl
  intro g L' h₁ W F N hsz
  have hbg := W.bas hb hl0
  have X1 := Frag.In.keeps X hbg
  have T1 := Top.keeps T hbg
  have hl1 := W.list hN hl (by simp [gbObj, igObj, tupObj, tup1Obj, hi.1, dictOf])
  refine wpAny_mono (E := fun _ _ => False) ?_ (fun _ _ h => h) (fun _ _ h => h.elim)
  dsimp only [gbObj, igObj, tupObj, tup1Obj] at N ⊢
  clear hN
  k_steps
  refine Hold.mk ?_
  refine While_unroll 2 ?_
  k_steps
  refine Hold.mk ?_
  (rename Fr _ _ _ _ => F'); (rename News _ _ _ _ => N')
  refine step_item (z := 0) (base := base) (dig := dig) (T0 := T0) (t := t) (by show A.depth + 1 + 1 < _; (clear hh T hb hl0 hgb hdgb hig hdig hT0 ht hit hi hl hx h X d1 d4 d5 d6 d7 d8 e1 e2 e3 e4 e5 W hsz hbg X1 T1 hl1 F' N'; (assumption))) hh X T (fun b o e => F'.keep b o (hbg b o e)) hl0 (N'.get (by k_mem)) (N'.get (by k_mem)) (N'.get (by k_mem)) (N'.get (by k_mem)) (N'.get (by k_mem)) (N'.get (by k_mem)) (N'.get (by k_mem)) hi (stays_list F'.keep hl1) hx d1 d4 d5 d6 d7 d8 e1 e2 e3 e4 e5 ?_
  intro h2 tk2 o2 k2 g1 i2 g2
  have hitL : L' ≠ it := fun q => (N' (it, io) (by k_mem)).2.1 q.symm
  have hgbL : L' ≠ gb := fun q => (N' (gb, _) (by k_mem)).2.1 q.symm
  have k3 : ∀ b o, b ∉ [gb, it] → _ := fun b o q => k2 b o (fun z => q (by simp [z])) (fun z => q (by simp [z]))
  have F2 := Fr.butl F' k3 (fun b hm => W.away b (by simp only [List.mem_cons, List.not_mem_nil, or_false] at hm; rcases hm with q | q <;> simp [q, fsts])) (by simp [hitL, hgbL])
  have N2 := News.butl N' k3 (news' := [(gb, _), (dgb, dictOf [] 0), (it, o2), (ig, igObj dig T0), (dig, dictOf [] 0), (T0, tup1Obj (.int 0 tz)), (t, tupObj (.int v tv) (.int j ti))]) (by
    (repeat' (first | exact List.forall_mem_nil _ | refine List.forall_mem_cons.mpr ⟨?_, ?_⟩))
    all_goals first | exact Or.inr ⟨g2, _, by k_mem⟩ | exact Or.inr ⟨g1, _, by k_mem⟩ | exact Or.inl ⟨by k_mem, notin2 (Ne.symm (by assumption)) (Ne.symm (by assumption))⟩)
  clear F' N' k2 k3
  dsimp only [gbObj, grObj, igObj, tupObj, tup1Obj] at N2 ⊢
  k_steps
  refine Hold.mk ?_
  (rename Fr _ _ _ _ => F'); (rename News _ _ _ _ => N')
  refine call_cls F' X1 N' (by k_is) (by k_is) (by k_is) ?_
  intro gr dgr h3 F3 N3 l1 l2
  (try dsimp only at N3)
  have hc0 : ∀ b ∈ [gb, dgb, gr, dgr], base.get? b = none := fun b hb' => by
    simp only [List.mem_cons, List.not_mem_nil, or_false] at hb'
    rcases hb' with q | q | q | q
    · exact hl0 b (by simp [q])
    · exact hl0 b (by simp [q])
    · exact none_base hbg (q ▸ (N3.fresh (.head _)))
    · exact none_base hbg (q ▸ (N3.fresh (.tail _ (.head _))))
  refine gr_init (base := base) (dgr := dgr) (by simp only [depth_under_make, depth_deeper]; (clear hh T hb hl0 hgb hdgb hig hdig hT0 ht hit hi hl hx h X d1 d4 d5 d6 d7 d8 e1 e2 e3 e4 e5 W hsz hbg X1 T1 hl1 g1 i2 g2 hitL hgbL F' N' F3 N3 l1 l2 hc0; (assumption))) X T (fun b o e => F3.keep b o (hbg b o e)) hc0 (N3.get (by k_mem)) (N3.get (by k_mem)) (N3.get (by k_mem)) (N3.get (by k_mem)) (Nat.ne_of_lt (l1 (dgb, _) (by k_mem))) ?_
  intro h4 tk4 t1 t2 t3 k4 g3 g4
  have hLg : L' ∉ [gb, gr] := notin2 hgbL fun q => (N3 (gr, _) (.head _)).2.1 q.symm
  have F4 := Fr.butl F3 k4 (fun b hm => by
    rcases List.mem_cons.mp hm with rfl | hm
    · exact N3.fresh (by k_mem)
    · obtain rfl := List.mem_singleton.mp hm; exact N3.fresh (.head _)) hLg
  have hgd := l1 (gb, _) (by k_mem)
  have hrd := Nat.ne_of_gt l2
  have q1 := Nat.ne_of_lt (Nat.lt_trans (l1 (gb, _) (by k_mem)) l2)
  have q2 := Nat.ne_of_lt (Nat.lt_trans (l1 (it, _) (by k_mem)) l2)
  have q3 := Nat.ne_of_lt hgd
  have N4 := News.butl N3 k4 (news' := [(gr, grObj dgr (.int (c + 1) t3) (.ref gb) (.int v tv)), (dgr, dictOf [] 0), (gb, _), (dgb, dictOf [] 0), (it, o2), (ig, igObj dig T0), (dig, dictOf [] 0), (T0, tup1Obj (.int 0 tz)), (t, tupObj (.int v tv) (.int j ti))]) (by
    intro p hp
    simp only [List.mem_cons, List.not_mem_nil, or_false] at hp
    rcases hp with rfl | rfl | rfl | rfl | rfl | rfl | rfl | rfl | rfl
    · exact Or.inr ⟨g4, _, .head _⟩
    · exact Or.inl ⟨by k_mem, notin2 (Ne.symm q3) (Ne.symm hrd)⟩
    · exact Or.inr ⟨g3, _, by k_mem⟩
    all_goals exact Or.inl ⟨by k_mem, notin2 (Ne.symm (by assumption)) (Nat.ne_of_lt (Nat.lt_trans (l1 _ (by k_mem)) l2))⟩)
  have hf1 : g.get? gr = none := N3.fresh (.head _)
  have hf2 : g.get? dgr = none := N3.fresh (.tail _ (.head _))
  have hf3 : s.heap.get? gr = none := W.fresh hf1 (by
    simp only [fsts, List.map_cons, List.map_nil, List.mem_cons, List.not_mem_nil, or_false, forall_eq_or_imp, forall_eq]
    exact ⟨Nat.lt_trans (l1 (gb, _) (by k_mem)) l2, Nat.lt_trans (l1 (dgb, _) (by k_mem)) l2, Nat.lt_trans (l1 (it, _) (by k_mem)) l2, Nat.lt_trans (l1 (ig, _) (by k_mem)) l2, Nat.lt_trans (l1 (dig, _) (by k_mem)) l2, Nat.lt_trans (l1 (T0, _) (by k_mem)) l2, Nat.lt_trans (l1 (t, _) (by k_mem)) l2⟩)
  have hf4 : s.heap.get? dgr = none := W.fresh hf2 (by
    simp only [fsts, List.map_cons, List.map_nil, List.mem_cons, List.not_mem_nil, or_false, forall_eq_or_imp, forall_eq]
    exact ⟨l1 (gb, _) (by k_mem), l1 (dgb, _) (by k_mem), l1 (it, _) (by k_mem), l1 (ig, _) (by k_mem), l1 (dig, _) (by k_mem), l1 (T0, _) (by k_mem), l1 (t, _) (by k_mem)⟩)
  clear F' N' k4 F3 N3 l1
  refine ⟨rfl, ?_⟩
  dsimp only [gbObj, grObj, igObj, tupObj, tup1Obj] at N4 ⊢
  k_steps
  (rename Fr _ _ _ _ => F'); (rename News _ _ _ _ => N')
  rename _ ∧ _ => l1
  have hf5 : s.heap.get? _ = none := W.fresh (N'.fresh (.head _)) (by
    simp only [fsts, List.map_cons, List.map_nil, List.mem_cons, List.not_mem_nil, or_false, forall_eq_or_imp, forall_eq]
    exact l1.2.2)
  refine h _ _ o2 _ gr dgr t1 t2 t3 (W.all F'.keep ?_) (N'.get (by k_mem)) i2 (N'.get (by k_mem)) hf5 hf3 hf4 (N'.get (.head _)) (N'.get (by k_mem)) (N'.get (by k_mem))
  simp only [fsts, List.map_cons, List.map_nil, List.mem_cons, List.not_mem_nil, or_false, forall_eq_or_imp, forall_eq, true_or, not_true_eq_false, or_true, false_implies, true_and, and_true]
  exact ⟨fun _ => ⟨_, hdgb, N'.get (by k_mem)⟩, fun _ => ⟨_, hig, N'.get (by k_mem)⟩, fun _ => ⟨_, hdig, N'.get (by k_mem)⟩, fun _ => ⟨_, hT0, N'.get (by k_mem)⟩, fun _ => ⟨_, ht, N'.get (by k_mem)⟩⟩
theorem gb_later {w : World} {p : Program} {loose : List Str} {mean : ExcName → Option Value} {mg mb : Str → Option Value} {A : Around} {s : Shared} {base : Heap} {Q E : Value → Shared → Prop}
  {gb dgb t : Addr} {cg hcv it ig : Value} {ts tv tv' : Tok} {c v v' : Int}
  (hA : A.depth + 2 < recursionLimit) (X : (Two.hd.heap_1 w.params).In base) (T : Top p loose mean mg mb base) (hb : ∀ b o, base.get? b = some o → s.heap.get? b = some o) (hl0 : ∀ b ∈ [gb, dgb], base.get? b = none)
  (hgb : s.heap.get? gb = some (gbObj dgb cg (.int v tv) (.ref t) (.bool true) hcv (.bool true) it ig (.int c ts) (.int v' tv'))) (hdgb : s.heap.get? dgb = some (dictOf [] 0))
  (ht1 : tv ≠ 0) (ht2 : tv' ≠ 0) (hvv : v' ≠ v) (inj : tv' = tv → v' = v)
  (h : ∀ h' tk' tp gr dgr t1 t2 t3, (∀ b o, b ∉ [gb] → s.heap.get? b = some o → h'.get? b = some o) →
    h'.get? gb = some (gbObj dgb (.int (c + 1) t1) (.int v tv) (.ref t) (.bool true) hcv (.bool true) it ig (.int (c + 1) t2) (.int v tv)) →
    s.heap.get? tp = none → s.heap.get? gr = none → s.heap.get? dgr = none → h'.get? tp = some (tupObj (.int v tv) (.ref gr)) → h'.get? gr = some (grObj dgr (.int (c + 1) t3) (.ref gb) (.int v tv)) → h'.get? dgr = some (dictOf [] 0) → Q (.ref tp) {s with heap := h', toks := tk'}) :
  wpAny (model PySem.Challenge.rw_kp0009_02.row.prog w) A (call (.ref 120) [.ref gb]) Q E s := by
  revert X; w_top off; k_fill; intro X
  have d1 := ne_cls hgb hdgb (by simp [gbObj])
  have hN : ∀ p ∈ [(gb, gbObj dgb cg (.int v tv) (.ref t) (.bool true) hcv (.bool true) it ig (.int c ts) (.int v' tv')), (dgb, dictOf [] 0)], s.heap.get? p.1 = some p.2 := by (repeat' (first | exact List.forall_mem_nil _ | refine List.forall_mem_cons.mpr ⟨?_, ?_⟩)) <;> first | assumption | simp [hgb, hdgb]
  refine wpAny_call ?_
  refine enterO hN (Frag.In.keeps X hb) (Top.keeps T hb).nolimit (by k_is) (by k_is) (by (clear T hb hl0 hgb hdgb ht1 ht2 hvv inj h X d1 hN; lia)) (by exact BindsTo.of_eq rfl) (locs rfl) ?_ (by decide) rfl rfl rfl
  intro g L' h₁ W F N hsz
  have hbg := W.bas hb hl0
  have X1 := Frag.In.keeps X hbg
  have T1 := Top.keeps T hbg
  refine wpAny_mono (E := fun _ _ => False) ?_ (fun _ _ h => h) (fun _ _ h => h.elim)
  dsimp only [gbObj] at N ⊢
  clear hN
  k_steps
  refine Hold.mk ?_
  refine While_unroll 1 ?_
  k_steps
  refine Hold.mk ?_
  (rename Fr _ _ _ _ => F'); (rename News _ _ _ _ => N')
  have hgbL : L' ≠ gb := fun q => (N' (gb, _) (by k_mem)).2.1 q.symm
  refine same_ints (base := base) (by show A.depth + 1 < _; (clear T hb hl0 hgb hdgb ht1 ht2 hvv inj h X d1 W hsz hbg X1 T1 F' N' hgbL; (exact Nat.lt_of_succ_lt (by assumption)))) X T (fun b o e => F'.keep b o (hbg b o e)) ht2 ht1 inj ?_
  rw [show (v' == v) = false from by simpa using hvv]
  intro h2 tk2 k2
  have F2 := F'.keeps k2
  have N2 := N'.grown k2
  clear F' N' k2
  k_steps
  refine Hold.mk ?_
  (rename Fr _ _ _ _ => F'); (rename News _ _ _ _ => N')
  refine call_cls F' X1 N' (by k_is) (by k_is) (by k_is) ?_
  intro gr dgr h3 F3 N3 l1 l2
  (try dsimp only at N3)
  have hc0 : ∀ b ∈ [gb, dgb, gr, dgr], base.get? b = none := fun b hb' => by
    simp only [List.mem_cons, List.not_mem_nil, or_false] at hb'
    rcases hb' with q | q | q | q
    · exact hl0 b (by simp [q])
    · exact hl0 b (by simp [q])
    · exact none_base hbg (q ▸ (N3.fresh (.head _)))
    · exact none_base hbg (q ▸ (N3.fresh (.tail _ (.head _))))
  refine gr_init (base := base) (dgr := dgr) (by simp only [depth_under_make, depth_deeper]; (clear T hb hl0 hgb hdgb ht1 ht2 hvv inj h X d1 W hsz hbg X1 T1 hgbL F' N' F3 N3 l1 l2 hc0; (assumption))) X T (fun b o e => F3.keep b o (hbg b o e)) hc0 (N3.get (by k_mem)) (N3.get (by k_mem)) (N3.get (by k_mem)) (N3.get (by k_mem)) (Nat.ne_of_lt (l1 (dgb, _) (by k_mem))) ?_
  intro h4 tk4 t1 t2 t3 k4 g3 g4
  have hLg : L' ∉ [gb, gr] := notin2 hgbL fun q => (N3 (gr, _) (.head _)).2.1 q.symm
  have F4 := Fr.butl F3 k4 (fun b hm => by
    rcases List.mem_cons.mp hm with rfl | hm
    · exact N3.fresh (by k_mem)
    · obtain rfl := List.mem_singleton.mp hm; exact N3.fresh (.head _)) hLg
  have hgd := l1 (gb, _) (by k_mem)
  have hrd := Nat.ne_of_gt l2
  have q1 := Nat.ne_of_lt (Nat.lt_trans (l1 (gb, _) (by k_mem)) l2)
  have q3 := Nat.ne_of_lt hgd
  have N4 := News.butl N3 k4 (news' := [(gr, grObj dgr (.int (c + 1) t3) (.ref gb) (.int v tv)), (dgr, dictOf [] 0), (gb, _), (dgb, dictOf [] 0)]) (by
    intro p hp
    simp only [List.mem_cons, List.not_mem_nil, or_false] at hp
    rcases hp with rfl | rfl | rfl | rfl
    · exact Or.inr ⟨g4, _, .head _⟩
    · exact Or.inl ⟨by k_mem, notin2 (Ne.symm q3) (Ne.symm hrd)⟩
    · exact Or.inr ⟨g3, _, by k_mem⟩
    all_goals exact Or.inl ⟨by k_mem, notin2 (Ne.symm (by assumption)) (Nat.ne_of_lt (Nat.lt_trans (l1 _ (by k_mem)) l2))⟩)
  have hf1 : g.get? gr = none := N3.fresh (.head _)
  have hf2 : g.get? dgr = none := N3.fresh (.tail _ (.head _))
  have hf3 : s.heap.get? gr = none := W.fresh hf1 (by
    simp only [fsts, List.map_cons, List.map_nil, List.mem_cons, List.not_mem_nil, or_false, forall_eq_or_imp, forall_eq]
    exact ⟨Nat.lt_trans (l1 (gb, _) (by k_mem)) l2, Nat.lt_trans (l1 (dgb, _) (by k_mem)) l2⟩)
  have hf4 : s.heap.get? dgr = none := W.fresh hf2 (by
    simp only [fsts, List.map_cons, List.map_nil, List.mem_cons, List.not_mem_nil, or_false, forall_eq_or_imp, forall_eq]
    exact ⟨l1 (gb, _) (by k_mem), l1 (dgb, _) (by k_mem)⟩)
  clear F' N' k4 F3 N3 l1
  refine ⟨rfl, ?_⟩
  dsimp only [gbObj, grObj] at N4 ⊢
  k_steps
  (rename Fr _ _ _ _ => F'); (rename News _ _ _ _ => N')
  rename _ ∧ _ => l1
  have hf5 : s.heap.get? _ = none := W.fresh (N'.fresh (.head _)) (by
    simp only [fsts, List.map_cons, List.map_nil, List.mem_cons, List.not_mem_nil, or_false, forall_eq_or_imp, forall_eq]
    exact l1.2.2)
  refine h _ _ _ gr dgr t1 t2 t3 (W.all F'.keep ?_) (N'.get (by k_mem)) hf5 hf3 hf4 (N'.get (.head _)) (N'.get (by k_mem)) (N'.get (by k_mem))
  simp only [fsts, List.map_cons, List.map_nil, List.mem_cons, List.not_mem_nil, or_false, forall_eq_or_imp, forall_eq, true_or, not_true_eq_false, or_true, false_implies, true_and, and_true]
  exact fun _ => ⟨_, hdgb, N'.get (by k_mem)⟩
theorem gb_end {w : World} {p : Program} {loose : List Str} {mean : ExcName → Option Value} {mg mb : Str → Option Value} {A : Around} {s : Shared} {base : Heap} {envs : List Env} {Q E : Value → Shared → Prop}
  {gb dgb it ig V : Addr} {i : Nat} {items : Array Value} {io : Obj} {cg ck cv hcv htg ser tk : Value}
  (hA : A.depth + 2 < recursionLimit) (hh : A.handled = none) (X : (Two.hd.heap_1 w.params).In base) (T : Top p loose mean mg mb base) (B : Below A base envs s.heap) (hl0 : ∀ b ∈ [gb, dgb, it], base.get? b = none) (hfrm : ∀ b ∈ envs.filterMap (·.frame), b ∉ [gb, dgb, it])
  (hgb : s.heap.get? gb = some (gbObj dgb cg ck cv (.bool false) hcv htg (.ref it) (.ref ig) ser tk)) (hdgb : s.heap.get? dgb = some (dictOf [] 0))
  (hit : s.heap.get? it = some io) (hi : (LI io V i ∧ s.heap.IsList V items ∧ items[i]? = none) ∨ DI io)
  (hE : ∀ h' tk' e o', Flies [gb, it] envs e "StopIteration" [(it, o')] s.heap h' → DI o' → E (.ref e) {s with heap := h', toks := tk'}) :
  wpAny (model PySem.Challenge.rw_kp0009_02.row.prog w) A (call (.ref 120) [.ref gb]) Q E s := by
  revert X; w_top off; k_fill; intro X
  have hb := B.stays
  have hic : io.cls = .type "list_iterator" := by rcases hi with hi | hi; exact hi.1.1; exact hi.1
  have d1 := ne_cls hgb hdgb (by simp [gbObj])
  have d4 := ne_cls hgb hit (by rw [hic]; simp [gbObj])
  have e1 := ne_cls hit hdgb (by rw [hic]; decide)
  have hN : ∀ p ∈ [(gb, gbObj dgb cg ck cv (.bool false) hcv htg (.ref it) (.ref ig) ser tk), (dgb, dictOf [] 0), (it, io)], s.heap.get? p.1 = some p.2 := by (repeat' (first | exact List.forall_mem_nil _ | refine List.forall_mem_cons.mpr ⟨?_, ?_⟩)) <;> first | assumption | simp [hgb, hdgb, hit]
  refine wpAny_call ?_
  refine enterO hN (Frag.In.keeps X hb) (Top.keeps T hb).nolimit (by k_is) (by k_is) (by (clear hh T B hl0 hfrm hgb hdgb hit hi hE X hb hic d1 d4 e1 hN; lia)) (by exact BindsTo.of_eq rfl) (locs rfl) ?_ (by decide) rfl rfl rfl
  intro g L' h₁ W F N hsz
  have hbg := W.bas hb hl0
  have X1 := Frag.In.keeps X hbg
  have T1 := Top.keeps T hbg
  have hi1 : (LI io V i ∧ g.IsList V items ∧ items[i]? = none) ∨ DI io := hi.imp (fun z => ⟨z.1, W.list hN z.2.1 (by simp [gbObj, dictOf, hic]), z.2.2⟩) id
  dsimp only [gbObj] at N ⊢
  clear hN
  k_steps
  refine Hold.mk ?_
  refine While_unroll 1 ?_
  k_steps
  refine Hold.mk ?_
  (rename Fr _ _ _ _ => F'); (rename News _ _ _ _ => N')
  have Bg := W.below B hfrm hl0
  refine step_end (base := base) (items := items) (V := V) (i := i) (by show A.depth + 1 + 1 < _; (clear hh T B hl0 hfrm hgb hdgb hit hi hE X hb hic d1 d4 e1 W hsz hbg X1 T1 hi1 F' N' Bg; (assumption))) hh (pushX Bg F' rfl rfl) X T hl0 ?_ (N'.get (by k_mem)) (N'.get (by k_mem)) (N'.get (by k_mem)) (hi1.imp (fun z => ⟨z.1, stays_list F'.keep z.2.1, z.2.2⟩) id) d1 d4 e1 ?_
  · intro b hb' hm
    rcases List.mem_cons.mp hb' with q | q
    · simp only [List.mem_cons, List.not_mem_nil, or_false] at hm
      rcases hm with rfl | rfl | rfl
      · exact (N' (b, _) (by k_mem)).2.1 q
      · exact (N' (b, dictOf [] 0) (by k_mem)).2.1 q
      · exact (N' (b, io) (by k_mem)).2.1 q
    · exact hfrm b q hm
  intro h2 tk2 e o2 hf di
  refine leave_on (l := [gb, it]) B (W.calm F'.keep ?_ ?_) rfl hsz (fun b hm => Or.inl (by simp [List.mem_singleton.mp hm])) hf fun h3 hf3 => hE _ _ _ _ hf3 di
  · simp only [fsts, List.map_cons, List.map_nil, List.mem_cons, List.not_mem_nil, or_false, forall_eq_or_imp, forall_eq, true_or, not_true_eq_false, or_true, false_implies, true_and, and_true]
    exact fun _ => ⟨_, hdgb, N'.get (by k_mem)⟩
  · intro b hm o e hnf
    rcases List.mem_cons.mp hm with rfl | hm
    · rw [hgb] at e; cases e; exact ⟨_, N'.get (by k_mem)⟩
    · obtain rfl := List.mem_singleton.mp hm
      rw [hit] at e; cases e
      rcases hi with ⟨z, _⟩ | ⟨_, v, z⟩
      · exact absurd z.2 (hnf _)
      · exact absurd z (hnf _)
end Two
end
section
open PySem PySem.W PySem.Calls PyProof.Rows PyProof.Rows.TI
set_option maxRecDepth 100000
set_option maxHeartbeats 8000000
open Mine
namespace Two
/-- what groupby runs over -/
structure RK where
  n : Nat
  gb : Addr
  dgb : Addr
  it : Addr
  ig : Addr
  dig : Addr
  T0 : Addr
  V : Addr
  tz : Tok
  ta : Nat → Addr
  vs : Nat → Int
  tv : Nat → Tok
  ps : Nat → Int
  tp : Nat → Tok
def RK.GW (c : RK) (h : Heap) : Prop := Two.GW h c.dgb c.ig c.dig c.T0 c.V c.tz c.n c.ta c.vs c.tv c.ps c.tp
def RK.GIn (c : RK) (b : Addr) : Prop := Two.GIn c.dgb c.ig c.dig c.T0 c.V c.n c.ta b
def RK.obj (c : RK) (cg ck cv hck hcv htg ser tk : Value) : Obj := gbObj c.dgb cg ck cv hck hcv htg (.ref c.it) (.ref c.ig) ser tk
/-- groupby stands ahead of place a -/
def RK.At (c : RK) (a : Nat) (h : Heap) : Prop :=
  ∃ io og, h.get? c.it = some io ∧ h.get? c.gb = some og ∧ ((a = 0 ∧ LI io c.V 0 ∧ ∃ cg ck cv hcv tk ts n0, og = c.obj cg ck cv (.bool false) hcv (.bool false) (.int n0 ts) tk) ∨
    (0 < a ∧ a < c.n ∧ LI io c.V (a + 1) ∧ ∃ cg ts n0 a0, a0 < a ∧ c.vs a0 ≠ c.vs a ∧ og = c.obj cg (.int (c.vs a) (c.tv a)) (.ref (c.ta a)) (.bool true) (.bool true) (.bool true) (.int n0 ts) (.int (c.vs a0) (c.tv a0))) ∨
    (a = c.n ∧ DI io ∧ ∃ cg ck cv hcv htg ser tk, og = c.obj cg ck cv (.bool false) hcv htg ser tk))
structure RK.Tok (c : RK) : Prop where
  pos : ∀ k, k < c.n → c.tv k ≠ 0
  inj : ∀ j k, j < c.n → k < c.n → c.tv j = c.tv k → c.vs j = c.vs k
  two : 2 ≤ c.n
  few : c.n ≤ sizeLine
section
variable {w : World} {p : Program} {loose : List Str} {mean : ExcName → Option Value} {mg mb : Str → Option Value} {A : Around} {s : Shared} {base : Heap} {envs : List Env} {Q E : Value → Shared → Prop} {c : RK} {a : Nat}
theorem RK.At.cls {h : Heap} (S : c.At a h) : ∃ io cg ck cv hck hcv htg ser tk, h.get? c.it = some io ∧ h.get? c.gb = some (c.obj cg ck cv hck hcv htg ser tk) ∧ io.cls = .type "list_iterator" := by
  obtain ⟨io, og, e1, e2, ⟨_, h1, _, _, _, _, _, _, _, rfl⟩ | ⟨_, _, h1, _, _, _, _, _, _, rfl⟩ | ⟨_, h1, _, _, _, _, _, _, _, rfl⟩⟩ := S
  · exact ⟨io, _, _, _, _, _, _, _, _, e1, e2, h1.1⟩
  · exact ⟨io, _, _, _, _, _, _, _, _, e1, e2, h1.1⟩
  · exact ⟨io, _, _, _, _, _, _, _, _, e1, e2, h1.1⟩
theorem gb_any (hA : A.depth + 2 < recursionLimit) (hh : A.handled = none) (X : (Two.hd.heap_1 w.params).In base) (T : Top p loose mean mg mb base) (hb : ∀ b o, base.get? b = some o → s.heap.get? b = some o) (K : c.Tok)
  (hl0 : ∀ x, c.GIn x ∨ x ∈ [c.gb, c.it] → base.get? x = none) (G : c.GW s.heap) (S : c.At a s.heap) (ha : a < c.n)
  (h : ∀ h' tk' io tp gr dgr c1 t1 t2 t3, (∀ b o, b ∉ [c.gb, c.it] → s.heap.get? b = some o → h'.get? b = some o) → h'.get? c.it = some io → LI io c.V (a + 1) →
    h'.get? c.gb = some (c.obj (.int c1 t1) (.int (c.vs a) (c.tv a)) (.ref (c.ta a)) (.bool true) (.bool true) (.bool true) (.int c1 t2) (.int (c.vs a) (c.tv a))) →
    s.heap.get? tp = none → s.heap.get? gr = none → s.heap.get? dgr = none → h'.get? tp = some (tupObj (.int (c.vs a) (c.tv a)) (.ref gr)) → h'.get? gr = some (grObj dgr (.int c1 t3) (.ref c.gb) (.int (c.vs a) (c.tv a))) → h'.get? dgr = some (dictOf [] 0) → Q (.ref tp) {s with heap := h', toks := tk'}) :
  wpAny (model PySem.Challenge.rw_kp0009_02.row.prog w) A (call (.ref 120) [.ref c.gb]) Q E s := by
  obtain ⟨io, og, e1, e2, ⟨rfl, h1, cg, ck, cv, hcv, tk, ts, n0, rfl⟩ | ⟨h0, _, h1, cg, ts, n0, a0, ha0, hne, rfl⟩ | ⟨h0, _⟩⟩ := S
  · refine gb_first (base := base) (t := c.ta 0) (V := c.V) hA hh X T hb (fun b hb' => ?_) e2 G.hdgb G.hig G.hdig G.hT0 (G.tup 0 ha) e1 h1 G.hV (G.item ha) ?_
    · simp only [List.mem_cons, List.not_mem_nil, or_false] at hb'
      rcases hb' with q | q | q | q | q | q | q <;> rw [q]
      · exact hl0 _ (.inr (by first | k_mem | simp))
      · exact hl0 _ (.inl (.inl (by first | k_mem | simp)))
      · exact hl0 _ (.inr (by first | k_mem | simp))
      · exact hl0 _ (.inl (.inl (by first | k_mem | simp)))
      · exact hl0 _ (.inl (.inl (by first | k_mem | simp)))
      · exact hl0 _ (.inl (.inl (by first | k_mem | simp)))
      · exact hl0 _ (.inl (.inr ⟨0, ha, rfl⟩))
    intro h' tk' o' tp gr dgr t1 t2 t3 k g1 i1 g2 f1 f2 f3 g3 g4 g5
    exact h h' tk' o' tp gr dgr _ t1 t2 t3 k g1 i1 g2 f1 f2 f3 g3 g4 g5
  · have d := ne_cls e2 e1 (by rw [h1.1]; simp [RK.obj, gbObj])
    refine gb_later (base := base) hA X T hb (fun b hb' => ?_) e2 G.hdgb (K.pos a ha) (K.pos a0 (by (clear hA hh X T hb K hl0 G h e1 h0 h1 hne e2 d; (exact Nat.lt_trans (by assumption) (by assumption))))) hne (fun q => K.inj _ _ (by (clear hA hh X T hb K hl0 G h e1 h0 h1 hne e2 d q; (exact Nat.lt_trans (by assumption) (by assumption)))) ha q) ?_
    · simp only [List.mem_cons, List.not_mem_nil, or_false] at hb'
      rcases hb' with q | q <;> rw [q]
      · exact hl0 _ (.inr (by first | k_mem | simp))
      · exact hl0 _ (.inl (.inl (by first | k_mem | simp)))
    intro h' tk' tp gr dgr t1 t2 t3 k g2 f1 f2 f3 g3 g4 g5
    exact h h' tk' io tp gr dgr _ t1 t2 t3 (fun b o q => k b o (notin1 fun z => q (by simp [z]))) (k _ _ (notin1 (Ne.symm d)) e1) h1 g2 f1 f2 f3 g3 g4 g5
  · (clear hA hh X T hb K hl0 G h e1 e2; lia)
theorem gb_last (hA : A.depth + 2 < recursionLimit) (hh : A.handled = none) (X : (Two.hd.heap_1 w.params).In base) (T : Top p loose mean mg mb base) (B : Below A base envs s.heap) (K : c.Tok)
  (hl0 : ∀ x, c.GIn x ∨ x ∈ [c.gb, c.it] → base.get? x = none) (hfrm : ∀ x ∈ envs.filterMap (·.frame), ¬ c.GIn x ∧ x ∉ [c.gb, c.it]) (G : c.GW s.heap) (S : c.At c.n s.heap)
  (hE : ∀ h' tk' e o', Flies [c.gb, c.it] envs e "StopIteration" [(c.it, o')] s.heap h' → E (.ref e) {s with heap := h', toks := tk'}) :
  wpAny (model PySem.Challenge.rw_kp0009_02.row.prog w) A (call (.ref 120) [.ref c.gb]) Q E s := by
  have := K.two
  obtain ⟨io, og, e1, e2, ⟨h0, _⟩ | ⟨h0, h1, _⟩ | ⟨_, h1, cg, ck, cv, hcv, htg, ser, tk, rfl⟩⟩ := S
  · (clear hA hh X T B K hl0 hfrm G hE e1 e2; lia)
  · (clear hA hh X T B K hl0 hfrm G hE this e1 e2 h0; (exact absurd (by assumption) (Nat.lt_irrefl _)))
  · refine gb_end (base := base) (envs := envs) (V := c.V) (i := 0) (items := #[]) hA hh X T B (fun b hb' => ?_) (fun b hb' hm => ?_) e2 G.hdgb e1 (.inr h1) fun h' tk' e o' hf _ => hE h' tk' e o' hf
    · simp only [List.mem_cons, List.not_mem_nil, or_false] at hb'
      rcases hb' with q | q | q <;> rw [q]
      · exact hl0 _ (.inr (by first | k_mem | simp))
      · exact hl0 _ (.inl (.inl (by first | k_mem | simp)))
      · exact hl0 _ (.inr (by first | k_mem | simp))
    · simp only [List.mem_cons, List.not_mem_nil, or_false] at hm
      rcases hm with q | q | q <;> rw [q] at hb'
      · exact (hfrm _ hb').2 (by first | k_mem | simp)
      · exact (hfrm _ hb').1 (.inl (by first | k_mem | simp))
      · exact (hfrm _ hb').2 (by first | k_mem | simp)
theorem group_any {b : Nat} {gr dgr : Addr} {io : Obj} {c1 : Int} {t1 t2 t3 : PySem.Tok} (hA : A.depth + 2 < recursionLimit) (hh : A.handled = none) (X : (Two.hd.heap_1 w.params).In base) (T : Top p loose mean mg mb base) (B : Below A base envs s.heap) (K : c.Tok)
  (hl0 : ∀ x, c.GIn x ∨ x ∈ [c.gb, c.it, gr, dgr] → base.get? x = none) (hfrm : ∀ x ∈ envs.filterMap (·.frame), ¬ c.GIn x ∧ x ∉ [c.gb, c.it, gr, dgr]) (G : c.GW s.heap)
  (hgb : s.heap.get? c.gb = some (c.obj (.int c1 t1) (.int (c.vs a) (c.tv a)) (.ref (c.ta a)) (.bool true) (.bool true) (.bool true) (.int c1 t2) (.int (c.vs a) (c.tv a))))
  (hgr : s.heap.get? gr = some (grObj dgr (.int c1 t3) (.ref c.gb) (.int (c.vs a) (c.tv a)))) (hdgr : s.heap.get? dgr = some (dictOf [] 0)) (hit : s.heap.get? c.it = some io) (hi : LI io c.V (a + 1))
  (hab : a < b) (hbn : b ≤ c.n) (hsame : ∀ k, a ≤ k → k < b → c.vs k = c.vs a) (hnext : b < c.n → c.vs b ≠ c.vs a)
  (h : ∀ h' tk' S, Calm [c.gb, c.it] (envs.filterMap (·.frame)) s.heap h' → s.heap.get? S = none → listAt S ((List.range (b - a)).map fun k => Value.ref (c.ta (a + k))) h' → c.At b h' → Q (.ref S) {s with heap := h', toks := tk'}) :
  wpAny (model PySem.Challenge.rw_kp0009_02.row.prog w) A (call (.type "list") [.ref gr]) Q E s := by
  refine list_group (base := base) (envs := envs) (n := c.n) (ta := c.ta) (vs := c.vs) (tv := c.tv) (ps := c.ps) (tp := c.tp) hA hh X T B hl0 hfrm G hgb hgr hdgr hit hi hab hbn K.few K.pos K.inj hsame hnext ?_
  intro h' tk' S C f1 g1 s1 s2
  refine h h' tk' S C f1 g1 ?_
  rcases Nat.lt_or_ge b c.n with q | q
  · obtain ⟨e1, io', e2, i2⟩ := s1 q
    exact ⟨io', _, e2, e1, .inr (.inl ⟨by (clear hA hh X T B K hl0 hfrm G hgb hgr hdgr hit hi hbn hsame hnext h C f1 g1 s1 s2 q e1 e2 i2; lia), q, i2, _, _, _, a, hab, (hnext q).symm, rfl⟩)⟩
  · obtain ⟨e1, io', e2, i2⟩ := s2 (by (clear hA hh X T B K hl0 hfrm G hgb hgr hdgr hit hi hab hsame hnext h C f1 g1 s1 s2; (exact Nat.le_antisymm (by assumption) (by assumption))))
    exact ⟨io', _, e2, e1, .inr (.inr ⟨by (clear hA hh X T B K hl0 hfrm G hgb hgr hdgr hit hi hab hsame hnext h C f1 g1 s1 s2 e1 e2 i2; (exact Nat.le_antisymm (by assumption) (by assumption))), i2, _, _, _, _, _, _, _, rfl⟩)⟩
end
end Two
end
section
open PySem PySem.W PySem.Calls PyProof.Rows PySem.Float64 PySem.Flt
set_option maxRecDepth 100000
set_option exponentiation.threshold 3000
namespace Mine
theorem E.notInf {c : Nat} {x : UInt64} {p : Int} (h : E c x p) : ¬ Float64.isInf x = true := by
  rw [not_inf_of_finite h.1.finite]; decide
/-- half a whole number -/
theorem half_spec (m : Int) (hm : m.natAbs ≤ 2 ^ 53) : E 1073 (Float64.ofFrac (decide (m < 0) != decide ((2 : Int) < 0)) m.natAbs (2 : Int).natAbs) m := by
  have e : (decide (m < 0) != decide ((2 : Int) < 0)) = decide (m < 0) := by
    rw [show decide ((2 : Int) < 0) = false from rfl]
    cases decide (m < 0) <;> rfl
  rw [e]
  have h := isF_ofFrac m 2 (by decide)
  refine h.exact (c := 1073) (by decide) ?_ hm
  have e2 := pow_add' 1073 1
  show m * ((2 ^ (1073 + 1) : Nat) : Int) = ((2 : Nat) : Int) * (m * ((2 ^ 1073 : Nat) : Int))
  rw [e2]
  generalize ((2 ^ 1073 : Nat) : Int) = z
  show m * (z * 2) = 2 * (m * z)
  rw [← Int.mul_assoc, Int.mul_comm]
section
variable {prog : Program} {w : World} {A : Around} {E' : Value → Shared → Prop} {s : Shared}
theorem div_two {m : Int} {t u : Tok} {Q : Value → Shared → Prop} (hm : m.natAbs ≤ 2 ^ 53) (h : ∀ x, E 1073 x m → Q (.float x s.toks) { s with toks := s.toks + 1 }) : wpAny (model prog w) A (binaryOp .Div (.int m t) (.int 2 u)) Q E' s :=
  PySem.AutoIntOps.truediv_2 (by decide) (half_spec m hm).notInf (h _ (half_spec m hm))
theorem iadd_int {a : UInt64} {n : Int} {t u : Tok} {Q : Value → Shared → Prop} (hn : n.natAbs ≤ 2 ^ 53) (h : Q (.float (Float64.add a (Float64.ofInt n)) s.toks) { s with toks := s.toks + 1 }) : wpAny (model prog w) A (inplaceOp .Add (.float a t) (.int n u)) Q E' s :=
  iadd_fi_1 (E.ofInt hn).notInf h
end
end Mine
end
section
open PySem PySem.W PySem.Calls PyProof.Rows PyProof.Rows.TI
set_option maxRecDepth 100000
set_option maxHeartbeats 8000000
open Mine
namespace Two
local macro_rules | `(tactic| walk_at "call ref") => `(tactic| refine Hold.out ?_)
local macro_rules | `(tactic| walk_at "call type:zip") => `(tactic| refine Hold.out ?_)
local macro_rules | `(tactic| walk_at "call builtin:sorted") => `(tactic| refine Hold.out ?_)
local macro_rules | `(tactic| walk_at "call builtin:len") => `(tactic| refine Hold.out ?_)
local macro_rules | `(tactic| walk_at "binaryOp Mult") => `(tactic| refine Hold.out ?_)
local macro_rules | `(tactic| walk_at "exec For") => `(tactic| refine Hold.out ?_)
local macro_rules | `(tactic| walk_at "call type:list") => `(tactic| refine Hold.out ?_)
local macro_rules | `(tactic| walk_at "binaryOp Div") => `(tactic| refine Hold.out ?_)
local macro_rules | `(tactic| walk_at "pyIter ref") => `(tactic| refine Hold.out ?_)
local macro_rules | `(tactic| walk_at "setItem") => `(tactic| refine Hold.out ?_)
local macro_rules | `(tactic| walk_at "assign Tuple") => `(tactic| refine Hold.out ?_)
def IsL (o : Obj) (its : Array Value) : Prop := o.cls = .type "list" ∧ ∃ n, o.data = .seq its n
/-- the loop over the groups, ahead of place a -/
inductive RkJ (s : Shared) (L' : Addr) (frs : List Addr) (c : RK) (R : Addr) (fx : List (Addr × Obj)) (wt : Nat → Int) (ord : Nat → Nat) (k : Nat) (s' : Shared) : Prop
  | mk (a : Nat) (h' : Heap) (tk' : Nat) (m' : Str → Option Value) (its : Array Value) (oR : Obj) (fi : UInt64) (tfi : PySem.Tok) :
    s' = { s with heap := h', toks := tk' } → a ≤ c.n → k = c.n - a + 1 → h'.Ns L' m' → m' (Str.ofString "i") = some (.float fi tfi) → m' (Str.ofString "result") = some (.ref R) → Mine.E 1073 fi (2 * a - c.n - 1) → Calm [] frs s.heap h' →
    h'.get? R = some oR → IsL oR its → its.size = c.n → (∀ k, k < a → ∃ f t, its[ord k]? = some (.float f t) ∧ Mine.E 1073 f (wt (ord k))) → c.At a h' → (∀ p ∈ fx, h'.get? p.1 = some p.2) → (0 < a → a < c.n → c.vs (a - 1) ≠ c.vs a) → RkJ s L' frs c R fx wt ord k s'
/-- the loop over one group's rows, ahead of row j -/
inductive RkI (s : Shared) (L' : Addr) (gc : Heap) (R S I : Addr) (fy : List (Addr × Obj)) (a m cn : Nat) (fi xr : UInt64) (tfi tr tsz : PySem.Tok) (wt : Nat → Int) (ord : Nat → Nat) (k : Nat) (s' : Shared) : Prop
  | mk (j : Nat) (h' : Heap) (tk' : Nat) (m' : Str → Option Value) (its : Array Value) (oR : Obj) :
    s' = { s with heap := h', toks := tk' } → j ≤ m → k = m - j + 1 → h'.Ns L' m' → m' (Str.ofString "i") = some (.float fi tfi) → m' (Str.ofString "result") = some (.ref R) → m' (Str.ofString "rank") = some (.float xr tr) → m' (Str.ofString "size") = some (.int (m : Nat) tsz) →
    (∀ x o, gc.get? x = some o → h'.get? x = some o) → h'.get? R = some oR → IsL oR its → its.size = cn → (∀ k, k < a + j → ∃ f t, its[ord k]? = some (.float f t) ∧ Mine.E 1073 f (wt (ord k))) → h'.IsListIter I S j → (∀ p ∈ fy, h'.get? p.1 = some p.2) → RkI s L' gc R S I fy a m cn fi xr tfi tr tsz wt ord k s'
theorem rep_size (n : Nat) (x : Value) : ((List.replicate ((n : Int)).toNat [x]).flatten.toArray).size = n := by
  rw [List.size_toArray, List.length_flatten]; simp
theorem rank_spec {w : World} {p : Program} {loose : List Str} {mean : ExcName → Option Value} {mg mb : Str → Option Value} {A : Around} {s : Shared} {base : Heap} {envs : List Env} {Q E : Value → Shared → Prop}
  {D : Addr} {xs : Array Value} {n : Nat} {xv : Nat → Int} {xt : Nat → Tok} {st : UInt64} {ts : Tok}
  (hA : A.depth + 4 < recursionLimit) (hh : A.handled = none) (X : (Two.hd.heap_1 w.params).In base) (T : Top p loose mean mg mb base) (B : Below A base envs s.heap)
  (hl : s.heap.IsList D xs) (hxs : xs.size = n) (hx : ∀ k, k < n → xs[k]? = some (.int (xv k) (xt k))) (hn2 : 2 ≤ n) (hn : n < 64)
  (htk : ∀ k, k < n → xt k ≠ 0) (inj : ∀ j k, j < n → k < n → xt j = xt k → xv j = xv k) (hst : Mine.E 1073 st (1 - n))
  (h : ∀ h' tk' R items, Calm [] (envs.filterMap (·.frame)) s.heap h' → s.heap.get? R = none → h'.IsList R items → items.size = n → (∀ j, j < n → ∃ f t, items[j]? = some (.float f t) ∧ Mine.E 1073 f (Wt n xv j)) → Q (.ref R) {s with heap := h', toks := tk'}) :
  wpAny (model PySem.Challenge.rw_kp0009_02.row.prog w) A (call (.ref 278) [.ref D] [(Str.ofString "start", .float st ts)]) Q E s := by
  revert X; w_top off; k_fill; intro X
  have X1 := Frag.In.keeps X B.stays
  have T1 := Top.keeps T B.stays
  refine wpAny_call ?_
  refine enterP X1 T1.nolimit (by k_is) (by k_is) (by (clear hh T B hl hxs hx hn2 hn htk inj hst h X X1 T1; lia)) (by exact kp_binds X1 (fun _ => rfl)) (locs rfl) ?_ (by decide) rfl rfl rfl
  intro L' h₁ F N
  refine wpAny_mono (E := fun _ _ => False) ?_ (fun _ _ h => h) (fun _ _ h => h.elim)
  dsimp only
  have F2 : Fr s.heap L' h₁ (fun y => List.lookup y [(Str.ofString "start", .float st ts), (Str.ofString "ties", _), (Str.ofString "reverse", .bool false), (Str.ofString "key", .none), (Str.ofString "data", .ref D)]) := F
  clear F
  have hszL : s.heap.objs.size ≤ L' := F2.above
  have fL : s.heap.get? L' = none := Heap.get?_none_of_le hszL
  k_steps
  refine Hold.mk ?_
  (rename Fr _ _ _ _ => F'); (rename News _ _ _ _ => N')
  refine call_cls F' X1 N' (by k_is) (by k_is) (by k_is) ?_
  intro cn dx h3 F3 N3 l1 l2
  clear F' N'
  have b3 : ∀ b o, base.get? b = some o → h3.get? b = some o := fun b o e => F3.keep b o (B.stays b o e)
  have hnb : ∀ b, s.heap.get? b = none → base.get? b = none := fun b e => none_base B.stays e
  refine cn_init (base := base) (cn := cn) (dx := dx) (by simp only [depth_under_make, depth_deeper]; (clear hh T B hl hxs hx hn2 hn htk inj hst h X X1 T1 hszL fL F3 N3 l1 l2 b3 hnb; (exact Nat.lt_of_succ_lt (by assumption)))) X T b3 (fun b hb => hnb b (by rcases List.mem_cons.mp hb with rfl | hb; exact N3.fresh (.head _); obtain rfl := List.mem_singleton.mp hb; exact N3.fresh (.tail _ (.head _)))) (N3.get (.head _)) (N3.get (.tail _ (.head _))) ?_
  intro h4 tk4 t1 t2 k4 g4
  have hcL : L' ≠ cn := fun q => (N3 (cn, _) (.head _)).2.1 q.symm
  have F4 := Fr.butl F3 k4 (fun b hm => by obtain rfl := List.mem_singleton.mp hm; exact N3.fresh (.head _)) (notin1 hcL)
  have N4 := News.butl N3 k4 (news' := [(cn, countObj dx 0 t1 t2), (dx, dictOf [] 0)]) (by
    intro p hp
    rcases List.mem_cons.mp hp with rfl | hp
    · exact Or.inr ⟨g4, _, .head _⟩
    · obtain rfl := List.mem_singleton.mp hp
      exact Or.inl ⟨.tail _ (.head _), notin1 (Nat.ne_of_lt l2)⟩)
  clear F3 N3 k4 b3
  refine ⟨rfl, ?_⟩
  k_steps
  refine Hold.mk ?_
  have b4 : ∀ b o, base.get? b = some o → h4.get? b = some o := fun b o e => F4.keep b o (B.stays b o e)
  refine zip_new_own (xs := xs) (hl.at fun o e => F4.keep _ _ e) (fun q => ?_) ⟨_, g4⟩ (fun A' E' hd h₁ Q' k₁ hq => ?_) ?_
  · obtain ⟨o, e1, e2, _⟩ := hl
    have := F4.keep _ _ e1
    rw [show D = cn from q, g4] at this
    cases this; cases e2
  · have g1 := k₁ _ _ g4
    have gd := k₁ _ _ (N4.get (.tail _ (.head _)))
    refine own_iter (C := 222) (f := 204) (g := .ref 211) (od := some (dictOf [] 0)) (Frag.In.keeps X fun x o e => k₁ _ _ (b4 x o e)) ⟨g1, rfl, by rfl, gd⟩ (by k_is) (by k_is) (by k_is) ?_
    intro Q2 hQ2
    refine cn_iter (base := base) (by rw [hd]; show A.depth + 1 < _; (clear hh T B hl hxs hx hn2 hn htk inj hst h X X1 T1 hszL fL l1 l2 hnb g4 hcL F4 N4 b4 hd k₁ hq g1 gd hQ2; lia)) X T (fun x o e => k₁ _ _ (b4 x o e)) fun h2 tk2 k2 => ?_
    exact hQ2 _ (Frag.In.keeps X fun x o e => k2 _ _ (k₁ _ _ (b4 x o e))) ⟨k2 _ _ g1, rfl, by rfl, k2 _ _ gd⟩ (hq _ _ k2)
  intro h5 tk5 z TI TO i1 k5 hz hTI hTO hi1 hfr Z
  have F5 := F4.keeps k5
  have hfr0 : ∀ b ∈ [z, TI, TO, i1], s.heap.get? b = none ∧ b ≠ L' := fun b hb => by
    have e := hfr b hb
    refine ⟨none_base F4.keep e, fun q => ?_⟩
    obtain ⟨_, _, _, e2, _⟩ := F4.ns
    rw [q] at e; exact absurd (e2.symm.trans e) (by first | k_mem | simp)
  have N5 := N4.grown k5
  have g5 := k5 _ _ g4
  have gd5 := N5.get (a := dx) (.tail _ (.head _))
  have hcb : base.get? cn = none := hnb _ (N4.fresh (.head _))
  have hdb : base.get? dx = none := hnb _ (N4.fresh (.tail _ (.head _)))
  clear F4 k5 b4
  k_steps
  refine Hold.mk ?_
  (rename Fr _ _ _ _ => F6)
  refine sorted_unfold (sort_args1 _ _) ?_
  refine zc_collect (base := base) (D := D) (xs := xs) (n := n) (by show A.depth + 1 < _; (clear hh T B hl hxs hx hn2 hn htk inj hst h X X1 T1 hszL fL l1 l2 hnb g4 hcL N4 hz hTI hTO hi1 hfr Z F6 hfr0 N5 g5 gd5 hcb hdb; lia)) hh X T (fun b o e => F6.keep b o (B.stays b o e)) (fun b hb => ?_) hz hTI hTO hi1 (hl.at fun o e => F6.keep _ _ e) hxs (by (clear hA hh T B hl hxs hx htk inj hst h X X1 T1 hszL fL l1 l2 hnb g4 hcL N4 hz hTI hTO hi1 hfr Z F6 hfr0 N5 g5 gd5 hcb hdb; (exact Nat.lt_of_succ_lt (by assumption)))) (Nat.le_trans (Nat.le_of_lt hn) (by decide)) g5 gd5 Z ?_
  · simp only [List.mem_cons, List.not_mem_nil, or_false] at hb
    rcases hb with q | q | q | q | q <;> rw [q]
    · exact hnb _ (hfr0 z (by first | k_mem | simp)).1
    · exact hnb _ (hfr0 TO (by first | k_mem | simp)).1
    · exact hnb _ (hfr0 i1 (by first | k_mem | simp)).1
    · exact hcb
    · exact hdb
  intro h7 tk7 ta ti k7 ht
  have F7 := Fr.butl F6 k7 (fun b hb => by
    simp only [List.mem_cons, List.not_mem_nil, or_false] at hb
    rcases hb with q | q | q | q <;> rw [q]
    · exact (hfr0 z (by first | k_mem | simp)).1
    · exact (hfr0 TO (by first | k_mem | simp)).1
    · exact (hfr0 i1 (by first | k_mem | simp)).1
    · exact N5.fresh (.head _)) (fun hb => by
    simp only [List.mem_cons, List.not_mem_nil, or_false] at hb
    rcases hb with q | q | q | q
    · exact (hfr0 z (by first | k_mem | simp)).2 q.symm
    · exact (hfr0 TO (by first | k_mem | simp)).2 q.symm
    · exact (hfr0 i1 (by first | k_mem | simp)).2 q.symm
    · exact hcL q)
  have hxd : ∀ k, k < n → xs.getD k .none = .int (xv k) (xt k) := fun k hk => by
    have e := hx k hk
    rw [Array.getD_eq_getD_getElem?, e]; rfl
  obtain ⟨rows, hrw⟩ : ∃ rows : List (Addr × Obj), rows = (List.range n).map fun k => (ta k, tupObj (.int (xv k) (xt k)) (.int k (ti k))) := ⟨_, rfl⟩
  have N7 : News s.heap L' h7 rows := fun p hp => by
    rw [hrw] at hp
    obtain ⟨k, hk, rfl⟩ := List.mem_map.mp hp
    obtain ⟨e1, e2⟩ := ht k (List.mem_range.mp hk)
    rw [hxd k (List.mem_range.mp hk)] at e1
    refine ⟨e1, fun q => ?_, none_base F6.keep e2⟩
    obtain ⟨_, _, _, e3, _⟩ := F6.ns
    rw [show ta k = L' from q] at e2
    exact absurd (e3.symm.trans e2) (by first | k_mem | simp)
  have hrow : ∀ k, k < n → (ta k, tupObj (.int (xv k) (xt k)) (.int k (ti k))) ∈ rows := fun k hk => by rw [hrw]; exact List.mem_map.mpr ⟨k, List.mem_range.mpr hk, rfl⟩
  have hrn : ∀ q ∈ rows, q.1 < h7.objs.size := fun q hq => Heap.lt_size (N7 q hq).1
  clear hz hTI hTO hi1 Z g5 gd5 N5 hcb hdb
  refine ⟨by simp only [List.length_map, List.length_range]; exact Nat.le_trans (Nat.le_of_lt hn) (by decide), ?_⟩
  have hL7 : L' < h7.objs.size := by obtain ⟨_, _, _, e3, _⟩ := F7.ns; exact Heap.lt_size e3
  refine sort_rows (xv := xv) (xt := xt) (ti := ti) (F7.push _) (N7.grown fun b o e => Heap.get?_push_of_some _ e) (Heap.get?_push_size _ rfl) (Nat.ne_of_gt hL7) (Heap.get?_none_of_le (Nat.le_trans F7.above (Nat.le_of_lt hL7))) (fun q hq => Nat.ne_of_lt (hrn q hq)) hn2 hn hrow ?_
  intro h8 c8 F8 N8
  obtain ⟨hP, hAsc⟩ := sort_ev (ltR_ord xv) hn2
  generalize ev (ltR xv) (kas_sort n) = pp at hP hAsc N8
  generalize h7.objs.size = V at N8 hrn
  clear F7 N7 k7
  k_steps
  refine Hold.mk ?_
  (rename Fr _ _ _ _ => F'); (rename News _ _ _ _ => N')
  have hpl : ((pp.toList.map fun i => Value.ref (ta i)).toArray).size = n := by rw [List.size_toArray, List.length_map, Array.length_toList, hP.size]
  refine Calls.call_len_list (News.isList N' (by k_mem)) (by rw [hpl]; (clear hA hh T B hl hxs hx htk inj hst h X X1 T1 hszL fL l1 l2 hnb g4 hcL hfr hfr0 ht hxd hrw hrow hL7 hP hAsc hrn F' N'; lia)) ?_
  rw [hpl]
  k_steps
  refine Hold.mk ?_
  (rename Fr _ _ _ _ => F'); (rename News _ _ _ _ => N')
  rename_i R hq1 q1 q2 q3 q4 q5 q6 lR0 hq2
  refine cutP fun GG hGG => ?_
  obtain ⟨its, hits, N6⟩ : ∃ its : Array Value, its.size = n ∧ News s.heap L' _ ((R, seqObj "list" its 0) :: (V, seqObj "list" (pp.toList.map fun i => Value.ref (ta i)).toArray c8) :: rows) :=
    ⟨_, rep_size n _, fun p hp => by
      rcases List.mem_cons.mp hp with rfl | hp
      · exact N' _ (.head _)
      · exact N' _ (.tail _ (.tail _ hp))⟩
  have lR : V < R ∧ AllLt R rows := lR0.2
  clear N' lR0 q1 q3 q4 q5 q6
  refine hGG ?_
  clear hGG
  refine for_inv ?_
  k_steps
  refine Hold.mk ?_
  (rename Fr _ _ _ _ => F'); (rename News _ _ _ _ => N')
  refine call_cls F' X1 N' (by k_is) (by k_is) (by k_is) ?_
  intro ig dig ha Fa Na l1 l2
  clear F' N'
  refine ig_init (base := base) (by simp only [depth_under_make, depth_deeper]; (clear hh T B hl hxs hx hn2 hn htk inj hst h X X1 T1 hszL fL hnb g4 hcL hfr hfr0 ht hxd hrw hrow hL7 hP hAsc hrn hpl hits lR Fa Na l1 l2; lia)) hh X T (fun b o e => Fa.keep b o (B.stays b o e)) (fun b hb => hnb b (by rcases List.mem_cons.mp hb with rfl | hb; exact Na.fresh (.head _); obtain rfl := List.mem_singleton.mp hb; exact Na.fresh (.tail _ (.head _)))) (Na.get (.head _)) (Na.get (.tail _ (.head _))) ?_
  intro hb tkb T0 kb fT0 gT0 gig
  have hLa : ∀ b, ha.get? b = none → b ≠ L' := fun b e q => by
    obtain ⟨_, _, _, e2, _⟩ := Fa.ns
    rw [q] at e; exact absurd (e2.symm.trans e) (by first | k_mem | simp)
  have Fb := Fr.butl Fa kb (fun b hm => by obtain rfl := List.mem_singleton.mp hm; exact Na.fresh (.head _)) (notin1 fun q => (Na (ig, _) (.head _)).2.1 q.symm)
  have Nb : News s.heap L' hb ((T0, tup1Obj (.int 0 _)) :: (ig, igObj dig T0) :: (dig, dictOf [] 0) :: (R, seqObj "list" its 0) :: (V, seqObj "list" (pp.toList.map fun i => Value.ref (ta i)).toArray c8) :: rows) :=
    News.put (News.butl Na kb (fun p hp => by
      rcases List.mem_cons.mp hp with rfl | hp
      · exact Or.inr ⟨gig, _, .head _⟩
      · rcases List.mem_cons.mp hp with rfl | hp
        · exact Or.inl ⟨.tail _ (.head _), notin1 (Nat.ne_of_lt l2)⟩
        · exact Or.inl ⟨.tail _ (.tail _ hp), notin1 (Nat.ne_of_lt (Nat.lt_trans (l1 p hp) l2))⟩)) gT0 (hLa _ fT0) (none_base Fa.keep fT0)
  clear kb Fa Na l1
  refine ⟨rfl, ?_⟩
  k_steps
  refine Hold.mk ?_
  (rename Fr _ _ _ _ => F'); (rename News _ _ _ _ => N')
  refine call_cls F' X1 N' (by k_is) (by k_is) (by k_is) ?_
  intro gb dgb hc Fc Nc l1 l3
  clear F' N'
  refine gb_init (base := base) (V := V) (items := (pp.toList.map fun i => Value.ref (ta i)).toArray) (by simp only [depth_under_make, depth_under_kw, depth_deeper]; (clear hh T B hl hxs hx hn2 hn htk inj hst h X X1 T1 hszL fL hnb g4 hcL hfr hfr0 ht hxd hrw hrow hL7 hP hAsc hrn hpl hits lR l2 fT0 gT0 gig hLa Fc Nc l1 l3; lia)) X T (fun b o e => Fc.keep b o (B.stays b o e)) (fun b hb => hnb b (by rcases List.mem_cons.mp hb with rfl | hb; exact Nc.fresh (.head _); obtain rfl := List.mem_singleton.mp hb; exact Nc.fresh (.tail _ (.head _)))) (Nc.get (.head _)) (Nc.get (.tail _ (.head _))) (News.isList Nc (by k_mem)) ?_
  intro hd tkd it io t3 t4 kd fit git hiti ggb
  have hLc : ∀ b, hc.get? b = none → b ≠ L' := fun b e q => by
    obtain ⟨_, _, _, e2, _⟩ := Fc.ns
    rw [q] at e; exact absurd (e2.symm.trans e) (by first | k_mem | simp)
  have Fd := Fr.butl Fc kd (fun b hm => by obtain rfl := List.mem_singleton.mp hm; exact Nc.fresh (.head _)) (notin1 fun q => (Nc (gb, _) (.head _)).2.1 q.symm)
  refine cutP fun GG hGG => ?_
  obtain ⟨fx, hfx⟩ : ∃ fx : List (Addr × Obj), fx = (dgb, dictOf [] 0) :: (T0, tup1Obj (.int 0 tk)) :: (ig, igObj dig T0) :: (dig, dictOf [] 0) :: (V, seqObj "list" (pp.toList.map fun i => Value.ref (ta i)).toArray c8) :: rows := ⟨_, rfl⟩
  have hRfx : ∀ p ∈ fx, (p.1, p.2) ∈ ((gb, instObj 124 dgb) :: (dgb, dictOf [] 0) :: (T0, tup1Obj (.int 0 tk)) :: (ig, igObj dig T0) :: (dig, dictOf [] 0) :: (R, seqObj "list" its 0) :: (V, seqObj "list" (pp.toList.map fun i => Value.ref (ta i)).toArray c8) :: rows) := fun p hp => by
    rw [hfx] at hp
    simp only [List.mem_cons] at hp ⊢
    rcases hp with q | q | q | q | q | q
    · exact .inr (.inl q)
    · exact .inr (.inr (.inl q))
    · exact .inr (.inr (.inr (.inl q)))
    · exact .inr (.inr (.inr (.inr (.inl q))))
    · exact .inr (.inr (.inr (.inr (.inr (.inr (.inl q))))))
    · exact .inr (.inr (.inr (.inr (.inr (.inr (.inr q))))))
  have gR := Nc.get (a := R) (o := seqObj "list" its 0) (by k_mem)
  have hfxd : ∀ p ∈ fx, hd.get? p.1 = some p.2 ∧ p.1 ≠ gb ∧ p.1 ≠ it ∧ p.1 ≠ R ∧ p.1 ≠ L' ∧ s.heap.get? p.1 = none := fun p hp => by
    have hm := hRfx p hp
    obtain ⟨e1, e2, e3⟩ := Nc _ hm
    have hg : p.1 ≠ gb := by
      rw [hfx] at hp
      rcases List.mem_cons.mp hp with rfl | hp
      · exact Nat.ne_of_lt l3
      · refine Nat.ne_of_lt (Nat.lt_trans (l1 p ?_) l3)
        simp only [List.mem_cons] at hp ⊢
        rcases hp with q | q | q | q | q
        · exact .inl q
        · exact .inr (.inl q)
        · exact .inr (.inr (.inl q))
        · exact .inr (.inr (.inr (.inr (.inl q))))
        · exact .inr (.inr (.inr (.inr (.inr q))))
    refine ⟨kd _ _ (notin1 hg) e1, hg, fun q => ?_, ?_, e2, e3⟩
    · rw [q] at e1; exact absurd (e1.symm.trans fit) (by first | k_mem | simp)
    · rw [hfx] at hp
      simp only [List.mem_cons] at hp
      rcases hp with rfl | rfl | rfl | rfl | rfl | hp
      · exact ne_cls e1 gR (by simp [dictOf])
      · exact ne_cls e1 gR (by simp [tup1Obj])
      · exact ne_cls e1 gR (by simp [igObj])
      · exact ne_cls e1 gR (by simp [dictOf])
      · exact Nat.ne_of_lt lR.1
      · rw [hrw] at hp
        obtain ⟨k, _, rfl⟩ := List.mem_map.mp hp
        exact ne_cls e1 gR (by simp [tupObj])
  obtain ⟨c, hc0⟩ : ∃ c : RK, c = ⟨n, gb, dgb, it, ig, dig, T0, V, tk, fun k => ta (at' pp k), fun k => xv (at' pp k), fun k => xt (at' pp k), fun k => (at' pp k : Nat), fun k => ti (at' pp k)⟩ := ⟨_, rfl⟩
  have hat : ∀ k, k < n → at' pp k < n := fun k hk => hP.lt (by (clear hA hh T B hl hxs hx htk inj hst h X X1 T1 hszL fL hnb g4 hcL hfr hfr0 ht hxd hrw hrow hL7 hP hAsc hrn lR l2 fT0 gT0 gig hLa Fc Nc l1 l3 kd fit git hiti ggb hLc Fd hfx hRfx gR hfxd hc0 hk; lia)) k
  have gwf : ∀ hh : Heap, (∀ p ∈ fx, hh.get? p.1 = some p.2) → c.GW hh := fun hh hk => by
    rw [hfx] at hk
    rw [hc0]
    refine ⟨hk (dgb, _) (.head _), hk (ig, _) (.tail _ (.tail _ (.head _))), hk (dig, _) (.tail _ (.tail _ (.tail _ (.head _)))), hk (T0, _) (.tail _ (.head _)), ?_, fun k hk2 => hk (ta (at' pp k), _) (.tail _ (.tail _ (.tail _ (.tail _ (.tail _ (hrow _ (hat k hk2)))))))⟩
    · have e := hk (V, seqObj "list" (pp.toList.map fun i => Value.ref (ta i)).toArray c8) (.tail _ (.tail _ (.tail _ (.tail _ (.head _)))))
      rw [hP.list, List.map_map] at e
      exact ⟨_, e, rfl, _, rfl⟩
  have gin : ∀ x, c.GIn x → ∃ o, (x, o) ∈ fx := fun x hx => by
    rw [hc0] at hx
    rw [hfx]
    rcases hx with hx | ⟨k, hk, rfl⟩
    · simp only [List.mem_cons, List.not_mem_nil, or_false] at hx
      rcases hx with q | q | q | q | q <;> rw [q]
      · exact ⟨_, .head _⟩
      · exact ⟨_, .tail _ (.tail _ (.head _))⟩
      · exact ⟨_, .tail _ (.tail _ (.tail _ (.head _)))⟩
      · exact ⟨_, .tail _ (.head _)⟩
      · exact ⟨_, .tail _ (.tail _ (.tail _ (.tail _ (.head _))))⟩
    · exact ⟨_, .tail _ (.tail _ (.tail _ (.tail _ (.tail _ (hrow _ (hat k hk))))))⟩
  have cT : c.Tok := by
    rw [hc0]
    exact ⟨fun k hk => htk _ (hat k hk), fun j k hj hk q => inj _ _ (hat j hj) (hat k hk) q, hn2, Nat.le_trans (Nat.le_of_lt hn) (by decide)⟩
  have fgb : s.heap.get? gb = none := Nc.fresh (.head _)
  have fit2 : s.heap.get? it = none := none_base Fc.keep fit
  have fR : s.heap.get? R = none := Nc.fresh (by k_mem)
  have hLg : gb ≠ L' := (Nc (gb, _) (.head _)).2.1
  have hLi : it ≠ L' := hLc _ fit
  have hRL : R ≠ L' := (Nc (R, _) (by k_mem)).2.1
  have hRg : R ≠ gb := Nat.ne_of_lt (Nat.lt_trans (l1 (R, _) (by k_mem)) l3)
  have hRi : R ≠ it := fun q => by rw [q] at gR; exact absurd (gR.symm.trans fit) (by first | k_mem | simp)
  have hgi : gb ≠ it := fun q => by have e := Nc.get (a := gb) (.head _); rw [q] at e; exact absurd (e.symm.trans fit) (by first | k_mem | simp)
  have gRd := kd _ _ (notin1 hRg) gR
  clear hRfx kd Nc Fc l1 l3 gR hLc fit hLa gT0 gig fT0
  refine hGG ?_
  clear hGG
  refine ⟨rfl, ?_⟩
  have bd : ∀ b o, base.get? b = some o → hd.get? b = some o := fun b o e => Fd.keep b o (B.stays b o e)
  refine own_iter (C := 124) (f := 106) (g := .ref 120) (od := some (dictOf [] 0)) (Frag.In.keeps X bd) ⟨ggb, rfl, by rfl, (hfxd (dgb, dictOf [] 0) (by rw [hfx]; exact .head _)).1⟩ (by k_is) (by k_is) (by k_is) ?_
  intro Q' hQ'
  refine gb_iter (base := base) (by show A.depth + 1 < _; (clear hh T B hl hxs hx hn2 hn htk inj hst h X X1 T1 hszL fL l1 hnb g4 hcL hfr hfr0 ht hxd hrw hrow hL7 hP hAsc hrn hpl hits lR l2 git hiti ggb Fd hfx hfxd hc0 hat gwf gin cT fgb fit2 fR hLg hLi hRL hRg hRi hgi gRd bd hQ'; lia)) X T bd fun he tke ke => ?_
  refine hQ' _ (Frag.In.keeps X fun x o e => ke _ _ (bd x o e)) ⟨ke _ _ ggb, rfl, by rfl, ke _ _ (hfxd (dgb, dictOf [] 0) (by rw [hfx]; exact .head _)).1⟩ ?_
  clear hQ' Q'
  refine ⟨gb, RkJ s L' (envs.filterMap (·.frame)) c R fx (Wt n xv) (at' pp), n + 1, rfl, ?_, ?_⟩
  · refine ⟨0, he, tke, _, its, seqObj "list" its 0, Float64.sub st (Float64.ofInt 1), _, rfl, Nat.zero_le _, by rw [hc0]; rfl, (Fd.keeps ke).ns, by rfl, by rfl, ?_, Calm.of_keeps (Fd.keeps ke).keep, ke _ _ gRd, ⟨rfl, _, rfl⟩, by rw [hits, hc0], fun k hk => absurd hk (Nat.not_lt_zero _), ⟨io, _, by rw [hc0]; exact ke _ _ git, by rw [hc0]; exact ke _ _ ggb, .inl ⟨rfl, by rw [hc0]; exact hiti, _, _, _, _, _, _, _, by rw [hc0]; rfl⟩⟩, fun p hp => ke _ _ (hfxd p hp).1, fun q => absurd q (Nat.lt_irrefl _)⟩
    have e1 : Mine.E 1073 (Float64.ofInt 1) (1 * (2 ^ 1 : Nat)) := (Mine.E.ofInt (i := 1) (by decide)).scale (c := 1073) (d := 1)
    have e2 := hst.sub e1 (by (clear hA hh T B hl hxs hx htk inj hst h X X1 T1 hszL fL l1 hnb g4 hcL hfr hfr0 ht hxd hrw hrow hL7 hP hAsc hrn lR l2 git hiti ggb Fd hfx hfxd hc0 hat gwf gin cT fgb fit2 fR hLg hLi hRL hRg hRi hgi gRd bd ke e1; lia)) (by decide)
    rw [hc0]
    have e3 : (1 - (n : Int) - 1 * (2 ^ 1 : Nat)) = 2 * ((0 : Nat) : Int) - (n : Int) - 1 := by (clear hA hh T B hl hxs hx hn2 hn htk inj hst h X X1 T1 hszL fL l1 hnb g4 hcL hfr hfr0 ht hxd hrw hrow hL7 hP hAsc hrn hpl hits lR l2 git hiti ggb Fd hfx hfxd hc0 hat gwf gin cT fgb fit2 fR hLg hLi hRL hRg hRi hgi gRd bd ke e1 e2; lia)
    rw [← e3]; exact e2
  clear Fd ke he
  have hdg := (hfxd (dgb, dictOf [] 0) (by rw [hfx]; exact .head _)).2
  have hcgb : gb = c.gb := by rw [hc0]
  have hcit : it = c.it := by rw [hc0]
  have hcn : n = c.n := by rw [hc0]
  have hcd : dgb = c.dgb := by rw [hc0]
  clear ggb git hiti gRd hits bd
  replace hfxd := fun p hp => (hfxd p hp).2
  have hfrs : ∀ x, s.heap.get? x = none → x ∉ envs.filterMap (·.frame) := fun x e hm => by
    obtain ⟨o, ho⟩ := Below.has B _ hm
    rw [e] at ho; cases ho
  clear hdg
  subst hcgb
  subst hcit
  have fl2 : ∀ b ∈ [c.gb, c.it], s.heap.get? b = none := fun b hb => by
    rcases List.mem_cons.mp hb with rfl | hb
    · exact fgb
    · obtain rfl := List.mem_singleton.mp hb; exact fit2
  have gin2 : ∀ x, c.GIn x → s.heap.get? x = none ∧ x ≠ L' := fun x hx => by
    obtain ⟨o, ho⟩ := gin x hx
    have := hfxd _ ho
    exact ⟨this.2.2.2.2, this.2.2.2.1⟩
  rintro k s' ⟨a, h', tk', m', itsa, oR, fi, tfi, rfl, ha, hk, hns, mi, mr, hEi, C, gR, iR, hsz, hdone, hSt, hfk, hprev⟩
  have G := gwf h' hfk
  have B1 : Below A base envs h' := Below.calm B C (fun b hb => nomatch hb) rfl
  refine cutP fun GG hGG => ?_
  obtain ⟨io0, cg0, ck0, cv0, hck0, hcv0, htg0, ser0, tk0, e1, e2, e3⟩ := hSt.cls
  refine hGG ?_
  clear hGG
  refine own_next (C := 124) (f := 120) (od := some (dictOf [] 0)) (Frag.In.keeps X B1.stays) ⟨e2, rfl, by rfl, G.hdgb⟩ (by k_is) (by k_is) ?_
  have hl0 : ∀ x, c.GIn x ∨ x ∈ [c.gb, c.it] → base.get? x = none := fun x hx => hnb x (hx.elim (fun z => (gin2 x z).1) (fl2 x))
  rcases Nat.lt_or_ge a c.n with han | han
  · refine wpAny_mono (Q := fun v s1 => ∃ h1 tk1 io1 tp gr dgr c1 t1 t2 t3, v = .ref tp ∧ s1 = { s with heap := h1, toks := tk1 } ∧ (∀ b o, b ∉ [c.gb, c.it] → h'.get? b = some o → h1.get? b = some o) ∧ h1.get? c.it = some io1 ∧ LI io1 c.V (a + 1) ∧
        h1.get? c.gb = some (c.obj (.int c1 t1) (.int (c.vs a) (c.tv a)) (.ref (c.ta a)) (.bool true) (.bool true) (.bool true) (.int c1 t2) (.int (c.vs a) (c.tv a))) ∧ h'.get? tp = none ∧ h'.get? gr = none ∧ h'.get? dgr = none ∧
        h1.get? tp = some (tupObj (.int (c.vs a) (c.tv a)) (.ref gr)) ∧ h1.get? gr = some (grObj dgr (.int c1 t3) (.ref c.gb) (.int (c.vs a) (c.tv a))) ∧ h1.get? dgr = some (dictOf [] 0)) (E := fun _ _ => False)
      (gb_any (base := base) (by show A.depth + 1 + 2 < _; (clear hh T B hl hxs hx hn2 hn htk inj hst h X X1 T1 hszL fL l1 hnb g4 hcL hfr hfr0 ht hxd hrw hrow hL7 hP hAsc hrn hpl lR l2 hfx hat gwf gin cT fR hRL hcn hcd hfrs fgb hLg hRg fit2 hLi hRi hc0 hgi hfxd fl2 gin2 ha hk hns mi mr hEi C gR iR hsz hdone hSt hfk hprev G B1 e1 e2 e3 hl0 han; lia)) hh X T B1.stays cT hl0 G hSt han fun h1 tk1 io1 tp gr dgr c1 t1 t2 t3 k1 g1 i1 g2 f1 f2 f3 g3 g4 g5 => ⟨h1, tk1, io1, tp, gr, dgr, c1, t1, t2, t3, rfl, rfl, k1, g1, i1, g2, f1, f2, f3, g3, g4, g5⟩) (fun v s1 hC => ?_) (fun _ _ h => h.elim)
    refine cutP fun GG hGG => ?_
    obtain ⟨h1, tk1, io1, tp, gr, dgr, c1, t1, t2, t3, rfl, rfl, k1, g1, hi1, g2, f1, f2, f3, g3, g4, g5⟩ := hC
    have old : ∀ x, h'.get? x = none → s.heap.get? x = none := fun x e => by
      cases q : s.heap.get? x with
      | none => rfl
      | some o =>
        by_cases hm : x ∈ envs.filterMap (·.frame)
        · obtain ⟨o', q1, q2⟩ := (B.frames.mem hm).2
          obtain ⟨sl, e4⟩ := C.up x o' q1 q2
          rw [e] at e4; cases e4
        · rw [C.rest x o (fun z => nomatch z) hm q] at e; cases e
    have nL : ∀ x, h'.get? x = none → x ≠ L' := fun x e q => by
      obtain ⟨_, _, _, e2, _⟩ := hns
      rw [q] at e; exact absurd (e2.symm.trans e) (by first | k_mem | simp)
    have C1 := Calm.strictOn C k1 fl2
    have ns1 := hns.at' fun o e => k1 _ o (notin2 (Ne.symm hLg) (Ne.symm hLi)) e
    have gR1 := k1 _ _ (notin2 hRg hRi) gR
    have hfk1 : ∀ p ∈ fx, h1.get? p.1 = some p.2 := fun p hp => k1 _ _ (notin2 (hfxd p hp).1 (hfxd p hp).2.1) (hfk p hp)
    obtain ⟨ga, Rb, F1, N1⟩ := rebase (n0 := s.heap.objs.size) (news := (tp, tupObj (.int (c.vs a) (c.tv a)) (.ref gr)) :: (gr, grObj dgr (.int c1 t3) (.ref c.gb) (.int (c.vs a) (c.tv a))) :: (dgr, dictOf [] 0) :: (c.it, io1) :: (c.gb, c.obj (.int c1 t1) (.int (c.vs a) (c.tv a)) (.ref (c.ta a)) (.bool true) (.bool true) (.bool true) (.int c1 t2) (.int (c.vs a) (c.tv a))) :: (R, oR) :: fx) ns1 hszL (fun p hp => by
      simp only [List.mem_cons] at hp
      rcases hp with rfl | rfl | rfl | rfl | rfl | rfl | hp
      · exact ⟨g3, nL _ f1⟩
      · exact ⟨g4, nL _ f2⟩
      · exact ⟨g5, nL _ f3⟩
      · exact ⟨g1, hLi⟩
      · exact ⟨g2, hLg⟩
      · exact ⟨gR1, hRL⟩
      · exact ⟨hfk1 p hp, (hfxd p hp).2.2.2.1⟩)
    have hlA : ∀ b ∈ fsts ((tp, tupObj (.int (c.vs a) (c.tv a)) (.ref gr)) :: (gr, grObj dgr (.int c1 t3) (.ref c.gb) (.int (c.vs a) (c.tv a))) :: (dgr, dictOf [] 0) :: (c.it, io1) :: (c.gb, c.obj (.int c1 t1) (.int (c.vs a) (c.tv a)) (.ref (c.ta a)) (.bool true) (.bool true) (.bool true) (.int c1 t2) (.int (c.vs a) (c.tv a))) :: (R, oR) :: fx), s.heap.get? b = none := fun b hb => by
      simp only [fsts, List.map_cons, List.mem_cons] at hb
      rcases hb with rfl | rfl | rfl | rfl | rfl | rfl | hb
      · exact old _ f1
      · exact old _ f2
      · exact old _ f3
      · exact fit2
      · exact fgb
      · exact fR
      · obtain ⟨q, hq, rfl⟩ := List.mem_map.mp hb
        exact (hfxd q hq).2.2.2.2
    have F2 := Fr.two F1 mr mi
    clear F1
    have Xa := Frag.In.keeps X (Rb.stays B C1 hlA)
    have Ta := Top.keeps T (Rb.stays B C1 hlA)
    refine hGG ?_
    clear hGG
    show wpAny _ _ (letOwnedTupleGo _ (.ref c.gb) (.ref tp)) _ _ _
    refine cutTurn fun QQ hQQ => ?_
    refine own_go g2 rfl ?_
    k_steps
    refine Hold.mk ?_
    refine unpackN_ F2 N1 (News.isTup N1 (.head _)) hh rfl rfl ?_
    intro h3 F3 N3
    clear F2
    k_steps
    refine Hold.mk ?_
    (rename Fr _ _ _ _ => F4); (rename News _ _ _ _ => N4)
    refine cutP fun GG hGG => ?_
    obtain ⟨b, hab, hbn, hsame, hnext⟩ := group_end c.vs a han
    have hl4 : ∀ x, c.GIn x ∨ x ∈ [c.gb, c.it, gr, dgr] → s.heap.get? x = none ∧ x ≠ L' := fun x hx => by
      rcases hx with z | z
      · exact gin2 x z
      · simp only [List.mem_cons, List.not_mem_nil, or_false] at z
        rcases z with rfl | rfl | rfl | rfl
        · exact ⟨fgb, hLg⟩
        · exact ⟨fit2, hLi⟩
        · exact ⟨old _ f2, nL _ f2⟩
        · exact ⟨old _ f3, nL _ f3⟩
    refine hGG ?_
    clear hGG
    refine group_any (base := base) (c := c) (a := a) (b := b) (gr := gr) (dgr := dgr) (io := io1) (by show A.depth + 1 + 2 < _; (clear hh T B hl hxs hx hn2 hn htk inj hst h X X1 T1 hszL fL l1 hnb hcL hfr hfr0 ht hxd hrw hrow hL7 hP hAsc hrn hpl lR l2 hfx hat gwf gin cT fR hRL hcn hcd hfrs fgb hLg hRg fit2 hLi hRi hc0 hgi hfxd fl2 gin2 ha hk hns mi mr hEi C gR iR hsz hdone hSt hfk hprev G B1 e1 e2 e3 hl0 han k1 g1 hi1 g2 f1 f2 f3 g3 g4 g5 old nL C1 ns1 gR1 hfk1 Rb hlA Xa Ta F4 N4 hab hbn hsame hnext hl4; lia)) hh X T (pushX (Rb.below B C1 hlA) F4 rfl rfl) cT (fun x hx => hnb x (hl4 x hx).1) (fun x hx => ?_) (gwf _ fun p hp => (N4 p (.tail _ (.tail _ (.tail _ (.tail _ (.tail _ (.tail _ hp)))))) ).1) (N4.get (.tail _ (.tail _ (.tail _ (.tail _ (.head _)))))) (N4.get (.tail _ (.head _))) (N4.get (.tail _ (.tail _ (.head _)))) (N4.get (.tail _ (.tail _ (.tail _ (.head _))))) hi1 hab hbn hsame hnext ?_
    · rcases List.mem_cons.mp hx with q | q
      · rw [q]
        exact ⟨fun z => (hl4 _ (.inl z)).2 rfl, fun z => (hl4 _ (.inr z)).2 rfl⟩
      · exact ⟨fun z => hfrs _ (hl4 x (.inl z)).1 q, fun z => hfrs _ (hl4 x (.inr z)).1 q⟩
    intro h5 tk5 S C5 fS gS sAt
    have gR4 := N4.get (a := R) (.tail _ (.tail _ (.tail _ (.tail _ (.tail _ (.head _))))))
    have hfk4 : ∀ p ∈ fx, _ = some p.2 := fun p hp => (N4 p (.tail _ (.tail _ (.tail _ (.tail _ (.tail _ (.tail _ hp))))))).1
    have Cx := Calm.below (Rb.calm C1 hlA F4.keep) C5 fL fl2
    have oldS : s.heap.get? S = none ∧ S ≠ L' := by
      refine ⟨?_, fun q => ?_⟩
      · cases q : s.heap.get? S with
        | none => rfl
        | some o =>
          by_cases hm : S ∈ envs.filterMap (·.frame)
          · obtain ⟨o', q1, q2⟩ := (B.frames.mem hm).2
            obtain ⟨sl, e4⟩ := (Rb.calm C1 hlA F4.keep).up S o' q1 q2
            rw [show _ = none from fS] at e4; cases e4
          · rw [(Rb.calm C1 hlA F4.keep).rest S o (fun z => nomatch z) hm q] at fS; cases fS
      · obtain ⟨_, _, _, e2, _⟩ := F4.ns
        rw [q] at fS; exact absurd (e2.symm.trans fS) (by first | k_mem | simp)
    have ns5 := C5.up.ns F4.ns
    have hSR : S ≠ R := fun q => by rw [q] at fS; exact absurd (gR4.symm.trans fS) (by first | k_mem | simp)
    have gR5 := C5.rest _ _ (notin2 hRg hRi) (fun z => (List.mem_cons.mp z).elim hRL fun z => hfrs _ fR z) gR4
    have hfk5 : ∀ p ∈ fx, h5.get? p.1 = some p.2 := fun p hp => C5.rest _ _ (notin2 (hfxd p hp).1 (hfxd p hp).2.1) (fun z => (List.mem_cons.mp z).elim (hfxd p hp).2.2.2.1 fun z => hfrs _ (hfxd p hp).2.2.2.2 z) (hfk4 p hp)
    clear Rb hlA F4 N4 C5 gR4 hfk4 hl4 Xa Ta
    refine cutP fun GG hGG => ?_
    obtain ⟨cS, gS⟩ := gS
    obtain ⟨io5, og5, ei, eg, sAt⟩ := sAt
    obtain ⟨gc, Rb, F1, N1⟩ := rebase (n0 := s.heap.objs.size) (news := (S, seqObj "list" ((List.range (b - a)).map fun k => Value.ref (c.ta (a + k))).toArray cS) :: (R, oR) :: (c.it, io5) :: (c.gb, og5) :: fx) ns5 hszL (fun p hp => by
      simp only [List.mem_cons] at hp
      rcases hp with rfl | rfl | rfl | rfl | hp
      · exact ⟨gS, oldS.2⟩
      · exact ⟨gR5, hRL⟩
      · exact ⟨ei, hLi⟩
      · exact ⟨eg, hLg⟩
      · exact ⟨hfk5 p hp, (hfxd p hp).2.2.2.1⟩)
    have hlC : ∀ x ∈ fsts ((S, seqObj "list" ((List.range (b - a)).map fun k => Value.ref (c.ta (a + k))).toArray cS) :: (R, oR) :: (c.it, io5) :: (c.gb, og5) :: fx), s.heap.get? x = none := fun x hb => by
      simp only [fsts, List.map_cons, List.mem_cons] at hb
      rcases hb with rfl | rfl | rfl | rfl | hb
      · exact oldS.1
      · exact fR
      · exact fit2
      · exact fgb
      · obtain ⟨q, hq, rfl⟩ := List.mem_map.mp hb
        exact (hfxd q hq).2.2.2.2
    have Xa := Frag.In.keeps X (Rb.stays B Cx hlC)
    have Ta := Top.keeps T (Rb.stays B Cx hlC)
    refine hGG ?_
    clear hGG
    k_steps
    refine Hold.mk ?_
    (rename Fr _ _ _ _ => F2); (rename News _ _ _ _ => N2)
    have hSl : (((List.range (b - a)).map fun k => Value.ref (c.ta (a + k))).toArray).size = b - a := by simp
    refine Calls.call_len_list (News.isList N2 (.head _)) (by rw [hSl]; (clear hA hh T B hl hxs hx htk inj hst h X X1 T1 hszL fL l1 hnb hcL hfr hfr0 ht hxd hrw hrow hL7 hP hAsc hrn lR l2 hfx hat gwf gin cT fR hRL hcd hfrs fgb hLg hRg fit2 hLi hRi hc0 hgi hfxd fl2 gin2 ha hk hns mi mr hEi C gR iR hdone hSt hfk hprev G B1 e1 e2 e3 hl0 han k1 g1 hi1 g2 f1 f2 f3 g3 g4 g5 old nL C1 ns1 gR1 hfk1 hsame hnext fS Cx oldS ns5 hSR gR5 hfk5 gS ei eg sAt Rb hlC Xa Ta F2 N2 hSl; lia)) ?_
    rw [hSl]
    k_steps
    refine Hold.mk ?_
    refine div_two (by (clear hA hh T B hl hxs hx htk inj hst h X X1 T1 hszL fL l1 hnb hcL hfr hfr0 ht hxd hrw hrow hL7 hP hAsc hrn lR l2 hfx hat gwf gin cT fR hRL hcd hfrs fgb hLg hRg fit2 hLi hRi hc0 hgi hfxd fl2 gin2 ha hk hns mi mr hEi C gR iR hdone hSt hfk hprev G B1 e1 e2 e3 hl0 han k1 g1 hi1 g2 f1 f2 f3 g3 g4 g5 old nL C1 ns1 gR1 hfk1 hsame hnext fS Cx oldS ns5 hSR gR5 hfk5 gS ei eg sAt Rb hlC Xa Ta; lia)) fun xh hxh => ?_
    k_steps
    refine Hold.mk ?_
    (rename Fr _ _ _ _ => F3); (rename News _ _ _ _ => N3)
    have hxr : Mine.E 1073 (Float64.add fi xh) ((a : Int) + b - c.n) := by
      have := hEi.add hxh (by (clear hA hh T B hl hxs hx htk inj hst h X X1 T1 hszL fL l1 hnb hcL hfr hfr0 ht hxd hrw hrow hL7 hP hAsc hrn lR l2 hfx hat gwf gin cT fR hRL hcd hfrs fgb hLg hRg fit2 hLi hRi hc0 hgi hfxd fl2 gin2 ha hk hns mi mr hEi C gR iR hdone hSt hfk hprev G B1 e1 e2 e3 hl0 k1 g1 hi1 g2 f1 f2 f3 g3 g4 g5 old nL C1 ns1 gR1 hfk1 hsame hnext fS Cx oldS ns5 hSR gR5 hfk5 gS ei eg sAt Rb hlC Xa Ta hxh F3 N3; lia)) (by decide)
      rw [show (a : Int) + b - c.n = 2 * (a : Int) - c.n - 1 + (((b - a : Nat) : Int) + 1) by (clear hA hh T B hl hxs hx hn2 hn htk inj hst h X X1 T1 hszL fL l1 hnb hcL hfr hfr0 ht hxd hrw hrow hL7 hP hAsc hrn hpl lR l2 hfx hat gwf gin cT fR hRL hcn hcd hfrs fgb hLg hRg fit2 hLi hRi hc0 hgi hfxd fl2 gin2 ha hk hns mi mr hEi C gR iR hsz hdone hSt hfk hprev G B1 e1 e2 e3 hl0 han k1 g1 hi1 g2 f1 f2 f3 g3 g4 g5 old nL C1 ns1 gR1 hfk1 hbn hsame hnext fS Cx oldS ns5 hSR gR5 hfk5 gS ei eg sAt Rb hlC Xa Ta hSl hxh F3 N3 this; lia)]
      exact this
    refine for_inv ?_
    k_steps
    refine Hold.mk ?_
    (rename Fr _ _ _ _ => F4)
    rename_i hz
    obtain ⟨fy, hfy⟩ : ∃ fy : List (Addr × Obj), fy = (S, seqObj "list" ((List.range (b - a)).map fun k => Value.ref (c.ta (a + k))).toArray cS) :: (c.it, io5) :: (c.gb, og5) :: fx := ⟨_, rfl⟩
    have gRz : hz.get? R = some oR := N3.get (.tail _ (.head _))
    have hfyz : ∀ p ∈ fy, hz.get? p.1 = some p.2 ∧ p.1 ≠ L' ∧ gc.get? p.1 = none ∧ p.1 ≠ R := fun p hp => by
      rw [hfy] at hp
      simp only [List.mem_cons] at hp
      rcases hp with rfl | rfl | rfl | hp
      · have := N3 _ (.head _)
        exact ⟨this.1, this.2.1, this.2.2, hSR⟩
      · have := N3 (c.it, io5) (.tail _ (.tail _ (.head _)))
        exact ⟨this.1, this.2.1, this.2.2, Ne.symm hRi⟩
      · have := N3 (c.gb, og5) (.tail _ (.tail _ (.tail _ (.head _))))
        exact ⟨this.1, this.2.1, this.2.2, Ne.symm hRg⟩
      · have := N3 p (.tail _ (.tail _ (.tail _ (.tail _ hp))))
        exact ⟨this.1, this.2.1, this.2.2, (hfxd p hp).2.2.1⟩
    have gcR : gc.get? R = none := N3.fresh (.tail _ (.head _))
    refine wpAny_pyIter_list (News.isList N3 (.head _)) ?_
    have F5 := F4.push ({ cls := .type "list_iterator", data := .fields #[.ref S, .int 0 0] })
    have pI : (hz.push ({ cls := .type "list_iterator", data := .fields #[.ref S, .int 0 0] })).IsListIter hz.objs.size S 0 := ⟨_, Heap.get?_push_size _ rfl, rfl, rfl⟩
    have keepz : ∀ b o, hz.get? b = some o → (hz.push ({ cls := .type "list_iterator", data := .fields #[.ref S, .int 0 0] })).get? b = some o := fun b o e => Heap.get?_push_of_some _ e
    have fI : hz.get? hz.objs.size = none := Heap.get?_none_of_le (Nat.le_refl _)
    generalize hz.push ({ cls := .type "list_iterator", data := .fields #[.ref S, .int 0 0] }) = hz2 at F5 pI keepz ⊢
    generalize hz.objs.size = I at pI fI ⊢
    have gcI : gc.get? I = none := none_base F4.keep fI
    have hIL : I ≠ L' := fun q => by
      obtain ⟨_, _, _, e2, _⟩ := F4.ns
      rw [q] at fI; exact absurd (e2.symm.trans fI) (by first | k_mem | simp)
    have hIR : R ≠ I := fun q => by rw [q] at gRz; exact absurd (gRz.symm.trans fI) (by first | k_mem | simp)
    have hIy : ∀ p ∈ fy, p.1 ≠ I := fun p hp q => by have := (hfyz p hp).1; rw [q] at this; exact absurd (this.symm.trans fI) (by first | k_mem | simp)
    refine ⟨I, RkI s L' gc R S I fy a (b - a) c.n fi (Float64.add fi xh) tfi _ _ (Wt n xv) (at' pp), b - a + 1, rfl, ⟨0, hz2, _, _, itsa, oR, rfl, Nat.zero_le _, rfl, F5.ns, by rfl, by rfl, by rfl, by rfl, F5.keep, keepz _ _ gRz, iR, hsz, hdone, pI, fun p hp => keepz _ _ (hfyz p hp).1⟩, ?_⟩
    have Lab : gc.objs.size ≤ L' := F4.above
    clear F4 F5 N3 pI keepz gRz
    rintro k2 s2 ⟨j, hx, tkx, mx, itsx, ox, rfl, hjm, hk2, nsx, mxi, mxr, mxk, mxs, kx, gRx, iRx, hszx, hdx, hix, hfyx⟩
    have hSx : hx.IsList S (((List.range (b - a)).map fun k => Value.ref (c.ta (a + k))).toArray) := ⟨_, hfyx (S, _) (by rw [hfy]; exact .head _), rfl, _, rfl⟩
    have hfx2 : ∀ p ∈ fx, p ∈ fy := fun p hp => by rw [hfy]; exact .tail _ (.tail _ (.tail _ hp))
    rcases Nat.lt_or_ge j (b - a) with hj | hj
    · have hitem : (((List.range (b - a)).map fun k => Value.ref (c.ta (a + k))).toArray)[j]? = some (.ref (c.ta (a + j))) := by
        rw [List.getElem?_toArray, List.getElem?_map, List.getElem?_range hj]; rfl
      refine wpAny_pyNext_list_item hix hSx hitem fun hy hiy sb => ?_
      have ky : ∀ x o, x ≠ I → hx.get? x = some o → hy.get? x = some o := fun x o q e => sb.extBut x o q e
      have Fy0 : Fr gc L' hy mx := ⟨nsx.at' fun o e => ky _ o (Ne.symm hIL) e, fun x o e => ky x o (fun q => by rw [q, gcI] at e; cases e) (kx x o e), Lab⟩
      refine cutP fun GG hGG => ?_
      obtain ⟨oi, gi, oic, oid⟩ := id hiy
      have Ny : News gc L' hy ((I, oi) :: (R, ox) :: fy) := fun p hp => by
        rcases List.mem_cons.mp hp with rfl | hp
        · exact ⟨gi, hIL, gcI⟩
        rcases List.mem_cons.mp hp with rfl | hp
        · exact ⟨ky _ _ hIR gRx, hRL, gcR⟩
        · exact ⟨ky _ _ (hIy p hp) (hfyx p hp), (hfyz p hp).2.1, (hfyz p hp).2.2.1⟩
      have Fy1 := Fr.two Fy0 mxi mxr
      have Fy2 := Fr.one (x := Str.ofString "rank") (v := .float (Float64.add fi xh) _) Fy1 (by rw [if_neg (by decide), if_neg (by decide)]; exact mxk)
      have Fy := Fr.one (x := Str.ofString "size") (v := .int ((b - a : Nat) : Int) _) Fy2 (by rw [if_neg (by decide), if_neg (by decide), if_neg (by decide)]; exact mxs)
      clear Fy1 Fy2
      refine hGG ?_
      clear hGG
      show wpAny _ _ (letOwnedTupleGo _ (.ref I) (.ref (c.ta (a + j)))) _ _ _
      refine cutTurn fun QQ2 hQQ2 => ?_
      refine wpAny_letOwnedTupleGo_listiter hiy ?_
      have hajn : a + j < c.n := by (clear hA hh T B hl hxs hn2 hn htk inj hst h X X1 T1 hszL fL l1 hnb hcL hfr hfr0 ht hxd hrw hrow hL7 hP hAsc hrn hpl lR l2 hfx hat gwf gin cT fR hRL hcn hcd hfrs fgb hLg hRg fit2 hLi hRi hc0 hgi hfxd fl2 gin2 ha hk hns mi mr hEi C gR iR hsz hdone hSt hfk hprev G B1 e1 e2 e3 hl0 han k1 g1 hi1 g2 f1 f2 f3 g3 g4 g5 old nL C1 ns1 gR1 hfk1 hsame hnext fS Cx oldS ns5 hSR gR5 hfk5 gS ei eg sAt Rb hlC Xa Ta hSl hxh hxr hfy hfyz gcR fI gcI hIL hIR hIy Lab hjm hk2 nsx mxi mxr mxk mxs kx gRx iRx hdx hix hfyx hSx hfx2 hitem hiy sb ky Fy0 gi oic oid Ny Fy; lia)
      obtain ⟨o, ho⟩ := gin (c.ta (a + j)) (.inr ⟨_, hajn, rfl⟩)
      have hto : o = tupObj (.int (c.vs (a + j)) (c.tv (a + j))) (.int (c.ps (a + j)) (c.tp (a + j))) := by
        have e1 := (Ny _ (.tail _ (.tail _ (hfx2 _ ho)))).1
        have e2 := (gwf hy fun p hp => (Ny _ (.tail _ (.tail _ (hfx2 _ hp)))).1).tup _ hajn
        rw [e2] at e1; exact (Option.some.inj e1).symm
      subst hto
      k_steps
      refine Hold.mk ?_
      refine unpackN_ Fy Ny (News.isTup Ny (.tail _ (.tail _ (hfx2 _ ho)))) hh rfl rfl ?_
      intro hu Fu Nu
      have iu : True := trivial
      clear Fy Fy0
      k_steps
      refine Hold.mk ?_
      (rename Fr _ _ _ _ => Fv); (rename News _ _ _ _ => Nv)
      have hps : c.ps (a + j) = ((at' pp (a + j) : Nat) : Int) := by rw [hc0]
      have hpl : at' pp (a + j) < n := hat _ (by (clear hA hh T B hl hxs hn2 hn htk inj hst h X X1 T1 hszL fL l1 hnb hcL hfr hfr0 ht hxd hrw hrow hL7 hP hAsc hrn hpl lR l2 hfx hat gwf gin cT fR hRL hcd hfrs fgb hLg hRg fit2 hLi hRi hc0 hgi hfxd fl2 gin2 ha hk hns mi mr hEi C gR iR hdone hSt hfk hprev G B1 e1 e2 e3 hl0 han k1 g1 hi1 g2 f1 f2 f3 g3 g4 g5 old nL C1 ns1 gR1 hfk1 hab hbn hsame hnext fS Cx oldS ns5 hSR gR5 hfk5 gS ei eg sAt Rb hlC Xa Ta hSl hxh hxr hfy hfyz gcR fI gcI hIL hIR hIy Lab hjm hk2 nsx mxi mxr mxk mxs kx gRx iRx hdx hix hfyx hSx hfx2 hj hitem hiy sb ky gi oic oid ho iu Fv Nv hps; lia))
      have hLv : Heap.IsList _ R itsx := ⟨ox, Nv.get (.tail _ (.head _)), iRx.1, iRx.2⟩
      refine wpAny_setItem_list hLv (by rw [hps]; (clear hA hh T B hl hxs hn2 hn htk inj hst h X X1 T1 hszL fL l1 hnb hcL hfr hfr0 ht hxd hrw hrow hL7 hP hAsc hrn lR l2 hfx hat gwf gin cT fR hRL hcn hcd hfrs fgb hLg hRg fit2 hLi hRi hc0 hgi hfxd fl2 gin2 ha hk hns mi mr hEi C gR iR hsz hdone hSt hfk hprev G B1 e1 e2 e3 hl0 han k1 g1 hi1 g2 f1 f2 f3 g3 g4 g5 old nL C1 ns1 gR1 hfk1 hab hbn hsame hnext fS Cx oldS ns5 hSR gR5 hfk5 gS ei eg sAt Rb hlC Xa Ta hSl hxh hxr hfy hfyz gcR fI gcI hIL hIR hIy Lab hjm hk2 nsx mxi mxr mxk mxs kx gRx iRx hszx hdx hix hfyx hSx hfx2 hj hitem hiy sb ky gi oic oid hajn ho iu Fv Nv hps hpl hLv; lia)) (by rw [hps]; (clear hA hh T B hl hxs htk inj hst h X X1 T1 hszL fL l1 hnb hcL hfr hfr0 ht hxd hrw hrow hL7 hP hAsc hrn lR l2 hfx hat gwf gin cT fR hRL hcd hfrs fgb hLg hRg fit2 hLi hRi hc0 hgi hfxd fl2 gin2 ha hk hns mi mr hEi C gR iR hdone hSt hfk hprev G B1 e1 e2 e3 hl0 han k1 g1 hi1 g2 f1 f2 f3 g3 g4 g5 old nL C1 ns1 gR1 hfk1 hab hbn hsame hnext fS Cx oldS ns5 hSR gR5 hfk5 gS ei eg sAt Rb hlC Xa Ta hSl hxh hxr hfy hfyz gcR fI gcI hIL hIR hIy Lab hjm hk2 nsx mxi mxr mxk mxs kx gRx iRx hdx hix hfyx hSx hfx2 hj hitem hiy sb ky gi oic oid hajn ho iu Fv Nv hps hLv; lia)) (by rw [hps, hszx]; (clear hA hh T B hl hxs hn2 hn htk inj hst h X X1 T1 hszL fL l1 hnb hcL hfr hfr0 ht hxd hrw hrow hL7 hP hAsc hrn lR l2 hfx hat gwf gin cT fR hRL hcd hfrs fgb hLg hRg fit2 hLi hRi hc0 hgi hfxd fl2 gin2 ha hk hns mi mr hEi C gR iR hdone hSt hfk hprev G B1 e1 e2 e3 hl0 han k1 g1 hi1 g2 f1 f2 f3 g3 g4 g5 old nL C1 ns1 gR1 hfk1 hab hbn hsame hnext fS Cx oldS ns5 hSR gR5 hfk5 gS ei eg sAt Rb hlC Xa Ta hSl hxh hxr hfy hfyz gcR fI gcI hIL hIR hIy Lab hjm hk2 nsx mxi mxr mxk mxs kx gRx iRx hdx hix hfyx hSx hfx2 hj hitem hiy sb ky gi oic oid hajn ho iu Fv Nv hps hLv; lia)) fun hq hlq sbq => ?_
      obtain ⟨oq, gq, iq1, iq2⟩ := hlq
      have kq : ∀ x o, x ≠ R → _ → hq.get? x = some o := fun x o q e => sbq.extBut x o q e
      k_steps
      refine hQQ2 _ ?_
      refine ⟨b - a - (j + 1) + 1, by (clear hA hh T B hl hxs hn2 hn htk inj hst h X X1 T1 hszL fL l1 hnb hcL hfr hfr0 ht hxd hrw hrow hL7 hP hAsc hrn lR l2 hfx hat gwf gin cT fR hRL hcn hcd hfrs fgb hLg hRg fit2 hLi hRi hc0 hgi hfxd fl2 gin2 ha hk hns mi mr hEi C gR iR hsz hdone hSt hfk hprev G B1 e1 e2 e3 hl0 han k1 g1 hi1 g2 f1 f2 f3 g3 g4 g5 old nL C1 ns1 gR1 hfk1 hbn hsame hnext fS Cx oldS ns5 hSR gR5 hfk5 gS ei eg sAt Rb hlC Xa Ta hSl hxh hxr hfy hfyz gcR fI gcI hIL hIR hIy Lab hjm nsx mxi mxr mxk mxs kx gRx iRx hszx hdx hix hfyx hSx hfx2 hitem hiy sb ky gi oic oid hajn ho iu Fv Nv hps hpl hLv sbq gq iq1 iq2 kq; omega), j + 1, hq, _, _, _, oq, rfl, by (clear hA hh T B hl hxs hn2 hn htk inj hst h X X1 T1 hszL fL l1 hnb hcL hfr hfr0 ht hxd hrw hrow hL7 hP hAsc hrn lR l2 hfx hat gwf gin cT fR hRL hcn hcd hfrs fgb hLg hRg fit2 hLi hRi hc0 hgi hfxd fl2 gin2 ha hk hns mi mr hEi C gR iR hsz hdone hSt hfk hprev G B1 e1 e2 e3 hl0 han k1 g1 hi1 g2 f1 f2 f3 g3 g4 g5 old nL C1 ns1 gR1 hfk1 hab hbn hsame hnext fS Cx oldS ns5 hSR gR5 hfk5 gS ei eg sAt Rb hlC Xa Ta hSl hxh hxr hfy hfyz gcR fI gcI hIL hIR hIy Lab hjm hk2 nsx mxi mxr mxk mxs kx gRx iRx hszx hdx hix hfyx hSx hfx2 hitem hiy sb ky gi oic oid hajn ho iu Fv Nv hps hpl hLv sbq gq iq1 iq2 kq; lia), rfl, Fv.ns.at' fun o e => kq _ o (Ne.symm hRL) e, ?_, ?_, ?_, ?_, fun x o e => kq x o (fun q => by rw [q, gcR] at e; cases e) (Fv.keep x o e), gq, ⟨iq1, iq2⟩, ?_, fun k hk3 => ?_, ⟨oi, kq _ _ (Ne.symm hIR) (Nv.get (.head _)), oic, oid⟩, fun p hp => kq _ _ (hfyz p hp).2.2.2 (Nv p (.tail _ (.tail _ hp))).1⟩
      · rfl
      · rfl
      · rfl
      · rfl
      · rw [Array.size_setIfInBounds]; exact hszx
      · rw [hps, Int.toNat_natCast]
        by_cases q : at' pp k = at' pp (a + j)
        · have hkk : k < a + (b - a) := by (clear hA hh T B hl hxs hn2 hn htk inj hst h X X1 T1 hszL fL l1 hnb hcL hfr hfr0 ht hxd hrw hrow hL7 hP hAsc hrn lR l2 hfx hat gwf gin cT fR hRL hcn hcd hfrs fgb hLg hRg fit2 hLi hRi hc0 hgi hfxd fl2 gin2 ha hk hns mi mr hEi C gR iR hsz hdone hSt hfk hprev G B1 e1 e2 e3 hl0 han k1 g1 hi1 g2 f1 f2 f3 g3 g4 g5 old nL C1 ns1 gR1 hfk1 hab hbn hsame hnext fS Cx oldS ns5 hSR gR5 hfk5 gS ei eg sAt Rb hlC Xa Ta hSl hxh hxr hfy hfyz gcR fI gcI hIL hIR hIy Lab hjm hk2 nsx mxi mxr mxk mxs kx gRx iRx hszx hdx hix hfyx hSx hfx2 hitem hiy sb ky gi oic oid hajn ho iu Fv Nv hps hpl hLv sbq gq iq1 iq2 kq q; lia)
          refine ⟨_, _, by rw [q, Array.getElem?_setIfInBounds_self_of_lt (by (clear hA hh T B hl hxs hn2 hn htk inj hst h X X1 T1 hszL fL l1 hnb hcL hfr hfr0 ht hxd hrw hrow hL7 hP hAsc hrn lR l2 hfx hat gwf gin cT fR hRL hcd hfrs fgb hLg hRg fit2 hLi hRi hc0 hgi hfxd fl2 gin2 ha hk hns mi mr hEi C gR iR hdone hSt hfk hprev G B1 e1 e2 e3 hl0 han k1 g1 hi1 g2 f1 f2 f3 g3 g4 g5 old nL C1 ns1 gR1 hfk1 hab hbn hsame hnext fS Cx oldS ns5 hSR gR5 hfk5 gS ei eg sAt Rb hlC Xa Ta hSl hxh hxr hfy hfyz gcR fI gcI hIL hIR hIy Lab hjm hk2 nsx mxi mxr mxk mxs kx gRx iRx hdx hix hfyx hSx hfx2 hj hitem hiy sb ky gi oic oid hajn ho iu Fv Nv hps hLv sbq gq iq1 iq2 kq hk3 hkk; lia))], ?_⟩
          have e3 : Wt n xv (at' pp (a + j)) = (a : Int) + b - n := wt_group hP hAsc (by (clear hA hh T B hl hxs hn2 hn htk inj hst h X X1 T1 hszL fL l1 hnb hcL hfr hfr0 ht hxd hrw hrow hL7 hP hAsc hrn lR l2 hfx hat gwf gin cT fR hRL hcn hcd hfrs fgb hLg hRg fit2 hLi hRi hc0 hgi hfxd fl2 gin2 ha hk hns mi mr hEi C gR iR hsz hdone hSt hfk hprev G B1 e1 e2 e3 hl0 han k1 g1 hi1 g2 f1 f2 f3 g3 g4 g5 old nL C1 ns1 gR1 hfk1 hab hbn hsame hnext fS Cx oldS ns5 hSR gR5 hfk5 gS ei eg sAt Rb hlC Xa Ta hSl hxh hxr hfy hfyz gcR fI gcI hIL hIR hIy Lab hjm hk2 nsx mxi mxr mxk mxs kx gRx iRx hszx hdx hix hfyx hSx hfx2 hj hitem hiy sb ky gi oic oid hajn ho iu Fv Nv hps hpl hLv sbq gq iq1 iq2 kq hk3 q hkk; lia)) (by (clear hA hh T B hl hxs hn2 hn htk inj hst h X X1 T1 hszL fL l1 hnb hcL hfr hfr0 ht hxd hrw hrow hL7 hP hAsc hrn lR l2 hfx hat gwf gin cT fR hRL hcn hcd hfrs fgb hLg hRg fit2 hLi hRi hc0 hgi hfxd fl2 gin2 ha hk hns mi mr hEi C gR iR hsz hdone hSt hfk hprev G B1 e1 e2 e3 hl0 han k1 g1 hi1 g2 f1 f2 f3 g3 g4 g5 old nL C1 ns1 gR1 hfk1 hbn hsame hnext fS Cx oldS ns5 hSR gR5 hfk5 gS ei eg sAt Rb hlC Xa Ta hSl hxh hxr hfy hfyz gcR fI gcI hIL hIR hIy Lab hjm hk2 nsx mxi mxr mxk mxs kx gRx iRx hszx hdx hix hfyx hSx hfx2 hitem hiy sb ky gi oic oid hajn ho iu Fv Nv hps hpl hLv sbq gq iq1 iq2 kq hk3 q hkk; lia)) (by (clear hA hh T B hl hxs hn2 hn htk inj hst h X X1 T1 hszL fL l1 hnb hcL hfr hfr0 ht hxd hrw hrow hL7 hP hAsc hrn lR l2 hfx hat gwf gin cT fR hRL hcd hfrs fgb hLg hRg fit2 hLi hRi hc0 hgi hfxd fl2 gin2 ha hk hns mi mr hEi C gR iR hdone hSt hfk hprev G B1 e1 e2 e3 hl0 han k1 g1 hi1 g2 f1 f2 f3 g3 g4 g5 old nL C1 ns1 gR1 hfk1 hab hsame hnext fS Cx oldS ns5 hSR gR5 hfk5 gS ei eg sAt Rb hlC Xa Ta hSl hxh hxr hfy hfyz gcR fI gcI hIL hIR hIy Lab hjm hk2 nsx mxi mxr mxk mxs kx gRx iRx hdx hix hfyx hSx hfx2 hj hitem hiy sb ky gi oic oid hajn ho iu Fv Nv hps hpl hLv sbq gq iq1 iq2 kq hk3 q hkk; lia)) (fun i i1 i2 => by have := hsame i i1 i2; rw [hc0] at this; exact this) (fun h0 => by have := hprev h0 han; rw [hc0] at this; exact this) (fun h0 => by have := hnext (by (clear hA hh T B hl hxs hn2 hn htk inj hst h X X1 T1 hszL fL l1 hnb hcL hfr hfr0 ht hxd hrw hrow hL7 hP hAsc hrn lR l2 hfx hat gwf gin cT fR hRL hcd hfrs fgb hLg hRg fit2 hLi hRi hc0 hgi hfxd fl2 gin2 ha hk hns mi mr hEi C gR iR hdone hSt hfk hprev G B1 e1 e2 e3 hl0 han k1 g1 hi1 g2 f1 f2 f3 g3 g4 g5 old nL C1 ns1 gR1 hfk1 hab hbn hsame hnext fS Cx oldS ns5 hSR gR5 hfk5 gS ei eg sAt Rb hlC Xa Ta hSl hxh hxr hfy hfyz gcR fI gcI hIL hIR hIy Lab hjm hk2 nsx mxi mxr mxk mxs kx gRx iRx hdx hix hfyx hSx hfx2 hj hitem hiy sb ky gi oic oid hajn ho iu Fv Nv hps hpl hLv sbq gq iq1 iq2 kq hk3 q hkk; lia)); rw [hc0] at this; exact this)
          rw [q, e3, hcn]; exact hxr
        · rw [Array.getElem?_setIfInBounds_ne (Ne.symm q)]
          refine hdx k ?_
          by_cases q2 : k = a + j
          · exact absurd (by rw [q2]) q
          · (clear hA hh T B hl hxs hn2 hn htk inj hst h X X1 T1 hszL fL l1 hnb hcL hfr hfr0 ht hxd hrw hrow hL7 hP hAsc hrn lR l2 hfx hat gwf gin cT fR hRL hcn hcd hfrs fgb hLg hRg fit2 hLi hRi hc0 hgi hfxd fl2 gin2 ha hk hns mi mr hEi C gR iR hsz hdone hSt hfk hprev G B1 e1 e2 e3 hl0 han k1 g1 hi1 g2 f1 f2 f3 g3 g4 g5 old nL C1 ns1 gR1 hfk1 hab hbn hsame hnext fS Cx oldS ns5 hSR gR5 hfk5 gS ei eg sAt Rb hlC Xa Ta hSl hxh hxr hfy hfyz gcR fI gcI hIL hIR hIy Lab hjm hk2 nsx mxi mxr mxk mxs kx gRx iRx hszx hdx hix hfyx hSx hfx2 hj hitem hiy sb ky gi oic oid hajn ho iu Fv Nv hps hpl hLv sbq gq iq1 iq2 kq q; lia)
    · have hjb : j = b - a := by (clear hA hh T B hl hxs hn2 hn htk inj hst h X X1 T1 hszL fL l1 hnb hcL hfr hfr0 ht hxd hrw hrow hL7 hP hAsc hrn hpl lR l2 hfx hat gwf gin cT fR hRL hcn hcd hfrs fgb hLg hRg fit2 hLi hRi hc0 hgi hfxd fl2 gin2 ha hk hns mi mr hEi C gR iR hsz hdone hSt hfk hprev G B1 e1 e2 e3 hl0 han k1 g1 hi1 g2 f1 f2 f3 g3 g4 g5 old nL C1 ns1 gR1 hfk1 hab hbn hsame hnext fS Cx oldS ns5 hSR gR5 hfk5 gS ei eg sAt Rb hlC Xa Ta hSl hxh hxr hfy hfyz gcR fI gcI hIL hIR hIy Lab hk2 nsx mxi mxr mxk mxs kx gRx iRx hszx hdx hix hfyx hSx hfx2; lia)
      have hpast : (((List.range (b - a)).map fun k => Value.ref (c.ta (a + k))).toArray)[j]? = none := by
        rw [hjb]; exact Array.getElem?_eq_none (by first | k_mem | simp)
      refine wpAny_pyNext_list_end hh hix hSx hpast fun hy sb => ?_
      have ky : ∀ x o, x ≠ I → hx.get? x = some o → hy.get? x = some o := fun x o q e => sb x o q e
      have Fy0 : Fr gc L' hy mx := ⟨nsx.at' fun o e => ky _ o (Ne.symm hIL) e, fun x o e => ky x o (fun q => by rw [q, gcI] at e; cases e) (kx x o e), Lab⟩
      have Ny : News gc L' hy ((R, ox) :: fy) := fun p hp => by
        rcases List.mem_cons.mp hp with rfl | hp
        · exact ⟨ky _ _ hIR gRx, hRL, gcR⟩
        · exact ⟨ky _ _ (hIy p hp) (hfyx p hp), (hfyz p hp).2.1, (hfyz p hp).2.2.1⟩
      have Fy1 := Fr.two Fy0 mxi mxr
      have Fy := Fr.one (x := Str.ofString "size") (v := .int ((b - a : Nat) : Int) _) Fy1 (by rw [if_neg (by decide), if_neg (by decide)]; exact mxs)
      clear Fy1 Fy0
      dsimp only [ForTurn]
      k_steps
      refine iadd_int (by (clear hA hh T B hl hxs htk inj hst h X X1 T1 hszL fL l1 hnb hcL hfr hfr0 ht hxd hrw hrow hL7 hP hAsc hrn lR l2 hfx hat gwf gin cT fR hRL hcd hfrs fgb hLg hRg fit2 hLi hRi hc0 hgi hfxd fl2 gin2 ha hk hns mi mr hEi C gR iR hdone hSt hfk hprev G B1 e1 e2 e3 hl0 han k1 g1 hi1 g2 f1 f2 f3 g3 g4 g5 old nL C1 ns1 gR1 hfk1 hsame hnext fS Cx oldS ns5 hSR gR5 hfk5 gS ei eg sAt Rb hlC Xa Ta hxh hxr hfy hfyz gcR fI gcI hIR hIy Lab hk2 nsx mxi mxr mxk mxs kx gRx iRx hdx hix hfyx hSx hfx2 hjb hpast sb ky Ny Fy; lia)) ?_
      k_steps
      (rename Fr _ _ _ _ => Fw); (rename News _ _ _ _ => Nw)
      have hadd : Mine.E 1073 (Float64.add fi (Float64.ofInt ((b - a : Nat) : Int))) (2 * b - c.n - 1) := by
        have e1 := (Mine.E.ofInt (i := ((b - a : Nat) : Int)) (by (clear hA hh T B hl hxs htk inj hst h X X1 T1 hszL fL l1 hnb hcL hfr hfr0 ht hxd hrw hrow hL7 hP hAsc hrn lR l2 hfx hat gwf gin cT fR hRL hcd hfrs fgb hLg hRg fit2 hLi hRi hc0 hgi hfxd fl2 gin2 ha hk hns mi mr hEi C gR iR hdone hSt hfk hprev G B1 e1 e2 e3 hl0 han k1 g1 hi1 g2 f1 f2 f3 g3 g4 g5 old nL C1 ns1 gR1 hfk1 hsame hnext fS Cx oldS ns5 hSR gR5 hfk5 gS ei eg sAt Rb hlC Xa Ta hxh hxr hfy hfyz gcR fI gcI hIR hIy Lab hk2 nsx mxi mxr mxk mxs kx gRx iRx hdx hix hfyx hSx hfx2 hjb hpast sb ky Fw Nw; lia))).scale (c := 1073) (d := 1)
        have e2 := hEi.add e1 (by (clear hA hh T B hl hxs htk inj hst h X X1 T1 hszL fL l1 hnb hcL hfr hfr0 ht hxd hrw hrow hL7 hP hAsc hrn lR l2 hfx hat gwf gin cT fR hRL hcd hfrs fgb hLg hRg fit2 hLi hRi hc0 hgi hfxd fl2 gin2 ha hk hns mi mr hEi C gR iR hdone hSt hfk hprev G B1 e2 e3 hl0 han k1 g1 hi1 g2 f1 f2 f3 g3 g4 g5 old nL C1 ns1 gR1 hfk1 hsame hnext fS Cx oldS ns5 hSR gR5 hfk5 gS ei eg sAt Rb hlC Xa Ta hxh hxr hfy hfyz gcR fI gcI hIR hIy Lab hk2 nsx mxi mxr mxk mxs kx gRx iRx hdx hix hfyx hSx hfx2 hjb hpast sb ky Fw Nw e1; lia)) (by decide)
        rw [show 2 * (b : Int) - c.n - 1 = 2 * (a : Int) - c.n - 1 + ((b - a : Nat) : Int) * ((2 ^ 1 : Nat) : Int) by (clear hA hh T B hl hxs hn2 hn htk inj hst h X X1 T1 hszL fL l1 hnb hcL hfr hfr0 ht hxd hrw hrow hL7 hP hAsc hrn hpl lR l2 hfx hat gwf gin cT fR hRL hcn hcd hfrs fgb hLg hRg fit2 hLi hRi hc0 hgi hfxd fl2 gin2 ha hk hns mi mr hEi C gR iR hsz hdone hSt hfk hprev G B1 e3 hl0 han k1 g1 hi1 g2 f1 f2 f3 g3 g4 g5 old nL C1 ns1 gR1 hfk1 hbn hsame hnext fS Cx oldS ns5 hSR gR5 hfk5 gS ei eg sAt Rb hlC Xa Ta hSl hxh hxr hfy hfyz gcR fI gcI hIL hIR hIy Lab hk2 nsx mxi mxr mxk mxs kx gRx iRx hszx hdx hix hfyx hSx hfx2 hjb hpast sb ky Fw Nw e1 e2; lia)]
        exact e2
      refine hQQ _ ?_
      refine ⟨c.n - b + 1, by rw [hk]; exact Nat.succ_lt_succ (Nat.sub_lt_sub_left han hab), b, _, _, _, itsx, ox, _, _, rfl, hbn, rfl, Fw.ns, by rfl, by rfl, hadd, Rb.calm Cx hlC Fw.keep, Nw.get (.head _), iRx, hszx, fun k hk3 => hdx k (by rw [hjb, Nat.add_sub_cancel' (Nat.le_of_lt hab)]; exact hk3), ⟨io5, og5, Nw.get (by rw [hfy]; exact .tail _ (.tail _ (.head _))), Nw.get (by rw [hfy]; exact .tail _ (.tail _ (.tail _ (.head _)))), sAt⟩, fun p hp => (Nw p (.tail _ (hfx2 p hp))).1, fun h0 h1' => ?_⟩
      rw [hsame (b - 1) (by (clear hA hh T B hl hxs hn2 hn htk inj hst h X X1 T1 hszL fL l1 hnb hcL hfr hfr0 ht hxd hrw hrow hL7 hP hAsc hrn hpl lR l2 hfx hat gwf gin cT fR hRL hcn hcd hfrs fgb hLg hRg fit2 hLi hRi hc0 hgi hfxd fl2 gin2 ha hk hns mi mr hEi C gR iR hsz hdone hSt hfk hprev G B1 e1 e2 e3 hl0 han k1 g1 hi1 g2 f1 f2 f3 g3 g4 g5 old nL C1 ns1 gR1 hfk1 hbn hsame hnext fS Cx oldS ns5 hSR gR5 hfk5 gS ei eg sAt Rb hlC Xa Ta hSl hxh hxr hfy hfyz gcR fI gcI hIL hIR hIy Lab hjm hk2 nsx mxi mxr mxk mxs kx gRx iRx hszx hdx hix hfyx hSx hfx2 hj hjb hpast sb ky Fw Nw hadd h1'; omega)) (by (clear hA hh T B hl hxs hn2 hn htk inj hst h X X1 T1 hszL fL l1 hnb hcL hfr hfr0 ht hxd hrw hrow hL7 hP hAsc hrn hpl lR l2 hfx hat gwf gin cT fR hRL hcn hcd hfrs fgb hLg hRg fit2 hLi hRi hc0 hgi hfxd fl2 gin2 ha hk hns mi mr hEi C gR iR hsz hdone hSt hfk hprev G B1 e1 e2 e3 hl0 han k1 g1 hi1 g2 f1 f2 f3 g3 g4 g5 old nL C1 ns1 gR1 hfk1 hab hbn hsame hnext fS Cx oldS ns5 hSR gR5 hfk5 gS ei eg sAt Rb hlC Xa Ta hSl hxh hxr hfy hfyz gcR fI gcI hIL hIR hIy Lab hjm hk2 nsx mxi mxr mxk mxs kx gRx iRx hszx hdx hix hfyx hSx hfx2 hj hjb hpast sb ky Fw Nw hadd h1'; omega))]
      exact (hnext h1').symm
  · have hac : a = c.n := by (clear hA hh T B hl hxs hx hn2 hn htk inj hst h X X1 T1 hszL fL l1 hnb g4 hcL hfr hfr0 ht hxd hrw hrow hL7 hP hAsc hrn hpl lR l2 hfx hat gwf gin cT fR hRL hcn hcd hfrs fgb hLg hRg fit2 hLi hRi hc0 hgi hfxd fl2 gin2 hk hns mi mr hEi C gR iR hdone hSt hfk hprev G B1 e1 e2 e3 hl0; lia)
    refine cutP fun GG hGG => ?_
    obtain ⟨g1, Rb, F1, N1⟩ := rebase (n0 := s.heap.objs.size) (news := [(R, oR)]) hns hszL (fun p hp => by obtain rfl := List.mem_singleton.mp hp; exact ⟨gR, hRL⟩)
    have hlR : ∀ b ∈ fsts [(R, oR)], s.heap.get? b = none := fun b hb => by
      simp only [fsts, List.map_cons, List.map_nil] at hb
      obtain rfl := List.mem_singleton.mp hb; exact fR
    refine hGG ?_
    clear hGG
    refine gb_last (base := base) (c := c) (by show A.depth + 1 + 2 < _; (clear hh T B hl hxs hx hn2 hn htk inj hst h X X1 T1 hszL fL l1 hnb g4 hcL hfr hfr0 ht hxd hrw hrow hL7 hP hAsc hrn hpl lR l2 hfx hat gwf gin cT fR hRL hcn hcd hfrs fgb hLg hRg fit2 hLi hRi hc0 hgi hfxd fl2 gin2 ha hk hns mi mr hEi C gR iR hsz hdone hSt hfk hprev G B1 e1 e2 e3 hl0 han hac Rb F1 N1 hlR; lia)) hh X T (pushX (Rb.below B C hlR) F1 rfl rfl) cT hl0 (fun x hx => ?_) G (hac ▸ hSt) ?_
    · rcases List.mem_cons.mp hx with q | q
      · rw [q]
        exact ⟨fun z => (gin2 _ z).2 rfl, notin2 (Ne.symm hLg) (Ne.symm hLi)⟩
      · exact ⟨fun z => hfrs _ (gin2 x z).1 q, fun z => hfrs _ (fl2 x z) q⟩
    intro h2 tk2 e o2 hf
    refine stop_flies hf ?_
    have C2 := Calm.below C hf.calm fL fl2
    have ns2 := hf.calm.up.ns hns
    have gR2 := hf.calm.rest _ _ (notin2 hRg hRi) (fun z => (List.mem_cons.mp z).elim hRL fun z => hfrs _ fR z) gR
    clear Rb F1 N1
    refine cutP fun GG hGG => ?_
    obtain ⟨g2, Rb, F2, N2⟩ := rebase (n0 := s.heap.objs.size) (news := [(R, oR)]) ns2 hszL (fun p hp => by obtain rfl := List.mem_singleton.mp hp; exact ⟨gR2, hRL⟩)
    have X2 := Frag.In.keeps X (Rb.stays B C2 hlR)
    have T2 := Top.keeps T (Rb.stays B C2 hlR)
    have F3 := Fr.two F2 mr mi
    clear F2
    refine hGG ?_
    clear hGG
    dsimp only [ForTurn]
    k_steps
    (rename Fr _ _ _ _ => F4); (rename News _ _ _ _ => N4)
    refine h _ _ R itsa (Rb.calm C2 hlR F4.keep) fR ⟨_, N4.get (.head _), iR.1, iR.2⟩ (hsz.trans hcn.symm) fun j hj => ?_
    obtain ⟨k0, hk0, rfl⟩ : ∃ k0, k0 < n ∧ at' pp k0 = j := by
      have hm : j ∈ pp.toList := hP.perm.mem_iff.mpr (List.mem_range.mpr hj)
      rw [hP.list] at hm
      obtain ⟨k0, hk1, hk2⟩ := List.mem_map.mp hm
      exact ⟨k0, List.mem_range.mp hk1, hk2⟩
    exact hdone k0 (by (clear hA hh T B hl hxs hx hn2 hn htk inj hst h X X1 T1 hszL fL l1 hnb g4 hcL hfr hfr0 ht hxd hrw hrow hL7 hP hAsc hrn hpl lR l2 hfx hat gwf gin cT fR hRL hcd hfrs fgb hLg hRg fit2 hLi hRi hc0 hgi hfxd fl2 gin2 hk hns mi mr hEi C gR iR hdone hSt hfk hprev G B1 e1 e2 e3 hl0 hac hlR hf C2 ns2 gR2 Rb N4 X2 T2 F4 hj; lia))
end Two
end
section
open PySem PySem.Float64
set_option maxRecDepth 100000
set_option exponentiation.threshold 3000
namespace Mine
theorem two_sided {x : Int} {b : Nat} (h : x.natAbs ≤ b) : -(b : Int) ≤ x ∧ x ≤ b := by omega
theorem of_two {x : Int} {b : Nat} (h1 : -(b : Int) ≤ x) (h2 : x ≤ b) : x.natAbs ≤ b := by omega
theorem NearI.rel {r : UInt64} {Z : Int} {D : Nat} (h : NearI r Z D) (h1 : D * 2 ^ 52 ≤ Z.natAbs) (h2 : Z.natAbs ≤ D * 2 ^ 2000) : IsF r ∧ 2 ^ 53 * (Z - D * val r).natAbs ≤ Z.natAbs := by
  have hD := h.1
  have hq : 2 ^ 52 ≤ Z.natAbs / D := (Nat.le_div_iff_mul_le hD).mpr (by rw [Nat.mul_comm]; exact h1)
  have hq0 : Z.natAbs / D ≠ 0 := by (clear h h1 h2 hD; lia)
  have a1 := Nat.log2_self_le hq0
  have a2 := Nat.lt_log2_self (n := Z.natAbs / D)
  have a3 : 52 ≤ (Z.natAbs / D).log2 := (Nat.le_log2 hq0).mpr hq
  have hq2 : Z.natAbs / D ≤ 2 ^ 2000 := Nat.div_le_of_le_mul h2
  have a4 : (Z.natAbs / D).log2 ≤ 2000 := by
    rcases Nat.lt_or_ge 2000 (Z.natAbs / D).log2 with q | q
    · have := Nat.pow_lt_pow_right (a := 2) (by decide) q
      (clear h h1 h2 hD hq0 a2 a3 q; lia)
    · exact q
  generalize hl : (Z.natAbs / D).log2 = l at a1 a2 a3 a4
  have e1 := Nat.div_add_mod Z.natAbs D
  have e2 := Nat.mod_lt Z.natAbs hD
  have b1 : D * 2 ^ l ≤ Z.natAbs := Nat.le_trans (Nat.mul_le_mul_left D a1) (by (clear h h1 h2 hD hq hq0 hq2 hl a1 a2 a3 a4 e2; lia))
  have b2 : Z.natAbs ≤ D * 2 ^ (l - 52 + 53) := by
    have : D * (Z.natAbs / D + 1) ≤ D * 2 ^ (l + 1) := Nat.mul_le_mul_left D a2
    rw [Nat.mul_succ] at this
    rw [show l - 52 + 53 = l + 1 by (clear h h1 h2 hD hq hq0 hq2 hl a1 a2 e1 e2 b1 this; omega)]
    (clear h h1 h2 hD hq hq0 hq2 hl a1 a2 a3 a4 b1; lia)
  obtain ⟨hf, hn⟩ := h.near (c := l - 52) (by (clear h h1 h2 hD hq hq0 hq2 hl a1 a2 e1 e2 b1 b2; omega)) b2
  refine ⟨hf, ?_⟩
  have b3 : 2 ^ 52 * (D * 2 ^ (l - 52)) = D * 2 ^ l := by
    rw [Nat.mul_left_comm, ← Nat.pow_add, show 52 + (l - 52) = l by (clear h h1 h2 hD hq hq0 hq2 hl a1 a2 e1 e2 b1 b2 hf hn; omega)]
  have := Nat.mul_le_mul_left (2 ^ 52) hn
  (clear h h1 h2 hD hq hq0 hq2 hl a1 a2 a3 a4 e1 e2 b2 hf this; lia)
theorem IsF.toE {x : UInt64} (h : IsF x) (hb : (val x).natAbs ≤ 2 ^ 1980) : ∃ c p, c ≤ 1980 ∧ p.natAbs ≤ 2 ^ 53 ∧ E c x p := by
  obtain ⟨a, m, e, hd⟩ := h
  have hm := decode_le hd
  by_cases h0 : m = 0
  · refine ⟨0, 0, by decide, by decide, ⟨a, m, e, hd⟩, ?_⟩
    rw [val_eq hd, h0, Nat.zero_mul]; unfold sgn; simp
  · refine ⟨(e + 1074).toNat, sgn a m, ?_, by rw [sgn_natAbs]; (clear hb hd h0; lia), ⟨a, m, e, hd⟩, by rw [val_eq hd, sgn_mul]⟩
    rcases Nat.lt_or_ge 1980 (e + 1074).toNat with q | q
    · rw [val_natAbs hd] at hb
      have := Nat.pow_lt_pow_right (a := 2) (by decide) q
      have h2 := Nat.mul_le_mul_right (2 ^ (e + 1074).toNat) (show 1 ≤ m by (clear hb hd this; (exact Nat.pos_of_ne_zero (by assumption))))
      (clear hd hm h0 q; lia)
    · exact q
theorem NearI.self {r x : UInt64} {Z : Int} (h : NearI r Z 1) (hx : IsF x) (hZ : Z = val x) (hb : (val x).natAbs ≤ 2 ^ 1980) : IsF r ∧ val r = val x := by
  obtain ⟨c, p, hc, hp, hE⟩ := hx.toE hb
  rw [hE.2] at hZ ⊢
  exact h.exact hc (by rw [hZ]; simp) hp
/-- a two-sum whose sum is exact -/
theorem dlSum_of {a b : UInt64} (ha : IsF a) (hb : IsF b) (hx : IsF (Float64.add a b)) (hv : val (Float64.add a b) = val a + val b) (b1 : (val a).natAbs ≤ 2 ^ 1900) (b2 : (val b).natAbs ≤ 2 ^ 1900) :
    IsF (Builtin.Math.dlSum a b).1 ∧ val (Builtin.Math.dlSum a b).1 = val a + val b ∧ IsF (Builtin.Math.dlSum a b).2 ∧ val (Builtin.Math.dlSum a b).2 = 0 := by
  have hlt : (2 : Nat) ^ 1900 ≤ 2 ^ 1980 := Nat.pow_le_pow_right (by decide) (by decide)
  obtain ⟨z1, z2⟩ := (isF_sub hx ha).self hb (by rw [hv]; (clear ha hb hx hv b1 b2 hlt; lia)) (by (clear ha hb hx hv b1 hlt; (exact Nat.le_trans (by assumption) (by decide))))
  obtain ⟨w1, w2⟩ := (isF_sub hx z1).self ha (by rw [hv, z2]; (clear ha hb hx hv b1 b2 hlt z1 z2; lia)) (by (clear ha hb hx hv b2 hlt z1 z2; (exact Nat.le_trans (by assumption) (by decide))))
  have u := (isF_sub ha w1).exact (q := 0) (c := 0) (by decide) (by rw [w2]; simp) (by decide)
  have v := (isF_sub hb z1).exact (q := 0) (c := 0) (by decide) (by rw [z2]; simp) (by decide)
  have f := (isF_add u.1 v.1).exact (q := 0) (c := 0) (by decide) (by rw [u.2, v.2]; simp) (by decide)
  refine ⟨hx, hv, f.1, ?_⟩
  rw [show (Builtin.Math.dlSum a b).2 = Float64.add (Float64.sub a (Float64.sub (Float64.add a b) (Float64.sub (Float64.add a b) a))) (Float64.sub b (Float64.sub (Float64.add a b) a)) from rfl, f.2]
  simp
theorem p55 (j : Nat) : 2 ^ (j + 4 + 53) = 2 ^ 57 * 2 ^ j := by rw [show j + 4 + 53 = 57 + j by lia, Nat.pow_add]
/-- adding what is small: off by no more than 8 units -/
theorem add_near {x y : UInt64} {j : Nat} (hx : IsF x) (hy : IsF y) (hj : j ≤ 2000) (hb : (val x + val y).natAbs ≤ 2 ^ 57 * 2 ^ j) : IsF (Float64.add x y) ∧ (val x + val y - val (Float64.add x y)).natAbs ≤ 8 * 2 ^ j := by
  obtain ⟨h1, h2⟩ := (isF_add hx hy).near (c := j + 4) (by (clear hx hy hb; lia)) (by rw [p55, Nat.one_mul]; exact hb)
  refine ⟨h1, ?_⟩
  rw [Nat.pow_add] at h2
  simp only [Nat.one_mul, Int.natCast_one, Int.one_mul, Int.cast_ofNat_Int] at h2
  (clear hx hy hj hb h1; lia)
theorem sub_near {x y : UInt64} {j : Nat} (hx : IsF x) (hy : IsF y) (hj : j ≤ 2000) (hb : (val x - val y).natAbs ≤ 2 ^ 57 * 2 ^ j) : IsF (Float64.sub x y) ∧ (val x - val y - val (Float64.sub x y)).natAbs ≤ 8 * 2 ^ j := by
  obtain ⟨h1, h2⟩ := (isF_sub hx hy).near (c := j + 4) (by (clear hx hy hb; lia)) (by rw [p55, Nat.one_mul]; exact hb)
  refine ⟨h1, ?_⟩
  rw [Nat.pow_add] at h2
  simp only [Nat.one_mul, Int.natCast_one, Int.one_mul, Int.cast_ofNat_Int] at h2
  (clear hx hy hj hb h1; lia)
/-- the plain facts of a two-sum that is off by some units -/
theorem sum_arith {a b x z w p v f : Int} {u : Nat} (x2 : (a + b - x).natAbs ≤ 8 * u) (z2 : (x - a - z).natAbs ≤ 8 * u) (w2 : (x - z - w).natAbs ≤ 8 * u) (u2 : (a - w - p).natAbs ≤ 8 * u) (v2 : (b - z - v).natAbs ≤ 8 * u) (f2 : (p + v - f).natAbs ≤ 8 * u) : f.natAbs ≤ 40 * u := by
  obtain ⟨a1, a2⟩ := two_sided x2
  obtain ⟨a3, a4⟩ := two_sided z2
  obtain ⟨a5, a6⟩ := two_sided w2
  obtain ⟨a7, a8⟩ := two_sided u2
  obtain ⟨a9, b1⟩ := two_sided v2
  obtain ⟨b2, b3⟩ := two_sided f2
  clear x2 z2 w2 u2 v2 f2
  exact of_two (by (clear a2 a3 a4 a6 a7 a9 b2; lia)) (by (clear a1 a3 a4 a5 a8 b1 b3; lia))
theorem sum_room {a b : Int} {u : Nat} (h1 : a.natAbs ≤ 2 ^ 55 * u) (h2 : b.natAbs ≤ 2 ^ 55 * u) : (a + b).natAbs ≤ 2 ^ 57 * u := by
  obtain ⟨a1, a2⟩ := two_sided h1
  obtain ⟨a3, a4⟩ := two_sided h2
  clear h1 h2
  exact of_two (by (clear a2; lia)) (by (clear a1; lia))
theorem sum_rooms {a b x z w p v : Int} {u : Nat} (h1 : a.natAbs ≤ 2 ^ 55 * u) (h2 : b.natAbs ≤ 2 ^ 55 * u) (x2 : (a + b - x).natAbs ≤ 8 * u) :
    (x - a).natAbs ≤ 2 ^ 57 * u ∧ ((x - a - z).natAbs ≤ 8 * u → (x - z).natAbs ≤ 2 ^ 57 * u ∧ ((x - z - w).natAbs ≤ 8 * u → (a - w).natAbs ≤ 2 ^ 57 * u ∧ (b - z).natAbs ≤ 2 ^ 57 * u ∧ ((a - w - p).natAbs ≤ 8 * u → (b - z - v).natAbs ≤ 8 * u → (p + v).natAbs ≤ 2 ^ 57 * u))) := by
  obtain ⟨a1, a2⟩ := two_sided h1
  obtain ⟨a3, a4⟩ := two_sided h2
  obtain ⟨a5, a6⟩ := two_sided x2
  clear h1 h2 x2
  refine ⟨of_two (by (clear a1 a2 a4; lia)) (by (clear a1 a2 a3; lia)), fun h => ?_⟩
  obtain ⟨a7, a8⟩ := two_sided h
  clear h
  refine ⟨of_two (by (clear a2 a3 a4 a5 a6; lia)) (by (clear a1 a3 a4 a5 a6; lia)), fun h => ?_⟩
  obtain ⟨a9, b1⟩ := two_sided h
  clear h
  refine ⟨of_two (by (clear a1 a2 a3 a4 a5 a6 a7; lia)) (by (clear a1 a2 a3 a4 a5 a6 a8; lia)), of_two (by (clear a1 a2 a3 a4 a6 a9 b1; lia)) (by (clear a1 a2 a3 a4 a5 a9 b1; lia)), fun h h' => ?_⟩
  obtain ⟨b2, b3⟩ := two_sided h
  obtain ⟨b4, b5⟩ := two_sided h'
  clear h h'
  exact of_two (by (clear a1 a2 a3 a4 a6 a7 a8 b1 b2; lia)) (by (clear a1 a2 a3 a4 a5 a7 a8 a9 b3; lia))
theorem dlSum_near {a b : UInt64} {j : Nat} (ha : IsF a) (hb : IsF b) (hj : j ≤ 2000) (b1 : (val a).natAbs ≤ 2 ^ 55 * 2 ^ j) (b2 : (val b).natAbs ≤ 2 ^ 55 * 2 ^ j) :
    IsF (Builtin.Math.dlSum a b).1 ∧ (val a + val b - val (Builtin.Math.dlSum a b).1).natAbs ≤ 8 * 2 ^ j ∧ IsF (Builtin.Math.dlSum a b).2 ∧ (val (Builtin.Math.dlSum a b).2).natAbs ≤ 40 * 2 ^ j := by
  obtain ⟨x1, x2⟩ := add_near ha hb hj (sum_room b1 b2)
  have R := fun z w p v => sum_rooms (z := z) (w := w) (p := p) (v := v) b1 b2 x2
  obtain ⟨z1, z2⟩ := sub_near x1 ha hj (R 0 0 0 0).1
  obtain ⟨w1, w2⟩ := sub_near x1 z1 hj ((R _ 0 0 0).2 z2).1
  obtain ⟨u1, u2⟩ := sub_near ha w1 hj (((R _ _ 0 0).2 z2).2 w2).1
  obtain ⟨v1, v2⟩ := sub_near hb z1 hj (((R _ _ 0 0).2 z2).2 w2).2.1
  obtain ⟨f1, f2⟩ := add_near u1 v1 hj ((((R _ _ _ _).2 z2).2 w2).2.2 u2 v2)
  exact ⟨x1, x2, f1, sum_arith x2 z2 w2 u2 v2 f2⟩
end Mine
end
section
open PySem PySem.Float64
set_option maxRecDepth 100000
set_option exponentiation.threshold 3000
namespace Mine
theorem pow_sq (k : Nat) : (2 : Nat) ^ (2 * k) = 2 ^ k * 2 ^ k := by rw [Nat.two_mul, Nat.pow_add]
theorem sqrt_spec {z : UInt64} (hz : IsF z) (h1 : 2 ^ 1050 ≤ val z) (h2 : val z ≤ 2 ^ 1120) :
    ∃ q k : Nat, 2 ^ 52 ≤ q ∧ q < 2 ^ 53 ∧ 1009 ≤ k ∧ k ≤ 1045 ∧ E k (Float64.sqrt z) q ∧ (2 * q - 1) * (2 * q - 1) * (2 ^ k * 2 ^ k) ≤ 4 * ((val z).natAbs * 2 ^ 1074) ∧ 4 * ((val z).natAbs * 2 ^ 1074) ≤ (2 * q + 1) * (2 * q + 1) * (2 ^ k * 2 ^ k) := by
  obtain ⟨a, m, e, hd⟩ := hz
  have hp : (0 : Int) < val z := Int.lt_of_lt_of_le (by decide) h1
  have hn : (2 : Nat) ^ 1050 ≤ (val z).natAbs := by (clear hd hp; lia)
  have hn2 : (val z).natAbs ≤ 2 ^ 1120 := by omega
  have ha : a = false := by
    have := val_sgn hd
    cases a
    · rfl
    · unfold sgn at this; simp at this; (clear hp hd; lia)
  subst ha
  have hm : m ≠ 0 := by
    rintro rfl
    have := val_natAbs hd
    rw [Nat.zero_mul] at this
    (clear h1 h2 hp hd; lia)
  obtain ⟨t, ht, hlt, hup, hlo⟩ := sqrt_right hd hm
  obtain ⟨k, q, hkq, hq, hor, hV⟩ := V_form t
  have hV1 : V (t + 1) = (q + 1) * 2 ^ k := by
    have := V_at (k := k) (q := q + 1) (by (clear h1 h2 hp hn hn2 hd hm ht hlt hup hlo hkq hor hV; (assumption))) (by (clear h1 h2 hp hn hn2 hd hm ht hlt hup hlo hkq hV; lia))
    rw [← this, hkq, Nat.add_assoc]
  have up := hup (t + 1) (Nat.lt_succ_self _)
  have e1 : (V t + V (t + 1)) * (V t + V (t + 1)) = (2 * q + 1) * (2 * q + 1) * (2 ^ k * 2 ^ k) := by
    rw [hV, hV1, ← Nat.add_mul, show q + (q + 1) = 2 * q + 1 by (clear h1 h2 hp hn hn2 hd hm ht hlt hup hlo hkq hq hor hV hV1 up; lia)]; ac_rfl
  rw [e1] at up
  have b1 : (2 * q + 1) * (2 * q + 1) ≤ 2 ^ 54 * 2 ^ 54 := Nat.mul_le_mul (by (clear h1 h2 hp hn hn2 hd hm ht hlt hup hlo hkq hor hV hV1 up e1; lia)) (by (clear h1 h2 hp hn hn2 hd hm ht hlt hup hlo hkq hor hV hV1 up e1; lia))
  have hk1 : 1009 ≤ k := by
    have c1 : 2 ^ 2126 ≤ 4 * ((val z).natAbs * 2 ^ 1074) := by
      have := Nat.mul_le_mul_right (2 ^ 1074) hn
      rw [← Nat.pow_add] at this
      calc 2 ^ 2126 = 4 * 2 ^ 2124 := by rw [show (2126 : Nat) = 2 + 2124 by rfl, Nat.pow_add]
        _ ≤ _ := Nat.mul_le_mul_left 4 this
    have c2 : (2 : Nat) ^ 2126 ≤ 2 ^ (108 + 2 * k) := by
      refine Nat.le_trans c1 (Nat.le_trans up (Nat.le_trans (Nat.mul_le_mul_right _ b1) ?_))
      rw [← pow_sq, ← Nat.pow_add, ← Nat.pow_add]
      exact Nat.pow_le_pow_right (by decide) (by (clear h1 h2 hp hn hn2 hd hm ht hlt hup hlo hkq hq hor hV hV1 up e1 b1 c1; lia))
    have := (Nat.pow_le_pow_iff_right (by decide : 1 < 2)).mp c2
    (clear h1 h2 hp hn hn2 hd hm ht hlt hup hlo hkq hq hor hV hV1 up e1 b1 c1 c2; lia)
  have hq2 : 2 ^ 52 ≤ q := by (clear h1 h2 hp hn hn2 hd hm ht hlt hup hlo hkq hV hV1 up e1 b1; lia)
  have ht0 : 0 < t := by (clear h1 h2 hp hn hn2 hd hm ht hlt hup hlo hor hV hV1 up e1 b1; lia)
  have lo := hlo (t - 1) (by (clear h1 h2 hp hn hn2 hd hm ht hlt hup hlo hq hor hV hV1 up e1 b1 hk1 hq2; omega))
  have hVm : (q - 1) * 2 ^ k ≤ V (t - 1) := by
    rcases Nat.lt_or_ge (2 ^ 52) q with g | g
    · have := V_at (k := k) (q := q - 1) (by (clear h1 h2 hp hn hn2 hd hm ht hlt hup hlo hkq hor hV hV1 up e1 b1 hk1 ht0 lo; lia)) (by (clear h1 h2 hp hn hn2 hd hm ht hlt hup hlo hkq hor hV hV1 up e1 b1 hk1 ht0 lo; lia))
      rw [← this, show t - 1 = k * 2 ^ 52 + (q - 1) by (clear h1 h2 hp hn hn2 hd hm ht hlt hup hlo hor hV hV1 up e1 b1 hk1 lo this; lia)]
      exact Nat.le_refl _
    · have hqe : q = 2 ^ 52 := by (clear h1 h2 hp hn hn2 hd hm ht hlt hup hlo hkq hor hV hV1 up e1 b1 hk1 ht0 lo; (exact Nat.le_antisymm (by assumption) (by assumption)))
      obtain ⟨k', rfl⟩ : ∃ k', k = k' + 1 := ⟨k - 1, by (clear h1 h2 hp hn hn2 hd hm ht hlt hup hlo hkq hq hor hV hV1 up e1 b1 hq2 ht0 lo g hqe; lia)⟩
      have := V_at (k := k') (q := 2 ^ 53 - 1) (by (clear h1 h2 hp hn hn2 hd hm ht hlt hup hlo hq b1 hq2 ht0 lo g hqe hkq hor hV hV1 up e1 hk1; (exact Nat.sub_le _ _))) (by (clear h1 h2 hp hn hn2 hd hm ht hlt hup hlo hq b1 hq2 ht0 lo g hqe hkq hor hV hV1 up e1 hk1; lia))
      rw [show t - 1 = k' * 2 ^ 52 + (2 ^ 53 - 1) by (clear h1 h2 hp hn hn2 hd hm ht hlt hup hlo b1 ht0 lo hqe hor hV hV1 up e1 this; lia), this, hqe]
      have e2 : (2 : Nat) ^ (k' + 1) = 2 * 2 ^ k' := by rw [Nat.pow_add, Nat.mul_comm]
      rw [e2, ← Nat.mul_assoc]
      exact Nat.mul_le_mul_right _ (by decide)
  have lo2 : (2 * q - 1) * (2 * q - 1) * (2 ^ k * 2 ^ k) ≤ 4 * ((val z).natAbs * 2 ^ 1074) := by
    have c : (2 * q - 1) * 2 ^ k ≤ V t + V (t - 1) := by
      rw [hV]
      refine Nat.le_trans (Nat.le_of_eq ?_) (Nat.add_le_add_left hVm _)
      rw [← Nat.add_mul, show q + (q - 1) = 2 * q - 1 by (clear h1 h2 hp hn hn2 hd hm ht hlt hup hlo hkq hor hV hV1 up e1 b1 hk1 ht0 lo hVm; lia)]
    refine Nat.le_trans (Nat.le_of_eq ?_) (Nat.le_trans (Nat.mul_le_mul c c) lo)
    ac_rfl
  have hk2 : k ≤ 1045 := by
    have c3 : 2 ^ 105 ≤ (2 * q - 1) * (2 * q - 1) := by
      refine Nat.le_trans ?_ (Nat.mul_le_mul (show 2 ^ 53 - 1 ≤ 2 * q - 1 by (clear h1 h2 hp hn hn2 hd hm ht hlt hup hlo hkq hor hV hV1 up e1 b1 hk1 ht0 lo hVm lo2; lia)) (show 2 ^ 53 - 1 ≤ 2 * q - 1 by (clear h1 h2 hp hn hn2 hd hm ht hlt hup hlo hkq hor hV hV1 up e1 b1 hk1 ht0 lo hVm lo2; lia)))
      decide
    have c4 : 4 * ((val z).natAbs * 2 ^ 1074) ≤ 2 ^ 2196 := by
      have := Nat.mul_le_mul_right (2 ^ 1074) hn2
      rw [← Nat.pow_add] at this
      calc _ ≤ 4 * 2 ^ 2194 := Nat.mul_le_mul_left 4 this
        _ = 2 ^ 2196 := by rw [show (2196 : Nat) = 2 + 2194 by rfl, Nat.pow_add]
    have c5 : (2 : Nat) ^ (105 + 2 * k) ≤ 2 ^ 2196 := by
      rw [Nat.pow_add, pow_sq]
      exact Nat.le_trans (Nat.mul_le_mul_right _ c3) (Nat.le_trans lo2 c4)
    have := (Nat.pow_le_pow_iff_right (by decide : 1 < 2)).mp c5
    (clear h1 h2 hp hn hn2 hd hm ht hlt hup hlo hkq hq hor hV hV1 up e1 b1 hq2 ht0 lo hVm lo2 c3 c4 c5; lia)
  refine ⟨q, k, hq2, hq, hk1, hk2, ?_, lo2, up⟩
  obtain ⟨m', e', hd', _⟩ := decode_pack false hlt
  rw [ht]
  refine ⟨⟨_, _, _, hd'⟩, ?_⟩
  rw [val_pack false hlt, hV]; unfold sgn; simp
theorem IsF.dvd {x : UInt64} (h : IsF x) {c : Nat} (hb : (val x).natAbs ≤ 2 ^ 1980) (h1 : 2 ^ 54 * 2 ^ c ≤ (val x).natAbs) : ∃ s : Int, val x = s * (2 ^ (c + 1) : Nat) := by
  obtain ⟨d, p, hd, hp, hE⟩ := h.toE hb
  rw [hE.2, Int.natAbs_mul, Int.natAbs_natCast] at h1
  have h2 : 2 ^ 54 * 2 ^ c ≤ 2 ^ 53 * 2 ^ d := Nat.le_trans h1 (Nat.mul_le_mul_right _ hp)
  rw [← Nat.pow_add, ← Nat.pow_add] at h2
  have := (Nat.pow_le_pow_iff_right (by decide : 1 < 2)).mp h2
  refine ⟨p * (2 ^ (d - (c + 1)) : Nat), ?_⟩
  rw [hE.2, Int.mul_assoc, ← Int.natCast_mul, ← Nat.pow_add, show d - (c + 1) + (c + 1) = d by (clear h hb h1 hd hp hE h2; omega)]
theorem dlSum_zl {a b : UInt64} (ha : IsF a) (h0 : val a = 0) (hb : IsF b) (b2 : (val b).natAbs ≤ 2 ^ 1900) :
    IsF (Builtin.Math.dlSum a b).1 ∧ val (Builtin.Math.dlSum a b).1 = val b ∧ IsF (Builtin.Math.dlSum a b).2 ∧ val (Builtin.Math.dlSum a b).2 = 0 := by
  have hlt : (2 : Nat) ^ 1900 ≤ 2 ^ 1980 := Nat.pow_le_pow_right (by decide) (by decide)
  obtain ⟨x1, x2⟩ := (isF_add ha hb).self hb (by rw [h0]; (clear ha h0 hb b2 hlt; lia)) (by (clear ha h0 hb hlt; (exact Nat.le_trans (by assumption) (by decide))))
  obtain ⟨r1, r2, r3, r4⟩ := dlSum_of ha hb x1 (by rw [x2, h0]; (clear ha h0 hb b2 hlt x1 x2; lia)) (by rw [h0]; exact Nat.zero_le _) b2
  exact ⟨r1, by rw [r2, h0]; (clear ha h0 hb b2 hlt x1 x2 r1 r2 r3 r4; lia), r3, r4⟩
theorem dlSum_zr {a b : UInt64} (ha : IsF a) (h0 : val b = 0) (hb : IsF b) (b2 : (val a).natAbs ≤ 2 ^ 1900) :
    IsF (Builtin.Math.dlSum a b).1 ∧ val (Builtin.Math.dlSum a b).1 = val a ∧ IsF (Builtin.Math.dlSum a b).2 ∧ val (Builtin.Math.dlSum a b).2 = 0 := by
  have hlt : (2 : Nat) ^ 1900 ≤ 2 ^ 1980 := Nat.pow_le_pow_right (by decide) (by decide)
  obtain ⟨x1, x2⟩ := (isF_add ha hb).self ha (by rw [h0]; (clear ha h0 hb b2 hlt; lia)) (by (clear ha h0 hb hlt; (exact Nat.le_trans (by assumption) (by decide))))
  obtain ⟨r1, r2, r3, r4⟩ := dlSum_of ha hb x1 (by rw [x2, h0]; (clear ha h0 hb b2 hlt x1 x2; lia)) b2 (by rw [h0]; exact Nat.zero_le _)
  exact ⟨r1, by rw [r2, h0]; (clear ha h0 hb b2 hlt x1 x2 r1 r2 r3 r4; lia), r3, r4⟩
theorem add00 {a b : UInt64} (ha : IsF a) (hb : IsF b) (h1 : val a = 0) (h2 : val b = 0) : IsF (Float64.add a b) ∧ val (Float64.add a b) = 0 := by
  obtain ⟨f, g⟩ := (isF_add ha hb).exact (q := 0) (c := 0) (by decide) (by rw [h1, h2]; simp) (by decide)
  exact ⟨f, by rw [g]; simp⟩
/-- the first turn of the exact product sum: it holds the product and its rest -/
theorem tlFma_first {x y a b c : UInt64} (ha : IsF a) (hb : IsF b) (hc : IsF c) (h1 : val a = 0) (h2 : val b = 0) (h3 : val c = 0) (hz : IsF (Float64.mul x y)) (he : IsF (Float64.fma x y (Float64.neg (Float64.mul x y))))
    (bz : (val (Float64.mul x y)).natAbs ≤ 2 ^ 1900) (be : (val (Float64.fma x y (Float64.neg (Float64.mul x y)))).natAbs ≤ 2 ^ 1900) :
    ∃ t1 t2 t3, Builtin.Math.tlFma x y (a, b, c) = (t1, t2, t3) ∧ IsF t1 ∧ IsF t2 ∧ IsF t3 ∧ val t1 = val (Float64.mul x y) ∧ val t2 = val (Float64.fma x y (Float64.neg (Float64.mul x y))) ∧ val t3 = 0 := by
  obtain ⟨s1, s2, s3, s4⟩ := dlSum_zl ha h1 hz bz
  obtain ⟨r1, r2, r3, r4⟩ := dlSum_zl hb h2 he be
  obtain ⟨u1, u2, u3, u4⟩ := dlSum_zr r1 s4 s3 (by rw [r2]; exact be)
  obtain ⟨v1, v2⟩ := add00 hc r3 h3 r4
  obtain ⟨w1, w2⟩ := add00 v1 u3 v2 u4
  exact ⟨_, _, _, rfl, s1, u1, w1, s2, u2.trans r2, w2⟩
end Mine
end
section
open PySem PySem.Float64
set_option maxRecDepth 100000
set_option exponentiation.threshold 3000
namespace Mine
/-- a value near a real number that is given in units of 2^j -/
theorem NearI.unit {r : UInt64} {Z z : Int} {D j : Nat} (h : NearI r Z D) (hZ : Z = D * z) (hj : j ≤ 2000) (hb : z.natAbs ≤ 2 ^ 57 * 2 ^ j) : IsF r ∧ (z - val r).natAbs ≤ 8 * 2 ^ j := by
  have hD := h.1
  obtain ⟨h1, h2⟩ := h.near (c := j + 4) (by (clear h hZ hb hD; lia)) (by
    rw [hZ, Int.natAbs_mul, Int.natAbs_natCast, p55]; exact Nat.mul_le_mul_left _ hb)
  refine ⟨h1, ?_⟩
  rw [hZ, ← Int.mul_sub, Int.natAbs_mul, Int.natAbs_natCast, Nat.pow_add] at h2
  have h3 : D * (2 * (z - val r).natAbs) ≤ D * (2 ^ j * 2 ^ 4) := by rw [Nat.mul_left_comm]; exact h2
  have := Nat.le_of_mul_le_mul_left h3 hD
  (clear h hZ hj hb hD h1 h2 h3; lia)
theorem NearI.relu {r : UInt64} {Z z : Int} {D : Nat} (h : NearI r Z D) (hZ : Z = D * z) (h1 : 2 ^ 52 ≤ z.natAbs) (h2 : z.natAbs ≤ 2 ^ 2000) : IsF r ∧ 2 ^ 53 * (z - val r).natAbs ≤ z.natAbs := by
  have hD := h.1
  have e : Z.natAbs = D * z.natAbs := by rw [hZ, Int.natAbs_mul, Int.natAbs_natCast]
  obtain ⟨f, g⟩ := h.rel (by rw [e]; exact Nat.mul_le_mul_left _ h1) (by rw [e]; exact Nat.mul_le_mul_left _ h2)
  refine ⟨f, ?_⟩
  rw [e, hZ, ← Int.mul_sub, Int.natAbs_mul, Int.natAbs_natCast] at g
  have g2 : D * (2 ^ 53 * (z - val r).natAbs) ≤ D * z.natAbs := by rw [Nat.mul_left_comm]; exact g
  exact Nat.le_of_mul_le_mul_left g2 hD
theorem third_arith {t3 r q y W : Int} {u : Nat} (v3 : t3 = 0) (r4 : r.natAbs ≤ 40 * u) (w2 : (t3 + r - W).natAbs ≤ 8 * u) (u4 : q = 0) (y2 : (W + q - y).natAbs ≤ 8 * u) : W.natAbs ≤ 2 ^ 57 * u ∧ y.natAbs ≤ 56 * u := by
  subst v3 u4
  have hW := abs_from (abs_add_le (x := 0) (a := 0) (Nat.le_refl _) r4) w2
  have hy := abs_from (abs_add_le (y := 0) (b := 0) hW (Nat.le_refl _)) y2
  exact ⟨Nat.le_trans hW (by clear r4 w2 y2 hW hy; omega), Nat.le_trans hy (by clear r4 w2 y2 hW hy; omega)⟩
theorem third_room {t3 r : Int} {u : Nat} (v3 : t3 = 0) (r4 : r.natAbs ≤ 40 * u) : (t3 + r).natAbs ≤ 2 ^ 57 * u := by
  obtain ⟨a1, a2⟩ := two_sided r4
  clear r4
  exact of_two (by (clear a2; lia)) (by (clear a1; lia))
theorem fourth_room {W q t3 r : Int} {u : Nat} (v3 : t3 = 0) (r4 : r.natAbs ≤ 40 * u) (w2 : (t3 + r - W).natAbs ≤ 8 * u) (u4 : q = 0) : (W + q).natAbs ≤ 2 ^ 57 * u := by
  obtain ⟨a1, a2⟩ := two_sided r4
  obtain ⟨a3, a4⟩ := two_sided w2
  clear r4 w2
  exact of_two (by (clear a2; lia)) (by (clear a1; lia))
theorem end_room {a b T1 T2 : Int} {u : Nat} (c2 : T1 = a) (b5 : a.natAbs ≤ 2 ^ 55 * u) (b6 : b.natAbs ≤ (2 ^ 54 + 100) * u) (c4 : (b - T2).natAbs ≤ 8 * u) : T2.natAbs ≤ 2 ^ 55 * u ∧ T1.natAbs ≤ 2 ^ 55 * u := by
  obtain ⟨a1, a2⟩ := two_sided b6
  obtain ⟨a3, a4⟩ := two_sided c4
  clear b6 c4
  exact ⟨of_two (by (clear c2 b5 a2; lia)) (by (clear c2 b5 a1; lia)), c2 ▸ b5⟩
theorem end_arith {a b T1 T2 T3 l1 l2 n1 m1 : Int} {u : Nat} (c2 : T1 = a) (b5 : a.natAbs ≤ 2 ^ 55 * u) (b6 : b.natAbs ≤ (2 ^ 54 + 100) * u) (c4 : (b - T2).natAbs ≤ 8 * u) (c6 : T3.natAbs ≤ 56 * u) (h1 : (T2 + T1 - l1).natAbs ≤ 8 * u) (h2 : l2.natAbs ≤ 40 * u) :
    (T3 + l2).natAbs ≤ 2 ^ 57 * u ∧ ((T3 + l2 - m1).natAbs ≤ 8 * u → (m1 + l1).natAbs ≤ 2 ^ 57 * u ∧ ((m1 + l1 - n1).natAbs ≤ 8 * u → (a + b - n1).natAbs ≤ 200 * u)) := by
  subst c2
  have k1 := abs_add_le c6 h2
  refine ⟨Nat.le_trans k1 (by clear b5 b6 c4 c6 h1 h2 k1; omega), fun h => ?_⟩
  have k2 := abs_from k1 h
  have k3 := abs_from (abs_add_le (abs_from b6 c4) b5) h1
  refine ⟨Nat.le_trans (abs_add_le k2 k3) (by clear b5 b6 c4 c6 h1 h2 k1 k2 k3 h; omega), fun h' => ?_⟩
  have e : T1 + b - n1 = ((((m1 + l1 - n1) + (T3 + l2 - m1)) + (T2 + T1 - l1)) + (b - T2)) - (T3 + l2) := by clear b5 b6 c4 c6 h1 h2 k1 k2 k3 h h'; omega
  rw [e]
  exact Nat.le_trans (abs_sub_le (abs_add_le (abs_add_le (abs_add_le h' h) h1) c4) k1) (by clear e b5 b6 c4 c6 h1 h2 k1 k2 k3 h h'; omega)
/-- the second turn and the joining: what is left of x*y - h*h -/
theorem tlFma_second {h g t1 t2 t3 : UInt64} {j : Nat} (hj : j ≤ 1100) (f1 : IsF t1) (f2 : IsF t2) (f3 : IsF t3) (v3 : val t3 = 0) (hz : IsF (Float64.mul h g)) (he : IsF (Float64.fma h g (Float64.neg (Float64.mul h g))))
    (hx : IsF (Float64.add t1 (Float64.mul h g))) (hv : val (Float64.add t1 (Float64.mul h g)) = val t1 + val (Float64.mul h g))
    (b1 : (val t1).natAbs ≤ 2 ^ 110 * 2 ^ j) (b2 : (val (Float64.mul h g)).natAbs ≤ 2 ^ 110 * 2 ^ j) (b3 : (val t2).natAbs ≤ 2 ^ 55 * 2 ^ j) (b4 : (val (Float64.fma h g (Float64.neg (Float64.mul h g)))).natAbs ≤ 2 ^ 55 * 2 ^ j)
    (b5 : (val t1 + val (Float64.mul h g)).natAbs ≤ 2 ^ 55 * 2 ^ j) (b6 : (val t2 + val (Float64.fma h g (Float64.neg (Float64.mul h g)))).natAbs ≤ (2 ^ 54 + 100) * 2 ^ j) :
    IsF (Builtin.Math.tlFma h g (t1, t2, t3)).1 ∧ IsF (Builtin.Math.tlToFloat (Builtin.Math.tlFma h g (t1, t2, t3))) ∧
    (val t1 + val (Float64.mul h g) + (val t2 + val (Float64.fma h g (Float64.neg (Float64.mul h g)))) - val (Builtin.Math.tlToFloat (Builtin.Math.tlFma h g (t1, t2, t3)))).natAbs ≤ 200 * 2 ^ j := by
  have hp : 0 < 2 ^ j := Nat.two_pow_pos j
  have hbig : 2 ^ 110 * 2 ^ j ≤ 2 ^ 1900 := by
    rw [← Nat.pow_add]; exact Nat.pow_le_pow_right (by decide) (by (clear f1 f2 f3 v3 hz he hx hv b1 b2 b3 b4 b5 b6 hp; lia))
  obtain ⟨s1, s2, s3, s4⟩ := dlSum_of f1 hz hx hv (Nat.le_trans b1 hbig) (Nat.le_trans b2 hbig)
  obtain ⟨r1, r2, r3, r4⟩ := dlSum_near f2 he (j := j) (by (clear f1 f2 f3 v3 hz he hx hv b1 b2 b3 b4 b5 b6 hp hbig s1 s2 s3 s4; (exact Nat.le_trans (by assumption) (by decide)))) b3 b4
  obtain ⟨u1, u2, u3, u4⟩ := dlSum_zr r1 s4 s3 (by refine Nat.le_trans ?_ hbig; (clear hj f1 f2 f3 v3 hz he hx hv b1 b2 b3 b4 b5 hp hbig s1 s2 s3 s4 r1 r3 r4; omega))
  obtain ⟨w1, w2⟩ := add_near f3 r3 (j := j) (by (clear f1 f2 f3 v3 hz he hx hv b1 b2 b3 b4 b5 b6 hp hbig s1 s2 s3 s4 r1 r2 r3 r4 u1 u2 u3 u4; (exact Nat.le_trans (by assumption) (by decide)))) (third_room v3 r4)
  obtain ⟨y1, y2⟩ := add_near w1 u3 (j := j) (by (clear f1 f2 f3 v3 hz he hx hv b1 b2 b3 b4 b5 b6 hp hbig s1 s2 s3 s4 r1 r2 r3 r4 u1 u2 u3 u4 w1 w2; (exact Nat.le_trans (by assumption) (by decide)))) (fourth_room v3 r4 w2 u4)
  refine ⟨s1, ?_⟩
  generalize hT : Builtin.Math.tlFma h g (t1, t2, t3) = T
  have e1 : T.1 = (Builtin.Math.dlSum t1 (Float64.mul h g)).1 := by rw [← hT]; rfl
  have e2 : T.2.1 = (Builtin.Math.dlSum (Builtin.Math.dlSum t2 (Float64.fma h g (Float64.neg (Float64.mul h g)))).1 (Builtin.Math.dlSum t1 (Float64.mul h g)).2).1 := by rw [← hT]; rfl
  have e3 : T.2.2 = Float64.add (Float64.add t3 (Builtin.Math.dlSum t2 (Float64.fma h g (Float64.neg (Float64.mul h g)))).2) (Builtin.Math.dlSum (Builtin.Math.dlSum t2 (Float64.fma h g (Float64.neg (Float64.mul h g)))).1 (Builtin.Math.dlSum t1 (Float64.mul h g)).2).2 := by rw [← hT]; rfl
  obtain ⟨T1, T2, T3⟩ := T
  dsimp only at e1 e2 e3
  have q1 : IsF T1 ∧ val T1 = val t1 + val (Float64.mul h g) := by rw [e1]; exact ⟨s1, s2⟩
  have q2 : IsF T2 ∧ (val t2 + val (Float64.fma h g (Float64.neg (Float64.mul h g))) - val T2).natAbs ≤ 8 * 2 ^ j := by
    rw [e2]; refine ⟨u1, ?_⟩
    rw [u2]; exact r2
  have q3 : IsF T3 ∧ (val T3).natAbs ≤ 56 * 2 ^ j := by
    rw [e3]; exact ⟨y1, (third_arith v3 r4 w2 u4 y2).2⟩
  obtain ⟨c1, c2⟩ := q1
  obtain ⟨c3, c4⟩ := q2
  obtain ⟨c5, c6⟩ := q3
  clear e1 e2 e3 hT y2 w2 r2 r4 s4 u4 s2 u2
  have hr := end_room c2 b5 b6 c4
  obtain ⟨l1, l2, l3, l4⟩ := dlSum_near c3 c1 (j := j) (by (clear f1 f2 f3 v3 hz he hx hv b1 b2 b3 b4 b5 b6 hp hbig s1 s3 r1 r3 u1 u3 w1 y1 c1 c2 c3 c4 c5 c6 hr; (exact Nat.le_trans (by assumption) (by decide)))) hr.1 hr.2
  have R := fun n m => end_arith (n1 := n) (m1 := m) c2 b5 b6 c4 c6 l2 l4
  obtain ⟨m1, m2⟩ := add_near c5 l3 (j := j) (by (clear f1 f2 f3 v3 hz he hx hv b1 b2 b3 b4 b5 b6 hp hbig s1 s3 r1 r3 u1 u3 w1 y1 c1 c2 c3 c4 c5 c6 hr l1 l2 l3 l4 R; (exact Nat.le_trans (by assumption) (by decide)))) (R 0 0).1
  obtain ⟨n1, n2⟩ := add_near m1 l1 (j := j) (by (clear f1 f2 f3 v3 hz he hx hv b1 b2 b3 b4 b5 b6 hp hbig s1 s3 r1 r3 u1 u3 w1 y1 c1 c2 c3 c4 c5 c6 hr l1 l2 l3 l4 R m1 m2; (exact Nat.le_trans (by assumption) (by decide)))) ((R 0 _).2 m2).1
  exact ⟨n1, ((R _ _).2 m2).2 n2⟩
end Mine
end
section
open PySem PySem.Float64
set_option maxRecDepth 100000
set_option exponentiation.threshold 3000
namespace Mine
theorem abs_right {X Y : Int} {c d : Nat} (h : (X - Y).natAbs ≤ c) (h2 : X.natAbs ≤ d) : Y.natAbs ≤ c + d := by
  obtain ⟨a1, a2⟩ := two_sided h
  obtain ⟨a3, a4⟩ := two_sided h2
  clear h h2
  exact of_two (by (clear a1 a4; lia)) (by (clear a2 a3; lia))
theorem abs_add {X Y : Int} {c d : Nat} (h : X.natAbs ≤ c) (h2 : Y.natAbs ≤ d) : (X + Y).natAbs ≤ c + d := Nat.le_trans (Int.natAbs_add_le X Y) (Nat.add_le_add h h2)
theorem abs_sub {X Y : Int} {c d : Nat} (h : X.natAbs ≤ c) (h2 : Y.natAbs ≤ d) : (X - Y).natAbs ≤ c + d := by
  rw [Int.sub_eq_add_neg]
  exact abs_add h (by rw [Int.natAbs_neg]; exact h2)
theorem cv_arith {c K : Nat} (e3 : 2 ^ 53 * c ≤ 260 * K + (2 ^ 54 + 16) * K) : c ≤ 3 * K := by lia
theorem s_arith {qK c s : Int} {K qn : Nat} (hq : qK = (qn : Int)) (e4 : 2 ^ 52 * K ≤ qn) (h1 : c.natAbs ≤ 3 * K) (h2 : (qK + c - s).natAbs ≤ K) : ((2 ^ 51 * K : Nat) : Int) ≤ s ∧ (s - qK).natAbs ≤ 4 * K ∧ (s - qK - c).natAbs ≤ K := by
  obtain ⟨a1, a2⟩ := two_sided h1
  obtain ⟨a3, a4⟩ := two_sided h2
  clear h1 h2
  exact ⟨by (clear a2 a3; lia), of_two (by (clear e4 a2 a3; lia)) (by (clear e4 a1 a4; lia)), of_two (by (clear e4 a1 a2 a3; lia)) (by (clear e4 a1 a2 a4; lia))⟩
theorem eq_add_of {s a f : Int} (h : s - a = f) : s = a + f := by lia
theorem big_enough {q r : Nat} {N : Int} (hq : 2 ^ 52 ≤ q) (h : 2 ^ 52 * q ≤ r) (hN : (N - (r : Int)).natAbs ≤ 2 ^ 54 + 16) : 2 ^ 60 * (2 * q + 276) ≤ 516 * N.natAbs := by
  have h1 : r ≤ N.natAbs + (2 ^ 54 + 16) := by omega
  (clear hN; lia)
theorem final_arith {q K : Nat} {N cv s : Int} (hK : 0 < K) (hq : 2 ^ 52 ≤ q) (hq2 : q < 2 ^ 53) (hN : (N - ((q * q : Nat) : Int)).natAbs ≤ 2 ^ 54 + 16)
    (h1 : ((N - ((q * q : Nat) : Int)) * (K : Int) - 2 * (q : Int) * cv).natAbs ≤ 260 * K) (h2 : (((q * K : Nat) : Int) + cv - s).natAbs ≤ K) :
    cv.natAbs ≤ 3 * K ∧ ((2 ^ 51 * K : Nat) : Int) ≤ s ∧ 2 ^ 60 * (s * s - N * ((K * K : Nat) : Int)).natAbs ≤ 516 * (N * ((K * K : Nat) : Int)).natAbs := by
  have e1 : (2 * (q : Int) * cv).natAbs = 2 * q * cv.natAbs := by rw [Int.natAbs_mul, Int.natAbs_mul]; rfl
  have e2 : ((N - ((q * q : Nat) : Int)) * (K : Int)).natAbs ≤ (2 ^ 54 + 16) * K := by
    rw [Int.natAbs_mul, Int.natAbs_natCast]; exact Nat.mul_le_mul_right _ hN
  have e3 : 2 ^ 53 * cv.natAbs ≤ 2 * q * cv.natAbs := Nat.mul_le_mul_right _ (by (clear hK hN h1 h2 e1 e2; lia))
  have hcv : cv.natAbs ≤ 3 * K := cv_arith (Nat.le_trans e3 (by rw [← e1]; exact abs_right h1 e2))
  have e4 : 2 ^ 52 * K ≤ q * K := Nat.mul_le_mul_right _ hq
  obtain ⟨hs, hf, hfc⟩ := s_arith rfl e4 hcv h2
  refine ⟨hcv, hs, ?_⟩
  obtain ⟨f, hfe⟩ : ∃ f, s - ((q * K : Nat) : Int) = f := ⟨_, rfl⟩
  rw [hfe] at hf hfc
  obtain rfl : s = ((q * K : Nat) : Int) + f := eq_add_of hfe
  clear hfe h2 hs
  have e5 : (2 * (q : Int) * (f - cv)).natAbs ≤ 2 * q * K := by
    rw [Int.natAbs_mul, Int.natAbs_mul]; exact Nat.mul_le_mul_left _ hfc
  have e6 : 2 * (q : Int) * (f - cv) = 2 * (q : Int) * f - 2 * (q : Int) * cv := Int.mul_sub _ _ _
  have hW : (2 * (q : Int) * f - (N - ((q * q : Nat) : Int)) * (K : Int)).natAbs ≤ (2 * q + 260) * K := by
    have e7 : 2 * (q : Int) * f - (N - ((q * q : Nat) : Int)) * (K : Int) = 2 * (q : Int) * (f - cv) - ((N - ((q * q : Nat) : Int)) * (K : Int) - 2 * (q : Int) * cv) := by rw [e6]; (clear hK hq hq2 hN h1 e1 e2 e3 hcv e4 hfc hf e5 e6; lia)
    rw [e7, Nat.add_mul]
    exact abs_sub e5 h1
  have key : (((q * K : Nat) : Int) + f) * (((q * K : Nat) : Int) + f) - N * ((K * K : Nat) : Int) = (K : Int) * (2 * (q : Int) * f - (N - ((q * q : Nat) : Int)) * (K : Int)) + f * f := by
    push_cast
    grind
  have e7 : ((K : Int) * (2 * (q : Int) * f - (N - ((q * q : Nat) : Int)) * (K : Int))).natAbs ≤ (2 * q + 260) * (K * K) := by
    rw [Int.natAbs_mul, Int.natAbs_natCast]
    refine Nat.le_trans (Nat.mul_le_mul_left K hW) (Nat.le_of_eq (by ac_rfl))
  have e8 : (f * f).natAbs ≤ 16 * (K * K) := by
    rw [Int.natAbs_mul]
    exact Nat.le_trans (Nat.mul_le_mul hf hf) (Nat.le_of_eq (by rw [show (16 : Nat) = 4 * 4 by rfl]; ac_rfl))
  have e9 : ((((q * K : Nat) : Int) + f) * (((q * K : Nat) : Int) + f) - N * ((K * K : Nat) : Int)).natAbs ≤ (2 * q + 276) * (K * K) := by
    rw [key, show 2 * q + 276 = 2 * q + 260 + 16 by (clear hK hq hq2 hN h1 e1 e2 e3 hcv e4 hfc hf e5 e6 hW key e7 e8; (exact Nat.add_zero _)), Nat.add_mul]
    exact abs_add e7 e8
  have hqq : 2 ^ 52 * q ≤ q * q := Nat.mul_le_mul_right _ hq
  have hNn : 2 ^ 60 * (2 * q + 276) ≤ 516 * N.natAbs := big_enough hq hqq hN
  rw [Int.natAbs_mul, Int.natAbs_natCast]
  calc _ ≤ 2 ^ 60 * ((2 * q + 276) * (K * K)) := Nat.mul_le_mul_left _ e9
    _ = 2 ^ 60 * (2 * q + 276) * (K * K) := by rw [Nat.mul_assoc]
    _ ≤ 516 * N.natAbs * (K * K) := Nat.mul_le_mul_right _ hNn
    _ = _ := by rw [Nat.mul_assoc]
theorem final_line {q K : Nat} {N cv S : Int} (hK : 0 < K) (hq : 2 ^ 52 ≤ q) (hcv : cv.natAbs ≤ 3 * K)
    (h1 : ((N - ((q * q : Nat) : Int)) * (K : Int) - 2 * (q : Int) * cv).natAbs ≤ 260 * K) (hS : 0 ≤ S) (h2 : S * S = N * ((K * K : Nat) : Int)) :
    2 ^ 42 * (((q * K : Nat) : Int) + cv - S).natAbs ≤ K := by
  have e4 : 2 ^ 52 * K ≤ q * K := Nat.mul_le_mul_right _ hq
  have key : (((q * K : Nat) : Int) + cv - S) * (((q * K : Nat) : Int) + cv + S) = (K : Int) * (2 * (q : Int) * cv - (N - ((q * q : Nat) : Int)) * (K : Int)) + cv * cv := by
    have : (((q * K : Nat) : Int) + cv - S) * (((q * K : Nat) : Int) + cv + S) = (((q * K : Nat) : Int) + cv) * (((q * K : Nat) : Int) + cv) - S * S := by grind
    rw [this, h2]
    push_cast
    grind
  have e7 : ((K : Int) * (2 * (q : Int) * cv - (N - ((q * q : Nat) : Int)) * (K : Int))).natAbs ≤ 260 * (K * K) := by
    rw [Int.natAbs_mul, Int.natAbs_natCast]
    refine Nat.le_trans (Nat.mul_le_mul_left K (show _ ≤ 260 * K by rw [abs_comm]; exact h1)) (Nat.le_of_eq (by ac_rfl))
  have e8 : (cv * cv).natAbs ≤ 9 * (K * K) := by
    rw [Int.natAbs_mul]
    exact Nat.le_trans (Nat.mul_le_mul hcv hcv) (Nat.le_of_eq (by rw [show (9 : Nat) = 3 * 3 by rfl]; ac_rfl))
  have e9 : (((q * K : Nat) : Int) + cv - S).natAbs * (((q * K : Nat) : Int) + cv + S).natAbs ≤ 269 * (K * K) := by
    rw [← Int.natAbs_mul, key]
    exact Nat.le_trans (Int.natAbs_add_le _ _) (Nat.le_trans (Nat.add_le_add e7 e8) (Nat.le_of_eq (by rw [← Nat.add_mul])))
  have e10 : 2 ^ 51 * K ≤ (((q * K : Nat) : Int) + cv + S).natAbs := by (clear hK hq h1 h2 key e7 e8 e9; omega)
  have e11 : (((q * K : Nat) : Int) + cv - S).natAbs * 2 ^ 51 * K ≤ 269 * K * K := by
    rw [Nat.mul_assoc, Nat.mul_assoc]
    exact Nat.le_trans (Nat.mul_le_mul_left _ e10) e9
  have := Nat.le_of_mul_le_mul_right e11 hK
  (clear hK hq hcv h1 hS h2 e4 key e7 e8 e9 e10 e11; lia)
end Mine
end
section
open PySem PySem.Float64
set_option maxRecDepth 100000
set_option exponentiation.threshold 3000
set_option maxHeartbeats 1000000
namespace Mine
theorem val_two : E 1075 4611686018427387904 1 := by
  have h : decode 4611686018427387904 = .fin false (2 ^ 52) (-51) := by with_unfolding_all rfl
  refine ⟨⟨_, _, _, h⟩, ?_⟩
  rw [val_eq h]
  show ((2 ^ 52 * 2 ^ (-51 + 1074 : Int).toNat : Nat) : Int) = 1 * ((2 ^ 1075 : Nat) : Int)
  rw [← Nat.pow_add, Int.one_mul]
  rfl
/-- the plain facts about the root's place -/
theorem root_nat {q ζ Nu u : Nat} (_hu : 0 < u) (hq : 2 ^ 52 ≤ q) (hq2 : q < 2 ^ 53) (h1 : (2 * q - 1) * (2 * q - 1) * u ≤ 4 * ζ) (h2 : 4 * ζ ≤ (2 * q + 1) * (2 * q + 1) * u) (h3 : 2 ^ 53 * ((Nu : Int) - (ζ : Int)).natAbs ≤ Nu) :
    4 * (q * q * u) + u ≤ 4 * ζ + 4 * (q * u) ∧ 4 * ζ ≤ 4 * (q * q * u) + 4 * (q * u) + u ∧ 2 ^ 52 * u ≤ q * u ∧ q * u ≤ 2 ^ 53 * u ∧ 2 ^ 52 * (q * u) ≤ q * q * u ∧ q * q * u ≤ 2 ^ 53 * (q * u) ∧ ((Nu : Int) - (ζ : Int)).natAbs ≤ (2 ^ 53 + 8) * u := by
  have a1 : (2 * q - 1) * (2 * q - 1) * u + 4 * (q * u) = 4 * (q * q * u) + u := by
    obtain ⟨r, rfl⟩ : ∃ r, q = r + 1 := ⟨q - 1, by (clear h1 h2 h3; lia)⟩
    rw [show 2 * (r + 1) - 1 = 2 * r + 1 by (clear h3 h1 h2; (exact Nat.add_zero _))]
    grind
  have a2 : (2 * q + 1) * (2 * q + 1) * u = 4 * (q * q * u) + 4 * (q * u) + u := by grind
  have a3 : 2 ^ 52 * u ≤ q * u := Nat.mul_le_mul_right _ hq
  have a4 : q * u ≤ 2 ^ 53 * u := Nat.mul_le_mul_right _ (by (clear h1 h2 h3 a1 a2 a3; (exact Nat.le_of_lt (by assumption))))
  have a5 : 2 ^ 52 * (q * u) ≤ q * q * u := by rw [Nat.mul_assoc q]; exact Nat.mul_le_mul_right _ hq
  have a6 : q * q * u ≤ 2 ^ 53 * (q * u) := by rw [Nat.mul_assoc q]; exact Nat.mul_le_mul_right _ (by (clear h1 h2 h3 a1 a2 a3 a4 a5; (exact Nat.le_of_lt (by assumption))))
  generalize q * q * u = qqu at *
  generalize q * u = qu at *
  refine ⟨by (clear hq hq2 h2 h3 a3 a4 a5 a6; lia), by (clear hq hq2 h1 h3 a3 a4 a1 a5 a6; omega), a3, a4, a5, a6, ?_⟩
  (clear hq hq2 h1 a3 a5; lia)
end Mine
end
section
open PySem PySem.Float64
set_option maxRecDepth 100000
set_option exponentiation.threshold 3000
set_option maxHeartbeats 1000000
namespace Mine
theorem cancelT {T a b : Nat} (hT : 0 < T) (h : T * a ≤ T * b) : a ≤ b := Nat.le_of_mul_le_mul_left h hT
theorem rest_bounds {n0 qqu qu u ζn : Nat} {ζ z2 e1 e2 : Int} (hz : (ζn : Int) = ζ) (b1 : 4 * qqu + u ≤ 4 * ζn + 4 * qu) (b2 : 4 * ζn ≤ 4 * qqu + 4 * qu + u) (b3 : 2 ^ 52 * u ≤ qu) (b4 : qu ≤ 2 ^ 53 * u) (b5 : 2 ^ 52 * qu ≤ qqu) (b6 : qqu ≤ 2 ^ 53 * qu) (b7 : ((n0 : Int) - ζ).natAbs ≤ (2 ^ 53 + 8) * u)
    (g2 : 2 ^ 53 * (-(qqu : Int) - z2).natAbs ≤ qqu) (ge1 : ((n0 : Int) - ζ - e1).natAbs ≤ 8 * u) (ge2 : (-(qqu : Int) - z2 - e2).natAbs ≤ 8 * u) :
    ζ.natAbs ≤ 2 ^ 110 * u ∧ z2.natAbs ≤ 2 ^ 110 * u ∧ e1.natAbs ≤ 2 ^ 55 * u ∧ e2.natAbs ≤ 2 ^ 55 * u ∧ (e1 + e2).natAbs ≤ (2 ^ 54 + 100) * u ∧ (ζ + z2).natAbs ≤ 2 ^ 55 * u ∧ 2 ^ 94 * u ≤ ζ.natAbs ∧ 2 ^ 94 * u ≤ z2.natAbs ∧ ((n0 : Int) - (qqu : Int)).natAbs ≤ (2 ^ 54 + 16) * u ∧ (ζ + z2 + (e1 + e2) - (n0 - qqu)).natAbs ≤ 16 * u := by
  have g3 : (-(qqu : Int) - z2).natAbs ≤ 2 ^ 53 * u := by (clear hz b1 b2 b3 b5 b7 ge1 ge2; lia)
  obtain ⟨c1, c2⟩ := two_sided b7
  obtain ⟨c3, c4⟩ := two_sided g3
  obtain ⟨c5, c6⟩ := two_sided ge1
  obtain ⟨c7, c8⟩ := two_sided ge2
  clear b7 g2 g3 ge1 ge2
  refine ⟨of_two (by (clear b1 b2 b3 b4 b5 b6 c1 c2 c3 c4 c5 c6 c7 c8; lia)) (by (clear b1 b3 b5 c1 c2 c3 c4 c5 c6 c7 c8; lia)), of_two (by (clear hz b1 b2 b3 b5 c1 c2 c5 c6 c7 c8; lia)) (by (clear hz b1 b2 b3 b4 b5 b6 c1 c2 c4 c5 c6 c7 c8; lia)), of_two (by (clear hz b1 b2 b3 b4 b5 b6 c2 c3 c4 c7 c8; lia)) (by (clear hz b1 b2 b3 b4 b5 b6 c1 c3 c4 c7 c8; lia)), of_two (by (clear hz b1 b2 b3 b4 b5 b6 c1 c2 c4 c5 c6; lia)) (by (clear hz b1 b2 b3 b4 b5 b6 c1 c2 c3 c5 c6; lia)), of_two (by (clear hz b1 b2 b3 b4 b5 b6 c2 c4 c5; lia)) (by (clear hz b1 b2 b3 b4 b5 b6 c1 c3 c6; lia)), of_two (by (clear b2 b3 b5 b6 c1 c2 c5 c6 c7 c8; lia)) (by (clear b1 b3 b5 b6 c1 c2 c5 c6 c7 c8; lia)), by (clear b2 b4 b6 c1 c2 c3 c4 c5 c6 c7 c8; lia), by (clear hz b1 b2 b4 b6 c1 c2 c4 c5 c6 c7 c8; lia), of_two (by (clear b2 b3 b5 b6 c3 c4 c5 c6 c7 c8; lia)) (by (clear b1 b3 b5 b6 c3 c4 c5 c6 c7 c8; lia)), of_two (by (clear hz b1 b2 b3 b4 b5 b6 c1 c2 c3 c4 c5 c7; lia)) (by (clear hz b1 b2 b3 b4 b5 b6 c1 c2 c3 c4 c6 c8; lia))⟩
theorem last_add {o d : UInt64} {j : Nat} {n0 qqu : Nat} {a : Int} (hu : 0 < 2 ^ j) (hj : j ≤ 2000) (o1 : IsF o) (o2 : val o = 0) (c2 : IsF d) (k9 : ((n0 : Int) - (qqu : Int)).natAbs ≤ (2 ^ 54 + 16) * 2 ^ j) (k10 : (a - (n0 - qqu)).natAbs ≤ 16 * 2 ^ j) (c3 : (a - val d).natAbs ≤ 200 * 2 ^ j) :
    IsF (Float64.add o d) ∧ ((n0 : Int) - (qqu : Int) - val (Float64.add o d)).natAbs ≤ 256 * 2 ^ j := by
  have ha : a.natAbs ≤ (2 ^ 54 + 16) * 2 ^ j + 16 * 2 ^ j := Nat.le_trans (abs_tri a _).2 (Nat.add_le_add k9 k10)
  have hd : (val d).natAbs ≤ (2 ^ 54 + 16) * 2 ^ j + 16 * 2 ^ j + 200 * 2 ^ j := Nat.le_trans (abs_tri a _).1 (Nat.add_le_add ha c3)
  obtain ⟨d1, d2⟩ := add_near o1 c2 (j := j) hj (by rw [o2, Int.zero_add]; refine Nat.le_trans hd ?_; clear hu hj o1 o2 c2 k9 k10 c3 ha hd; omega)
  rw [o2, Int.zero_add] at d2
  rw [abs_comm] at k10
  exact ⟨d1, Nat.le_trans (abs_chain (abs_chain k10 c3) d2) (by clear hu hj o1 o2 c2 k9 k10 c3 ha hd d1 d2; omega)⟩
/-- the root and what the product sum makes of it, up to the quotient -/
theorem root_rest {x y : UInt64} {n0 : Nat} (fx : IsF x) (fy : IsF y) (hprod : val x * val y = ((2 ^ 1074 : Nat) : Int) * (n0 : Int)) (lo0 : 2 ^ 1052 ≤ n0) (hi0 : n0 ≤ 2 ^ 1114) :
    ∃ q k j : Nat, 2 ^ 52 ≤ q ∧ q < 2 ^ 53 ∧ 1009 ≤ k ∧ k ≤ 1045 ∧ j + 1074 = 2 * k ∧ E k (Float64.sqrt (Float64.mul x y)) q ∧
      ((n0 : Int) - ((q * q * 2 ^ j : Nat) : Int)).natAbs ≤ (2 ^ 54 + 16) * 2 ^ j ∧
      ∃ r, SpRun (Float64.zero false, Float64.zero false, Float64.zero false) [x, Float64.sqrt (Float64.mul x y)] [y, Float64.neg (Float64.sqrt (Float64.mul x y))] r ∧
        IsF (Float64.add (Float64.ofInt 0) (Builtin.Math.tlToFloat r)) ∧ (((n0 : Int) - ((q * q * 2 ^ j : Nat) : Int)) - val (Float64.add (Float64.ofInt 0) (Builtin.Math.tlToFloat r))).natAbs ≤ 256 * 2 ^ j := by
  have hT0 : 0 < 2 ^ 1074 := Nat.two_pow_pos _
  obtain ⟨f1, g1⟩ := (isF_mul fx fy).relu hprod (by rw [Int.natAbs_natCast]; exact Nat.le_trans (Nat.pow_le_pow_right (by decide) (by decide)) lo0) (by rw [Int.natAbs_natCast]; exact Nat.le_trans hi0 (Nat.pow_le_pow_right (by decide) (by decide)))
  rw [Int.natAbs_natCast] at g1
  obtain ⟨q, k, hq, hq2, hk1, hk2, hE, lo, up⟩ := sqrt_spec f1 (by (clear fx fy hprod hT0 f1; lia)) (by (clear fx fy hprod hT0 f1; lia))
  have hζ : (((val (Float64.mul x y)).natAbs : Nat) : Int) = val (Float64.mul x y) := by (clear fx fy hprod hT0 f1 hq hq2 hk1 hk2 hE lo up; lia)
  generalize hj : 2 * k - 1074 = j
  have hjk : j + 1074 = 2 * k := by (clear fx fy hprod lo0 hi0 hT0 f1 g1 hq hq2 hE lo up; lia)
  have hj1 : j ≤ 1016 := by (clear fx fy hprod lo0 hi0 hT0 f1 g1 hq hq2 hE lo up hj; lia)
  have hTu : 2 ^ 1074 * 2 ^ j = 2 ^ k * 2 ^ k := by rw [← Nat.pow_add, ← Nat.pow_add]; congr 1; (clear fx fy hprod lo0 hi0 hT0 f1 g1 hq hq2 hk1 hk2 hE lo up hj hj1; lia)
  have hu : 0 < 2 ^ j := Nat.two_pow_pos _
  rw [← hTu] at lo up
  have lo' : (2 * q - 1) * (2 * q - 1) * 2 ^ j ≤ 4 * (val (Float64.mul x y)).natAbs := by
    refine cancelT hT0 ?_
    generalize (2 : Nat) ^ 1074 = T at lo ⊢
    generalize (2 : Nat) ^ j = u at lo ⊢
    calc _ = (2 * q - 1) * (2 * q - 1) * (T * u) := by ac_rfl
      _ ≤ _ := lo
      _ = _ := by ac_rfl
  have up' : 4 * (val (Float64.mul x y)).natAbs ≤ (2 * q + 1) * (2 * q + 1) * 2 ^ j := by
    refine cancelT hT0 ?_
    generalize (2 : Nat) ^ 1074 = T at up ⊢
    generalize (2 : Nat) ^ j = u at up ⊢
    calc _ = 4 * ((val (Float64.mul x y)).natAbs * T) := by ac_rfl
      _ ≤ _ := up
      _ = _ := by ac_rfl
  obtain ⟨b1, b2, b3, b4, b5, b6, b7⟩ := root_nat hu hq hq2 lo' up' (Nu := n0) (by rw [hζ]; exact g1)
  rw [hζ] at b7
  obtain ⟨qu, hqu⟩ : ∃ qu, q * 2 ^ j = qu := ⟨_, rfl⟩
  obtain ⟨qqu, hqqu⟩ : ∃ qqu, q * q * 2 ^ j = qqu := ⟨_, rfl⟩
  rw [hqu, hqqu] at b1 b2 b5 b6
  rw [hqu] at b3 b4
  have hub : 2 ^ 104 * 2 ^ j ≤ 2 ^ 1120 := by rw [← Nat.pow_add]; exact Nat.pow_le_pow_right (by decide) (by (clear fx fy hprod lo0 hi0 hT0 f1 g1 hq hq2 hk1 hk2 hE up lo hTu hu lo' up' b7 b4 b3 hqu b6 b5 b2 b1 hqqu; (exact Nat.add_le_add_left (by assumption) _)))
  have hEg := hE.neg
  obtain ⟨h, hh⟩ : ∃ h, Float64.sqrt (Float64.mul x y) = h := ⟨_, rfl⟩
  obtain ⟨z, hz⟩ : ∃ z, Float64.mul x y = z := ⟨_, rfl⟩
  rw [hh] at hE hEg ⊢
  rw [hz] at f1 g1 b1 b2 b7 hζ lo' up'
  have hm2 : val h * val (Float64.neg h) = ((2 ^ 1074 : Nat) : Int) * (-(qqu : Int)) := by
    rw [hE.2, hEg.2, ← hqqu]
    have : ((2 ^ 1074 : Nat) : Int) * ((2 ^ j : Nat) : Int) = ((2 ^ k : Nat) : Int) * ((2 ^ k : Nat) : Int) := by rw [← Int.natCast_mul, ← Int.natCast_mul, hTu]
    rw [Int.natCast_mul, Int.natCast_mul]
    generalize ((2 ^ 1074 : Nat) : Int) = T at *
    generalize ((2 ^ j : Nat) : Int) = u at *
    generalize ((2 ^ k : Nat) : Int) = K at *
    grind
  obtain ⟨f2, g2⟩ := (isF_mul hE.1 hEg.1).relu hm2 (by rw [Int.natAbs_neg, Int.natAbs_natCast]; (clear fx fy hprod lo0 hi0 hT0 hq hq2 hk1 hk2 up lo hj hjk hj1 hTu hEg hE hh up' lo' b7 b2 b1 g1 f1 hz hm2; lia)) (by
    rw [Int.natAbs_neg, Int.natAbs_natCast]
    have : (2 : Nat) ^ 1130 ≤ 2 ^ 2000 := Nat.pow_le_pow_right (by decide) (by decide)
    (clear fx fy hprod lo0 hi0 hT0 hq hq2 hk1 hk2 up lo hj hjk hj1 hTu b3 b5 hEg hE hh up' lo' b7 b2 b1 g1 f1 hz hm2 this; lia))
  rw [Int.natAbs_neg, Int.natAbs_natCast] at g2
  have fe := isF_fma fx fy (isF_neg f1).1
  rw [hprod, (isF_neg f1).2] at fe
  obtain ⟨fe1, ge1⟩ := fe.unit (z := (n0 : Int) - val z) (j := j) (by
    generalize ((2 ^ 1074 : Nat) : Int) = T
    grind) (by (clear fx fy hprod lo0 hi0 hT0 hq hq2 hk1 hk2 up lo hTu hu b4 b3 hqu b6 b5 hqqu hub hEg hE hh up' lo' b7 b2 b1 g1 f1 hz hm2 f2 g2 fe; (exact Nat.le_trans (by assumption) (by decide)))) (by (clear fx fy hprod hT0 hq hq2 hk1 hk2 up lo hj hjk hj1 hTu hu b4 b3 hqu b6 b5 hqqu hub hEg hE hh up' lo' b2 b1 f1 hz hm2 f2 g2 fe; lia))
  clear fe
  have fe := isF_fma hE.1 hEg.1 (isF_neg f2).1
  rw [hm2, (isF_neg f2).2] at fe
  obtain ⟨fe2, ge2⟩ := fe.unit (z := -(qqu : Int) - val (Float64.mul h (Float64.neg h))) (j := j) (by
    generalize ((2 ^ 1074 : Nat) : Int) = T
    grind) (by (clear fx fy hprod lo0 hi0 hT0 hq hq2 hk1 hk2 up lo hTu hu b4 b3 hqu b6 b5 hqqu hub hEg hE hh up' lo' b7 b2 b1 g1 f1 hz hm2 f2 g2 fe1 ge1 fe; (exact Nat.le_trans (by assumption) (by decide)))) (by (clear fx fy hprod lo0 hi0 hT0 hq hq2 hk1 hk2 up lo hj hjk hj1 hTu hu b3 b5 hub hEg hE hh up' lo' b7 b2 b1 g1 f1 hz hm2 f2 fe1 ge1 fe; lia))
  clear fe
  have bb1 : (2 : Nat) ^ 1130 ≤ 2 ^ 1900 := Nat.pow_le_pow_right (by decide) (by decide)
  have bb2 : (2 : Nat) ^ 1900 ≤ 2 ^ 1980 := Nat.pow_le_pow_right (by decide) (by decide)
  have bb3 : 2 ^ 110 * 2 ^ j ≤ 2 ^ 1130 := by rw [← Nat.pow_add]; exact Nat.pow_le_pow_right (by decide) (by (clear fx fy hprod lo0 hi0 hT0 hq hq2 hk1 hk2 up lo hTu hu b4 b3 hqu b6 b5 hqqu hub hEg hE hh up' lo' b7 b2 b1 g1 f1 hz hm2 f2 g2 fe1 ge1 fe2 ge2 bb1 bb2; lia))
  have bb4 : 2 ^ 55 * 2 ^ j ≤ 2 ^ 1130 := by rw [← Nat.pow_add]; exact Nat.pow_le_pow_right (by decide) (by (clear fx fy hprod lo0 hi0 hT0 hq hq2 hk1 hk2 up lo hTu hu b4 b3 hqu b6 b5 hqqu hub hEg hE hh up' lo' b7 b2 b1 g1 f1 hz hm2 f2 g2 fe1 ge1 fe2 ge2 bb1 bb2 bb3; lia))
  obtain ⟨k1, k2, k3, k4, k5, bsum, k7, k8, k9, k10⟩ := rest_bounds hζ b1 b2 b3 b4 b5 b6 b7 g2 ge1 ge2
  obtain ⟨t1, t2, t3, ht, ft1, ft2, ft3, vt1, vt2, vt3⟩ := tlFma_first (x := x) (y := y) (isF_zero false).1 (isF_zero false).1 (isF_zero false).1 (isF_zero false).2 (isF_zero false).2 (isF_zero false).2 (by rw [hz]; exact f1) (by rw [hz]; exact fe1) (by rw [hz]; exact Nat.le_trans k1 (Nat.le_trans bb3 bb1)) (by rw [hz]; exact Nat.le_trans k3 (Nat.le_trans bb4 bb1))
  rw [hz] at vt1 vt2
  have p40 : 2 ^ 54 * 2 ^ (j + 40) = 2 ^ 94 * 2 ^ j := by rw [← Nat.pow_add, ← Nat.pow_add]; congr 1; (clear fx fy hprod lo0 hi0 hT0 hq hq2 hk1 hk2 up lo hj hjk hj1 hTu hu b4 b3 hqu b6 b5 hqqu hub hEg hE hh up' lo' b7 b2 b1 g1 f1 hz hm2 f2 g2 fe1 ge1 fe2 ge2 bb1 bb2 bb3 bb4 k1 k2 k3 k4 k5 bsum k7 k8 k9 k10 ht ft1 ft2 ft3 vt1 vt2 vt3; lia)
  obtain ⟨s1, hs1⟩ := f1.dvd (c := j + 40) (Nat.le_trans k1 (Nat.le_trans bb3 (Nat.le_trans bb1 bb2))) (by rw [p40]; exact k7)
  obtain ⟨s2, hs2⟩ := f2.dvd (c := j + 40) (Nat.le_trans k2 (Nat.le_trans bb3 (Nat.le_trans bb1 bb2))) (by rw [p40]; exact k8)
  have hex : IsF (Float64.add t1 (Float64.mul h (Float64.neg h))) ∧ val (Float64.add t1 (Float64.mul h (Float64.neg h))) = val t1 + val (Float64.mul h (Float64.neg h)) := by
    have e1 : val t1 + val (Float64.mul h (Float64.neg h)) = (s1 + s2) * ((2 ^ (j + 41) : Nat) : Int) := by
      rw [vt1, hs1, hs2, Int.add_mul]
    have e2 : (s1 + s2).natAbs ≤ 2 ^ 53 := by
      have e3 : (s1 + s2).natAbs * 2 ^ (j + 41) ≤ 2 ^ 14 * 2 ^ (j + 41) := by
        rw [vt1] at e1
        have := congrArg Int.natAbs e1
        rw [Int.natAbs_mul, Int.natAbs_natCast] at this
        rw [← this, ← Nat.pow_add, show 14 + (j + 41) = 55 + j by (clear fx fy hprod lo0 hi0 hT0 hq hq2 hk1 hk2 up lo hj hjk hj1 hTu hu b4 b3 hqu b6 b5 hqqu hub hEg hE hh up' lo' b7 b2 b1 g1 f1 hz hm2 f2 g2 fe1 ge1 fe2 ge2 bb1 bb2 bb3 bb4 k1 k2 k3 k4 k5 bsum k7 k8 k9 k10 ht ft1 ft2 ft3 vt1 vt2 vt3 p40 hs1 hs2 e1 this; lia), Nat.pow_add]; exact bsum
      exact Nat.le_trans (Nat.le_of_mul_le_mul_right e3 (Nat.two_pow_pos _)) (by decide)
    obtain ⟨a1, a2⟩ := (isF_add ft1 f2).exact (c := j + 41) (q := s1 + s2) (by (clear fx fy hprod lo0 hi0 hT0 hq hq2 hk1 hk2 up lo hTu hu b4 b3 hqu b6 b5 hqqu hub hEg hE hh up' lo' b7 b2 b1 g1 f1 hz hm2 f2 g2 fe1 ge1 fe2 ge2 bb1 bb2 bb3 bb4 k1 k2 k3 k4 k5 bsum k7 k8 k9 k10 ht ft1 ft2 ft3 vt1 vt2 vt3 p40 hs1 hs2 e1 e2; lia)) (by rw [e1]; simp) e2
    exact ⟨a1, by rw [a2, e1]⟩
  obtain ⟨c1, c2, c3⟩ := tlFma_second (h := h) (g := Float64.neg h) (j := j) (by (clear fx fy hprod lo0 hi0 hT0 hq hq2 hk1 hk2 up lo hTu hu b4 b3 hqu b6 b5 hqqu hub hEg hE hh up' lo' b7 b2 b1 g1 f1 hz hm2 f2 g2 fe1 ge1 fe2 ge2 bb1 bb2 bb3 bb4 k1 k2 k3 k4 k5 bsum k7 k8 k9 k10 ht ft1 ft2 ft3 vt1 vt2 vt3 p40 hs1 hs2 hex; (exact Nat.le_trans (by assumption) (by decide)))) ft1 ft2 ft3 vt3 f2 fe2 hex.1 hex.2 (by rw [vt1]; exact k1) k2 (by rw [vt2]; exact k3) k4 (by rw [vt1]; exact bsum) (by rw [vt2]; exact k5)
  refine ⟨q, k, j, hq, hq2, hk1, hk2, hjk, hE, by rw [hqqu]; exact k9, _, .cons (by rw [ht]; exact ft1.finite) (.cons (by rw [ht]; exact c1.finite) .nil), ?_⟩
  rw [ht, hqqu]
  rw [vt1, vt2] at c3
  obtain ⟨o1, o2⟩ := E.ofInt (i := 0) (by decide)
  rw [Int.zero_mul] at o2
  exact last_add hu (by (clear fx fy hprod lo0 hi0 hT0 hq hq2 hk1 hk2 up lo hTu hu b4 b3 hqu b6 b5 hqqu hub hEg hE hh up' lo' b7 b2 b1 g1 f1 hz hm2 f2 g2 fe1 ge1 fe2 ge2 bb1 bb2 bb3 bb4 k1 k2 k3 k4 k5 bsum k7 k8 k9 k10 ht ft1 ft2 ft3 vt1 vt2 vt3 p40 hs1 hs2 hex c1 c2 c3 o1 o2; (exact Nat.le_trans (by assumption) (by decide)))) o1 o2 c2 k9 k10 c3
end Mine
end
section
open PySem PySem.Float64
set_option maxRecDepth 100000
set_option exponentiation.threshold 3000
set_option maxHeartbeats 1000000
namespace Mine
theorem cv_bound {q K : Nat} {N cv : Int} (hq : 2 ^ 52 ≤ q) (hN : (N - ((q * q : Nat) : Int)).natAbs ≤ 2 ^ 54 + 16)
    (h1 : ((N - ((q * q : Nat) : Int)) * (K : Int) - 2 * (q : Int) * cv).natAbs ≤ 260 * K) : cv.natAbs ≤ 3 * K := by
  have e1 : (2 * (q : Int) * cv).natAbs = 2 * q * cv.natAbs := by rw [Int.natAbs_mul, Int.natAbs_mul]; rfl
  have e2 : ((N - ((q * q : Nat) : Int)) * (K : Int)).natAbs ≤ (2 ^ 54 + 16) * K := by
    rw [Int.natAbs_mul, Int.natAbs_natCast]; exact Nat.mul_le_mul_right _ hN
  have e3 : 2 ^ 53 * cv.natAbs ≤ 2 * q * cv.natAbs := Nat.mul_le_mul_right _ (by (clear hN h1 e1 e2; lia))
  have e4 : (2 * (q : Int) * cv).natAbs ≤ ((N - ((q * q : Nat) : Int)) * (K : Int)).natAbs + ((N - ((q * q : Nat) : Int)) * (K : Int) - 2 * (q : Int) * cv).natAbs := by
    have h2 := Int.natAbs_add_le ((N - ((q * q : Nat) : Int)) * (K : Int)) (-((N - ((q * q : Nat) : Int)) * (K : Int) - 2 * (q : Int) * cv))
    rw [Int.natAbs_neg, Int.neg_sub, Int.add_comm, Int.sub_add_cancel] at h2
    exact h2
  rw [e1] at e4
  clear e1 hq hN
  generalize ((N - ((q * q : Nat) : Int)) * (K : Int) - 2 * (q : Int) * cv).natAbs = d1 at *
  generalize ((N - ((q * q : Nat) : Int)) * (K : Int)).natAbs = d2 at *
  generalize 2 * q * cv.natAbs = d3 at *
  generalize cv.natAbs = d4 at *
  omega
/-- from the quotient's place to its plain bound -/
theorem quot_arith {q K T u : Nat} {N dd cv : Int} (hK : 0 < K) (hTu : T * u = K * K) (h1 : (N * (u : Int) - ((q * q * u : Nat) : Int) - dd).natAbs ≤ 256 * u) (h2 : 2 * (dd * (T : Int) - ((q * (2 * K) : Nat) : Int) * cv).natAbs ≤ 8 * (K * K)) :
    ((N - ((q * q : Nat) : Int)) * (K : Int) - 2 * (q : Int) * cv).natAbs ≤ 260 * K := by
  have a1 : ((N * (u : Int) - ((q * q * u : Nat) : Int) - dd) * (T : Int)).natAbs ≤ 256 * (K * K) := by
    rw [Int.natAbs_mul, Int.natAbs_natCast, ← hTu]
    exact Nat.le_trans (Nat.mul_le_mul_right T h1) (Nat.le_of_eq (by ac_rfl))
  have a2 : ((N - ((q * q : Nat) : Int)) * (K : Int) - 2 * (q : Int) * cv) * (K : Int) = (N * (u : Int) - ((q * q * u : Nat) : Int) - dd) * (T : Int) + (dd * (T : Int) - ((q * (2 * K) : Nat) : Int) * cv) := by
    have hTu' : (T : Int) * (u : Int) = (K : Int) * (K : Int) := by rw [← Int.natCast_mul, ← Int.natCast_mul, hTu]
    push_cast
    grind
  have a3 : ((N - ((q * q : Nat) : Int)) * (K : Int) - 2 * (q : Int) * cv).natAbs * K ≤ 260 * K * K := by
    have := congrArg Int.natAbs a2
    rw [Int.natAbs_mul, Int.natAbs_natCast] at this
    rw [this, Nat.mul_assoc 260]
    (clear hK hTu h1 a2 this; omega)
  exact Nat.le_of_mul_le_mul_right a3 hK
theorem room55 {u : Nat} : 256 * u + (2 ^ 54 + 16) * u ≤ 2 ^ 55 * u := by lia
theorem room54 {K a : Nat} (h : a ≤ 2 ^ 53 * K) : a + 3 * K ≤ 2 ^ 54 * K := by lia
theorem so_high {a c s : Int} {K : Nat} (h1 : a.natAbs ≤ 2 ^ 53 * K) (h2 : c.natAbs ≤ 3 * K) (h3 : (a + c - s).natAbs ≤ K) : s.natAbs ≤ 2 ^ 54 * K := by
  have h4 := abs_right h3 (abs_add h1 h2)
  (clear h1 h2 h3; lia)
theorem half_of {a K : Nat} (h : 2 * a ≤ 2 * K) : a ≤ K := by lia
theorem le_of_natAbs {x : Int} {n : Nat} (h : x.natAbs ≤ n) : x ≤ n := by omega
theorem natAbs_ge {x : Int} {n : Nat} (h : (n : Int) ≤ x) : n ≤ x.natAbs := by lia
theorem pos_p {a c : Int} {K qn : Nat} (hq : a = (qn : Int)) (e4 : 2 ^ 52 * K ≤ qn) (h : c.natAbs ≤ 3 * K) : 0 ≤ a + c := by
  obtain ⟨a1, a2⟩ := two_sided h
  clear h
  lia
theorem near_S {p s S K : Nat} (h1 : 2 ^ 42 * ((p : Int) - (S : Int)).natAbs ≤ K) (h2 : dist p s ≤ dist p S) : 2 ^ 41 * ((s : Int) - (S : Int)).natAbs ≤ K := by
  have e1 : ((p : Int) - (S : Int)).natAbs = dist p S := by unfold dist; (clear h1 h2; lia)
  have e0 : ((p : Int) - (s : Int)).natAbs = dist p s := by unfold dist; (clear h1 h2 e1; lia)
  have e2 : ((s : Int) - (S : Int)).natAbs ≤ dist p s + dist p S := by
    rw [abs_comm] at e0
    exact abs_chain (Nat.le_of_eq e0) (Nat.le_of_eq e1)
  rw [e1] at h1
  lia
end Mine
end
section
open PySem PySem.Float64
set_option maxRecDepth 100000
set_option exponentiation.threshold 3000
set_option maxHeartbeats 1000000
namespace Mine
theorem root_gen {x y : UInt64} {A B cx cy c0 cS : Nat} (hx : E cx x A) (hy : E cy y B) (hA : 1 ≤ A) (hB : 1 ≤ B) (hc : cx + cy = c0 + 1074) (hcS : cx + cy = 2 * cS) (hc0 : 1052 ≤ c0) (hAB2 : A * B ≤ 2 ^ 62) (hi0 : A * B * 2 ^ c0 ≤ 2 ^ 1114) :
    ∃ so, SqRun x y so ∧ IsF so ∧ 2 ^ 1060 ≤ val so ∧ val so ≤ 2 ^ 1100 ∧ 2 ^ 60 * (val so * val so - ((A * B * 2 ^ (c0 + 1074) : Nat) : Int)).natAbs ≤ 516 * (A * B * 2 ^ (c0 + 1074)) ∧ ∀ C : Nat, A * B = C * C → val so = ((C * 2 ^ cS : Nat) : Int) := by
  have hAB : 1 ≤ A * B := Nat.mul_le_mul hA hB
  have hprod : val x * val y = ((2 ^ 1074 : Nat) : Int) * ((A * B * 2 ^ c0 : Nat) : Int) := by
    rw [hx.prod hy (e := c0) hc, Int.natCast_mul (A * B), Int.natCast_mul A B]
  have lo0 : 2 ^ 1052 ≤ A * B * 2 ^ c0 := Nat.le_trans (Nat.pow_le_pow_right (by decide) hc0) (Nat.le_mul_of_pos_left _ hAB)
  obtain ⟨q, k, j, hq, hq2, hk1, hk2, hjk, hE, hD, r, hr, fr, hv⟩ := root_rest hx.1 hy.1 hprod lo0 hi0
  clear lo0 hprod
  obtain ⟨h, hh⟩ : ∃ h, Float64.sqrt (Float64.mul x y) = h := ⟨_, rfl⟩
  have hE' := hE
  rw [hh] at hE
  obtain ⟨d, hd⟩ : ∃ d, Float64.add (Float64.ofInt 0) (Builtin.Math.tlToFloat r) = d := ⟨_, rfl⟩
  rw [hd] at fr hv
  have hm : E (k + 1) (Float64.mul 0x4000000000000000 h) (1 * (q : Int)) := val_two.mul hE (by (clear hx hy hA hB hc hcS hc0 hAB2 hi0 hAB hq hq2 hk1 hk2 hjk hD hr hE hh hE' hv fr hd; (exact Nat.add_comm _ _))) (by (clear hx hy hA hB hc hcS hc0 hAB2 hi0 hAB hk1 hk2 hjk hD hr hE hh hE' hv fr hd; omega)) (by (clear hx hy hA hB hc hcS hc0 hAB2 hi0 hAB hq hq2 hjk hD hr hE hh hE' hv fr hd; (exact Nat.lt_of_le_of_lt (by assumption) (by decide))))
  have hK : 0 < 2 ^ k := Nat.two_pow_pos k
  have hu : 0 < 2 ^ j := Nat.two_pow_pos j
  have hTu : 2 ^ 1074 * 2 ^ j = 2 ^ k * 2 ^ k := by rw [← Nat.pow_add, ← Nat.pow_add]; congr 1; (clear hx hy hA hB hc hcS hc0 hAB2 hi0 hAB hq hq2 hk1 hk2 hD hr hE hh hE' hv fr hd hm hK hu; lia)
  have hm2 : val (Float64.mul 0x4000000000000000 h) = ((q * (2 * 2 ^ k) : Nat) : Int) := by
    rw [hm.2, Int.one_mul, ← Int.natCast_mul, Nat.pow_succ, Nat.mul_comm (2 ^ k) 2]
  have hmpos : 0 < q * (2 * 2 ^ k) := Nat.mul_pos (by (clear hx hy hA hB hc hcS hc0 hAB2 hi0 hAB hk1 hk2 hjk hD hr hE hh hE' hv fr hd hm hK hu hTu hm2; lia)) (by (clear hx hy hA hB hc hcS hc0 hAB2 hi0 hAB hq hq2 hk1 hk2 hjk hD hr hE hh hE' hv fr hd hm hu hTu hm2; lia))
  have hq53 : 2 ^ 52 * 2 ^ k ≤ q * 2 ^ k := Nat.mul_le_mul_right _ hq
  have hq54 : q * 2 ^ k ≤ 2 ^ 53 * 2 ^ k := Nat.mul_le_mul_right _ (by (clear hx hy hA hB hc hcS hc0 hAB2 hi0 hAB hk1 hk2 hjk hD hr hE hh hE' hv fr hd hm hK hu hTu hm2 hmpos hq53; (exact Nat.le_of_lt (by assumption))))
  have nc := isF_div fr hm.1 (by rw [hm2]; (clear hx hy hA hB hc hcS hc0 hAB2 hi0 hAB hq hq2 hk1 hk2 hjk hD hr hE hh hE' hv fr hd hm hK hu hTu hm2 hq53 hq54; omega))
  rw [hm2, Int.natAbs_natCast] at nc
  have pk : 2 ^ (k - 51) * 2 ^ 51 = 2 ^ k := by rw [← Nat.pow_add]; congr 1; (clear hx hy hA hB hc hcS hc0 hAB2 hi0 hAB hq hq2 hjk hD hr hE hh hE' hv fr hd hm hK hu hTu hm2 hmpos hq53 hq54 nc; lia)
  have hnu : A * B * 2 ^ c0 = A * B * 2 ^ (c0 - j) * 2 ^ j := by rw [Nat.mul_assoc (A * B), ← Nat.pow_add]; congr 2; (clear hx hy hA hB hAB2 hi0 hAB hq hq2 hD hr hE hh hE' hv fr hd hm hK hu hTu hm2 hmpos hq53 hq54 nc pk; lia)
  rw [hnu, Int.natCast_mul _ (2 ^ j)] at hD hv
  generalize hNN : A * B * 2 ^ (c0 - j) = N at hD hv
  have hN : ((N : Int) - ((q * q : Nat) : Int)).natAbs ≤ 2 ^ 54 + 16 := by
    rw [Int.natCast_mul (q * q), ← Int.sub_mul, Int.natAbs_mul, Int.natAbs_natCast] at hD
    exact Nat.le_of_mul_le_mul_right hD hu
  obtain ⟨fc, gc⟩ := nc.near (c := k - 51) (by (clear hx hy hA hB hc hcS hc0 hAB2 hi0 hAB hq hq2 hjk hr hE hh hE' fr hd hm hK hu hTu hm2 hmpos hq53 hq54 nc pk hnu hNN hD hv hN; omega)) (by
    rw [Int.natAbs_mul, Int.natAbs_natCast]
    have b1 : (val d).natAbs ≤ 2 ^ 55 * 2 ^ j := Nat.le_trans (abs_right hv hD) room55
    have b2 : 2 ^ (k - 51 + 53) = 4 * 2 ^ k := by rw [← pk, Nat.pow_add, show (4 : Nat) = 2 ^ 2 by rfl, show (53 : Nat) = 51 + 2 by rfl, Nat.pow_add]; ac_rfl
    rw [b2]
    calc (val d).natAbs * 2 ^ 1074 ≤ 2 ^ 55 * 2 ^ j * 2 ^ 1074 := Nat.mul_le_mul_right _ b1
      _ = 2 ^ 55 * (2 ^ 1074 * 2 ^ j) := by ac_rfl
      _ = 2 ^ 55 * (2 ^ k * 2 ^ k) := by rw [hTu]
      _ = 8 * (2 ^ 52 * 2 ^ k * 2 ^ k) := by rw [show (2 : Nat) ^ 55 = 8 * 2 ^ 52 by rfl]; ac_rfl
      _ ≤ 8 * (q * 2 ^ k * 2 ^ k) := Nat.mul_le_mul_left _ (Nat.mul_le_mul_right _ hq53)
      _ = _ := by rw [show (8 : Nat) = 2 * 4 by rfl]; ac_rfl)
  obtain ⟨c, hc⟩ : ∃ c, Float64.div d (Float64.mul 0x4000000000000000 h) = c := ⟨_, rfl⟩
  rw [hc] at fc gc
  have gc2 : q * (2 * 2 ^ k) * 2 ^ (k - 51) ≤ 8 * (2 ^ k * 2 ^ k) := by
    calc q * (2 * 2 ^ k) * 2 ^ (k - 51) = q * 2 ^ k * (2 * 2 ^ (k - 51)) := by ac_rfl
      _ ≤ 2 ^ 53 * 2 ^ k * (2 * 2 ^ (k - 51)) := Nat.mul_le_mul_right _ hq54
      _ = 8 * (2 ^ k * (2 ^ (k - 51) * 2 ^ 51)) := by rw [show (2 : Nat) ^ 53 = 4 * 2 ^ 51 by rfl, show (8 : Nat) = 4 * 2 by rfl]; ac_rfl
      _ = _ := by rw [pk]
  have h1 := quot_arith hK hTu hv (Nat.le_trans gc gc2)
  have hcv := cv_bound hq hN h1
  have ns := isF_add hE.1 fc
  have hhv : val h = ((q * 2 ^ k : Nat) : Int) := by rw [hE.2, Int.natCast_mul]
  rw [hhv] at ns
  have hZ : (((q * 2 ^ k : Nat) : Int) + val c).natAbs ≤ 1 * 2 ^ (k + 1 + 53) := by
    rw [Nat.one_mul, show k + 1 + 53 = 54 + k by (clear hx hy hA hB hcS hc0 hAB2 hi0 hAB hq hq2 hk1 hk2 hjk hr hE hh hE' fr hd hm hK hu hTu hm2 hmpos hq53 hq54 nc pk hnu hNN hD hv hN gc fc hc gc2 h1 hcv ns hhv; lia), Nat.pow_add]
    exact Nat.le_trans (abs_add (by rw [Int.natAbs_natCast]; exact Nat.le_refl _) hcv) (room54 hq54)
  obtain ⟨fs, gs⟩ := ns.near (c := k + 1) (by (clear hx hy hA hB hcS hc0 hAB2 hi0 hAB hq hq2 hjk hr hE hh hE' fr hd hm hK hu hTu hm2 hmpos hq53 hq54 nc pk hnu hNN hD hv hN gc fc hc gc2 h1 hcv ns hhv hZ; (exact Nat.lt_of_le_of_lt (by assumption) (by decide)))) hZ
  have h2 : (((q * 2 ^ k : Nat) : Int) + val c - val (Float64.add h c)).natAbs ≤ 2 ^ k := by
    rw [Nat.one_mul, Nat.pow_succ] at gs
    simp only [Int.cast_ofNat_Int, Int.one_mul] at gs
    rw [Nat.mul_comm (2 ^ k) 2] at gs
    exact half_of gs
  obtain ⟨_, hs, hbd⟩ := final_arith hK hq hq2 hN h1 h2
  have hM : ((N : Int) * ((2 ^ k * 2 ^ k : Nat) : Int)) = ((A * B * 2 ^ (c0 + 1074) : Nat) : Int) := by
    rw [← Int.natCast_mul, ← hNN, ← Nat.pow_add, Nat.mul_assoc (A * B), ← Nat.pow_add]
    congr 3; (clear hx hy hA hB hAB2 hi0 hAB hq hq2 hr hE hh hE' fr hd hm hK hu hTu hm2 hmpos hq53 hq54 nc pk hnu hNN hD hv hN gc fc hc gc2 h1 hcv ns hhv hZ fs gs h2 hs hbd; lia)
  rw [hM, Int.natAbs_natCast] at hbd
  have lowk : (2 : Nat) ^ 1060 ≤ 2 ^ 51 * 2 ^ k := by rw [← Nat.pow_add]; exact Nat.pow_le_pow_right (by decide) (by (clear hx hy hA hB hcS hc0 hAB2 hi0 hAB hq hq2 hjk hr hE hh hE' fr hd hm hK hu hTu hm2 hmpos hq53 hq54 nc pk hnu hNN hD hv hN gc fc hc gc2 h1 hcv ns hhv hZ fs gs h2 hs hbd hM; (exact Nat.add_lt_add_left (by assumption) _)))
  have highk : 2 ^ 54 * 2 ^ k ≤ (2 : Nat) ^ 1100 := by rw [← Nat.pow_add]; exact Nat.pow_le_pow_right (by decide) (by (clear hx hy hA hB hcS hc0 hAB2 hi0 hAB hq hq2 hjk hr hE hh hE' fr hd hm hK hu hTu hm2 hmpos hq53 hq54 nc pk hnu hNN hD hv hN gc fc hc gc2 h1 hcv ns hhv hZ fs gs h2 hs hbd hM lowk; lia))
  have hrun : SqRun x y (Float64.add h c) := by
    have := SqRun.root (a := x) (b := y) (r := r) hE'.1.finite (by rw [hE'.1.notNaN]; rfl) (hE'.1.zero_false (by rw [hE'.2]; (clear hx hy hA hB hcS hc0 hAB2 hi0 hAB hq hq2 hk1 hk2 hjk hr hE hh hE' fr hd hm hK hu hTu hm2 hmpos nc hnu hNN hD hv hN gc fc hc gc2 h1 hcv ns hZ fs gs h2 hs hbd hM; lia))) hr (by rw [hh]; exact hm.1.zero_false (by rw [hm2]; (clear hx hy hA hB hcS hc0 hAB2 hi0 hAB hq hq2 hk1 hk2 hjk hr hE hh hE' fr hd hm hK hu hTu hm2 hq53 hq54 nc pk hnu hNN hD hv hN gc fc hc gc2 h1 hcv ns hhv hZ fs gs h2 hs hbd hM lowk highk; omega)))
    rw [hh, hd, hc] at this
    exact this
  have hhi : (val (Float64.add h c)).natAbs ≤ 2 ^ 54 * 2 ^ k := so_high (by rw [Int.natAbs_natCast]; exact hq54) hcv h2
  refine ⟨_, hrun, fs, Int.le_trans (by exact_mod_cast lowk) hs, Int.le_trans (le_of_natAbs (Nat.le_trans hhi highk)) (by exact_mod_cast Nat.le_refl _), hbd, ?_⟩
  intro C hC
  have hS : ((C * 2 ^ cS : Nat) : Int) * ((C * 2 ^ cS : Nat) : Int) = (N : Int) * ((2 ^ k * 2 ^ k : Nat) : Int) := by
    rw [hM, ← Int.natCast_mul, hC, show c0 + 1074 = cS + cS by (clear hx hy hA hB hc0 hAB2 hi0 hAB hq hq2 hk1 hk2 hjk hr hE hh hE' fr hd hm hK hu hTu hm2 hmpos hq53 hq54 nc pk hnu hNN hD hv hN gc fc hc gc2 h1 hcv ns hhv hZ fs gs h2 hs hbd hM lowk highk hrun hhi hC; lia), Nat.pow_add]
    congr 1; ac_rfl
  have hl := final_line hK hq hcv h1 (Int.natCast_nonneg _) hS
  have hC53 : C ≤ 2 ^ 53 := by
    rcases Nat.lt_or_ge (2 ^ 53) C with g | g
    · have := Nat.mul_le_mul (Nat.le_of_lt g) (Nat.le_of_lt g)
      (clear hx hy hA hB hcS hc0 hi0 hq hq2 hk1 hk2 hjk hr hE hh hE' fr hd hm hK hu hTu hm2 hmpos hq53 hq54 nc pk hnu hNN hD hv hN gc fc hc gc2 h1 hcv ns hhv hZ fs gs h2 hs hbd hM lowk highk hrun hhi hS hl g; omega)
    · exact g
  obtain ⟨t', ht'⟩ := rep cS C hC53
  obtain ⟨t, _, _, e1, e2, _⟩ := ns.any (c := k + 1) (by (clear hx hy hA hB hcS hc0 hAB2 hi0 hAB hq hq2 hjk hr hE hh hE' fr hd hm hK hu hTu hm2 hmpos hq53 hq54 nc pk hnu hNN hD hv hN gc fc hc gc2 h1 hcv ns hhv hZ fs gs h2 hs hbd hM lowk highk hrun hhi hC hS hl hC53 ht'; (exact Nat.lt_of_le_of_lt (by assumption) (by decide)))) hZ ht'
  clear e1
  rw [Nat.one_mul, Nat.one_mul] at e2
  obtain ⟨S, hSS⟩ : ∃ S, C * 2 ^ cS = S := ⟨_, rfl⟩
  rw [hSS] at hl e2 ⊢
  clear hS ht' hC hm hmpos
  have hnear : 2 ^ 41 * (val (Float64.add h c) - (S : Int)).natAbs ≤ 2 ^ k := by
    have hs0 : 0 ≤ val (Float64.add h c) := Int.le_trans (Int.natCast_nonneg _) hs
    have hp0 : 0 ≤ ((q * 2 ^ k : Nat) : Int) + val c := pos_p rfl hq53 hcv
    have hse := Int.natAbs_of_nonneg hs0
    have hpe := Int.natAbs_of_nonneg hp0
    rw [← hpe] at hl
    rw [← hse]
    exact near_S hl e2
  obtain ⟨s', hs'⟩ := fs.dvd (c := k - 3) (by
    have h8 : (2 : Nat) ^ 1100 ≤ 2 ^ 1980 := Nat.pow_le_pow_right (by decide) (by decide)
    exact Nat.le_trans hhi (Nat.le_trans highk h8)) (by
    have : 2 ^ 54 * 2 ^ (k - 3) = 2 ^ 51 * 2 ^ k := by rw [← Nat.pow_add, ← Nat.pow_add]; congr 1; (clear hx hy hA hB hcS hc0 hAB2 hi0 hAB hq hq2 hjk hr hE hh hE' fr hd hK hu hTu hm2 hq53 hq54 nc pk hnu hNN hD hv hN gc fc hc gc2 h1 hcv ns hhv hZ fs gs h2 hs hbd hM lowk highk hrun hhi hC53 e2 hl hSS hnear; lia)
    rw [this]; exact natAbs_ge hs)
  have hSd : (S : Int) = ((C * 2 ^ (cS - (k - 2)) : Nat) : Int) * ((2 ^ (k - 3 + 1) : Nat) : Int) := by
    rw [← hSS, ← Int.natCast_mul, Nat.mul_assoc, ← Nat.pow_add]
    congr 3; (clear hx hy hA hB hAB2 hi0 hAB hq hq2 hjk hr hE hh hE' fr hd hK hu hTu hm2 hq53 hq54 nc pk hnu hNN hD hv hN gc fc hc gc2 h1 hcv ns hhv hZ fs gs h2 hs hbd hM lowk highk hrun hhi hC53 e2 hl hSS hnear hs'; lia)
  rw [hs', hSd, ← Int.sub_mul, Int.natAbs_mul, Int.natAbs_natCast] at hnear
  have hp : (2 : Nat) ^ k = 4 * 2 ^ (k - 3 + 1) := by rw [show (4 : Nat) = 2 ^ 2 by rfl, ← Nat.pow_add]; congr 1; (clear hx hy hA hB hcS hc0 hAB2 hi0 hAB hq hq2 hjk hr hE hh hE' fr hd hK hu hTu hm2 hq53 hq54 nc pk hnu hNN hD hv hN gc fc hc gc2 h1 hcv ns hhv hZ fs gs h2 hs hbd hM lowk highk hrun hhi hC53 e2 hl hSS hnear hs' hSd; lia)
  rw [hp, ← Nat.mul_assoc] at hnear
  have := Nat.le_of_mul_le_mul_right hnear (Nat.two_pow_pos _)
  have hz : s' = ((C * 2 ^ (cS - (k - 2)) : Nat) : Int) := by (clear hx hy hA hB hcS hc0 hAB2 hi0 hAB hq hq2 hk1 hk2 hjk hr hE hh hE' fr hd hK hu hTu hm2 hq53 hq54 nc pk hnu hNN hD hv hN gc fc hc gc2 h1 hcv ns hhv hZ fs gs h2 hs hbd hM lowk highk hrun hhi hC53 e2 hl hSS hnear hs' hSd hp; omega)
  rw [hs', hSd, hz]
end Mine
end
section
open PySem PySem.W PySem.Calls PyProof.Rows PySem.Float64 PySem.Flt
set_option maxRecDepth 100000
set_option exponentiation.threshold 3000
namespace Mine
theorem half_neg (m : Int) (hm : 0 < m) (hb : m.natAbs ≤ 2 ^ 53) : E 1073 (Float64.ofFrac (decide (m < 0) != decide ((-2 : Int) < 0)) m.natAbs (-2 : Int).natAbs) (-m) := by
  have e : (decide (m < 0) != decide ((-2 : Int) < 0)) = decide (-m < 0) := by
    rw [show decide ((-2 : Int) < 0) = true from rfl, show decide (m < 0) = false by simp; (clear hb; (exact Int.le_of_lt (by assumption))), show decide (-m < 0) = true by simp; (clear hb; (assumption))]
    rfl
  rw [e, show m.natAbs = (-m).natAbs by (clear hb e; lia)]
  have h := isF_ofFrac (-m) 2 (by decide)
  refine h.exact (c := 1073) (by decide) ?_ (by omega)
  have e2 := pow_add' 1073 1
  show -m * ((2 ^ (1073 + 1) : Nat) : Int) = ((2 : Nat) : Int) * (-m * ((2 ^ 1073 : Nat) : Int))
  rw [e2]
  generalize ((2 ^ 1073 : Nat) : Int) = z
  show -m * (z * 2) = 2 * (-m * z)
  rw [← Int.mul_assoc, Int.mul_comm]
theorem sq_zero {x y : UInt64} {A B : Nat} (hx : E 1072 x A) (hy : E 1072 y B) (hz : A = 0 ∨ B = 0) : ∃ so, SqRun x y so ∧ isZero so = true := by
  have e0 : (A : Int) * (B : Int) = 0 := by rcases hz with q | q <;> rw [q] <;> simp
  have hm0 : IsF (Float64.mul x y) ∧ val (Float64.mul x y) = 0 := by
    have := hx.mul hy (e := 1070) rfl (by rw [e0]; decide) (by decide)
    rw [e0] at this
    exact ⟨this.1, by rw [this.2, Int.zero_mul]⟩
  obtain ⟨⟨a, m, e, hd⟩, hv⟩ := hm0
  have hm : m = 0 := by
    have := val_natAbs hd
    rw [hv] at this
    rcases Nat.mul_eq_zero.mp this.symm with q | q
    · exact q
    · exact absurd q (Nat.ne_of_gt (Nat.two_pow_pos _))
  have hs : Float64.sqrt (Float64.mul x y) = Float64.mul x y := by
    unfold Float64.sqrt
    rw [hd, hm]
    simp
  have hf : IsF (Float64.sqrt (Float64.mul x y)) := by rw [hs]; exact ⟨a, m, e, hd⟩
  have hz0 : Float64.isZero (Float64.sqrt (Float64.mul x y)) = true := hf.zero_iff.mpr (by rw [hs]; exact hv)
  refine ⟨_, SqRun.zero hf.finite (by rw [hf.notNaN]; rfl) hz0 ?_, hz0⟩
  rcases hz with q | q
  · exact .inl (hx.isZero_iff.mpr (by rw [q]; rfl))
  · exact .inr (hy.isZero_iff.mpr (by rw [q]; rfl))
/-- what the root is, where neither row is flat -/
def RootOk (A B : Nat) (so : UInt64) : Prop := IsF so ∧ 2 ^ 1060 ≤ val so ∧ val so ≤ 2 ^ 1100 ∧ 2 ^ 60 * (val so * val so - ((A * B * 2 ^ (1070 + 1074) : Nat) : Int)).natAbs ≤ 516 * (A * B * 2 ^ (1070 + 1074)) ∧ ∀ C : Nat, A * B = C * C → val so = ((C * 2 ^ 1072 : Nat) : Int)
theorem room20 {A B : Nat} (hA : A ≤ 2 ^ 20) (hB : B ≤ 2 ^ 20) : A * B ≤ 2 ^ 40 := Nat.le_trans (Nat.mul_le_mul hA hB) (by decide)
theorem sq_any {x y : UInt64} {A B : Nat} (hx : E 1072 x A) (hy : E 1072 y B) (hA : A ≤ 2 ^ 20) (hB : B ≤ 2 ^ 20) : ∃ so, SqRun x y so ∧ ((A = 0 ∨ B = 0) ∧ isZero so = true ∨ (1 ≤ A ∧ 1 ≤ B) ∧ isZero so = false ∧ RootOk A B so) := by
  by_cases hz : A = 0 ∨ B = 0
  · obtain ⟨so, h1, h2⟩ := sq_zero hx hy hz
    exact ⟨so, h1, .inl ⟨hz, h2⟩⟩
  · have hA1 : 1 ≤ A := by (clear hx hy; lia)
    have hB1 : 1 ≤ B := by (clear hx hy hA hA1; lia)
    have hAB := room20 hA hB
    obtain ⟨so, h1, h2, h3, h4, h5, h6⟩ := root_gen hx hy hA1 hB1 (c0 := 1070) (cS := 1072) rfl rfl (by decide) (Nat.le_trans hAB (by decide)) (by
      refine Nat.le_trans (Nat.mul_le_mul_right _ hAB) ?_
      rw [← Nat.pow_add]
      exact Nat.pow_le_pow_right (by decide) (by decide))
    exact ⟨so, h1, .inr ⟨⟨hA1, hB1⟩, h2.zero_false (by
      have : (0 : Int) < 2 ^ 1060 := by decide
      (clear hx hy hA hB hz hA1 hB1 hAB h1 h2 h5 h6 this; lia)), h2, h3, h4, h5, h6⟩⟩
theorem floats_of {items : Array Value} {n : Nat} {w : Nat → Int} (hs : items.size = n) (h : ∀ j, j < n → ∃ f t, items[j]? = some (.float f t) ∧ E 1073 f (w j)) : ∃ fs, FloatsAre items.toList fs ∧ EL 1073 fs ((List.range n).map w) := by
  have main : ∀ (l : List Value) (k : Nat), (∀ j, j < l.length → ∃ f t, l[j]? = some (.float f t) ∧ E 1073 f (w (k + j))) → ∃ fs, FloatsAre l fs ∧ EL 1073 fs ((List.range' k l.length).map w) := by
    intro l
    induction l with
    | nil => intro k _; exact ⟨[], .nil, .nil⟩
    | cons v l ih =>
      intro k h
      obtain ⟨f, t, e1, e2⟩ := h 0 (by simp)
      have e1 : v = .float f t := by simpa using e1
      subst e1
      obtain ⟨fs, a1, a2⟩ := ih (k + 1) fun j hj => by
        obtain ⟨f', t', q1, q2⟩ := h (j + 1) (by simpa using hj)
        exact ⟨f', t', by simpa using q1, by rw [show k + 1 + j = k + (j + 1) by (clear hs ih e2 h e1 hj q1 q2; lia)]; exact q2⟩
      refine ⟨f :: fs, .cons _ _ a1, ?_⟩
      rw [List.length_cons, List.range'_succ, List.map_cons]
      exact .cons e2 a2
  have := main items.toList 0 fun j hj => by
    have hj : j < n := by rw [← hs]; simpa using hj
    obtain ⟨f, t, q1, q2⟩ := h j hj
    exact ⟨f, t, by simpa using q1, by rw [Nat.zero_add]; exact q2⟩
  rw [Array.length_toList, hs, ← List.range_eq_range'] at this
  exact this
end Mine
end
local macro_rules | `(tactic| walk_at "pad 12") => `(tactic| fail)
section
open PySem PySem.W PySem.Calls PyProof.Rows PySem.Flt
set_option maxRecDepth 100000
set_option maxHeartbeats 8000000
open Mine
namespace Two
local macro_rules | `(tactic| walk_at "call builtin:len") => `(tactic| refine Hold.out ?_)
local macro_rules | `(tactic| walk_at "call ref") => `(tactic| refine Hold.out ?_)
local macro_rules | `(tactic| walk_at "exec Try") => `(tactic| refine Hold.out ?_)
local macro_rules | `(tactic| walk_at "exec Raise") => `(tactic| refine Hold.out ?_)
local macro_rules | `(tactic| walk_at "binaryOp Div") => `(tactic| refine Hold.out ?_)
local macro_rules | `(tactic| walk_at "call builtin:math.sumprod") => `(tactic| refine Hold.out ?_)
local macro_rules | `(tactic| walk_at "ite") => `(tactic| first | refine ite_neg (by first | omega | (simp; done) | (simp [*]; done) | (simp; omega)) ?_ | refine ite_pos (by first | omega | (simp; done) | (simp [*]; done) | (simp; omega)) ?_)
/-- the quotient that correlation by ranks makes of two rows of weights -/
structure RkFloat (W V : List Int) (q : UInt64) : Prop where
  ex : ∃ (sxy sxx syy so : UInt64) (A B : Nat), Mine.E 1072 sxy (dotI W V) ∧ Mine.E 1072 sxx (dotI W W) ∧ Mine.E 1072 syy (dotI V V) ∧ (A : Int) = dotI W W ∧ (B : Int) = dotI V V ∧ 1 ≤ A ∧ 1 ≤ B ∧ RootOk A B so ∧ q = Float64.div sxy so
theorem wt_bound (n : Nat) (xv : Nat → Int) (j : Nat) : (Wt n xv j).natAbs ≤ n := by
  have h1 : ((List.range n).filter fun k => decide (xv k < xv j)).length ≤ n := by
    have := List.length_filter_le (fun k => decide (xv k < xv j)) (List.range n); simpa using this
  have h2 : ((List.range n).filter fun k => decide (xv j < xv k)).length ≤ n := by
    have := List.length_filter_le (fun k => decide (xv j < xv k)) (List.range n); simpa using this
  unfold Wt; omega
theorem dot_self : ∀ W : List Int, 0 ≤ dotI W W
  | [] => by decide
  | a :: W => by
    have := dot_self W
    have e : dotI (a :: W) (a :: W) = a * a + dotI W W := by simp [dotI]
    have h2 : 0 ≤ a * a := by
      rcases Int.le_total 0 a with h | h
      · exact Int.mul_nonneg h h
      · have := Int.mul_nonneg (Int.neg_nonneg_of_nonpos h) (Int.neg_nonneg_of_nonpos h)
        rwa [Int.neg_mul_neg] at this
    rw [e]; omega
theorem corr_two {w : World} {p : Program} {loose : List Str} {mean : ExcName → Option Value} {mg mb : Str → Option Value} {e1 e2 : Env} {s : Shared} {base : Heap} {envs : List Env} {Q E : Value → Shared → Prop}
  {D D2 : Addr} {xs ys : Array Value} {n : Nat} {tm : Tok} {xv yv : Nat → Int} {xt yt : Nat → Tok}
  (X : (Two.hd.heap_1 w.params).In base) (T : Top p loose mean mg mb base) (B : Below ((callerA.deeper e1).deeper e2) base envs s.heap)
  (hl : s.heap.IsList D xs) (hxs : xs.size = n) (hl2 : s.heap.IsList D2 ys) (hys : ys.size = n) (hn2 : 2 ≤ n) (hn : n ≤ 20)
  (hx : ∀ k, k < n → xs[k]? = some (.int (xv k) (xt k))) (htx : ∀ k, k < n → xt k ≠ 0) (ijx : ∀ j k, j < n → k < n → xt j = xt k → xv j = xv k)
  (hy : ∀ k, k < n → ys[k]? = some (.int (yv k) (yt k))) (hty : ∀ k, k < n → yt k ≠ 0) (ijy : ∀ j k, j < n → k < n → yt j = yt k → yv j = yv k)
  (h : ∀ h' tk' q t, Calm [] (envs.filterMap (·.frame)) s.heap h' → RkFloat ((List.range n).map (Wt n xv)) ((List.range n).map (Wt n yv)) q → Q (.float q t) {s with heap := h', toks := tk'})
  (hE : ∀ h' tk' e, dotI ((List.range n).map (Wt n xv)) ((List.range n).map (Wt n xv)) * dotI ((List.range n).map (Wt n yv)) ((List.range n).map (Wt n yv)) = 0 → FliesC envs e (.ref 59) s.heap h' → E (.ref e) {s with heap := h', toks := tk'}) :
  wpAny (model PySem.Challenge.rw_kp0009_02.row.prog w) ((callerA.deeper e1).deeper e2) (call (.ref 291) [.ref D, .ref D2] [(Str.ofString "method", .str (Str.ofString "ranked") tm)]) Q E s := by
  revert X; w_top off; k_fill; intro X
  have X1 := Frag.In.keeps X B.stays
  have T1 := Top.keeps T B.stays
  refine wpAny_call ?_
  refine enterC X1 T1.nolimit (by k_is) (by k_is) (by k_room) (by exact kp_binds X1 (fun _ => rfl)) rfl (by decide +kernel) ?_ rfl rfl rfl
  intro L' h₁ tk cells F N Y
  k_cells Y
  dsimp only
  obtain ⟨mm, Fm⟩ := Fr.veil3 F (Str.ofString "x") (Str.ofString "y") (Str.ofString "method") rfl rfl rfl
  clear F
  have F := Fm
  clear Fm
  k_steps
  refine Hold.mk ?_
  (k_here; k_dflt (refine' len_K ?l ?n ?b ?_; (case l => exact stays_list (Fr.keep (by k_asm)) (by assumption)); (case n => assumption); (case b => omega)))
  k_steps
  refine Hold.mk ?_
  (k_here; k_dflt (refine' len_K ?l ?n ?b ?_; (case l => exact stays_list (Fr.keep (by k_asm)) (by assumption)); (case n => assumption); (case b => omega)))
  k_steps
  refine Hold.mk ?_
  (rename Fr _ _ _ _ => F'); (rename News _ _ _ _ => N')
  have hszL : s.heap.objs.size ≤ L' := F'.above
  have fL : s.heap.get? L' = none := Heap.get?_none_of_le hszL
  have C1 : Calm [] (envs.filterMap (·.frame)) s.heap _ := Calm.of_keeps F'.keep
  have hst : Mine.E 1073 (Float64.ofFrac (decide ((n : Int) - 1 < 0) != decide ((-2 : Int) < 0)) ((n : Int) - 1).natAbs (-2 : Int).natAbs) (1 - n) := by
    rw [show (1 - (n : Int)) = -((n : Int) - 1) by (clear T B hl hxs hl2 hys hn2 hn hx htx ijx hy hty ijy h hE X X1 T1 F' N' hszL fL C1; lia)]
    exact half_neg _ (by (clear T B hl hxs hl2 hys hx htx ijx hy hty ijy h hE X X1 T1 F' N' hszL fL C1; lia)) (by (clear T B hl hxs hl2 hys hx htx ijx hy hty ijy h hE X X1 T1 F' N' hszL fL C1; omega))
  refine rank_spec (base := base) (D := D) (xs := xs) (n := n) (xv := xv) (xt := xt) (by k_room) rfl X T (pushX B F' rfl rfl) (hl.at fun o e => F'.keep _ o e) hxs hx hn2 (by (clear T B hl hxs hl2 hys hx htx ijx hy hty ijy h hE X X1 T1 F' N' hszL fL C1 hst; (exact Nat.lt_of_le_of_lt (by assumption) (by decide)))) htx ijx hst ?_
  intro h7 tk7 R1 it1 C7 f7 L7 sz7 d7
  have Cx := Calm.below C1 C7 fL (fun b hb => nomatch hb)
  have ns7 := C7.up.ns F'.ns
  have fR1 := none_base F'.keep f7
  have nR1 : R1 ≠ L' := fun q => by
    obtain ⟨_, _, _, e2, _⟩ := F'.ns
    rw [q] at f7; exact absurd (e2.symm.trans f7) (by simp)
  obtain ⟨oR1, gR1, cR1, dR1⟩ := L7
  clear C7 F' N' f7 C1
  obtain ⟨g1, Rb, F1, N1⟩ := rebase (n0 := s.heap.objs.size) (news := [(R1, oR1)]) ns7 hszL (fun p hp => by obtain rfl := List.mem_singleton.mp hp; exact ⟨gR1, nR1⟩)
  have hl1 : ∀ b ∈ fsts [(R1, oR1)], s.heap.get? b = none := fun b hb => by
    simp only [fsts, List.map_cons, List.map_nil] at hb
    obtain rfl := List.mem_singleton.mp hb; exact fR1
  have X2 := Frag.In.keeps X (Rb.stays B Cx hl1)
  have T2 := Top.keeps T (Rb.stays B Cx hl1)
  k_steps
  refine Hold.mk ?_
  (rename Fr _ _ _ _ => F'); (rename News _ _ _ _ => N')
  have C2 := Rb.calm Cx hl1 F'.keep
  refine rank_spec (base := base) (D := D2) (xs := ys) (n := n) (xv := yv) (xt := yt) (by k_room) rfl X T (pushX (Rb.below B Cx hl1) F' rfl rfl) (isList_up C2.up hl2) hys hy hn2 (by (clear T B hl hxs hl2 hys hx htx ijx hy hty ijy h hE X X1 T1 hszL fL hst d7 Cx ns7 fR1 nR1 gR1 cR1 dR1 Rb hl1 X2 T2 F' N' C2; (exact Nat.lt_of_le_of_lt (by assumption) (by decide)))) hty ijy hst ?_
  intro h8 tk8 R2 it2 C8 f8 L8 sz8 d8
  have C9 := Calm.below C2 C8 fL (fun b hb => nomatch hb)
  have ns8 := C8.up.ns F'.ns
  have fR2 : s.heap.get? R2 = none := by
    cases q : s.heap.get? R2 with
    | none => rfl
    | some o =>
      by_cases hm : R2 ∈ envs.filterMap (·.frame)
      · obtain ⟨o', q1, q2⟩ := (B.frames.mem hm).2
        obtain ⟨sl, e4⟩ := C2.up R2 o' q1 q2
        rw [show _ = none from f8] at e4; cases e4
      · rw [C2.rest R2 o (fun z => nomatch z) hm q] at f8; cases f8
  have nR2 : R2 ≠ L' := fun q => by
    obtain ⟨_, _, _, e2, _⟩ := F'.ns
    rw [q] at f8; exact absurd (e2.symm.trans f8) (by simp)
  obtain ⟨oR2, gR2, cR2, dR2⟩ := L8
  have hnf : R1 ∉ envs.filterMap (·.frame) := fun hm => by
    obtain ⟨o, ho⟩ := Below.has B _ hm
    rw [fR1] at ho; cases ho
  have gR1b := C8.rest _ _ (fun z => nomatch z) (fun z => (List.mem_cons.mp z).elim nR1 hnf) (N'.get (.head _))
  clear C8 F' N' f8 C2 Rb X2 T2
  obtain ⟨g2, Rb, F1, N1⟩ := rebase (n0 := s.heap.objs.size) (news := [(R2, oR2), (R1, oR1)]) ns8 hszL (fun p hp => by
    rcases List.mem_cons.mp hp with rfl | hp
    · exact ⟨gR2, nR2⟩
    · obtain rfl := List.mem_singleton.mp hp; exact ⟨gR1b, nR1⟩)
  have hl2' : ∀ b ∈ fsts [(R2, oR2), (R1, oR1)], s.heap.get? b = none := fun b hb => by
    simp only [fsts, List.map_cons, List.map_nil] at hb
    rcases List.mem_cons.mp hb with rfl | hb
    · exact fR2
    · obtain rfl := List.mem_singleton.mp hb; exact fR1
  have X2 := Frag.In.keeps X (Rb.stays B C9 hl2')
  have T2 := Top.keeps T (Rb.stays B C9 hl2')
  obtain ⟨fx, ax, ex⟩ := floats_of sz7 d7
  obtain ⟨fy, ay, ey⟩ := floats_of sz8 d8
  have lw : ∀ v : Nat → Int, ((List.range n).map (Wt n v)).length = n := fun v => by simp
  have bw : ∀ (v : Nat → Int), ∀ a ∈ (List.range n).map (Wt n v), a.natAbs ≤ 20 := fun v a ha => by
    obtain ⟨j, _, rfl⟩ := List.mem_map.mp ha
    exact Nat.le_trans (wt_bound n v j) hn
  have bd : ∀ u v : Nat → Int, (dotI ((List.range n).map (Wt n u)) ((List.range n).map (Wt n v))).natAbs ≤ 8000 := fun u v => by
    refine Nat.le_trans (dot_bound (bw u) (bw v)) ?_
    rw [lw]
    exact Nat.mul_le_mul_right (20 * 20) hn
  have l400 : n * (20 * 20) ≤ 2 ^ 53 := Nat.le_trans (Nat.mul_le_mul_right _ hn) (by decide)
  obtain ⟨rxy, s1, q1⟩ := sp_float (d := 1073) (e := 1073) (f := 1072) rfl (by decide) ex ey ((lw _).trans (lw _).symm) (bw _) (bw _) (by rw [lw]; exact l400) (Nat.le_trans (bd _ _) (by decide))
  obtain ⟨rxx, s2, q2⟩ := sp_float (d := 1073) (e := 1073) (f := 1072) rfl (by decide) ex ex rfl (bw _) (bw _) (by rw [lw]; exact l400) (Nat.le_trans (bd _ _) (by decide))
  obtain ⟨ryy, s3, q3⟩ := sp_float (d := 1073) (e := 1073) (f := 1072) rfl (by decide) ey ey rfl (bw _) (bw _) (by rw [lw]; exact l400) (Nat.le_trans (bd _ _) (by decide))
  have nex : fx ≠ [] := fun q => by
    have := ax.length
    rw [q, Array.length_toList, sz7] at this
    simp at this; (clear T B hl hxs hl2 hys hx htx ijx hy hty ijy h hE X X1 T1 hszL fL hst d7 Cx ns7 fR1 nR1 gR1 cR1 dR1 hl1 d8 C9 ns8 fR2 nR2 gR2 cR2 dR2 hnf gR1b Rb F1 N1 hl2' X2 T2 ax ex ay ey lw bw bd l400 s1 q1 s2 q2 s3 q3 q; lia)
  have ney : fy ≠ [] := fun q => by
    have := ay.length
    rw [q, Array.length_toList, sz8] at this
    simp at this; (clear T B hl hxs hl2 hys hx htx ijx hy hty ijy h hE X X1 T1 hszL fL hst d7 Cx ns7 fR1 nR1 gR1 cR1 dR1 hl1 d8 C9 ns8 fR2 nR2 gR2 cR2 dR2 hnf gR1b Rb F1 N1 hl2' X2 T2 ax ex ay ey lw bw bd l400 s1 q1 s2 q2 s3 q3 nex q; lia)
  k_steps
  refine Hold.mk ?_
  (rename Fr _ _ _ _ => F2); (rename News _ _ _ _ => N2)
  refine sumprod_K F2 N2 rfl (.inl ⟨oR1, N2.get (.tail _ (.head _)), cR1, dR1⟩) (.inl ⟨oR2, N2.get (.head _), cR2, dR2⟩) ax ay nex s1 ?_
  intro h3 tk3 t3 F3 N3
  clear F2 N2
  k_steps
  refine Hold.mk ?_
  (rename Fr _ _ _ _ => F2); (rename News _ _ _ _ => N2)
  refine sumprod_K F2 N2 rfl (.inl ⟨oR1, N2.get (.tail _ (.head _)), cR1, dR1⟩) (.inl ⟨oR1, N2.get (.tail _ (.head _)), cR1, dR1⟩) ax ax nex s2 ?_
  intro h3 tk3 t3 F3 N3
  clear F2 N2
  k_steps
  refine Hold.mk ?_
  (rename Fr _ _ _ _ => F2); (rename News _ _ _ _ => N2)
  refine sumprod_K F2 N2 rfl (.inl ⟨oR2, N2.get (.head _), cR2, dR2⟩) (.inl ⟨oR2, N2.get (.head _), cR2, dR2⟩) ay ay ney s3 ?_
  intro h3 tk3 t3 F3 N3
  clear F2 N2
  generalize Float64.add (Float64.ofInt 0) (Builtin.Math.tlToFloat rxy) = sxy at q1 F3 ⊢
  generalize Float64.add (Float64.ofInt 0) (Builtin.Math.tlToFloat rxx) = sxx at q2 F3 ⊢
  generalize Float64.add (Float64.ofInt 0) (Builtin.Math.tlToFloat ryy) = syy at q3 F3 ⊢
  obtain ⟨A, hA⟩ := Int.eq_ofNat_of_zero_le (dot_self ((List.range n).map (Wt n xv)))
  obtain ⟨Bn, hB⟩ := Int.eq_ofNat_of_zero_le (dot_self ((List.range n).map (Wt n yv)))
  have hA8 : A ≤ 2 ^ 20 := by have := bd xv xv; rw [hA] at this; exact Nat.le_trans this (by decide)
  have hB8 : Bn ≤ 2 ^ 20 := by have := bd yv yv; rw [hB] at this; exact Nat.le_trans this (by decide)
  obtain ⟨so, hrun, hso⟩ := sq_any (hA ▸ q2) (hB ▸ q3) hA8 hB8
  k_steps
  refine Hold.mk ?_
  refine wpAny_Try_except ?_
  k_steps
  refine Hold.mk ?_
  (rename Fr _ _ _ _ => F2); (rename News _ _ _ _ => N2)
  refine sqrtprod_two (base := base) X T (fun b o e => F2.keep b o (Rb.stays B C9 hl2' b o e)) hrun ?_
  intro h4 tk4 t4 k4
  have F4 := F2.keeps k4
  clear F2 N2 k4
  k_steps
  · (rename Fr _ _ _ _ => F'); (rename Heap.NewExc _ _ _ _ => hx')
    have hz : Float64.isZero so = true := by assumption
    refine reraise (base := base) (mg := mg) (mb := mb) (X := "ZeroDivisionError") (x := "ZeroDivisionError") (y := "StatisticsError") (C := 59) (Rb.below B C9 hl2') F' hx' rfl rfl rfl rfl T.g T.b (ns_none_of X T.g (by k_is)) ((T.builtins _ (by decide)).trans PyProof.Rows.Boot.«ZeroDivisionError») rfl rfl (by decide) (by decide)
      PySem.F.isExc_ZeroDivisionError PySem.F.notTuple_ZeroDivisionError (by rw [isSubtype_type]; kernel_rfl) (own_of_in X (topRead_of T) (by k_is) (by k_exc)) PySem.F.excBase_ValueError ?_
    intro h' e' t tk tk' f1 f2 f3 f4
    refine hE h' tk' e' ?_ (FliesC.of_reb C9 Rb hl2' f1 f4)
    rw [hA, hB]
    rcases hso with ⟨q | q, _⟩ | ⟨_, q, _⟩
    · rw [q]; exact Int.zero_mul _
    · rw [q]; exact Int.mul_zero _
    · rw [hz] at q; cases q
  · (rename Fr _ _ _ _ => F')
    have hz : ¬ Float64.isZero so = true := by assumption
    rcases hso with ⟨_, q⟩ | ⟨⟨q4, q5⟩, _, q6⟩
    · exact absurd q hz
    · exact h _ _ _ _ (Rb.calm C9 hl2' F'.keep) ⟨sxy, sxx, syy, so, A, Bn, q1, q2, q3, hA.symm, hB.symm, q4, q5, q6, rfl⟩
end Two
end
section
open PySem PySem.W PySem.Calls PyProof.Rows PyProof.Rows.TI
set_option maxRecDepth 100000
namespace Mine
section
variable {prog : Program} {w : World} {A : Around} {s : Shared} {env : Env}
/-- raise of an own class with a written text: it leaves the frame -/
theorem raise_out {base g h0 : Heap} {outer : List Env} {L : Addr} {m mg : Str → Option Value} {y msg : Str} {np2 pos cpos kpos : Pos} {kk : Nat} {E0 : Value → Shared → Prop} {Q : Flow → Shared → Prop} {Bn newId initId : String} {C : Addr} {bm : List Value}
    (B : Below A base outer h0) (Cm : Calm [] (outer.filterMap (·.frame)) h0 s.heap) (F : Fr g L s.heap m) (bs : ∀ b o, base.get? b = some o → s.heap.get? b = some o) (hL : h0.objs.size ≤ L) (hf : env.frame = some L) (hk : env.scope.kind = .function) (hgl : env.globals = mainGlobals)
    (hg : base.Ns mainGlobals mg) (hyk : env.kindOf y = some .globalImplicit) (hyd : (y == ("__debug__" : Str)) = false) (hh : A.handled = none)
    (O : OwnCls y C bm newId mg base) (FB : ExcBaseFacts Bn newId initId bm)
    (hE : ∀ h' e tk, FliesC outer e (.ref C) h0 h' → E0 (.ref e) { s with heap := h', toks := tk })
    (he : starEach [.Constant (.str msg) kk kpos] env = [(false, eval (.Constant (.str msg) kk kpos) env)] := by rfl) :
    wpAny (model prog w) (A.deeper env) (exec (.Raise (some (.Call (.Name y np2) [.Constant (.str msg) kk kpos] [] cpos)) none pos) env) Q
      (fun e s' => wpAny (model prog w) (A.deeper env) (leaving env e) (fun _ s'' => E0 e s'') (fun e' s'' => E0 e' s'') s') s := by
  obtain ⟨tl, N, nm, q, bsl, hdct, sn, sub, ab, col, dd, k0, k1', k2', k3', k5', mN, hC, hN, hni, T⟩ := O.obj
  refine wpAny_Raise_call_subT (C := C) (nm := nm) (q := q) (N := N) (bs := bsl) (bm := tl) (hdct := hdct) (sn := sn) (sub := sub) (ab := ab) (col := col) (dd := dd) (k0 := k0) (k1 := k1') (k2 := k2') (k3 := k3') (k5 := k5')
    FB (mN := mN) (T.hasType FB.hasBase) hh (by rw [he]; rfl) hni ?_
  refine Name_function_global hk hyk (loadGlobal_global (by rw [hgl]; exact hg.keeps bs) O.bound ⟨rfl, ?_⟩) hyd
  rw [he]
  show wpAny _ _ (evalArgs (.ref C) true [(false, eval (.Constant (.str msg) kk kpos) env)] []) _ _ _
  refine evalArgs_plain (spliced_cons (Constant_str (k := kk) (pos := kpos) (spliced_nil ?_)))
  refine ⟨rfl, (by show 1 ≤ sizeLine; decide), bs _ _ hC, hN.keeps bs, T.keeps bs, fun h5 e1 hm => ?_⟩
  exact leave_madeC B Cm hf hk F.ns hL hm fun h' hfl => hE h' e1 _ hfl
end
end Mine
end
section
open PySem PySem.W PySem.Calls PyProof.Rows PySem.Flt
set_option maxRecDepth 100000
set_option maxHeartbeats 8000000
open Mine
namespace Two
local macro_rules | `(tactic| walk_at "call builtin:len") => `(tactic| refine Hold.out ?_)
local macro_rules | `(tactic| walk_at "exec Raise") => `(tactic| refine Hold.out ?_)
local macro_rules | `(tactic| walk_at "exec Raise some none") => `(tactic| refine Hold.out ?_)
local macro_rules | `(tactic| walk_at "ite") => `(tactic| first | refine ite_neg (by first | omega | (simp; done) | (simp [*]; done) | (simp; omega)) ?_ | refine ite_pos (by first | omega | (simp; done) | (simp [*]; done) | (simp; omega)) ?_)
/-- correlation of unlike or too few points, whatever the method -/
theorem corr_bad {w : World} {p : Program} {loose : List Str} {mean : ExcName → Option Value} {mg mb : Str → Option Value} {e1 e2 : Env} {s : Shared} {base : Heap} {envs : List Env} {Q E : Value → Shared → Prop}
  {D D2 : Addr} {xs ys : Array Value} {n k : Nat} {nm : Str} {tm : Tok}
  (X : (Two.hd.heap_1 w.params).In base) (T : Top p loose mean mg mb base) (B : Below ((callerA.deeper e1).deeper e2) base envs s.heap)
  (hl : s.heap.IsList D xs) (hxs : xs.size = n) (hl2 : s.heap.IsList D2 ys) (hys : ys.size = k) (hbad : k ≠ n ∨ n < 2) (hn : n ≤ 40) (hk : k ≤ 40)
  (hE : ∀ h' tk' e, FliesC envs e (.ref 59) s.heap h' → E (.ref e) {s with heap := h', toks := tk'}) :
  wpAny (model PySem.Challenge.rw_kp0009_02.row.prog w) ((callerA.deeper e1).deeper e2) (call (.ref 291) [.ref D, .ref D2] [(Str.ofString "method", .str nm tm)]) Q E s := by
  revert X; w_top off; k_fill; intro X
  have X1 := Frag.In.keeps X B.stays
  have T1 := Top.keeps T B.stays
  refine wpAny_call ?_
  refine enterC X1 T1.nolimit (by k_is) (by k_is) (by k_room) (by exact kp_binds X1 (fun _ => rfl)) rfl (by decide +kernel) ?_ rfl rfl rfl
  intro L' h₁ tk cells F N Y
  k_cells Y
  dsimp only
  have hszL : s.heap.objs.size ≤ L' := F.above
  have out : ∀ (hz : Heap) (m : Str → Option Value), Fr s.heap L' hz m → Calm [] (envs.filterMap (·.frame)) s.heap hz ∧ ∀ b o, base.get? b = some o → hz.get? b = some o := fun hz m Fz => ⟨Calm.of_keeps Fz.keep, fun b o e => Fz.keep b o (B.stays b o e)⟩
  k_steps
  refine Hold.mk ?_
  (k_here; k_dflt (refine' len_K ?l ?n ?b ?_; (case l => exact stays_list (Fr.keep (by k_asm)) (by assumption)); (case n => assumption); (case b => omega)))
  k_steps
  refine Hold.mk ?_
  (k_here; k_dflt (refine' len_K ?l ?n ?b ?_; (case l => exact stays_list (Fr.keep (by k_asm)) (by assumption)); (case n => assumption); (case b => omega)))
  k_steps
  · refine Hold.mk ?_
    (rename Fr _ _ _ _ => F')
    exact raise_out B (out _ _ F').1 F' (out _ _ F').2 hszL rfl rfl rfl T.g (by rfl) (by decide) rfl (own_of_in X (topRead_of T) (by k_is) (by k_exc)) PySem.F.excBase_ValueError fun h' e tk hf => hE _ _ _ hf
  · have hn2 : n < 2 := by (clear T B hl hxs hl2 hn hE X X1 T1 hszL out; lia)
    k_steps
    refine Hold.mk ?_
    (rename Fr _ _ _ _ => F')
    exact raise_out B (out _ _ F').1 F' (out _ _ F').2 hszL rfl rfl rfl T.g (by rfl) (by decide) rfl (own_of_in X (topRead_of T) (by k_is) (by k_exc)) PySem.F.excBase_ValueError fun h' e tk hf => hE _ _ _ hf
end Two
end
section
open PySem PySem.W PySem.Calls PyProof.Rows PySem.Flt
set_option maxRecDepth 100000
set_option maxHeartbeats 8000000
open Mine
namespace Two
local macro_rules | `(tactic| walk_at "call ref") => `(tactic| refine Hold.out ?_)
local macro_rules | `(tactic| walk_at "exec Try") => `(tactic| refine wpAny_Try_except ?_)
/-- what _law_told answers: the list that holds the one float, or the empty list -/
def ToldRes (n k : Nat) (xv yv : Nat → Int) (ws : Array Value) : Prop :=
  (k = n ∧ 2 ≤ n ∧ ∃ q t, ws = #[.float q t] ∧ RkFloat ((List.range n).map (Wt n xv)) ((List.range n).map (Wt n yv)) q) ∨
  (ws = #[] ∧ (k = n → 2 ≤ n → dotI ((List.range n).map (Wt n xv)) ((List.range n).map (Wt n xv)) * dotI ((List.range n).map (Wt n yv)) ((List.range n).map (Wt n yv)) = 0))
theorem told_spec {w : World} {p : Program} {loose : List Str} {mean : ExcName → Option Value} {mg mb : Str → Option Value} {e1 : Env} {s : Shared} {base : Heap} {envs : List Env} {Q E : Value → Shared → Prop}
  {D D2 : Addr} {xs ys : Array Value} {n k : Nat} {xv yv : Nat → Int} {xt yt : Nat → Tok}
  (X : (Two.hd.heap_1 w.params).In base) (T : Top p loose mean mg mb base) (B : Below (callerA.deeper e1) base envs s.heap)
  (hl : s.heap.IsList D xs) (hxs : xs.size = n) (hl2 : s.heap.IsList D2 ys) (hys : ys.size = k) (hn : n ≤ 20) (hk : k ≤ 21)
  (hx : ∀ k, k < n → xs[k]? = some (.int (xv k) (xt k))) (htx : ∀ k, k < n → xt k ≠ 0) (ijx : ∀ j k, j < n → k < n → xt j = xt k → xv j = xv k)
  (hy : k = n → ∀ k, k < n → ys[k]? = some (.int (yv k) (yt k))) (hty : k = n → ∀ k, k < n → yt k ≠ 0) (ijy : k = n → ∀ j k, j < n → k < n → yt j = yt k → yv j = yv k)
  (h : ∀ h' tk' a ws, Calm [] (envs.filterMap (·.frame)) s.heap h' → s.heap.get? a = none → h'.IsList a ws → ToldRes n k xv yv ws → Q (.ref a) {s with heap := h', toks := tk'}) :
  wpAny (model PySem.Challenge.rw_kp0009_02.row.prog w) (callerA.deeper e1) (call (.ref 298) [.ref D, .ref D2]) Q E s := by
  revert X; w_top off; k_fill; intro X
  have X1 := Frag.In.keeps X B.stays
  have T1 := Top.keeps T B.stays
  refine wpAny_call ?_
  refine enterP X1 T1.nolimit (by k_is) (by k_is) (by k_room) (by exact BindsTo.of_eq rfl) (locs rfl) ?_ (by decide) rfl rfl rfl
  intro L' h₁ F N
  dsimp only
  have hszL : s.heap.objs.size ≤ L' := F.above
  k_steps
  refine Hold.mk ?_
  show wpAny _ _ (call (Value.ref 291) [.ref D, .ref D2] [(Str.ofString "method", .str (Str.ofString "ranked") _)]) _ _ _
  (rename Fr _ _ _ _ => F'); (rename News _ _ _ _ => N')
  have hszL : s.heap.objs.size ≤ L' := F'.above
  have fL : s.heap.get? L' = none := Heap.get?_none_of_le hszL
  have C1 : Calm [] (envs.filterMap (·.frame)) s.heap _ := Calm.of_keeps F'.keep
  have l1 := hl.at fun o e => F'.keep _ o e
  have l2 := hl2.at fun o e => F'.keep _ o e
  by_cases hc : k = n ∧ 2 ≤ n
  · obtain ⟨rfl, hn2⟩ := hc
    refine corr_two X T (pushX B F' rfl rfl) l1 hxs l2 hys hn2 hn hx htx ijx (hy rfl) (hty rfl) (ijy rfl) (fun h7 tk7 q t C7 hq => ?_) (fun h7 tk7 e h0 fe => ?_)
    · have Cx := Calm.below C1 C7 fL (fun b hb => nomatch hb)
      have ns7 := C7.up.ns F'.ns
      clear C7 F' N' C1
      obtain ⟨g1, Rb, F1, N1⟩ := rebase (n0 := s.heap.objs.size) (news := []) ns7 hszL (fun p hp => nomatch hp)
      have hl1 : ∀ b ∈ fsts [], s.heap.get? b = none := fun b hb => nomatch hb
      k_steps
      (rename Fr _ _ _ _ => F'); (rename News _ _ _ _ => N')
      exact h _ _ _ #[_] (Rb.calm Cx hl1 F'.keep) (Rb.fresh B Cx hl1 (N' _ (.head _)).2.2) ⟨_, (N' _ (.head _)).1, rfl, _, rfl⟩ (.inl ⟨rfl, hn2, q, t, rfl, hq⟩)
    · dsimp only
      refine caught_own (base := base) (C := 59) (bmB := [.type "ValueError", .type "Exception", .type "BaseException", .type "object"]) (newId := "ValueError.__new__") B F' fe rfl rfl rfl T.g (own_of_in X (topRead_of T) (by k_is) (by k_exc)) (by decide) (fun h8 C8 ns8 => ?_) rfl (by decide)
      have Cx := Calm.below C1 C8 fL (fun b hb => nomatch hb)
      clear C8 F' N' C1 fe
      obtain ⟨g1, Rb, F1, N1⟩ := rebase (n0 := s.heap.objs.size) (news := []) ns8 hszL (fun p hp => nomatch hp)
      have hl1 : ∀ b ∈ fsts [], s.heap.get? b = none := fun b hb => nomatch hb
      k_steps
      (rename Fr _ _ _ _ => F'); (rename News _ _ _ _ => N')
      exact h _ _ _ #[] (Rb.calm Cx hl1 F'.keep) (Rb.fresh B Cx hl1 (N' _ (.head _)).2.2) ⟨_, (N' _ (.head _)).1, rfl, _, rfl⟩ (.inr ⟨rfl, fun _ _ => h0⟩)
  · refine corr_bad X T (pushX B F' rfl rfl) l1 hxs l2 hys (by (clear T B hl hl2 hys hk hx htx ijx hy hty ijy h X X1 T1 F' N' hszL fL C1 l1 l2; lia)) (by (clear T B hl hl2 hys hk hx htx ijx hy hty ijy h X X1 T1 F' N' hszL fL C1 l1 l2 hc; (exact Nat.le_trans (by assumption) (by decide)))) (by (clear T B hl hxs hl2 hn hx htx ijx hy hty ijy h X X1 T1 F' N' hszL fL C1 l1 l2 hc; (exact Nat.le_trans (by assumption) (by decide)))) (fun h7 tk7 e fe => ?_)
    dsimp only
    refine caught_own (base := base) (C := 59) (bmB := [.type "ValueError", .type "Exception", .type "BaseException", .type "object"]) (newId := "ValueError.__new__") B F' fe rfl rfl rfl T.g (own_of_in X (topRead_of T) (by k_is) (by k_exc)) (by decide) (fun h8 C8 ns8 => ?_) rfl (by decide)
    have Cx := Calm.below C1 C8 fL (fun b hb => nomatch hb)
    clear C8 F' N' C1 fe
    obtain ⟨g1, Rb, F1, N1⟩ := rebase (n0 := s.heap.objs.size) (news := []) ns8 hszL (fun p hp => nomatch hp)
    have hl1 : ∀ b ∈ fsts [], s.heap.get? b = none := fun b hb => nomatch hb
    k_steps
    (rename Fr _ _ _ _ => F'); (rename News _ _ _ _ => N')
    exact h _ _ _ #[] (Rb.calm Cx hl1 F'.keep) (Rb.fresh B Cx hl1 (N' _ (.head _)).2.2) ⟨_, (N' _ (.head _)).1, rfl, _, rfl⟩ (.inr ⟨rfl, fun q1 q2 => absurd ⟨q1, q2⟩ hc⟩)
end Two
end
section
open PySem PySem.W PySem.Calls PyProof.Rows PySem.Flt
set_option maxRecDepth 100000
set_option maxHeartbeats 8000000
open Mine
namespace Two
local macro_rules | `(tactic| walk_at "call builtin:len") => `(tactic| refine Hold.out ?_)
local macro_rules | `(tactic| walk_at "exec Raise") => `(tactic| refine Hold.out ?_)
local macro_rules | `(tactic| walk_at "exec Raise some none") => `(tactic| refine Hold.out ?_)
local macro_rules | `(tactic| walk_at "ite") => `(tactic| first | refine ite_neg (by first | omega | (simp; done) | (simp [*]; done) | (simp; omega)) ?_ | refine ite_pos (by first | omega | (simp; done) | (simp [*]; done) | (simp; omega)) ?_)
/-- correlation by a method of another name -/
theorem corr_unknown {w : World} {p : Program} {loose : List Str} {mean : ExcName → Option Value} {mg mb : Str → Option Value} {e1 e2 : Env} {s : Shared} {base : Heap} {envs : List Env} {Q E : Value → Shared → Prop}
  {D D2 : Addr} {xs ys : Array Value} {n : Nat} {nm : Str} {tm : Tok}
  (X : (Two.hd.heap_1 w.params).In base) (T : Top p loose mean mg mb base) (B : Below ((callerA.deeper e1).deeper e2) base envs s.heap)
  (hl : s.heap.IsList D xs) (hxs : xs.size = n) (hl2 : s.heap.IsList D2 ys) (hys : ys.size = n) (hn2 : 2 ≤ n) (hn : n ≤ 40) (hnm : nm = Str.ofString "rank" ∨ nm = Str.ofString "Ranked" ∨ nm = Str.ofString "linear " ∨ nm = Str.ofString "")
  (hE : ∀ h' tk' e, FliesC envs e (.type "ValueError") s.heap h' → E (.ref e) {s with heap := h', toks := tk'}) :
  wpAny (model PySem.Challenge.rw_kp0009_02.row.prog w) ((callerA.deeper e1).deeper e2) (call (.ref 291) [.ref D, .ref D2] [(Str.ofString "method", .str nm tm)]) Q E s := by
  revert X; w_top off; k_fill; intro X
  have X1 := Frag.In.keeps X B.stays
  have T1 := Top.keeps T B.stays
  have q1 : nm ≠ Str.ofString "linear" := by rcases hnm with rfl | rfl | rfl | rfl <;> decide
  have q2 : nm ≠ Str.ofString "ranked" := by rcases hnm with rfl | rfl | rfl | rfl <;> decide
  refine wpAny_call ?_
  refine enterC X1 T1.nolimit (by k_is) (by k_is) (by k_room) (by exact kp_binds X1 (fun _ => rfl)) rfl (by decide +kernel) ?_ rfl rfl rfl
  intro L' h₁ tk cells F N Y
  k_cells Y
  dsimp only
  obtain ⟨mm, Fm⟩ := Fr.veil3 F (Str.ofString "x") (Str.ofString "y") (Str.ofString "method") rfl rfl rfl
  clear F
  have F := Fm
  clear Fm
  have hszL : s.heap.objs.size ≤ L' := F.above
  have out : ∀ (hz : Heap) (m : Str → Option Value), Fr s.heap L' hz m → Calm [] (envs.filterMap (·.frame)) s.heap hz ∧ ∀ b o, base.get? b = some o → hz.get? b = some o := fun hz m Fz => ⟨Calm.of_keeps Fz.keep, fun b o e => Fz.keep b o (B.stays b o e)⟩
  k_steps
  refine Hold.mk ?_
  (k_here; k_dflt (refine' len_K ?l ?n ?b ?_; (case l => exact stays_list (Fr.keep (by k_asm)) (by assumption)); (case n => assumption); (case b => omega)))
  k_steps
  refine Hold.mk ?_
  (k_here; k_dflt (refine' len_K ?l ?n ?b ?_; (case l => exact stays_list (Fr.keep (by k_asm)) (by assumption)); (case n => assumption); (case b => omega)))
  k_steps
  refine Hold.mk ?_
  (rename Fr _ _ _ _ => F')
  refine wpAny_Raise_call PySem.F.excCall_ValueError PySem.F.excRaise_ValueError rfl rfl ?_
  have bs := (out _ _ F').2
  refine Name_function_global rfl rfl (loadGlobal_builtin (T.g.keeps bs) (ns_none_of X T.g (by k_is)) (T.b.keeps bs) ((T.builtins _ (by decide)).trans PyProof.Rows.Boot.«ValueError») ⟨rfl, ?_⟩) (by decide)
  show wpAny _ _ (evalArgs _ true [(false, eval _ _)] []) _ _ _
  refine evalArgs_plain (spliced_cons ?_)
  k_steps
  refine wpAny_pyReprObj_str ?_ (by rcases hnm with rfl | rfl | rfl | rfl <;> decide +kernel)
  have hl1 : (reprText nm).length ≤ sizeLine := by rcases hnm with rfl | rfl | rfl | rfl <;> decide +kernel
  have hl3 : (Str.empty ++ Str.ofString "Unknown method: " ++ reprText nm).length ≤ sizeLine := by rcases hnm with rfl | rfl | rfl | rfl <;> decide +kernel
  refine SB.field_str (fun t' k' => ?_) hl1
  refine ⟨hl3, ?_⟩
  refine joinParts_nilE (joinParts_nil ?_ hl3)
  refine spliced_nil ?_
  refine ⟨rfl, (by show 1 ≤ sizeLine; decide), fun h5 e5 hm => ?_⟩
  exact leave_madeC B (out _ _ F').1 rfl rfl F'.ns hszL (Heap.MadeExc.of hm) fun h' hf => hE _ _ _ hf
end Two
end
section
open PySem PySem.W PySem.Calls PyProof.Rows PyProof.Rows.TI
set_option maxRecDepth 100000
namespace Mine
section
variable {M : Model} {A : Around} {E : Value → Shared → Prop}
variable {nm q : Str} {C N : Addr} {bs bm : List Value} {hdct : Bool} {sn : List Str} {sub : List Value} {ab : Bool} {col : Option Bool} {dd : Option Addr} {k0 k1 k2 k3 k5 : Option Value} {newId X : String}
/-- a builtin's exception is none of an own class -/
theorem excMatches_no {h : Heap} {g : Array GenState} {d : Drawn} {t : Nat} {os : OsState} {e : Addr} {oe : Obj} {Q : Bool → Shared → Prop}
    (hC : h.get? C = some (excClassObj nm q C N bs bm hdct sn sub ab col dd k0 k1 k2 k3 k5 newId)) (he : h.get? e = some oe) (hcls : oe.cls = .type X) (hbase : bm.contains (.type "BaseException") = true)
    (hsub : isSubtype (.type X) (.ref C) = pure false)
    (hq : Q false ⟨h, g, d, t, os⟩) : wpAny M A (excMatches (.ref e) (.ref C)) Q E ⟨h, g, d, t, os⟩ := by
  have hcB : (Value.ref C :: bm).contains (.type "BaseException") = true := by rw [List.contains_cons, hbase, Bool.or_true]
  have f := tc_notTuple
  unfold excMatches
  repeat (first | (with_reducible refine wpAny_loadPart_at he ?_; rw [hcls]) | with_reducible refine wpAny_loadPart_at hC ?_ | (with_reducible refine wpAny_isSubtype_exc hC ?_; rw [hcB]) | rw [hsub] | wp_step)
  exact hq
end
section
variable {prog : Program} {w : World} {A : Around} {E : Value → Shared → Prop} {s' : Shared} {env : Env}
/-- a builtin's exception that flew out of a call: the first clause names an own class, the second the builtin's -/
theorem caught_second {base g h : Heap} {outer : List Env} {L e C : Addr} {m mg mb : Str → Option Value} {x y : Str} {np np2 pos pos2 : Pos} {b₁ b₀ : Stmt} {suite1 suite : List Stmt} {rest : List ExceptHandler} {Q : Flow → Shared → Prop} {bmB : List Value} {newId T : String}
    (K : Below A base outer g) (F : Fr g L h m) (R : FliesC (env :: outer) e (.type T) h s'.heap) (hf : env.frame = some L) (hk : env.scope.kind = .function) (hgl : env.globals = mainGlobals) (hgbl : env.builtins = mainBuiltins)
    (hg : base.Ns mainGlobals mg) (hgb : base.Ns mainBuiltins mb) (O : OwnCls x C bmB newId mg base) (hbase : bmB.contains (.type "BaseException") = true)
    (hno : isSubtype (.type T) (.ref C) = pure false) (hy : mg y = none) (hyb : mb y = some (.type T))
    (hexc : isSubtype (.type T) (.type "BaseException") = pure true) (hnt : isSubtype (.type ((Manifest.find? T).elim "type" fun x => x.metatype)) (.type "tuple") = pure false) (hsub : isSubtype (.type T) (.type T) = pure true)
    (k : ∀ h', Calm [] (L :: outer.filterMap (·.frame)) h h' → h'.Ns L m →
      wpAny (model prog w) ((A.deeper env).mark (some (.ref e))) (execs (b₀ :: suite) env) Q E { s' with heap := h' })
    (hx : env.kindOf x = some .globalImplicit) (hd : (x == ("__debug__" : Str)) = false) (hx2 : env.kindOf y = some .globalImplicit) (hd2 : (y == ("__debug__" : Str)) = false)
    (hE : PassesOwnAt (model prog w) ((A.deeper env).mark (some (.ref e))) (A.deeper env) env E := by passes_own) :
    wpAny (model prog w) (A.deeper env) (noteFrame (.ref e) env)
      (fun _ s₂ => wpAny (model prog w) (A.deeper env) (setFlight (.ref e) none) (fun _ s₃ =>
        wpAny (model prog w) (A.deeper env) (handleBy (.ref e) env (.ExceptHandler (some (.Name x np)) none (b₁ :: suite1) pos :: .ExceptHandler (some (.Name y np2)) none (b₀ :: suite) pos2 :: rest)) Q E s₃) E s₂) E s' := by
  have K' := pushX K F hf hk
  obtain ⟨B2, a0, hst, hfl⟩ := R.fly
  have fm : (env :: outer).filterMap (·.frame) = L :: outer.filterMap (·.frame) := by simp [hf]
  rw [fm] at hst
  have st : base.StaysIn B2 := fun b o q => hst b o (hideAll_get _ (K'.stays b o q) fun hm => by
    rw [← fm] at hm
    rw [(K'.frames.mem hm).1] at q; cases q)
  have up0 := R.up
  refine wpAny_looks_onW K'.stack hf hfl fun h₄ hheld₄ hsm₄ => ?_
  refine wpAny_landsW hheld₄ fun h₅ hheld hsm₅' => ?_
  obtain ⟨ob, hob, hobc⟩ := hheld.there
  have bs : ∀ b o, base.get? b = some o → h₅.get? b = some o := fun b o q => hheld.1 b o (st b o q)
  refine wpAny_handleBy_cons (codeAny_handlers_test (Name_function_global hk hx (loadGlobal_global (by rw [hgl]; exact hg.keeps bs) O.bound ?_) hd)) (by intro q; cases q)
  obtain ⟨bm, Nn, nmm, qn, bs', hdct, sn, sub, ab, col, dd, k0, k1, k2, k3, k5, mN, hC, hN, hni, TL⟩ := (O.keeps bs).obj
  refine excMatches_no hC hob hobc (TL.hasType hbase) hno ?_
  dsimp only
  refine wpAny_handleBy_cons (codeAny_handlers_test (Name_function_global hk hx2 (loadGlobal_builtin (by rw [hgl]; exact hg.keeps bs) hy (by rw [hgbl]; exact hgb.keeps bs) hyb ?_) hd2)) (by intro q; cases q)
  refine wpAny_excMatches_type (X := T) ?_ hexc hnt hsub (codeAny_handlers_suite ?_)
  · exact ⟨ob, hob, hobc⟩
  refine lands_againW hheld fun h₆ hfl₆ hsm₆ => ?_
  have up : h.UpToSlots h₆ := ((up0.trans hsm₄).trans hsm₅').trans hsm₆
  refine wpAny_passesOwnAt hE (k h₆ ⟨fun b o _ q2 e => hfl₆.1 b o (hst b o (hideAll_get _ e q2)), up⟩ (up.ns F.ns))
end
end Mine
end
section
open PySem PySem.W PySem.Calls PyProof.Rows PySem.Flt
set_option maxRecDepth 100000
set_option maxHeartbeats 8000000
open Mine
namespace Two
local macro_rules | `(tactic| walk_at "call builtin:len") => `(tactic| refine Hold.out ?_)
local macro_rules | `(tactic| walk_at "call ref") => `(tactic| refine Hold.out ?_)
local macro_rules | `(tactic| walk_at "exec Try") => `(tactic| refine wpAny_Try_except ?_)
theorem unknown_spec {w : World} {p : Program} {loose : List Str} {mean : ExcName → Option Value} {mg mb : Str → Option Value} {e1 : Env} {s : Shared} {base : Heap} {envs : List Env} {Q E : Value → Shared → Prop}
  {D D2 : Addr} {xs ys : Array Value} {n : Nat} {nm : Str} {tm : Tok}
  (X : (Two.hd.heap_1 w.params).In base) (T : Top p loose mean mg mb base) (B : Below (callerA.deeper e1) base envs s.heap)
  (hl : s.heap.IsList D xs) (hxs : xs.size = n) (hl2 : s.heap.IsList D2 ys) (hys : ys.size = n) (hn : n ≤ 40) (hnm : nm = Str.ofString "rank" ∨ nm = Str.ofString "Ranked" ∨ nm = Str.ofString "linear " ∨ nm = Str.ofString "")
  (h : ∀ h' tk', Calm [] (envs.filterMap (·.frame)) s.heap h' → Q (.bool true) {s with heap := h', toks := tk'}) :
  wpAny (model PySem.Challenge.rw_kp0009_02.row.prog w) (callerA.deeper e1) (call (.ref 305) [.ref D, .ref D2, .str nm tm]) Q E s := by
  revert X; w_top off; k_fill; intro X
  have X1 := Frag.In.keeps X B.stays
  have T1 := Top.keeps T B.stays
  refine wpAny_call ?_
  refine enterP X1 T1.nolimit (by k_is) (by k_is) (by k_room) (by exact BindsTo.of_eq rfl) (locs rfl) ?_ (by decide) rfl rfl rfl
  intro L' h₁ F N
  dsimp only
  k_steps
  refine Hold.mk ?_
  show wpAny _ _ (call (Value.ref 291) [.ref D, .ref D2] [(Str.ofString "method", .str nm _)]) _ _ _
  (rename Fr _ _ _ _ => F'); (rename News _ _ _ _ => N')
  have hszL : s.heap.objs.size ≤ L' := F'.above
  have fL : s.heap.get? L' = none := Heap.get?_none_of_le hszL
  have C1 : Calm [] (envs.filterMap (·.frame)) s.heap _ := Calm.of_keeps F'.keep
  have l1 := hl.at fun o e => F'.keep _ o e
  have l2 := hl2.at fun o e => F'.keep _ o e
  by_cases hn2 : n < 2
  · refine corr_bad X T (pushX B F' rfl rfl) l1 hxs l2 hys (.inr hn2) hn hn (fun h7 tk7 e fe => ?_)
    dsimp only
    refine caught_own (base := base) (C := 59) (bmB := [.type "ValueError", .type "Exception", .type "BaseException", .type "object"]) (newId := "ValueError.__new__") B F' fe rfl rfl rfl T.g (own_of_in X (topRead_of T) (by k_is) (by k_exc)) (by decide) (fun h8 C8 ns8 => ?_) rfl (by decide)
    have Cx := Calm.below C1 C8 fL (fun b hb => nomatch hb)
    clear C8 F' N' C1 fe
    obtain ⟨g1, Rb, F1, N1⟩ := rebase (n0 := s.heap.objs.size) (news := []) ns8 hszL (fun p hp => nomatch hp)
    have hl1 : ∀ b ∈ fsts [], s.heap.get? b = none := fun b hb => nomatch hb
    have X2 := Frag.In.keeps X (Rb.stays B Cx hl1)
    have T2 := Top.keeps T (Rb.stays B Cx hl1)
    have l3 := Rb.list Cx hl1 hl
    k_steps
    refine Hold.mk ?_
    (k_here; k_dflt (refine' len_K ?l ?n ?b ?_; (case l => exact stays_list (Fr.keep (by k_asm)) (by assumption)); (case n => assumption); (case b => omega)))
    k_steps
    rw [show decide ((n : Int) < 2) = true by simp; (clear T B hl hl2 hnm h X X1 T1 hszL fL l1 l2 ns8 Cx Rb F1 N1 hl1 X2 T2 l3; lia)]
    exact h _ _ Cx
  · refine corr_unknown X T (pushX B F' rfl rfl) l1 hxs l2 hys (by (clear T B hl hl2 hnm h X X1 T1 F' N' hszL fL C1 l1 l2; (exact Nat.le_of_not_lt (by assumption)))) hn hnm (fun h7 tk7 e fe => ?_)
    dsimp only
    refine caught_second (base := base) (C := 59) (bmB := [.type "ValueError", .type "Exception", .type "BaseException", .type "object"]) (newId := "ValueError.__new__") B F' fe rfl rfl rfl rfl T.g T.b (own_of_in X (topRead_of T) (by k_is) (by k_exc)) (by decide)
      (by rw [isSubtype_type]; kernel_rfl) (ns_none_of X T.g (by k_is)) ((T.builtins _ (by decide)).trans PyProof.Rows.Boot.«ValueError») PySem.F.isExc_ValueError PySem.F.notTuple_ValueError (by rw [isSubtype_type]; kernel_rfl) (fun h8 C8 ns8 => ?_) rfl (by decide) rfl (by decide)
    have Cx := Calm.below C1 C8 fL (fun b hb => nomatch hb)
    clear C8 F' N' C1 fe
    obtain ⟨g1, Rb, F1, N1⟩ := rebase (n0 := s.heap.objs.size) (news := []) ns8 hszL (fun p hp => nomatch hp)
    have hl1 : ∀ b ∈ fsts [], s.heap.get? b = none := fun b hb => nomatch hb
    have X2 := Frag.In.keeps X (Rb.stays B Cx hl1)
    have T2 := Top.keeps T (Rb.stays B Cx hl1)
    have l3 := Rb.list Cx hl1 hl
    k_steps
    refine Hold.mk ?_
    (k_here; k_dflt (refine' len_K ?l ?n ?b ?_; (case l => exact stays_list (Fr.keep (by k_asm)) (by assumption)); (case n => assumption); (case b => omega)))
    k_steps
    rw [show decide (2 ≤ (n : Int)) = true by simp; (clear T B hl hl2 hnm h X X1 T1 hszL fL l1 l2 ns8 Cx Rb F1 N1 hl1 X2 T2 l3; lia)]
    exact h _ _ Cx
end Two
end
local macro_rules | `(tactic| walk_at "pad 13") => `(tactic| fail)
local macro_rules | `(tactic| walk_at "pad 14") => `(tactic| fail)
section
open PySem PySem.W PySem.Calls PyProof.Rows PySem.Flt
set_option maxRecDepth 100000
set_option maxHeartbeats 8000000
open Mine
namespace Two
local macro_rules | `(tactic| walk_at "eval ListComp BinOp cons") => `(tactic| refine Hold.out ?_)
local macro_rules | `(tactic| walk_at "call builtin:len") => `(tactic| refine Hold.out ?_)
local macro_rules | `(tactic| walk_at "eval ListComp") => `(tactic| refine Hold.out ?_)
theorem paired_at {α β : Type} {F : α → β → Prop} : ∀ {l : List α} {ys : List β}, Paired F l ys → ∀ (i : Nat) v, l[i]? = some v → ∃ y, ys[i]? = some y ∧ F v y
  | _, _, .nil, i, v, h => by simp at h
  | _, _, .cons hv ht, 0, v, h => by
    obtain rfl := Option.some.inj h
    exact ⟨_, rfl, hv⟩
  | _, _, .cons hv ht, i + 1, v, h => by
    rw [List.getElem?_cons_succ] at h
    obtain ⟨y, e, hy⟩ := paired_at ht i v h
    exact ⟨y, by rw [List.getElem?_cons_succ]; exact e, hy⟩
section
variable {prog : Program} {w : World} {A : Around} {env : Env}
/-- x < f, f a cell -/
theorem test_lt {scope : Scope} {cl : List (Str × Addr)} {x f : Str} {p1 p2 p3 : Pos} {s₁ : Shared} {cf : Addr} {u v : Int} {tu tv : Tok} (hkind : scope.kind = .function) (hxk : ∀ C, (compEnvC scope cl C env).kindOf x = some .local) (hfk : ∀ C, (compEnvC scope cl C env).kindOf f = some .cell) (hc : cl.lookup f = some cf) (dx : (x == ("__debug__" : Str)) = false) (df : (f == ("__debug__" : Str)) = false)
    (hg : s₁.heap.IsCell cf (some (.int v tv))) : TestOk prog w A env [.Compare (.Name x p1) [.Lt] [.Name f p2] p3] scope cl x s₁ (.int u tu) (decide (u < v)) := by
  intro C h tk m' hn hxm hk
  refine wpAny_tests_one ?_
  refine wpAny_isTrue_Compare1 ?_
  refine wpAny_Name (wpAny_loadName_local hkind (hxk C) hn hxm ?_) dx
  refine wpAny_Name (wpAny_loadName_cell hkind (hfk C) hc (by obtain ⟨o, e, d⟩ := hg; exact ⟨o, hk _ _ e, d⟩) ?_) df
  refine lt_int ?_
  refine wpAny_truthy_bool ?_
  exact ⟨rfl, _, _, rfl, fun _ _ e => e⟩
/-- x > f, f a cell -/
theorem test_gt {scope : Scope} {cl : List (Str × Addr)} {x f : Str} {p1 p2 p3 : Pos} {s₁ : Shared} {cf : Addr} {u v : Int} {tu tv : Tok} (hkind : scope.kind = .function) (hxk : ∀ C, (compEnvC scope cl C env).kindOf x = some .local) (hfk : ∀ C, (compEnvC scope cl C env).kindOf f = some .cell) (hc : cl.lookup f = some cf) (dx : (x == ("__debug__" : Str)) = false) (df : (f == ("__debug__" : Str)) = false)
    (hg : s₁.heap.IsCell cf (some (.int v tv))) : TestOk prog w A env [.Compare (.Name x p1) [.Gt] [.Name f p2] p3] scope cl x s₁ (.int u tu) (decide (v < u)) := by
  intro C h tk m' hn hxm hk
  refine wpAny_tests_one ?_
  refine wpAny_isTrue_Compare1 ?_
  refine wpAny_Name (wpAny_loadName_local hkind (hxk C) hn hxm ?_) dx
  refine wpAny_Name (wpAny_loadName_cell hkind (hfk C) hc (by obtain ⟨o, e, d⟩ := hg; exact ⟨o, hk _ _ e, d⟩) ?_) df
  refine gt_int ?_
  refine wpAny_truthy_bool ?_
  exact ⟨rfl, _, _, rfl, fun _ _ e => e⟩
end
theorem weights_spec {w : World} {p : Program} {loose : List Str} {mean : ExcName → Option Value} {mg mb : Str → Option Value} {e1 : Env} {s : Shared} {base : Heap} {envs : List Env} {Q E : Value → Shared → Prop}
  {D : Addr} {xs : Array Value} {n : Nat} {xv : Nat → Int} {xt : Nat → Tok}
  (X : (Two.hd.heap_1 w.params).In base) (T : Top p loose mean mg mb base) (B : Below (callerA.deeper e1) base envs s.heap)
  (hl : s.heap.IsList D xs) (hxs : xs.size = n) (hn40 : n ≤ 40) (hx : ∀ k, k < n → xs[k]? = some (.int (xv k) (xt k)))
  (h : ∀ h' tk' a ws, Calm [] (envs.filterMap (·.frame)) s.heap h' → s.heap.get? a = none → h'.IsList a ws → ws.size = n → (∀ k, k < n → ∃ t, ws[k]? = some (.int (Wt n xv k) t)) → Q (.ref a) {s with heap := h', toks := tk'}) :
  wpAny (model PySem.Challenge.rw_kp0009_02.row.prog w) (callerA.deeper e1) (call (.ref 310) [.ref D]) Q E s := by
  revert X; w_top off; k_fill; intro X
  have X1 := Frag.In.keeps X B.stays
  have T1 := Top.keeps T B.stays
  refine wpAny_call ?_
  refine enterC X1 T1.nolimit (by k_is) (by k_is) (by k_room) (by exact kp_binds X1 (fun _ => rfl)) rfl (by decide +kernel) ?_ rfl rfl rfl
  intro L' h₁ tk cells F N Y
  k_cells Y
  dsimp only
  k_steps
  refine Hold.mk ?_
  (rename Fr _ _ _ _ => F'); (rename News _ _ _ _ => N')
  refine ListComp_cell (h₀ := s.heap) (L := L') (Fv := fun v y => ∀ j, j < n → v = .int (xv j) (xt j) → ∃ t2, y = .int (Wt n xv j) t2)
    rfl (by with_unfolding_all rfl) (fun _ => by with_unfolding_all rfl) (fun _ => by with_unfolding_all rfl) (by with_unfolding_all rfl) (by with_unfolding_all decide) (fun _ _ => by with_unfolding_all rfl) ?_ (fun _ => by with_unfolding_all rfl)
  have hcd := (N' _ (.head _)).1
  have hl1 := hl.at fun o e => F'.keep _ o e
  (rename (Obj.data _ = Data.cell _) => hoc)
  have hcD : Heap.IsCell _ (L' + 1) (some (.ref D)) := ⟨_, hcd, hoc⟩
  refine wpAny_Name (wpAny_loadName_cell rfl rfl rfl hcD ?_) (by decide)
  refine ⟨_, _, _, _, rfl, F', N', hl1, by rw [hxs]; exact Nat.le_trans hn40 (by decide), fun i v hv C c h tk m hc hcl hn hk => ?_, ?_⟩
  · dsimp only at hcl hn hk ⊢
    have F2 := Mine.Fr.grow F' hk
    have N2 := Mine.News.grow N' hk
    clear F' N'
    have hi : i < n := by rw [← hxs]; exact (Array.getElem?_eq_some_iff.mp hv).1
    obtain rfl := Option.some.inj ((hx i hi).symm.trans hv)
    have hcell2 : ∀ y : Str × NameKind, y ∈ [(Str.ofString ".0", NameKind.local), (Str.ofString "b", NameKind.local), (Str.ofString "a", NameKind.free)] → y.2 ≠ .cell := by decide
    k_steps
    refine Hold.mk ?_
    have hcD2 : h.IsCell (L' + 1) (some (.ref D)) := ⟨_, hk _ _ hcd, hoc⟩
    have hl2 := hl1.at fun o e => hk _ o e
    have hsx : xs.size ≤ sizeLine := by rw [hxs]; exact Nat.le_trans hn40 (by decide)
    refine ListComp_filterK (cl := [(Str.ofString "a", c)]) rfl (by with_unfolding_all rfl) (by with_unfolding_all decide) (by with_unfolding_all rfl) (by with_unfolding_all decide) (by with_unfolding_all rfl) (by decide) ?_ (fun _ => by with_unfolding_all rfl)
    refine wpAny_Name (wpAny_loadName_cell rfl rfl rfl hcD2 ?_) (by decide)
    refine ⟨_, _, (fun j => decide (xv j < xv i)), rfl, hl2, hsx, fun j v hv => ?_, ?_⟩
    · have hj : j < n := by rw [← hxs]; exact (Array.getElem?_eq_some_iff.mp hv).1
      obtain rfl := Option.some.inj ((hx j hj).symm.trans hv)
      exact test_lt rfl (fun _ => by with_unfolding_all rfl) (fun _ => by with_unfolding_all rfl) rfl (by decide) (by decide) hcl
    intro D3 h3 tk3 ys k3 g3 f3 P3
    have z3 := P3.length
    have b3 : ys.length ≤ n := by rw [← z3, hxs]; have := List.length_filter_le (fun j => decide (xv j < xv i)) (List.range n); simpa using this
    k_steps
    refine Hold.mk ?_
    refine Mine.len_K (n := ys.length) ⟨_, g3, rfl, _, rfl⟩ List.size_toArray (Nat.le_trans b3 (Nat.le_trans hn40 (by decide))) ?_
    have F3 := Mine.Fr.grow F2 k3
    have N3 := Mine.News.grow N2 k3
    clear F2 N2
    k_steps
    refine Hold.mk ?_
    have hcD3 : h3.IsCell (L' + 1) (some (.ref D)) := ⟨_, k3 _ _ (hk _ _ hcd), hoc⟩
    have hl3 := hl2.at fun o e => k3 _ o e
    have hcl3 : h3.IsCell c (some (.int (xv i) (xt i))) := by obtain ⟨o, e, d⟩ := hcl; exact ⟨o, k3 _ _ e, d⟩
    refine ListComp_filterK (cl := [(Str.ofString "a", c)]) rfl (by with_unfolding_all rfl) (by with_unfolding_all decide) (by with_unfolding_all rfl) (by with_unfolding_all decide) (by with_unfolding_all rfl) (by decide) ?_ (fun _ => by with_unfolding_all rfl)
    refine wpAny_Name (wpAny_loadName_cell rfl rfl rfl hcD3 ?_) (by decide)
    refine ⟨_, _, (fun j => decide (xv i < xv j)), rfl, hl3, hsx, fun j v hv => ?_, ?_⟩
    · have hj : j < n := by rw [← hxs]; exact (Array.getElem?_eq_some_iff.mp hv).1
      obtain rfl := Option.some.inj ((hx j hj).symm.trans hv)
      exact test_gt rfl (fun _ => by with_unfolding_all rfl) (fun _ => by with_unfolding_all rfl) rfl (by decide) (by decide) hcl3
    intro D4 h4 tk4 zs k4 g4 f4 P4
    have z4 := P4.length
    have b4 : zs.length ≤ n := by rw [← z4, hxs]; have := List.length_filter_le (fun j => decide (xv i < xv j)) (List.range n); simpa using this
    k_steps
    refine Hold.mk ?_
    refine Mine.len_K (n := zs.length) ⟨_, g4, rfl, _, rfl⟩ List.size_toArray (Nat.le_trans b4 (Nat.le_trans hn40 (by decide))) ?_
    refine sub_int ?_
    refine ⟨⟨_, _, rfl, fun b o e => k4 b o (k3 b o e)⟩, fun j hj q => ?_⟩
    injection q with e1 e2
    have e : ((ys.length : Int) - (zs.length : Int)) = Wt n xv j := by
      rw [← z3, ← z4, hxs]
      unfold Wt
      rw [e1]
    exact ⟨_, congrArg (Value.int · _) e⟩
  · intro D3 h3 tk3 ys F3 N3 P3
    k_steps
    have z := P3.length
    have hz : ys.length = n := by rw [← z, Array.length_toList, hxs]
    refine h h3 tk3 D3 ys.toArray (Calm.of_keeps F3.keep) (N3 _ (.head _)).2.2 ⟨_, (N3 _ (.head _)).1, rfl, _, rfl⟩ (by rw [List.size_toArray, hz]) fun k hk => ?_
    obtain ⟨y, e, hy⟩ := paired_at P3 k (.int (xv k) (xt k)) (by rw [Array.getElem?_toList]; exact hx k hk)
    obtain ⟨t2, e2⟩ := hy k hk rfl
    exact ⟨t2, by rw [List.getElem?_toArray, e, e2]⟩
end Two
end
section
open PySem PySem.W PySem.Calls PyProof.Rows PySem.Flt
set_option maxRecDepth 100000
namespace Mine
section
variable {prog : Program} {w : World} {A : Around} {E : Value → Shared → Prop} {s : Shared} {h₀ : Heap} {L : Addr} {m : Str → Option Value} {news : List (Addr × Obj)} {x : UInt64} {t : Tok}
theorem getMethod_ratio {M : Model} {pl : Sem Bool} {Q : Value × List Value → Shared → Prop} (h : Q (.builtin "float.as_integer_ratio", [.float x t]) s) : wpAny M A (getMethod (.float x t) "as_integer_ratio" pl) Q E s := by
  with_reducible exact getMethod_builtin (typeIs_float _ _ _) F.plainAttrs_float F.slot_float_as_integer_ratio F.type_float_as_integer_ratio (fun _ e => nomatch e) h
theorem call_ratio {sg : Bool} {mm : Nat} {e : Int} {Q : Value → Shared → Prop} (FF : Fr h₀ L s.heap m) (N : News h₀ L s.heap news) (hd : Float64.decode x = .fin sg mm e)
    (h : ∀ D h' tk t1 t2, Fr h₀ L h' m → News h₀ L h' ((D, { cls := .type "tuple", data := .seq #[.int (Float64.sgn sg (Float64.ratio mm e).1) t1, .int ((Float64.ratio mm e).2 : Nat) t2] }) :: news) → (∀ p ∈ news, (@LT.lt Nat _ p.1 D)) → Q (.ref D) { s with heap := h', toks := tk }) :
    wpAny (model prog w) A (call (.builtin "float.as_integer_ratio") [.float x t]) Q E s := by
  refine wpAny_call_entry F.slot_float_as_integer_ratio (typeIs_float s x t) F.entry_float_as_integer_ratio ?_ (F.args_float_as_integer_ratio_1 _)
  obtain ⟨hp, g, d, tk, os⟩ := s
  unfold Builtin.«float.as_integer_ratio»
  repeat (first | (rw [hd]) | with_reducible refine newTuple_ (by decide) ?_ | wp_step)
  have k : ∀ b o, hp.get? b = some o → (hp.push { cls := .type "tuple", data := .seq #[.int (Float64.sgn sg (Float64.ratio mm e).1) tk, .int ((Float64.ratio mm e).2 : Nat) (tk + 1)] }).get? b = some o := fun b o e => Heap.get?_push_of_some _ e
  exact ⟨_, rfl, h hp.objs.size _ _ tk (tk + 1) (FF.keeps k) (News.new FF (N.grown k) (Heap.get?_push_size _ rfl) (Heap.get?_none_of_le (Nat.le_refl _))) fun p hp' => Heap.lt_size (N p hp').1⟩
end
end Mine
end
local macro_rules | `(tactic| walk_at "pad 15") => `(tactic| fail)
local macro_rules | `(tactic| walk_at "pad 16") => `(tactic| fail)
local macro_rules | `(tactic| walk_at "pad 17") => `(tactic| fail)
section
open PySem PySem.W PySem.Calls PyProof.Rows PySem.Flt
set_option maxRecDepth 100000
set_option maxHeartbeats 8000000
open Mine
namespace Two
local macro_rules | `(tactic| walk_at "pyIter ref") => `(tactic| refine Hold.out ?_)
local macro_rules | `(tactic| walk_at "binaryOp Pow int int") => `(tactic| refine Hold.out ?_)
local macro_rules | `(tactic| walk_at "ite") => `(tactic| refine Hold.out ?_)
theorem kst_names {h0 h : Heap} {L : Addr} {m₀ u : Str → Option Value} {k root : Str} {v1 : Str → Option Value} {v2 : Value} (F : Fr h0 L h (fun y => if y = k then v1 y else kstB (fun z => if [root].contains z then u z else m₀ z) [(root, v2)] y)) :
    Fr h0 L h (fun y => if y = k then v1 y else if y = root then some v2 else m₀ y) := by
  have e : (fun y => if y = k then v1 y else kstB (fun z => if [root].contains z then u z else m₀ z) [(root, v2)] y) = fun y => if y = k then v1 y else if y = root then some v2 else m₀ y := by
    funext y
    by_cases h1 : y = k
    · simp [h1]
    · by_cases h2 : y = root
      · simp [h1, h2, kstB]
      · simp [h1, h2, kstB, List.contains_cons]
  rw [← e]; exact F
theorem root_law {w : World} {p : Program} {loose : List Str} {mean : ExcName → Option Value} {mg mb : Str → Option Value} {e1 e2 : Env} {s : Shared} {base : Heap} {envs : List Env} {Q E : Value → Shared → Prop}
  {a : Nat} {ta : Tok}
  (X : (Two.hd.heap_1 w.params).In base) (T : Top p loose mean mg mb base) (B : Below ((callerA.deeper e1).deeper e2) base envs s.heap)
  (ha : a < 2 ^ 40)
  (h : ∀ h' tk' t (r : Nat), (∀ b o, s.heap.get? b = some o → h'.get? b = some o) → r * r ≤ a → a < (r + 1) * (r + 1) → Q (.int (r : Int) t) {s with heap := h', toks := tk'}) :
  wpAny (model PySem.Challenge.rw_kp0009_02.row.prog w) ((callerA.deeper e1).deeper e2) (call (.ref 317) [.int (a : Int) ta]) Q E s := by
  revert X; w_top off; k_fill; intro X
  have X1 := Frag.In.keeps X B.stays
  have T1 := Top.keeps T B.stays
  refine wpAny_call ?_
  refine enterP X1 T1.nolimit (by k_is) (by k_is) (by k_room) (by exact BindsTo.of_eq rfl) (locs rfl) ?_ (by decide) rfl rfl rfl
  intro L' h₁ F N
  dsimp only
  k_steps
  refine Hold.mk ?_
  (rename Fr _ _ _ _ => F'); (rename News _ _ _ _ => N'); (rename IsRange _ _ _ _ _ _ _ _ => hr)
  refine kst_rangeD (σ := Nat × Tok) (n := 21) (fun _ => []) (fun c => [(Str.ofString "root", .int (c.1 : Int) c.2)]) (fun _ => True) [Str.ofString "root"]
    (fun pre c => c.1 * c.1 ≤ a ∧ a < (c.1 + 2 ^ (21 - pre.length)) * (c.1 + 2 ^ (21 - pre.length)) ∧ pre.length ≤ 21) (0, ?tk0) rfl hr (by decide) (by decide) F' (fun p hp => nomatch hp) trivial ?hk0 ?hp0 ?_ ?_
  rotate_left 1
  case hk0 =>
    intro p hp
    obtain rfl := List.mem_singleton.mp hp
    rfl
  case hp0 => exact ⟨Nat.zero_le _, by simpa using Nat.lt_of_lt_of_le ha (by decide), Nat.zero_le _⟩
  · rintro ⟨r, tr⟩ pre k t u h2 tk2 own rfl hlt hoff - hP F2 N2
    clear F' N'
    have F3 := kst_names F2
    clear F2
    obtain ⟨hP1, hP2, hP3⟩ := hP
    dsimp only at hP1 hP2 F3
    obtain ⟨Bn, hB⟩ : ∃ Bn : Nat, Bn = 2 ^ (20 - pre.length) := ⟨_, rfl⟩
    have hB20 : Bn ≤ 2 ^ 20 := by rw [hB]; exact Nat.pow_le_pow_right (by decide) (by (clear T B ha h X X1 T1 hr hoff N2 F3 hP1 hP2 hP3 hB; (exact Nat.sub_le _ _)))
    have hBi : (2 : Int) ^ (20 - (pre.length : Int)).toNat = (Bn : Int) := by
      rw [hB, show (20 - (pre.length : Int)).toNat = 20 - pre.length by (clear T B ha h X X1 T1 hr hoff N2 F3 hP1 hP2 hP3 hB hB20; lia)]; exact (Int.natCast_pow 2 _).symm
    have h2B : 2 ^ (21 - pre.length) = Bn + Bn := by
      rw [show 21 - pre.length = (20 - pre.length) + 1 by (clear T B ha h X X1 T1 hr hoff N2 F3 hP1 hP2 hP3 hB hB20 hBi; lia), Nat.pow_succ, ← hB]; (clear T B ha h X X1 T1 hr hlt hoff N2 F3 hP1 hP2 hP3 hB hB20 hBi; lia)
    have hr20 : r < 2 ^ 20 := by
      rcases Nat.lt_or_ge r (2 ^ 20) with q | q
      · exact q
      · have := Nat.mul_le_mul q q
        exact absurd (Nat.lt_of_le_of_lt (Nat.le_trans this hP1) ha) (by decide)
    rw [h2B] at hP2
    have hpl : (pre ++ [20 - (pre.length : Int)]).length = pre.length + 1 := by simp
    have hexp : 2 ^ (21 - (pre ++ [20 - (pre.length : Int)]).length) = Bn := by rw [hpl, hB]; congr 1; (clear T B ha h X X1 T1 hr hoff N2 F3 hP1 hP3 hP2 hB hB20 hBi h2B hr20; lia)
    clear hB h2B
    k_steps
    refine Hold.mk ?_
    refine pow_int_small (by (clear T B ha h X X1 T1 hr hoff N2 F3 hP1 hP3 hP2 hB20 hBi hr20 hexp; lia)) (by (clear T B ha h X X1 T1 hr hoff N2 F3 hP1 hP3 hP2 hB20 hBi hr20 hexp; lia)) (by decide) ?_
    rw [hBi]
    k_steps
    refine Hold.mk ?_
    refine pow_int_small (by (clear T B ha h X X1 T1 hr hlt hoff N2 F3 hP1 hP3 hP2 hB20 hBi hr20 hpl hexp; (exact Int.natCast_nonneg _))) (by (clear T B ha h X X1 T1 hr hlt hoff N2 F3 hP1 hP3 hP2 hB20 hBi hr20 hpl hexp; (exact Int.natCast_nonneg _))) (by (clear T B ha h X X1 T1 hr hlt hoff N2 F3 hP1 hP3 hP2 hpl; lia)) ?_
    k_steps
    refine Hold.mk ?_
    have e9 : ((r : Int) + (Bn : Int)) ^ (2 : Int).toNat = (((r + Bn) * (r + Bn) : Nat) : Int) := by
      rw [show (2 : Int).toNat = 2 from rfl, Int.pow_succ, Int.pow_succ, Int.pow_zero, Int.one_mul]; push_cast; rfl
    rw [e9]
    by_cases hc : (r + Bn) * (r + Bn) ≤ a
    · rw [if_pos (by simpa using Int.ofNat_le.mpr hc)]
      k_steps
      refine Hold.mk ?_
      refine pow_int_small (by (clear T B ha h X X1 T1 hr hoff N2 F3 hP1 hP3 hP2 hB20 hBi hr20 hexp e9 hc; lia)) (by (clear T B ha h X X1 T1 hr hoff N2 F3 hP1 hP3 hP2 hB20 hBi hr20 hexp e9 hc; lia)) (by decide) ?_
      rw [hBi]
      k_steps
      (rename Fr _ _ _ _ => F4); (rename News _ _ _ _ => N4)
      refine kst_end (r + Bn, ?tk1) F4 N4 (fun p hp => nomatch hp) (fun p hp => hp) rfl trivial ?hk1 ?hr1 ?hp1
      rotate_left 1
      case hk1 =>
        intro p hp
        obtain rfl := List.mem_singleton.mp hp
        show some (Value.int ((r : Int) + (Bn : Int)) _) = some (Value.int ((r + Bn : Nat) : Int) _)
        rw [Int.natCast_add]
      case hr1 =>
        intro z h1 h2 h3
        have h4 := h2 _ (.head _)
        dsimp only at h4 ⊢
        simp [h1, h4]
      case hp1 =>
        dsimp only
        rw [hexp, Nat.add_assoc]
        exact ⟨hc, hP2, by rw [hpl]; (clear T B ha h X X1 T1 hr hoff N2 F3 hP1 hP3 hP2 hB20 hBi hr20 hexp e9 hc F4 N4; (assumption))⟩
    · rw [if_neg (by simpa using fun q => hc (Int.ofNat_le.mp q))]
      k_steps
  · rintro ⟨r, tr⟩ u h2 tk2 - ⟨hP1, hP2, -⟩ F2 N2
    clear F' N'
    have F3 := kst_names F2
    dsimp only at hP1 hP2 F3
    clear F2
    k_steps
    (rename Fr _ _ _ _ => F4)
    exact h _ _ _ r F4.keep hP1 (by simpa [downKs_length] using hP2)
end Two
end
local macro_rules | `(tactic| walk_at "pad 18") => `(tactic| fail)
section
open PySem PySem.W PySem.Calls PyProof.Rows PySem.Flt
set_option maxRecDepth 100000
set_option maxHeartbeats 8000000
open Mine
namespace Two
local macro_rules | `(tactic| walk_at "exec While") => `(tactic| refine Hold.out ?_)
local macro_rules | `(tactic| walk_at "exec While Compare cons nil") => `(tactic| refine Hold.out ?_)
local macro_rules | `(tactic| walk_at "binaryOp Mult int int") => `(tactic| refine Hold.out ?_)
local macro_rules | `(tactic| walk_at "inplaceOp Mult int int") => `(tactic| refine Hold.out ?_)
local macro_rules | `(tactic| walk_at "ite") => `(tactic| refine Hold.out ?_)
theorem mulN {a b : Int} (ha : a.natAbs < 2 ^ 400) (hb : b.natAbs < 2 ^ 400) : IntMulOk a b :=
  IntMulOk.of_bits (Nat.le_trans (PyProof.Rows.intBits_le ha) (by decide)) (Nat.le_trans (PyProof.Rows.intBits_le hb) (by decide))
theorem nearest_law {w : World} {p' : Program} {loose : List Str} {mean : ExcName → Option Value} {mg mb : Str → Option Value} {e1 e2 : Env} {s : Shared} {base : Heap} {envs : List Env} {Q E : Value → Shared → Prop}
  {p d n m : Nat} {t1 t2 t3 t4 : Tok}
  (X : (Two.hd.heap_1 w.params).In base) (T : Top p' loose mean mg mb base) (B : Below ((callerA.deeper e1).deeper e2) base envs s.heap)
  (hp : p < 2 ^ 200) (hd : d < 2 ^ 200) (hn : n < 2 ^ 60) (hm : m < 2 ^ 60)
  (h : ∀ h' tk' half j, (∀ b o, s.heap.get? b = some o → h'.get? b = some o) → half = 2 ^ j → (j = 0 ∨ half * 2 ^ 53 ≤ p) → p < half * 2 ^ 54 →
    Q (.bool (decide ((m : Int) * ((p : Int) - (half : Nat)) < (n : Int) * d) && decide ((n : Int) * d < (m : Int) * ((p : Int) + (half : Nat))))) {s with heap := h', toks := tk'}) :
  wpAny (model PySem.Challenge.rw_kp0009_02.row.prog w) ((callerA.deeper e1).deeper e2) (call (.ref 324) [.int (p : Int) t1, .int (d : Int) t2, .int (n : Int) t3, .int (m : Int) t4]) Q E s := by
  revert X; w_top off; k_fill; intro X
  have X1 := Frag.In.keeps X B.stays
  have T1 := Top.keeps T B.stays
  refine wpAny_call ?_
  refine enterP X1 T1.nolimit (by k_is) (by k_is) (by k_room) (by exact BindsTo.of_eq rfl) (locs rfl) ?_ (by decide) rfl rfl rfl
  intro L' h₁ F N
  dsimp only
  k_steps
  refine Hold.mk ?_
  (rename Fr _ _ _ _ => F'); (rename News _ _ _ _ => N')
  refine While_inv (n₀ := 200) (fun k m₁ _ => ∃ (half j : Nat) (t : Tok), m₁ (Str.ofString "half") = some (.int (half : Int) t) ∧ m₁ (Str.ofString "p") = some (.int (p : Int) t1) ∧ m₁ (Str.ofString "d") = some (.int (d : Int) t2) ∧
    m₁ (Str.ofString "n") = some (.int (n : Int) t3) ∧ m₁ (Str.ofString "m") = some (.int (m : Int) t4) ∧ half = 2 ^ j ∧ k + j = 200 ∧ (j = 0 ∨ half * 2 ^ 53 ≤ p)) F' N' ⟨1, 0, _, rfl, rfl, rfl, rfl, rfl, rfl, rfl, .inl rfl⟩ ?_
  rintro k m₁ news₁ h2 tk2 F2 N2 ⟨half, j, t, e1, e2, e3, e4, e5, rfl, hkj, hj⟩
  clear F' N'
  have F3 := Fr.one (Fr.one (Fr.one (Fr.one (Fr.one F2 e5) ((if_neg (by decide)).trans e4)) ((if_neg (by decide)).trans ((if_neg (by decide)).trans e3))) ((if_neg (by decide)).trans ((if_neg (by decide)).trans ((if_neg (by decide)).trans e2)))) ((if_neg (by decide)).trans ((if_neg (by decide)).trans ((if_neg (by decide)).trans ((if_neg (by decide)).trans e1))))
  clear F2
  dsimp only
  k_steps
  refine Hold.mk ?_
  have hj200 : 2 ^ j < 2 ^ 200 := by
    rcases hj with rfl | q
    · exact Nat.pow_lt_pow_right (by decide) (by decide)
    · exact Nat.lt_of_le_of_lt (Nat.le_trans (Nat.le_mul_of_pos_right _ (by decide)) q) hp
  obtain ⟨half, hhalf⟩ : ∃ half : Nat, half = 2 ^ j := ⟨_, rfl⟩
  rw [← hhalf] at hj hj200 F3 ⊢
  refine mul_int ?_ (mulN (Nat.lt_trans hj200 (Nat.pow_lt_pow_right (by decide) (by decide))) (by decide))
  rw [show ((half : Nat) : Int) * 2 ^ Int.toNat 54 = ((half * 2 ^ 54 : Nat) : Int) by rw [Int.natCast_mul]; rfl]
  k_steps
  refine Hold.mk ?_
  by_cases hc : half * 2 ^ 54 ≤ p
  · rw [if_pos (by simpa using Int.ofNat_le.mpr hc)]
    k_steps
    refine Hold.mk ?_
    refine imul_int ?_ (mulN (Nat.lt_trans hj200 (Nat.pow_lt_pow_right (by decide) (by decide))) (by decide))
    k_steps
    (rename Fr _ _ _ _ => F4); (rename News _ _ _ _ => N4)
    have hj146 : j + 54 < 200 := by
      rw [hhalf, ← Nat.pow_add] at hc
      exact (Nat.pow_lt_pow_iff_right (by decide : 1 < 2)).mp (Nat.lt_of_le_of_lt hc hp)
    refine WhileStep.intro (n' := k - 1) F4 N4 (by (clear T B hp hd hn hm h X X1 T1 e2 e3 e4 e5 e1 hj200 hj hhalf hc F4 N4; lia)) ⟨half * 2, j + 1, ?tq, ?eq, rfl, rfl, rfl, rfl, by rw [hhalf, Nat.pow_succ], by (clear T B hp hd hn hm h X X1 T1 e2 e3 e4 e5 e1 hj200 hj hhalf hc F4 N4; lia), .inr (by rw [Nat.mul_assoc]; exact hc)⟩
    rotate_left 1
    case eq => exact congrArg (fun z => some (Value.int z _)) (Int.natCast_mul half 2).symm
  · rw [if_neg (by simpa using fun q => hc (Int.ofNat_le.mp q))]
    have pw : ∀ {a k : Nat}, a < 2 ^ k → k ≤ 400 → a < 2 ^ 400 := fun h1 h2 => Nat.lt_of_lt_of_le h1 (Nat.pow_le_pow_right (by decide) h2)
    have hm4 : (m : Int).natAbs < 2 ^ 400 := pw hm (by decide)
    have p201 : (2 : Nat) ^ 200 + 2 ^ 200 = 2 ^ 201 := by decide
    k_steps
    refine Hold.mk ?_
    refine mul_int ?_ (mulN hm4 (pw (k := 201) (by rw [← p201]; (clear T B hd hn hm h X X1 T1 N2 e2 e3 e4 e5 e1 hkj F3 hj pw hm4 p201; omega)) (by decide)))
    k_steps
    refine Hold.mk ?_
    refine mul_int ?_ (mulN (pw hn (by decide)) (pw hd (by decide)))
    k_steps
    refine Hold.mk ?_
    have hlt : p < half * 2 ^ 54 := Nat.lt_of_not_le hc
    by_cases hd1 : (m : Int) * ((p : Int) - (half : Nat)) < (n : Int) * d
    · rw [if_pos (decide_eq_true hd1)]
      k_steps
      refine Hold.mk ?_
      refine mul_int ?_ (mulN hm4 (pw (k := 201) (by rw [← p201]; (clear T B hd hn hm h X X1 T1 N2 e2 e3 e4 e5 e1 hkj F3 hj pw hm4 p201 hlt hd1; lia)) (by decide)))
      k_steps
      (rename Fr _ _ _ _ => F4)
      have := h _ (tk2 + 1 + 1 + 1 + 1 + 1 + 1 + 1 + 1 + 1) half j F4.keep hhalf hj hlt
      rw [decide_eq_true hd1, Bool.true_and] at this
      exact this
    · rw [if_neg (by simpa using hd1)]
      k_steps
      (rename Fr _ _ _ _ => F4)
      have := h _ (tk2 + 1 + 1 + 1 + 1 + 1 + 1 + 1) half j F4.keep hhalf hj hlt
      rw [decide_eq_false hd1, Bool.false_and] at this
      rw [decide_eq_false hd1]
      exact this
end Two
end
section
open PySem PySem.Float64
set_option maxRecDepth 100000
set_option exponentiation.threshold 5000
set_option maxHeartbeats 1000000
namespace Mine
theorem told_arith {v s Z M : Int} (hs : 0 < s) (hM : 0 < M) (h1 : 2 ^ 53 * (Z - s * v).natAbs ≤ Z.natAbs) (h2 : 2 ^ 60 * (s * s - M).natAbs ≤ 516 * M.natAbs) :
    2 ^ 50 * (v * v * M - Z * Z).natAbs ≤ Z.natAbs * Z.natAbs := by
  have e0 : (s * v * (s * v) - Z * Z).natAbs = (Z - s * v).natAbs * (2 * Z - (Z - s * v)).natAbs := by
    rw [← Int.natAbs_mul, ← Int.natAbs_neg]; congr 1; grind
  have a1 : 2 ^ 53 * (2 * Z - (Z - s * v)).natAbs ≤ (2 ^ 54 + 1) * Z.natAbs := by
    have : (2 * Z - (Z - s * v)).natAbs ≤ 2 * Z.natAbs + (Z - s * v).natAbs := by
      have h := Int.natAbs_add_le (2 * Z) (-(Z - s * v))
      rw [Int.natAbs_neg, Int.natAbs_mul] at h
      exact h
    (clear hs hM h2 e0; lia)
  have a2 : 2 ^ 106 * (s * v * (s * v) - Z * Z).natAbs ≤ (2 ^ 54 + 1) * (Z.natAbs * Z.natAbs) := by
    rw [e0]
    have := Nat.mul_le_mul h1 a1
    calc _ = 2 ^ 53 * (Z - s * v).natAbs * (2 ^ 53 * (2 * Z - (Z - s * v)).natAbs) := by rw [show (2 : Nat) ^ 106 = 2 ^ 53 * 2 ^ 53 by rfl]; ac_rfl
      _ ≤ _ := this
      _ = _ := by ac_rfl
  have e1 : (v * v * M - Z * Z) * (s * s) = (s * v * (s * v) - Z * Z) * M + Z * Z * (M - s * s) := by grind
  have a3 : (v * v * M - Z * Z).natAbs * (s * s).natAbs ≤ (s * v * (s * v) - Z * Z).natAbs * M.natAbs + Z.natAbs * Z.natAbs * (s * s - M).natAbs := by
    rw [← Int.natAbs_mul, e1]
    refine Nat.le_trans (Int.natAbs_add_le _ _) ?_
    rw [Int.natAbs_mul, Int.natAbs_mul, Int.natAbs_mul Z Z, show (M - s * s).natAbs = (s * s - M).natAbs by rw [← Int.natAbs_neg]; congr 1; (clear hs hM h1 h2 e0 a1 a2 e1; lia)]
    exact Nat.le_refl _
  have hss : 0 < (s * s).natAbs := by have := Int.mul_pos hs hs; (clear hs hM h1 h2 e0 a1 a2 e1 a3; omega)
  have a4 : 773 * M.natAbs ≤ 1024 * (s * s).natAbs := by
    have q := (abs_tri (s * s) M).1
    clear hs h1 e0 a1 a2 e1 a3 hss hM
    generalize (s * s - M).natAbs = d at *
    generalize (s * s).natAbs = ss at *
    generalize M.natAbs = mm at *
    omega
  generalize (s * v * (s * v) - Z * Z).natAbs = e at *
  generalize hzz : Z.natAbs * Z.natAbs = zz at *
  generalize (s * s - M).natAbs = d at *
  generalize (s * s).natAbs = ss at *
  generalize (v * v * M - Z * Z).natAbs = k at *
  generalize M.natAbs = m at *
  have b1 : 2 ^ 106 * (e * m) ≤ (2 ^ 54 + 1) * (zz * m) := by
    rw [← Nat.mul_assoc, ← Nat.mul_assoc]; exact Nat.mul_le_mul_right m a2
  have b2 : 2 ^ 60 * (zz * d) ≤ 516 * (zz * m) := by
    have := Nat.mul_le_mul_left zz h2
    calc _ = zz * (2 ^ 60 * d) := by ac_rfl
      _ ≤ _ := this
      _ = _ := by ac_rfl
  have b3 : 773 * (zz * m) ≤ 1024 * (zz * ss) := by
    have := Nat.mul_le_mul_left zz a4
    calc _ = zz * (773 * m) := by ac_rfl
      _ ≤ _ := this
      _ = _ := by ac_rfl
  have b4 : 2 ^ 50 * (k * ss) ≤ zz * ss := by (clear hs hM h1 a1 e1 e0 hzz a2 hss h2 a4; lia)
  rw [← Nat.mul_assoc] at b4
  exact Nat.le_of_mul_le_mul_right b4 hss
theorem ratio_spec {m : Nat} {e : Int} (he : -1074 ≤ e) : 0 < (ratio m e).2 ∧ (ratio m e).1 * 2 ^ 1074 = m * 2 ^ (e + 1074).toNat * (ratio m e).2 ∧ (ratio m e).1 ≤ (shift m 1 e).1 ∧ (ratio m e).2 ≤ (shift m 1 e).2 ∧ (m = 0 → (ratio m e).2 = 1) := by
  have h1 := shift_one m e 1074 he
  have h2 : 0 < (shift m 1 e).2 := shift_pos _ _ _ (by decide)
  have h3 : m = 0 → (shift m 1 e).1 = 0 := by
    rintro rfl
    unfold shift
    split <;> simp
  have e1 : ratio m e = ((shift m 1 e).1 / (shift m 1 e).1.gcd (shift m 1 e).2, (shift m 1 e).2 / (shift m 1 e).1.gcd (shift m 1 e).2) := rfl
  rw [e1]
  dsimp only
  generalize (shift m 1 e).1 = a at *
  generalize (shift m 1 e).2 = b at *
  have hg : 0 < a.gcd b := Nat.gcd_pos_of_pos_right _ h2
  obtain ⟨u, hu⟩ := Nat.gcd_dvd_left a b
  obtain ⟨d, hd⟩ := Nat.gcd_dvd_right a b
  have e2 : a / a.gcd b = u := Nat.div_eq_of_eq_mul_right hg hu
  have e3 : b / a.gcd b = d := Nat.div_eq_of_eq_mul_right hg hd
  rw [e2, e3]
  refine ⟨?_, ?_, ?_, ?_, ?_⟩
  · rcases Nat.eq_zero_or_pos d with q | q
    · rw [q, Nat.mul_zero] at hd; (clear he h3 h1 e1 hg hu e2 e3 q; lia)
    · exact q
  · refine Nat.eq_of_mul_eq_mul_left hg ?_
    generalize a.gcd b = g at *
    rw [hu, hd] at h1
    push_cast at h1
    calc g * (u * 2 ^ 1074) = g * u * 2 ^ 1074 := by ac_rfl
      _ = m * 2 ^ (e + 1074).toNat * (g * d) := h1
      _ = _ := by ac_rfl
  · rw [← e2]; exact Nat.div_le_self _ _
  · rw [← e3]; exact Nat.div_le_self _ _
  · intro q
    have ha := h3 q
    rw [ha, Nat.gcd_zero_left] at e3
    rw [← e3]; exact Nat.div_self h2
theorem near_two {Z y : Int} (h : 2 ^ 53 * (Z - y).natAbs ≤ Z.natAbs) : y.natAbs ≤ 2 * Z.natAbs ∧ Z.natAbs ≤ 2 * y.natAbs ∧ (Z = 0 → y.natAbs = 0) := by
  obtain ⟨h1, h2⟩ := abs_tri Z y
  have h3 : Z = 0 → Z.natAbs = 0 := fun q => by rw [q]; rfl
  generalize (Z - y).natAbs = d at *
  generalize Z.natAbs = z at *
  generalize y.natAbs = x at *
  refine ⟨by clear h2 h3; omega, by clear h1 h3; omega, fun q => ?_⟩
  have h4 := h3 q
  clear h2 h3 q
  omega
theorem lo1060 {x : Int} (h : 2 ^ 1060 ≤ x) : 2 ^ 1060 ≤ x.natAbs := by lia
theorem hi1100 {x : Int} (h0 : 0 < x) (h : x ≤ 2 ^ 1100) : x.natAbs ≤ 2 ^ 1100 := by omega
end Mine
end
section
open PySem PySem.Float64
namespace Two
/-- what the law asks of the answer -/
structure RankTold (q : UInt64) (both : Int) (own : Nat) (sg : Bool) (mm : Nat) (e : Int) (p : Int) (d : Nat) : Prop where
  dec : Float64.decode q = .fin sg mm e
  hp : p = Float64.sgn sg (Float64.ratio mm e).1
  hd : d = (Float64.ratio mm e).2
  b1 : p.natAbs ≤ 2 ^ 60
  b2 : d ≤ 2 ^ 100
  s1 : 0 < p ↔ 0 < both
  s2 : p < 0 ↔ both < 0
  near : ∀ r : Nat, r * r = own → ∀ half j : Nat, half = 2 ^ j → (j = 0 ∨ half * 2 ^ 53 ≤ p.natAbs * 2 ^ 60) → p.natAbs * 2 ^ 60 < half * 2 ^ 54 →
    (r : Int) * (((p.natAbs * 2 ^ 60 : Nat) : Int) - half) < (both.natAbs : Int) * ((d * 2 ^ 60 : Nat) : Int) ∧ (both.natAbs : Int) * ((d * 2 ^ 60 : Nat) : Int) < (r : Int) * (((p.natAbs * 2 ^ 60 : Nat) : Int) + half)
  lo : (2 ^ 49 - 1 : Int) * ((both * d) * (both * d)) ≤ 2 ^ 49 * (p * p) * own
  hi : (2 ^ 49 : Int) * (p * p) * own ≤ (2 ^ 49 + 1) * ((both * d) * (both * d))
end Two
end
local macro_rules | `(tactic| walk_at "pad 19") => `(tactic| fail)
section
open PySem PySem.W PySem.Calls PyProof.Rows PySem.Flt
set_option maxRecDepth 100000
set_option maxHeartbeats 8000000
open Mine
namespace Two
local macro_rules | `(tactic| walk_at "exec If") => `(tactic| refine wpAny_If ?_)
local macro_rules | `(tactic| walk_at "ite") => `(tactic| first | refine ite_neg (by first | (simp; done) | (simp [*]; done) | (simp; omega) | omega) ?_ | refine ite_pos (by first | (simp; done) | (simp [*]; done) | (simp; omega) | omega) ?_ | refine Hold.out ?_)
theorem is_flat {w : World} {p' : Program} {loose : List Str} {mean : ExcName → Option Value} {mg mb : Str → Option Value} {e1 : Env} {s : Shared} {base : Heap} {envs : List Env} {Q E : Value → Shared → Prop}
  {D : Addr} {both : Int} {t2 t3 : Tok}
  (X : (Two.hd.heap_1 w.params).In base) (T : Top p' loose mean mg mb base) (B : Below (callerA.deeper e1) base envs s.heap)
  (hl : s.heap.IsList D #[])
  (h : ∀ h' tk', (∀ b o, s.heap.get? b = some o → h'.get? b = some o) → Q (.bool true) {s with heap := h', toks := tk'}) :
  wpAny (model PySem.Challenge.rw_kp0009_02.row.prog w) (callerA.deeper e1) (call (.ref 331) [.ref D, .int both t2, .int 0 t3]) Q E s := by
  revert X; w_top off; k_fill; intro X
  have X1 := Frag.In.keeps X B.stays
  have T1 := Top.keeps T B.stays
  refine wpAny_call ?_
  refine enterP X1 T1.nolimit (by k_is) (by k_is) (by k_room) (by exact BindsTo.of_eq rfl) (locs rfl) ?_ (by decide) rfl rfl rfl
  intro L' h₁ F N
  dsimp only
  k_steps
  (rename Fr _ _ _ _ => F4)
  exact h _ _ F4.keep
end Two
end
section
open PySem PySem.W PySem.Calls PyProof.Rows PySem.Flt
set_option maxRecDepth 100000
set_option maxHeartbeats 8000000
open Mine
namespace Two
local macro_rules | `(tactic| walk_at "exec If") => `(tactic| refine wpAny_If ?_)
local macro_rules | `(tactic| walk_at "call ref") => `(tactic| refine Hold.out ?_)
local macro_rules | `(tactic| walk_at "getMethod float") => `(tactic| with_reducible refine getMethod_ratio ?_)
local macro_rules | `(tactic| walk_at "call builtin:float.as_integer_ratio") => `(tactic| refine Hold.out ?_)
local macro_rules | `(tactic| walk_at "binaryOp Mult int int") => `(tactic| refine Hold.out ?_)
local macro_rules | `(tactic| walk_at "binaryOp Pow int int") => `(tactic| first | refine pow_int_small (by decide) (by decide) (by decide) ?_ | refine Hold.out ?_)
local macro_rules | `(tactic| walk_at "ite") => `(tactic| first | refine ite_neg (by first | (simp; done) | (simp [*]; done) | (simp; omega) | omega) ?_ | refine ite_pos (by first | (simp; done) | (simp [*]; done) | (simp; omega) | omega) ?_ | refine Hold.out ?_)
local macro_rules | `(tactic| walk_at "compareOp Eq ref ref") => `(tactic| refine Hold.out ?_)
section
variable {prog : Program} {w : World} {A : Around} {E : Value → Shared → Prop} {s : Shared}
theorem pow2 {a : Int} {t u : Tok} {Q : Value → Shared → Prop} (ha : a.natAbs < 2 ^ 400) (h : Q (.int (a * a) s.toks) { s with toks := s.toks + 1 }) : wpAny (model prog w) A (binaryOp .Pow (.int a t) (.int 2 u)) Q E s := by
  have hb := PyProof.Rows.intBits_le ha
  refine PyProof.Rows.pow_int (by decide) (by (clear ha h; lia)) ?_
  rw [show a ^ (2 : Int).toNat = a * a by rw [show (2 : Int).toNat = 2 from rfl, Int.pow_succ, Int.pow_succ, Int.pow_zero, Int.one_mul]]
  exact h
end
theorem abs_if (p : Int) : (if p < 0 then -p else p) = (p.natAbs : Int) := by split <;> lia
theorem is_told {w : World} {p' : Program} {loose : List Str} {mean : ExcName → Option Value} {mg mb : Str → Option Value} {e1 : Env} {s : Shared} {base : Heap} {envs : List Env} {Q E : Value → Shared → Prop}
  {D : Addr} {both : Int} {own : Nat} {t1 t2 t3 : Tok} {q : UInt64} {sg : Bool} {mm : Nat} {e : Int} {p : Int} {d : Nat}
  (X : (Two.hd.heap_1 w.params).In base) (T : Top p' loose mean mg mb base) (B : Below (callerA.deeper e1) base envs s.heap)
  (hl : s.heap.IsList D #[.float q t1]) (TA : RankTold q both own sg mm e p d) (ho1 : 1 ≤ own) (ho2 : own < 2 ^ 30) (hb : both.natAbs < 2 ^ 20)
  (h : ∀ h' tk', (∀ b o, s.heap.get? b = some o → h'.get? b = some o) → Q (.bool true) {s with heap := h', toks := tk'}) :
  wpAny (model PySem.Challenge.rw_kp0009_02.row.prog w) (callerA.deeper e1) (call (.ref 331) [.ref D, .int both t2, .int (own : Int) t3]) Q E s := by
  revert X; w_top off; k_fill; intro X
  have X1 := Frag.In.keeps X B.stays
  have T1 := Top.keeps T B.stays
  refine wpAny_call ?_
  refine enterP X1 T1.nolimit (by k_is) (by k_is) (by k_room) (by exact BindsTo.of_eq rfl) (locs rfl) ?_ (by decide) rfl rfl rfl
  intro L' h₁ F N
  dsimp only
  refine cutQ fun QQ EE hQ => ?_
  have ho0 : ¬ own = 0 := by (clear T B hl TA hb h X X1 T1 F N; (exact Nat.ne_of_gt (by assumption)))
  k_steps
  refine Hold.mk ?_
  (rename Fr _ _ _ _ => F'); (rename News _ _ _ _ => N')
  refine PySem.SeqAt.eq_list_lengthsAt (hl.at fun o e => F'.keep _ o e) ⟨_, N'.get (.head _), rfl, _, rfl⟩ rfl (by units_room) ?_
  k_steps
  refine Hold.mk ?_
  (rename Fr _ _ _ _ => F'); (rename News _ _ _ _ => N')
  refine call_ratio F' N' TA.dec fun Tt h8 tk8 t1 t2 F8 N8 l8 => ?_
  rw [← TA.hp, ← TA.hd] at N8
  clear F' N'
  have s1 := TA.s1
  have s2 := TA.s2
  k_steps
  refine Hold.mk ?_
  (rename Fr _ _ _ _ => F'); (rename News _ _ _ _ => N')
  refine root_law X T (pushX B F' rfl rfl) (Nat.lt_trans ho2 (by decide)) ?_
  intro h9 tk9 t9 r k9 hr1 hr2
  have F9 := F'.keeps k9
  have N9 := N'.grown k9
  clear F' N' k9
  have hr20 : r < 2 ^ 15 := by
    rcases Nat.lt_or_ge r (2 ^ 15) with q | q
    · exact q
    · exact absurd (Nat.lt_of_le_of_lt (Nat.le_trans (Nat.mul_le_mul q q) hr1) ho2) (by decide)
  k_steps
  refine Hold.mk ?_
  refine pow_int_small (by decide) (by decide) (by (clear T B hl TA ho1 ho2 hb h X X1 T1 ho0 l8 s1 s2 hr1 hr2; (exact Nat.lt_of_lt_of_le (by assumption) (by decide)))) ?_
  rw [show ((r : Nat) : Int) ^ (2 : Int).toNat = ((r * r : Nat) : Int) by
      rw [show (2 : Int).toNat = 2 from rfl, Int.pow_succ, Int.pow_succ, Int.pow_zero, Int.one_mul]; push_cast; rfl]
  have pw : ∀ {a k : Nat}, a < 2 ^ k → k ≤ 400 → a < 2 ^ 400 := fun h1 h2 => Nat.lt_of_lt_of_le h1 (Nat.pow_le_pow_right (by decide) h2)
  have bp4 : p.natAbs < 2 ^ 400 := pw (Nat.lt_of_le_of_lt TA.b1 (by decide : 2 ^ 60 < 2 ^ 61)) (by decide)
  have bd4 : d < 2 ^ 400 := pw (Nat.lt_of_le_of_lt TA.b2 (by decide : 2 ^ 100 < 2 ^ 101)) (by decide)
  have hb4 : both.natAbs < 2 ^ 400 := pw hb (by decide)
  have nm : ∀ {a b : Int} {m n : Nat}, a.natAbs < 2 ^ m → b.natAbs < 2 ^ n → (a * b).natAbs < 2 ^ (m + n) := fun h1 h2 => by
    rw [Int.natAbs_mul, Nat.pow_add]
    exact Nat.mul_lt_mul'' h1 h2
  have hX : (both * (d : Int)).natAbs < 2 ^ (20 + 101) := nm hb (Nat.lt_of_le_of_lt TA.b2 (by decide))
  have hX4 : (both * (d : Int)).natAbs < 2 ^ 400 := pw hX (by decide)
  have hXX4 : (both * (d : Int) * (both * (d : Int))).natAbs < 2 ^ 400 := pw (nm hX hX) (by decide)
  have hp1 : p.natAbs < 2 ^ 61 := Nat.lt_of_le_of_lt TA.b1 (by decide)
  have hpp4 : (p * p).natAbs < 2 ^ 400 := pw (nm hp1 hp1) (by decide)
  have hpp5 : ((2 : Int) ^ Int.toNat 49 * (p * p)).natAbs < 2 ^ 400 := pw (nm (m := 50) (by decide) (nm hp1 hp1)) (by decide)
  have ho4 : (own : Int).natAbs < 2 ^ 400 := pw ho2 (by decide)
  have lo' : ((2 : Int) ^ Int.toNat 49 - 1) * (both * (d : Int) * (both * (d : Int))) ≤ 2 ^ Int.toNat 49 * (p * p) * (own : Int) := TA.lo
  have hi' : (2 : Int) ^ Int.toNat 49 * (p * p) * (own : Int) ≤ (2 ^ Int.toNat 49 + 1) * (both * (d : Int) * (both * (d : Int))) := TA.hi
  by_cases hro : r * r = own
  · k_steps
    refine Hold.mk ?_
    rw [abs_if]
    refine mul_int ?_ (mulN (a := (p.natAbs : Int)) bp4 (by decide))
    rw [show (p.natAbs : Int) * 2 ^ Int.toNat 60 = ((p.natAbs * 2 ^ 60 : Nat) : Int) by rw [Int.natCast_mul]; rfl]
    k_steps
    refine Hold.mk ?_
    refine mul_int ?_ (mulN (a := (d : Int)) bd4 (by decide))
    rw [show (d : Int) * 2 ^ Int.toNat 60 = ((d * 2 ^ 60 : Nat) : Int) by rw [Int.natCast_mul]; rfl]
    k_steps
    refine Hold.mk ?_
    rw [abs_if]
    (rename Fr _ _ _ _ => F'); (rename News _ _ _ _ => N')
    refine nearest_law X T (pushX B F' rfl rfl) ?_ ?_ ?_ ?_ ?_
    · exact Nat.lt_of_le_of_lt (Nat.mul_le_mul_right _ TA.b1) (by decide)
    · exact Nat.lt_of_le_of_lt (Nat.mul_le_mul_right _ TA.b2) (by decide)
    · exact Nat.lt_trans hb (by decide)
    · exact Nat.lt_trans hr20 (by decide)
    intro h7 tk7 half j k7 e1 e2 e3
    obtain ⟨n1, n2⟩ := TA.near r hro half j e1 e2 e3
    rw [decide_eq_true n1, decide_eq_true n2]
    have F9 := F'.keeps k7
    have N9 := N'.grown k7
    clear F' N' k7
    k_steps
    refine Hold.mk ?_
    refine mul_int ?_ (mulN hb4 bd4)
    k_steps
    refine Hold.mk ?_
    refine pow2 hX4 ?_
    k_steps
    refine Hold.mk ?_
    refine mul_int ?_ (mulN (by decide) hXX4)
    k_steps
    refine Hold.mk ?_
    refine pow2 bp4 ?_
    k_steps
    refine Hold.mk ?_
    refine mul_int ?_ (mulN (by decide) hpp4)
    k_steps
    refine Hold.mk ?_
    refine mul_int ?_ (mulN hpp5 ho4)
    k_steps
    refine Hold.mk ?_
    rw [if_pos (decide_eq_true lo')]
    k_steps
    refine Hold.mk ?_
    refine mul_int ?_ (mulN hb4 bd4)
    k_steps
    refine Hold.mk ?_
    refine pow2 hX4 ?_
    k_steps
    refine Hold.mk ?_
    refine mul_int ?_ (mulN (by decide) hXX4)
    k_steps
    (rename Fr _ _ _ _ => F9)
    rw [decide_eq_true hi']
    refine hQ _ _ ?_
    exact h _ _ F9.keep
  · k_steps
    refine Hold.mk ?_
    refine mul_int ?_ (mulN hb4 bd4)
    k_steps
    refine Hold.mk ?_
    refine pow2 hX4 ?_
    k_steps
    refine Hold.mk ?_
    refine mul_int ?_ (mulN (by decide) hXX4)
    k_steps
    refine Hold.mk ?_
    refine pow2 bp4 ?_
    k_steps
    refine Hold.mk ?_
    refine mul_int ?_ (mulN (by decide) hpp4)
    k_steps
    refine Hold.mk ?_
    refine mul_int ?_ (mulN hpp5 ho4)
    k_steps
    refine Hold.mk ?_
    rw [if_pos (decide_eq_true lo')]
    k_steps
    refine Hold.mk ?_
    refine mul_int ?_ (mulN hb4 bd4)
    k_steps
    refine Hold.mk ?_
    refine pow2 hX4 ?_
    k_steps
    refine Hold.mk ?_
    refine mul_int ?_ (mulN (by decide) hXX4)
    k_steps
    (rename Fr _ _ _ _ => F9)
    rw [decide_eq_true hi']
    refine hQ _ _ ?_
    exact h _ _ F9.keep
end Two
end
section
open PySem PySem.Float64
set_option maxRecDepth 100000
set_option exponentiation.threshold 5000
set_option maxHeartbeats 1000000
namespace Mine
theorem sgn_near {x y : Int} (h : 2 ^ 53 * (y - x).natAbs ≤ y.natAbs) : (0 < x ↔ 0 < y) ∧ (x < 0 ↔ y < 0) := by omega
theorem mul_sign {s v : Int} (hs : 0 < s) : (0 < s * v ↔ 0 < v) ∧ (s * v < 0 ↔ v < 0) := by
  have h1 : s * 0 = 0 := Int.mul_zero s
  constructor
  · constructor
    · intro h
      exact Int.lt_of_mul_lt_mul_left (a := s) (by rw [h1]; exact h) (Int.le_of_lt hs)
    · exact fun h => Int.mul_pos hs h
  · constructor
    · intro h
      exact Int.lt_of_mul_lt_mul_left (a := s) (by rw [h1]; exact h) (Int.le_of_lt hs)
    · intro h
      have := Int.mul_lt_mul_of_pos_left h hs
      rwa [h1] at this
theorem bounds49 {X Y : Int} (h : 2 ^ 50 * (X - Y).natAbs ≤ Y.natAbs) (hY : 0 ≤ Y) : (2 ^ 49 - 1) * Y ≤ 2 ^ 49 * X ∧ 2 ^ 49 * X ≤ (2 ^ 49 + 1) * Y := by lia
/-- the quotient, but for the whole root -/
theorem rank_near {C : Int} {A B : Nat} {sxy so : UInt64} (hA1 : 1 ≤ A) (hB1 : 1 ≤ B) (hC : E 1072 sxy C) (hCb : C.natAbs ≤ 2 ^ 13) (R : RootOk A B so) :
    ∃ sg mm ex v, Float64.decode (Float64.div sxy so) = .fin sg mm ex ∧ v = val (Float64.div sxy so) ∧ NearI (Float64.div sxy so) (C * ((2 ^ 2146 : Nat) : Int)) (val so).natAbs ∧ 0 < val so ∧ 2 ^ 53 * (C * ((2 ^ 2146 : Nat) : Int) - val so * v).natAbs ≤ (C * ((2 ^ 2146 : Nat) : Int)).natAbs ∧
      2 ^ 50 * (v * v * ((A : Int) * (B : Int)) - C * C * ((2 ^ 1074 * 2 ^ 1074 : Nat) : Int)).natAbs ≤ (C * C * ((2 ^ 1074 * 2 ^ 1074 : Nat) : Int)).natAbs := by
  obtain ⟨fs, s1, s2, s3, s4⟩ := R
  have hAB : 1 ≤ A * B := Nat.mul_le_mul hA1 hB1
  have spos : 0 < val so := Int.lt_of_lt_of_le (by decide) s1
  have nr := isF_div hC.1 fs spos
  have hZ : val sxy * ((2 ^ 1074 : Nat) : Int) = C * ((2 ^ 2146 : Nat) : Int) := by
    rw [hC.2, Int.mul_assoc, ← Int.natCast_mul, ← Nat.pow_add]
  rw [hZ] at nr
  have hsn : ((val so).natAbs : Int) = val so := Int.natAbs_of_nonneg (Int.le_of_lt spos)
  have hsl : 2 ^ 1060 ≤ (val so).natAbs := lo1060 s1
  have hsh : (val so).natAbs ≤ 2 ^ 1100 := hi1100 spos s2
  have hrel : IsF (Float64.div sxy so) ∧ 2 ^ 53 * (C * ((2 ^ 2146 : Nat) : Int) - val so * val (Float64.div sxy so)).natAbs ≤ (C * ((2 ^ 2146 : Nat) : Int)).natAbs := by
    by_cases hC0 : C = 0
    · obtain ⟨f, g⟩ := nr.exact (q := 0) (c := 0) (by decide) (by rw [hC0]; simp) (by decide)
      refine ⟨f, ?_⟩
      rw [g, hC0]; simp
    · have hC1 : 1 ≤ C.natAbs := by (clear hA1 hB1 hC hCb fs s1 s2 s3 s4 hAB spos nr hZ hsn hsl hsh; lia)
      have hn1 : (C * ((2 ^ 2146 : Nat) : Int)).natAbs = C.natAbs * 2 ^ 2146 := by rw [Int.natAbs_mul, Int.natAbs_natCast]
      have := nr.rel (by
        rw [hn1]
        calc (val so).natAbs * 2 ^ 52 ≤ 2 ^ 1100 * 2 ^ 52 := Nat.mul_le_mul_right _ hsh
          _ = 2 ^ 1152 := by rw [← Nat.pow_add]
          _ ≤ 2 ^ 2146 := Nat.pow_le_pow_right (by decide) (by decide)
          _ ≤ C.natAbs * 2 ^ 2146 := Nat.le_mul_of_pos_left _ hC1) (by
        rw [hn1]
        calc C.natAbs * 2 ^ 2146 ≤ 2 ^ 13 * 2 ^ 2146 := Nat.mul_le_mul_right _ hCb
          _ = 2 ^ 2159 := by rw [← Nat.pow_add]
          _ ≤ 2 ^ (1060 + 2000) := Nat.pow_le_pow_right (by decide) (by decide)
          _ = 2 ^ 1060 * 2 ^ 2000 := Nat.pow_add ..
          _ ≤ _ := Nat.mul_le_mul_right _ hsl)
      rw [hsn] at this
      exact this
  obtain ⟨fr, hr⟩ := hrel
  obtain ⟨sg, mm, ex, hd⟩ := id fr
  refine ⟨sg, mm, ex, _, hd, rfl, nr, spos, hr, ?_⟩
  generalize val (Float64.div sxy so) = v at *
  have hMpos : (0 : Int) < ((A * B * 2 ^ 2144 : Nat) : Int) := Int.ofNat_lt.mpr (Nat.mul_pos hAB (Nat.two_pow_pos _))
  have hta := told_arith spos hMpos hr (by rw [Int.natAbs_natCast]; exact s3)
  have p1 : (2 : Nat) ^ 2146 * 2 ^ 2146 = 2 ^ 1074 * 2 ^ 1074 * 2 ^ 2144 := by rw [← Nat.pow_add]
  have e1 : v * v * ((A * B * 2 ^ 2144 : Nat) : Int) - C * ((2 ^ 2146 : Nat) : Int) * (C * ((2 ^ 2146 : Nat) : Int)) = (v * v * ((A : Int) * (B : Int)) - C * C * ((2 ^ 1074 * 2 ^ 1074 : Nat) : Int)) * ((2 ^ 2144 : Nat) : Int) := by
    have q1 : C * ((2 ^ 2146 : Nat) : Int) * (C * ((2 ^ 2146 : Nat) : Int)) = C * C * ((2 ^ 1074 * 2 ^ 1074 : Nat) : Int) * ((2 ^ 2144 : Nat) : Int) := by
      rw [Int.mul_assoc (C * C), ← Int.natCast_mul, ← p1, Int.natCast_mul (2 ^ 2146)]; ac_rfl
    rw [q1, Int.sub_mul, Int.natCast_mul (A * B), Int.natCast_mul A, Int.mul_assoc (v * v)]
  have e2 : (C * ((2 ^ 2146 : Nat) : Int)).natAbs * (C * ((2 ^ 2146 : Nat) : Int)).natAbs = (C * C * ((2 ^ 1074 * 2 ^ 1074 : Nat) : Int)).natAbs * 2 ^ 2144 := by
    rw [Int.natAbs_mul, Int.natAbs_natCast, Int.natAbs_mul, Int.natAbs_mul, Int.natAbs_natCast, Nat.mul_assoc _ (2 ^ 1074 * 2 ^ 1074), ← p1]; ac_rfl
  rw [e1, e2, Int.natAbs_mul, Int.natAbs_natCast, ← Nat.mul_assoc] at hta
  exact Nat.le_of_mul_le_mul_right hta (Nat.two_pow_pos _)
end Mine
end
section
open PySem PySem.Float64
set_option maxRecDepth 100000
set_option exponentiation.threshold 5000
set_option maxHeartbeats 1000000
namespace Mine
theorem sqn (a : Int) : 0 ≤ a * a := by
  rcases Int.le_total 0 a with h | h
  · exact Int.mul_nonneg h h
  · exact Int.mul_nonneg_of_nonpos_of_nonpos h h
theorem sign_scale {p v : Int} {T dn : Nat} (hT : 0 < T) (hd : 0 < dn) (h : p * (T : Int) = v * (dn : Int)) : (0 < p ↔ 0 < v) ∧ (p < 0 ↔ v < 0) := by
  have a1 := mul_sign (s := (T : Int)) (v := p) (Int.ofNat_lt.mpr hT)
  have a2 := mul_sign (s := (dn : Int)) (v := v) (Int.ofNat_lt.mpr hd)
  rw [Int.mul_comm] at h
  rw [h, Int.mul_comm v] at a1
  exact ⟨a1.1.symm.trans a2.1, a1.2.symm.trans a2.2⟩
theorem scale50 {p v : Int} {T dn : Nat} {C own : Int} (hT : 0 < T) (hup : p * (T : Int) = v * (dn : Int)) (h : 2 ^ 50 * (v * v * own - C * C * ((T * T : Nat) : Int)).natAbs ≤ (C * C * ((T * T : Nat) : Int)).natAbs) :
    2 ^ 50 * (p * p * own - C * dn * (C * dn)).natAbs ≤ (C * dn * (C * dn)).natAbs := by
  have e1 : ((T * T : Nat) : Int) * (p * p * own - C * dn * (C * dn)) = ((dn * dn : Nat) : Int) * (v * v * own - C * C * ((T * T : Nat) : Int)) := by
    have q1 : ((T * T : Nat) : Int) * (p * p * own) = (p * (T : Int)) * (p * (T : Int)) * own := by push_cast; grind
    rw [Int.mul_sub, q1, hup]
    push_cast
    grind
  have e2 : ((T * T : Nat) : Int) * (C * dn * (C * dn)) = ((dn * dn : Nat) : Int) * (C * C * ((T * T : Nat) : Int)) := by
    push_cast
    grind
  have a1 := congrArg Int.natAbs e1
  have a2 := congrArg Int.natAbs e2
  rw [Int.natAbs_mul, Int.natAbs_natCast, Int.natAbs_mul ((dn * dn : Nat) : Int), Int.natAbs_natCast] at a1 a2
  refine Nat.le_of_mul_le_mul_left ?_ (Nat.mul_pos hT hT)
  rw [Nat.mul_left_comm, a1, a2, Nat.mul_left_comm]
  exact Nat.mul_le_mul_left _ h
theorem rank_told {C : Int} {A B : Nat} {sxy so : UInt64} (hA1 : 1 ≤ A) (hB1 : 1 ≤ B) (hC : E 1072 sxy C) (hCb : C.natAbs ≤ 2 ^ 13) (R : RootOk A B so)
    (hnear : ∀ sg mm ex, Float64.decode (Float64.div sxy so) = .fin sg mm ex → NearI (Float64.div sxy so) (C * ((2 ^ 2146 : Nat) : Int)) (val so).natAbs → ∀ u dn : Nat, (ratio mm ex).1 = u → (ratio mm ex).2 = dn → u * 2 ^ 1074 = mm * 2 ^ (ex + 1074).toNat * dn → ∀ r : Nat, r * r = A * B → val so = ((r * 2 ^ 1072 : Nat) : Int) → ∀ half j : Nat, half = 2 ^ j → u * 2 ^ 60 < half * 2 ^ 54 →
      (r : Int) * (((u * 2 ^ 60 : Nat) : Int) - half) < (C.natAbs : Int) * ((dn * 2 ^ 60 : Nat) : Int) ∧ (C.natAbs : Int) * ((dn * 2 ^ 60 : Nat) : Int) < (r : Int) * (((u * 2 ^ 60 : Nat) : Int) + half)) :
    ∃ sg mm ex p d, Two.RankTold (Float64.div sxy so) C (A * B) sg mm ex p d := by
  obtain ⟨sg, mm, ex, v, hd, hv, nr, spos, hr, h50⟩ := rank_near hA1 hB1 hC hCb R
  have hsl : 2 ^ 1060 ≤ (val so).natAbs := lo1060 R.2.1
  have hsh : (val so).natAbs ≤ 2 ^ 1100 := hi1100 spos R.2.2.1
  have hve := val_eq hd
  have hvn := val_natAbs hd
  rw [← hv] at hve hvn
  obtain ⟨r1, r2, r3, r4, r5⟩ := ratio_spec (m := mm) (decode_ge hd)
  have hlt := decode_le hd
  have hge := decode_ge hd
  obtain ⟨u, hu⟩ : ∃ u, (ratio mm ex).1 = u := ⟨_, rfl⟩
  obtain ⟨dn, hdn⟩ : ∃ dn, (ratio mm ex).2 = dn := ⟨_, rfl⟩
  rw [hdn] at r1 r2 r4 r5
  rw [hu] at r2 r3
  have hup : sgn sg u * ((2 ^ 1074 : Nat) : Int) = v * (dn : Int) := by
    rw [← sgn_mul, r2, hve, sgn_mul]
  have hva : v.natAbs ≤ 2 ^ 1110 := by
    have a1 := (near_two hr).1
    rw [Int.natAbs_mul, Int.natAbs_mul, Int.natAbs_natCast] at a1
    have a2 : 2 ^ 1060 * v.natAbs ≤ 2 ^ 1060 * 2 ^ 1110 := by
      calc 2 ^ 1060 * v.natAbs ≤ (val so).natAbs * v.natAbs := Nat.mul_le_mul_right _ hsl
        _ ≤ 2 * (C.natAbs * 2 ^ 2146) := a1
        _ ≤ 2 * (2 ^ 13 * 2 ^ 2146) := Nat.mul_le_mul_left _ (Nat.mul_le_mul_right _ hCb)
        _ = 2 ^ 2160 := by rw [← Nat.pow_add, Nat.mul_comm, ← Nat.pow_succ]
        _ ≤ 2 ^ 2170 := Nat.pow_le_pow_right (by decide) (by decide)
        _ = _ := by rw [← Nat.pow_add]
    exact Nat.le_of_mul_le_mul_left a2 (Nat.two_pow_pos _)
  have hub : u ≤ 2 ^ 60 := by
    refine Nat.le_trans r3 ?_
    unfold shift
    split
    · rename_i h0
      rw [hvn, show (ex + 1074).toNat = ex.toNat + 1074 by (clear hA1 hB1 hC hCb R hnear hd hv nr spos hr h50 hsl hsh hve hvn r3 hu r5 r4 r2 r1 hdn hup hva; lia), Nat.pow_add, ← Nat.mul_assoc] at hva
      have : mm * 2 ^ ex.toNat * 2 ^ 1074 ≤ 2 ^ 36 * 2 ^ 1074 := by rw [← Nat.pow_add]; exact hva
      exact Nat.le_trans (Nat.le_of_mul_le_mul_right this (Nat.two_pow_pos _)) (by decide)
    · exact Nat.le_trans (Nat.le_of_lt hlt.1) (by decide)
  have hdb : dn ≤ 2 ^ 100 := by
    by_cases hm : mm = 0
    · rw [r5 hm]; exact Nat.one_le_two_pow
    · have hC0 : C ≠ 0 := by
        rintro rfl
        rw [Int.zero_mul] at hr
        have h3 : (val so * v).natAbs = 0 := (near_two hr).2.2 rfl
        rw [Int.natAbs_mul, hvn] at h3
        have := Nat.mul_pos (show 0 < (val so).natAbs by (clear hA1 hB1 R hd hv spos hve hvn hlt hge r3 hu r5 r4 r2 r1 hdn hup hva hub hm hC hCb hnear nr hr h50 h3; lia)) (Nat.mul_pos (show 0 < mm by (clear hA1 hB1 R hd hv spos hsl hsh hve hvn hge r3 hu r5 r4 r2 r1 hdn hup hva hub hC hnear nr h3; lia)) (Nat.two_pow_pos (ex + 1074).toNat))
        (clear hA1 hB1 R hd hv spos hsl hsh hve hvn hlt hge r3 hu r5 r4 r2 r1 hdn hup hva hub hm hC hCb hnear nr hr h50; omega)
      have a1 := (near_two hr).2.1
      rw [Int.natAbs_mul, Int.natAbs_mul, Int.natAbs_natCast, hvn] at a1
      have a2 : 2 ^ 2146 ≤ 2 ^ (1154 + (ex + 1074).toNat) := by
        calc 2 ^ 2146 ≤ C.natAbs * 2 ^ 2146 := Nat.le_mul_of_pos_left _ (by (clear hA1 hB1 hC hCb R hnear hd hv nr spos hr h50 hsl hsh hve hvn hlt hge r3 hu r5 r4 r2 r1 hdn hup hva hub hm a1; lia))
          _ ≤ _ := a1
          _ ≤ 2 * (2 ^ 1100 * (2 ^ 53 * 2 ^ (ex + 1074).toNat)) := Nat.mul_le_mul_left _ (Nat.mul_le_mul hsh (Nat.mul_le_mul_right _ (Nat.le_of_lt hlt.1)))
          _ = 2 ^ (1154 + (ex + 1074).toNat) := by
            rw [show 1154 + (ex + 1074).toNat = 1 + (1100 + (53 + (ex + 1074).toNat)) by (clear hA1 hB1 hC hCb R hnear hd hv nr spos hr h50 hsl hsh hve hvn hlt hge r3 hu r5 r4 r2 r1 hdn hup hva hub hm hC0 a1; lia), Nat.pow_add 2 1, Nat.pow_add 2 1100, Nat.pow_add 2 53]
      have a3 := (Nat.pow_le_pow_iff_right (by decide : 1 < 2)).mp a2
      refine Nat.le_trans r4 ?_
      unfold shift
      split
      · exact Nat.one_le_two_pow
      · rw [Nat.one_mul]; exact Nat.pow_le_pow_right (by decide) (by (clear hA1 hB1 hC hCb R hnear hd hv nr spos hr h50 hsl hsh hve hvn r3 hu r5 r4 r2 r1 hdn hup hva hub hm hC0 a1 a2; lia))
  have hT0 : 0 < 2 ^ 1074 := Nat.two_pow_pos _
  have zpos : 0 < 2 ^ 2146 := Nat.two_pow_pos _
  have g1 := sgn_near hr
  have g2 := mul_sign (v := v) spos
  have g3 := mul_sign (s := ((2 ^ 2146 : Nat) : Int)) (v := C) (Int.ofNat_lt.mpr zpos)
  have g4 := sign_scale hT0 r1 hup
  rw [Int.mul_comm C] at g1
  have b50 := scale50 (own := ((A * B : Nat) : Int)) hT0 hup (by rw [Int.natCast_mul A B]; exact h50)
  have hnn : 0 ≤ C * (dn : Int) * (C * dn) := sqn _
  have b49 := bounds49 b50 hnn
  have hna := sgn_natAbs sg u
  refine ⟨sg, mm, ex, sgn sg u, dn, ⟨hd, by rw [hu], by rw [hdn], by rw [hna]; exact hub, hdb, ?_, ?_, ?_, ?_, ?_⟩⟩
  · exact g4.1.trans (g2.1.symm.trans (g1.1.trans g3.1))
  · exact g4.2.trans (g2.2.symm.trans (g1.2.trans g3.2))
  · intro r hrr half j hj _ hlt2
    rw [hna] at hlt2 ⊢
    exact hnear sg mm ex hd nr u dn hu hdn r2 r hrr (R.2.2.2.2 r hrr.symm) half j hj hlt2
  · rw [Int.mul_assoc (2 ^ 49)]; exact b49.1
  · rw [Int.mul_assoc (2 ^ 49)]; exact b49.2
end Mine
end
section
open PySem PySem.Float64
set_option maxRecDepth 100000
set_option exponentiation.threshold 5000
set_option maxHeartbeats 1000000
namespace Mine
theorem odd_cop {o : Nat} (h : o % 2 = 1) (K : Nat) : Nat.Coprime o (2 ^ K) := by
  refine Nat.Coprime.pow_right K ?_
  show Nat.gcd o 2 = 1
  rw [Nat.gcd_comm, Nat.gcd_rec, h]
  decide
theorem pow_of_dvd : ∀ (K d : Nat), d ∣ 2 ^ K → ∃ a, d = 2 ^ a
  | 0, d, h => ⟨0, by rw [Nat.pow_zero] at h ⊢; exact Nat.dvd_one.mp h⟩
  | K + 1, d, h => by
    rcases Nat.mod_two_eq_zero_or_one d with q | q
    · obtain ⟨e, rfl⟩ := Nat.dvd_of_mod_eq_zero q
      rw [Nat.pow_succ, Nat.mul_comm (2 ^ K)] at h
      obtain ⟨a, rfl⟩ := pow_of_dvd K e (Nat.dvd_of_mul_dvd_mul_left (by decide) h)
      exact ⟨a + 1, by rw [Nat.pow_succ, Nat.mul_comm]⟩
    · have h1 : d ∣ 1 * 2 ^ (K + 1) := by rw [Nat.one_mul]; exact h
      exact ⟨0, by rw [Nat.pow_zero]; exact Nat.dvd_one.mp ((odd_cop q _).dvd_of_dvd_mul_right h1)⟩
theorem ratio_pow (m : Nat) (e : Int) : ∃ a, (ratio m e).2 = 2 ^ a := by
  have e1 : ratio m e = ((shift m 1 e).1 / (shift m 1 e).1.gcd (shift m 1 e).2, (shift m 1 e).2 / (shift m 1 e).1.gcd (shift m 1 e).2) := rfl
  rw [e1]
  have h2 : ∃ K, (shift m 1 e).2 = 2 ^ K := by
    unfold shift
    split
    · exact ⟨0, rfl⟩
    · exact ⟨_, Nat.one_mul _⟩
  obtain ⟨K, hK⟩ := h2
  refine pow_of_dvd K _ ?_
  dsimp only
  rw [← hK]
  exact Nat.div_dvd_of_dvd (Nat.gcd_dvd_right _ _)
/-- no tie: a quotient of small numbers lies at no half place -/
theorem tie_free {C r c k : Nat} (hC : 1 ≤ C) (hCb : C ≤ 2 ^ 13) (hk : 2 ^ 52 ≤ k) : 2 * (((C * 2 ^ 1074 : Nat) : Int) - ((r * (k * 2 ^ c) : Nat) : Int)).natAbs ≠ r * 2 ^ c := by
  intro h
  have main : ∀ o : Nat, o % 2 = 1 → 2 ^ 13 < o → C * 2 ^ 1075 ≠ r * 2 ^ c * o := fun o h1 h2 h3 => by
    have h4 : o ∣ C * 2 ^ 1075 := ⟨r * 2 ^ c, by rw [h3, Nat.mul_comm]⟩
    have h5 := Nat.le_of_dvd (by (clear hk h h1 h2 h3 h4; (assumption))) ((odd_cop h1 _).dvd_of_dvd_mul_right h4)
    (clear hk h h3 h4; lia)
  have p : (2 : Nat) ^ 1075 = 2 ^ 1074 * 2 := Nat.pow_succ ..
  have e0 : r * (k * 2 ^ c) = r * 2 ^ c * k := by ac_rfl
  rw [e0] at h
  have a1 := main (2 * k + 1) (by (clear hC hCb hk h main p e0; lia)) (by (clear hC hCb h main p e0; lia))
  have a2 := main (2 * k - 1) (by (clear hC hCb h main p e0 a1; lia)) (by (clear hC hCb h main p e0 a1; omega))
  have b1 : r * 2 ^ c * (2 * k + 1) = 2 * (r * 2 ^ c * k) + r * 2 ^ c := by rw [Nat.mul_add, Nat.mul_one]; ac_rfl
  have b2 : r * 2 ^ c * (2 * k - 1) = 2 * (r * 2 ^ c * k) - r * 2 ^ c := by rw [Nat.mul_sub, Nat.mul_one]; congr 1; ac_rfl
  have b3 : r * 2 ^ c ≤ r * 2 ^ c * k := Nat.le_mul_of_pos_right _ (by (clear hC hCb h main p e0 a1 a2 b1 b2; lia))
  rw [b1, p] at a1
  rw [b2, p] at a2
  rw [← Nat.mul_assoc] at a1 a2
  clear p main
  generalize C * 2 ^ 1074 = X at *
  generalize r * 2 ^ c * k = Y at *
  generalize r * 2 ^ c = Z at *
  omega
/-- the binade of a quotient -/
theorem binade {X r : Nat} (hr : 1 ≤ r) (hX : r * 2 ^ 60 < X) : ∃ c, 1 ≤ c ∧ r * 2 ^ (c + 52) < X ∧ X ≤ r * 2 ^ (c + 53) := by
  have h0 : 2 ^ 60 ≤ (X - 1) / r := (Nat.le_div_iff_mul_le hr).mpr (by rw [Nat.mul_comm]; omega)
  have hne : (X - 1) / r ≠ 0 := by (clear hr hX; lia)
  have a1 := Nat.log2_self_le hne
  have a2 := Nat.lt_log2_self (n := (X - 1) / r)
  have a3 : 60 ≤ ((X - 1) / r).log2 := (Nat.le_log2 hne).mpr h0
  generalize ((X - 1) / r).log2 = L at *
  refine ⟨L - 52, by (clear hr hX h0 hne a1 a2; omega), ?_, ?_⟩
  · rw [show L - 52 + 52 = L by (clear hr hX h0 hne a1 a2; lia)]
    have := (Nat.le_div_iff_mul_le hr).mp a1
    rw [Nat.mul_comm] at this
    (clear h0 hne a1 a2 a3; omega)
  · rw [show L - 52 + 53 = L + 1 by (clear hr hX h0 hne a1 a2; lia)]
    have := (Nat.div_lt_iff_lt_mul hr).mp a2
    rw [Nat.mul_comm] at this
    (clear hr hX h0 hne a1 a2 a3; omega)
end Mine
end
section
open PySem PySem.Float64
set_option maxRecDepth 100000
set_option exponentiation.threshold 5000
set_option maxHeartbeats 1000000
namespace Mine
theorem rev_tri (a b : Int) : ((a.natAbs : Int) - (b.natAbs : Int)).natAbs ≤ (a - b).natAbs := by
  obtain ⟨h1, h2⟩ := abs_tri a b
  generalize (a - b).natAbs = d at *
  generalize a.natAbs = x at *
  generalize b.natAbs = y at *
  omega
theorem last_step {r u half a b : Nat} {x : Int} (hb : b = r * u) (h : 2 ^ 60 * ((a : Int) - (b : Int)).natAbs < r * half) :
    (r : Int) * (((u * 2 ^ 60 : Nat) : Int) - half) < (a : Int) * ((1152921504606846976 : Nat) : Int) ∧ (a : Int) * ((1152921504606846976 : Nat) : Int) < (r : Int) * (((u * 2 ^ 60 : Nat) : Int) + half) := by
  have e1 : (r : Int) * ((u * 2 ^ 60 : Nat) : Int) = (b : Int) * ((1152921504606846976 : Nat) : Int) := by rw [hb, ← Int.natCast_mul, ← Int.natCast_mul, show (1152921504606846976 : Nat) = 2 ^ 60 by decide, Nat.mul_assoc]
  have e3 : (r : Int) * (half : Int) = ((r * half : Nat) : Int) := (Int.natCast_mul r half).symm
  rw [Int.mul_sub, Int.mul_add, e1, e3]
  rw [show (2 : Nat) ^ 60 = 1152921504606846976 by decide] at h
  clear e1 hb e3
  generalize r * half = z at *
  omega
theorem low_one {X r V w M mm p : Nat} (hM : M + 1 = 2 ^ 53) (hm : mm < 2 ^ 53) (hr : 1 ≤ r) (hw : 1 ≤ w) (hp : p ≤ w) (hV : V = mm * p) (h1 : 2 ^ 53 * (r * w) < X) (hn : 2 * ((X : Int) - ((r * V : Nat) : Int)).natAbs ≤ 2 * (r * w)) : False := by
  have a1 : r * V ≤ M * (r * w) := by
    calc r * V = mm * (r * p) := by rw [hV]; ac_rfl
      _ ≤ M * (r * p) := Nat.mul_le_mul_right _ (by (clear hr hw hp hV h1 hn; lia))
      _ ≤ M * (r * w) := Nat.mul_le_mul_left _ (Nat.mul_le_mul_left _ hp)
  have a2 : M * (r * w) + r * w = 2 ^ 53 * (r * w) := by rw [← hM, Nat.succ_mul]
  have f4 : 0 < r * w := Nat.mul_pos hr hw
  rw [← a2] at h1
  clear a2 hV hM hm
  generalize M * (r * w) = z at *
  generalize r * w = y at *
  generalize r * V = x at *
  (clear hr hw hp f4; lia)
theorem low_two {X r V w M k : Nat} (hM : M + 1 = 2 ^ 52) (hk : k < 2 ^ 52) (hr : 1 ≤ r) (hw : 1 ≤ w) (hV : V = k * w) (h1 : 2 ^ 52 * (r * w) < X) (hn : 2 * ((X : Int) - ((r * V : Nat) : Int)).natAbs ≤ r * w) : False := by
  have a1 : r * V ≤ M * (r * w) := by
    calc r * V = k * (r * w) := by rw [hV]; ac_rfl
      _ ≤ M * (r * w) := Nat.mul_le_mul_right _ (by (clear hr hw hV h1 hn; lia))
  have a2 : M * (r * w) + r * w = 2 ^ 52 * (r * w) := by rw [← hM, Nat.succ_mul]
  have f4 : 0 < r * w := Nat.mul_pos hr hw
  rw [← a2] at h1
  clear a2 hV hM hk
  generalize M * (r * w) = z at *
  generalize r * w = y at *
  generalize r * V = x at *
  (clear hr hw; lia)
theorem low_place {X r V c mm e : Nat} (hV : V = mm * 2 ^ e) (hm : mm < 2 ^ 53) (hr : 1 ≤ r) (hc : 1 ≤ c) (h1 : r * 2 ^ (c + 52) < X) (hn : 2 * ((X : Int) - ((r * V : Nat) : Int)).natAbs ≤ r * 2 ^ c) : ∃ k, V = k * 2 ^ c ∧ 2 ^ 52 ≤ k := by
  have hce : c ≤ e := by
    rcases Nat.lt_or_ge e c with q | q
    · exfalso
      obtain ⟨d, rfl⟩ : ∃ d, c = d + 1 := ⟨c - 1, by (clear hV hm hr h1 hn q; lia)⟩
      have e1 : r * 2 ^ (d + 1 + 52) = 2 ^ 53 * (r * 2 ^ d) := by rw [show d + 1 + 52 = 53 + d by (clear hV hm hr hc h1 hn q; lia), Nat.pow_add]; ac_rfl
      have e2 : r * 2 ^ (d + 1) = 2 * (r * 2 ^ d) := by rw [Nat.pow_succ]; ac_rfl
      rw [e1] at h1
      rw [e2] at hn
      exact low_one (M := 9007199254740991) (by decide) hm hr (Nat.two_pow_pos _) (Nat.pow_le_pow_right (by decide) (by (clear hV hm hr hc h1 hn e1 e2; (exact Nat.le_of_lt_succ (by assumption))))) hV h1 hn
    · exact q
  have hk : V = mm * 2 ^ (e - c) * 2 ^ c := by rw [hV, Nat.mul_assoc, ← Nat.pow_add, show e - c + c = e by (clear hV hm hr hc h1 hn; (exact Nat.sub_add_cancel (by assumption)))]
  refine ⟨_, hk, ?_⟩
  rcases Nat.lt_or_ge (mm * 2 ^ (e - c)) (2 ^ 52) with q | q
  · exfalso
    have e1 : r * 2 ^ (c + 52) = 2 ^ 52 * (r * 2 ^ c) := by rw [Nat.pow_add]; ac_rfl
    rw [e1] at h1
    exact low_two (M := 4503599627370495) (by decide) q hr (Nat.two_pow_pos _) hk h1 hn
  · exact q
theorem rank_nearest {C : Int} {so q : UInt64} {sg : Bool} {mm : Nat} {ex : Int} (hd : Float64.decode q = .fin sg mm ex) (nr : NearI q (C * ((2 ^ 2146 : Nat) : Int)) (val so).natAbs) (hCb : C.natAbs ≤ 2 ^ 13) {u dn : Nat} (hdn : (ratio mm ex).2 = dn)
    (r2 : u * 2 ^ 1074 = mm * 2 ^ (ex + 1074).toNat * dn) {r : Nat} (hr1 : 1 ≤ r) (hr20 : r ≤ 2 ^ 20) (hso : val so = ((r * 2 ^ 1072 : Nat) : Int)) {half j : Nat} (hj : half = 2 ^ j) (hlt : u * 2 ^ 60 < half * 2 ^ 54) :
    (r : Int) * (((u * 2 ^ 60 : Nat) : Int) - half) < (C.natAbs : Int) * ((dn * 2 ^ 60 : Nat) : Int) ∧ (C.natAbs : Int) * ((dn * 2 ^ 60 : Nat) : Int) < (r : Int) * (((u * 2 ^ 60 : Nat) : Int) + half) := by
  have eg : (C.natAbs : Int) * ((dn * 2 ^ 60 : Nat) : Int) = ((C.natAbs * dn : Nat) : Int) * ((1152921504606846976 : Nat) : Int) := by rw [← Int.natCast_mul, ← Int.natCast_mul, show (1152921504606846976 : Nat) = 2 ^ 60 by decide, Nat.mul_assoc]
  rw [eg]
  refine last_step (x := 0) (b := r * u) rfl ?_
  have hhalf : 0 < half := by rw [hj]; exact Nat.two_pow_pos _
  have hvn := val_natAbs hd
  rw [hso, Int.natAbs_natCast] at nr
  by_cases hC0 : C = 0
  · have hv0 := (nr.exact (q := 0) (c := 0) (by decide) (by rw [hC0]; simp) (by decide)).2
    rw [Int.zero_mul] at hv0
    rw [hv0] at hvn
    have hu0 : u = 0 := by
      rw [← hvn] at r2
      have : u * 2 ^ 1074 = 0 := by rw [r2]; simp
      rcases Nat.mul_eq_zero.mp this with g | g
      · exact g
      · exact absurd g (Nat.ne_of_gt (Nat.two_pow_pos _))
    rw [hu0, hC0, Nat.mul_zero, Int.natAbs_zero, Nat.zero_mul, Int.sub_self, Int.natAbs_zero, Nat.mul_zero]
    exact Nat.mul_pos hr1 hhalf
  have hC1 : 1 ≤ C.natAbs := by (clear hd hCb hdn r2 nr hr1 hr20 hso hj hlt eg hhalf hvn; lia)
  obtain ⟨V, hVd⟩ : ∃ V, (val q).natAbs = V := ⟨_, rfl⟩
  obtain ⟨X, hX⟩ : ∃ X, C.natAbs * 2 ^ 1074 = X := ⟨_, rfl⟩
  rw [hVd] at hvn
  rw [← hvn] at r2
  have hX60 : r * 2 ^ 60 < X := by
    calc r * 2 ^ 60 ≤ 2 ^ 20 * 2 ^ 60 := Nat.mul_le_mul_right _ hr20
      _ = 2 ^ 80 := by rw [← Nat.pow_add]
      _ < 2 ^ 1074 := Nat.pow_lt_pow_right (by decide) (by decide)
      _ ≤ C.natAbs * 2 ^ 1074 := Nat.le_mul_of_pos_left _ hC1
      _ = X := hX
  obtain ⟨c, hc1, hlo, hhi⟩ := binade hr1 hX60
  have hc : c ≤ 2040 := by
    have a1 : 2 ^ (c + 52) < 2 ^ 1087 := by
      calc 2 ^ (c + 52) ≤ r * 2 ^ (c + 52) := Nat.le_mul_of_pos_left _ hr1
        _ < X := hlo
        _ = C.natAbs * 2 ^ 1074 := hX.symm
        _ ≤ 2 ^ 13 * 2 ^ 1074 := Nat.mul_le_mul_right _ hCb
        _ = _ := by rw [← Nat.pow_add]
    have := (Nat.pow_lt_pow_iff_right (by decide : 1 < 2)).mp a1
    (clear hd hCb hdn nr hr1 hr20 hso hj hlt eg hhalf hC0 hC1 r2 hvn hVd hX hX60 hlo hhi a1; lia)
  have hZn : (C * ((2 ^ 2146 : Nat) : Int)).natAbs = X * 2 ^ 1072 := by
    rw [Int.natAbs_mul, Int.natAbs_natCast, ← hX, Nat.mul_assoc, ← Nat.pow_add]
  obtain ⟨_, hn⟩ := nr.near hc (by
    rw [hZn, Nat.mul_right_comm]
    exact Nat.mul_le_mul_right _ hhi)
  have hn1 : 2 * ((X : Int) - ((r * V : Nat) : Int)).natAbs ≤ r * 2 ^ c := by
    have a1 := rev_tri (C * ((2 ^ 2146 : Nat) : Int)) (((r * 2 ^ 1072 : Nat) : Int) * val q)
    rw [hZn, Int.natAbs_mul, Int.natAbs_natCast, hVd] at a1
    have e1 : ((X * 2 ^ 1072 : Nat) : Int) - ((r * 2 ^ 1072 * V : Nat) : Int) = ((X : Int) - ((r * V : Nat) : Int)) * ((2 ^ 1072 : Nat) : Int) := by
      rw [Int.sub_mul, ← Int.natCast_mul, ← Int.natCast_mul, Nat.mul_right_comm]
    rw [e1, Int.natAbs_mul, Int.natAbs_natCast] at a1
    have a2 := Nat.le_trans (Nat.mul_le_mul_left 2 a1) hn
    rw [← Nat.mul_assoc, Nat.mul_right_comm r] at a2
    exact Nat.le_of_mul_le_mul_right a2 (Nat.two_pow_pos _)
  obtain ⟨k, hk, hk52⟩ := low_place hvn (decode_le hd).1 hr1 hc1 hlo hn1
  have hn2 : 2 * ((X : Int) - ((r * V : Nat) : Int)).natAbs < r * 2 ^ c := by
    refine Nat.lt_of_le_of_ne hn1 ?_
    rw [← hX, hk]
    exact tie_free hC1 hCb hk52
  obtain ⟨a, ha⟩ := ratio_pow mm ex
  rw [hdn] at ha
  have hex : c + a + 60 ≤ j + 1075 := by
    have a1 : 2 ^ (52 + c + a + 60) < 2 ^ (j + 1128) := by
      calc 2 ^ (52 + c + a + 60) = 2 ^ 52 * 2 ^ c * 2 ^ a * 2 ^ 60 := by rw [Nat.pow_add, Nat.pow_add, Nat.pow_add]
        _ ≤ k * 2 ^ c * 2 ^ a * 2 ^ 60 := Nat.mul_le_mul_right _ (Nat.mul_le_mul_right _ (Nat.mul_le_mul_right _ hk52))
        _ = u * 2 ^ 1074 * 2 ^ 60 := by rw [r2, hk, ha]
        _ = u * 2 ^ 60 * 2 ^ 1074 := Nat.mul_right_comm ..
        _ < half * 2 ^ 54 * 2 ^ 1074 := Nat.mul_lt_mul_of_pos_right hlt (Nat.two_pow_pos _)
        _ = 2 ^ (j + 1128) := by rw [hj, ← Nat.pow_add, ← Nat.pow_add]
    have := (Nat.pow_lt_pow_iff_right (by decide : 1 < 2)).mp a1
    (clear hd hCb hdn nr hr1 hr20 hso hj hlt eg hhalf hC0 hC1 r2 hvn hVd hX hX60 hc1 hlo hhi hc hZn hn hn1 hk hk52 hn2 ha a1; lia)
  have e2 : (((C.natAbs * dn : Nat) : Int) - ((r * u : Nat) : Int)) * ((2 ^ 1074 : Nat) : Int) = ((X : Int) - ((r * V : Nat) : Int)) * (dn : Int) := by
    rw [Int.sub_mul, Int.sub_mul, ← Int.natCast_mul, ← Int.natCast_mul, ← Int.natCast_mul, ← Int.natCast_mul, ← hX, Nat.mul_assoc r u, r2, Nat.mul_right_comm C.natAbs, Nat.mul_assoc r V]
  have e3 := congrArg Int.natAbs e2
  rw [Int.natAbs_mul, Int.natAbs_mul, Int.natAbs_natCast, Int.natAbs_natCast] at e3
  have hdn0 : 0 < dn := by rw [ha]; exact Nat.two_pow_pos _
  refine Nat.lt_of_mul_lt_mul_right (a := 2 * 2 ^ 1074) ?_
  calc 2 ^ 60 * (((C.natAbs * dn : Nat) : Int) - ((r * u : Nat) : Int)).natAbs * (2 * 2 ^ 1074) = 2 * ((((C.natAbs * dn : Nat) : Int) - ((r * u : Nat) : Int)).natAbs * 2 ^ 1074) * 2 ^ 60 := by ac_rfl
    _ = 2 * (((X : Int) - ((r * V : Nat) : Int)).natAbs * dn) * 2 ^ 60 := by rw [e3]
    _ = 2 * ((X : Int) - ((r * V : Nat) : Int)).natAbs * dn * 2 ^ 60 := by ac_rfl
    _ < r * 2 ^ c * dn * 2 ^ 60 := Nat.mul_lt_mul_of_pos_right (Nat.mul_lt_mul_of_pos_right hn2 hdn0) (Nat.two_pow_pos _)
    _ = r * 2 ^ (c + a + 60) := by rw [ha, Nat.pow_add, Nat.pow_add]; ac_rfl
    _ ≤ r * 2 ^ (j + 1075) := Nat.mul_le_mul_left _ (Nat.pow_le_pow_right (by decide) hex)
    _ = r * half * (2 * 2 ^ 1074) := by rw [hj, Nat.pow_add, Nat.mul_assoc, Nat.pow_succ' (n := 1074)]
end Mine
end
section
open PySem PySem.Float64
set_option maxRecDepth 100000
set_option exponentiation.threshold 5000
set_option maxHeartbeats 1000000
namespace Mine
/-- all that the law asks of a quotient of ranked sums -/
theorem rank_all {C : Int} {A B : Nat} {sxy so : UInt64} (hA1 : 1 ≤ A) (hB1 : 1 ≤ B) (hA2 : A ≤ 2 ^ 20) (hB2 : B ≤ 2 ^ 20) (hC : E 1072 sxy C) (hCb : C.natAbs ≤ 2 ^ 13) (R : RootOk A B so) :
    ∃ sg mm ex p d, Two.RankTold (Float64.div sxy so) C (A * B) sg mm ex p d := by
  refine rank_told hA1 hB1 hC hCb R fun sg mm ex hd nr u dn _ hdn r2 r hrr hso half j hj hlt => ?_
  have h1 : 1 ≤ A * B := Nat.mul_le_mul hA1 hB1
  have h2 : A * B ≤ 2 ^ 20 * 2 ^ 20 := Nat.mul_le_mul hA2 hB2
  have hr1 : 1 ≤ r := by
    rcases Nat.eq_zero_or_pos r with q | q
    · rw [q, Nat.zero_mul] at hrr; (clear hA1 hB1 hA2 hB2 hC hCb R hd nr hdn r2 hso hj hlt h2 q; lia)
    · exact q
  have hr20 : r ≤ 2 ^ 20 := by
    rcases Nat.lt_or_ge (2 ^ 20) r with q | q
    · have := Nat.mul_lt_mul'' q q
      rw [hrr] at this
      exact absurd (Nat.lt_of_lt_of_le this h2) (Nat.lt_irrefl _)
    · exact q
  exact rank_nearest hd nr hCb hdn r2 hr1 hr20 hso hj hlt
end Mine
end
section
open PySem PySem.W PySem.Calls PyProof.Rows PySem.Flt
set_option maxRecDepth 100000
open Mine
namespace Two
theorem told_of {W V : List Int} {q : UInt64} (R : RkFloat W V q) (b1 : (dotI W V).natAbs ≤ 8000) (b2 : (dotI W W).natAbs ≤ 8000) (b3 : (dotI V V).natAbs ≤ 8000) :
    ∃ own : Nat, (own : Int) = dotI W W * dotI V V ∧ 1 ≤ own ∧ own < 2 ^ 30 ∧ ∃ sg mm e p d, RankTold q (dotI W V) own sg mm e p d := by
  obtain ⟨sxy, sxx, syy, so, A, B, h1, _, _, hA, hB, a1, a2, hr, rfl⟩ := R.ex
  refine ⟨A * B, by rw [Int.natCast_mul, hA, hB], Nat.mul_le_mul a1 a2, ?_, ?_⟩
  · have hA8 : A ≤ 8000 := by (clear b1 b3 h1 hB a1 a2 hr R; omega)
    have hB8 : B ≤ 8000 := by (clear b1 b2 h1 hA a1 a2 hr R hA8; omega)
    exact Nat.lt_of_le_of_lt (Nat.mul_le_mul hA8 hB8) (by decide)
  · exact rank_all a1 a2 (by (clear b1 b3 h1 hB a1 a2 hr R; omega)) (by (clear b1 b2 h1 hA a1 a2 hr R; omega)) h1 (by (clear b2 b3 h1 hA hB a1 a2 hr R; (exact Nat.le_trans (by assumption) (by decide)))) hr
end Two
end
section
open PySem PySem.W PySem.Calls PyProof.Rows PySem.Flt
set_option maxRecDepth 100000
set_option maxHeartbeats 8000000
open Mine
namespace Two
theorem dot_zero {l : List Int} (h : ∀ a ∈ l, a = 0) : ∀ l2 : List Int, dotI l l2 = 0 := by
  induction l with
  | nil => intro l2; simp [dotI]
  | cons a r ih =>
    intro l2
    cases l2 with
    | nil => simp [dotI]
    | cons b r2 =>
      have e := ih (fun x hx => h x (.tail _ hx)) r2
      have e2 : dotI (a :: r) (b :: r2) = a * b + dotI r r2 := by simp [dotI]
      rw [e2, e, h a (.head _)]
      simp
theorem law_is_true {w : World} {p' : Program} {loose : List Str} {mean : ExcName → Option Value} {mg mb : Str → Option Value} {e1 : Env} {s : Shared} {base : Heap} {envs : List Env} {Q E : Value → Shared → Prop}
  {D : Addr} {ws : Array Value} {n : Nat} {xv yv : Nat → Int} {t2 t3 : Tok}
  (X : (Two.hd.heap_1 w.params).In base) (T : Top p' loose mean mg mb base) (B : Below (callerA.deeper e1) base envs s.heap)
  (hl : s.heap.IsList D ws) (hn : n ≤ 20) (R : ToldRes n n xv yv ws) {both own : Int} (hb : both = dotI ((List.range n).map (Wt n xv)) ((List.range n).map (Wt n yv))) (ho : own = dotI ((List.range n).map (Wt n xv)) ((List.range n).map (Wt n xv)) * dotI ((List.range n).map (Wt n yv)) ((List.range n).map (Wt n yv)))
  (h : ∀ h' tk', (∀ b o, s.heap.get? b = some o → h'.get? b = some o) → Q (.bool true) {s with heap := h', toks := tk'}) :
  wpAny (model PySem.Challenge.rw_kp0009_02.row.prog w) (callerA.deeper e1) (call (.ref 331) [.ref D, .int both t2, .int own t3]) Q E s := by
  subst hb ho
  rcases R with ⟨_, h2, q, t, rfl, R⟩ | ⟨rfl, h0⟩
  · obtain ⟨own, ho2, h1, h30, sg, mm, e, p, d, TA⟩ := told_of R (dot_wt n xv yv hn) (dot_wt n xv xv hn) (dot_wt n yv yv hn)
    rw [← ho2]
    exact is_told X T B hl TA h1 h30 (Nat.lt_of_le_of_lt (dot_wt n xv yv hn) (by decide)) h
  · have z : dotI ((List.range n).map (Wt n xv)) ((List.range n).map (Wt n xv)) * dotI ((List.range n).map (Wt n yv)) ((List.range n).map (Wt n yv)) = 0 := by
      by_cases hn2 : 2 ≤ n
      · exact h0 rfl hn2
      · rw [dot_zero (l := (List.range n).map (Wt n xv)) (fun a ha => by
          obtain ⟨j, hj, rfl⟩ := List.mem_map.mp ha
          exact wt_one n xv (by (clear X T B h h0 hl hj ha; (exact Nat.lt_of_not_le (by assumption)))) j (List.mem_range.mp hj))]
        simp
    rw [z]
    exact is_flat X T B hl h
end Two
end
section
open PySem PySem.W PySem.Calls PyProof.Rows PySem.Flt
set_option maxRecDepth 100000
set_option maxHeartbeats 8000000
open Mine
namespace Two
local macro_rules | `(tactic| walk_at "binaryOp Add ref ref") => `(tactic| refine Hold.out ?_)
local macro_rules | `(tactic| walk_at "compareOp NotEq ref ref") => `(tactic| refine Hold.out ?_)
local macro_rules | `(tactic| walk_at "binaryOp Mult int int") => `(tactic| refine mul_int ?_ (by assumption))
local macro_rules | `(tactic| walk_at "Exists") => `(tactic| refine Hold.out ?_)
local macro_rules | `(tactic| walk_at "call builtin:sum") => `(tactic| refine Hold.out ?_)
local macro_rules | `(tactic| k_all) => `(tactic| assumption)
local macro_rules | `(tactic| walk_at "pyIter ref") => `(tactic| refine Hold.out ?_)
local macro_rules | `(tactic| walk_at "call ref") => `(tactic| refine Hold.out ?_)
local macro_rules | `(tactic| walk_at "exec For Tuple Tuple cons nil") => `(tactic| refine Hold.out ?_)
local macro_rules | `(tactic| walk_at "eval ListComp") => `(tactic| refine Hold.out ?_)
local macro_rules | `(tactic| walk_at "call builtin:len") => `(tactic| refine Hold.out ?_)
local macro_rules | `(tactic| walk_at "binaryOp FloorDiv int int") => `(tactic| refine Hold.out ?_)
local macro_rules | `(tactic| walk_at "subscriptTail Name Slice ref ref") => `(tactic| refine Hold.out ?_)
theorem plus_ne (x : Nat) : (x + 1 ≠ x + 1 + 1) ∧ (x + 1 + 1 + 1 ≠ x + 1) ∧ (x + 1 + 1 + 1 ≠ x + 1 + 1) ∧ (x + 1 + 1 + 1 + 1 ≠ x + 1) ∧ (x + 1 + 1 + 1 + 1 ≠ x + 1 + 1) ∧ (x + 1 + 1 + 1 + 1 + 1 ≠ x + 1) ∧ (x + 1 + 1 + 1 + 1 + 1 ≠ x + 1 + 1) ∧ (x + 1 + 1 + 1 + 1 + 1 + 1 ≠ x + 1) ∧ (x + 1 + 1 + 1 + 1 + 1 + 1 ≠ x + 1 + 1) := by lia
theorem News.nth {h0 h : Heap} {L : Addr} {news : List (Addr × Obj)} {p : Addr × Obj} (N : News h0 L h news) (i : Nat) (e : news[i]? = some p) : h.get? p.1 = some p.2 := (N p (List.mem_of_getElem? e)).1
theorem new_ne4 {h0 h : Heap} {L X : Addr} {news : List (Addr × Obj)} {a1 a2 a3 a4 : Addr} {o1 o2 o3 o4 : Obj} (N : News h0 L h news) (hn : h.get? X = none) (i : Nat) (e1 : news[i]? = some (a1, o1)) (e2 : news[i + 1]? = some (a2, o2)) (e3 : news[i + 2]? = some (a3, o3)) (e4 : news[i + 3]? = some (a4, o4)) : @Ne Nat X a1 ∧ @Ne Nat X a2 ∧ @Ne Nat X a3 ∧ @Ne Nat X a4 := by
  have g : ∀ {p : Addr × Obj} {k : Nat}, news[k]? = some p → X ≠ p.1 := fun e q => by
    have := News.nth N _ e
    rw [← q, hn] at this; cases this
  exact ⟨g e1, g e2, g e3, g e4⟩
theorem cells_ne (x : Nat) : (x + 1 + 1 + 1 ≠ x + 1 + 1 + 1 + 1) ∧ (x + 1 + 1 + 1 ≠ x + 1 + 1 + 1 + 1 + 1) ∧ (x + 1 + 1 + 1 ≠ x + 1 + 1 + 1 + 1 + 1 + 1) ∧ (x + 1 + 1 + 1 + 1 ≠ x + 1 + 1 + 1 + 1 + 1) ∧ (x + 1 + 1 + 1 + 1 ≠ x + 1 + 1 + 1 + 1 + 1 + 1) ∧ (x + 1 + 1 + 1 + 1 + 1 ≠ x + 1 + 1 + 1 + 1 + 1 + 1) := by lia
theorem News.part {h0 h : Heap} {L : Addr} {small big : List (Addr × Obj)} (N : News h0 L h big) (s : List.Sublist small big) : News h0 L h small := fun p hp => N p (s.subset hp)
theorem News.pack {h0 h : Heap} {L : Addr} {a1 a2 c6 c5 c4 c3 c2 c1 : Addr × Obj} {tl : List (Addr × Obj)} (N : News h0 L h (a1 :: a2 :: c6 :: c5 :: c4 :: c3 :: c2 :: c1 :: tl)) : ∃ tl2, (∀ p ∈ (c6 :: c5 :: c4 :: c3 :: c2 :: c1 :: tl), p ∈ c4 :: c3 :: tl2) ∧ News h0 L h (a1 :: a2 :: c4 :: c3 :: tl2) := by
  exact ⟨c6 :: c5 :: c2 :: c1 :: tl, List.forall_mem_cons.mpr ⟨(.tail _ (.tail _ (.head _))), List.forall_mem_cons.mpr ⟨(.tail _ (.tail _ (.tail _ (.head _)))), List.forall_mem_cons.mpr ⟨.head _, List.forall_mem_cons.mpr ⟨(.tail _ (.head _)), List.forall_mem_cons.mpr ⟨(.tail _ (.tail _ (.tail _ (.tail _ (.head _))))), List.forall_mem_cons.mpr ⟨(.tail _ (.tail _ (.tail _ (.tail _ (.tail _ (.head _)))))), fun p hp => .tail _ (.tail _ (.tail _ (.tail _ (.tail _ (.tail _ hp)))))⟩⟩⟩⟩⟩⟩, List.forall_mem_cons.mpr ⟨N _ (.head _), List.forall_mem_cons.mpr ⟨N _ (.tail _ (.head _)), List.forall_mem_cons.mpr ⟨N _ (.tail _ (.tail _ (.tail _ (.tail _ (.head _))))), List.forall_mem_cons.mpr ⟨N _ (.tail _ (.tail _ (.tail _ (.tail _ (.tail _ (.head _)))))), List.forall_mem_cons.mpr ⟨N _ (.tail _ (.tail _ (.head _))), List.forall_mem_cons.mpr ⟨N _ (.tail _ (.tail _ (.tail _ (.head _)))), List.forall_mem_cons.mpr ⟨N _ (.tail _ (.tail _ (.tail _ (.tail _ (.tail _ (.tail _ (.head _))))))), List.forall_mem_cons.mpr ⟨N _ (.tail _ (.tail _ (.tail _ (.tail _ (.tail _ (.tail _ (.tail _ (.head _)))))))), fun p hp => N p (.tail _ (.tail _ (.tail _ (.tail _ (.tail _ (.tail _ (.tail _ (.tail _ hp))))))))⟩⟩⟩⟩⟩⟩⟩⟩⟩
theorem law_two {w : World} {p : Program} {loose : List Str} {mean : ExcName → Option Value} {mg mb : Str → Option Value} {s : Shared} {Q E : Value → Shared → Prop} {l : Addr} {vs : List Value} {ns : List Int} {t0 : Nat}
  (X : (Two.hd.heap_1 w.params).In s.heap) (T : Top p loose mean mg mb s.heap)
  (hl : s.heap.IsList l vs.toArray) (hi : IntsAre vs ns) (ht : 0 < t0) (hts : t0 + ns.length ≤ s.toks) (hv : ∀ k (hk : k < ns.length), vs[k]? = some (.int ns[k] (t0 + k))) (hlay : ns.length ≤ 1000000)
  (h : ∀ h' tk', (∀ b o, s.heap.get? b = some o → h'.get? b = some o) → Q (.bool true) {s with heap := h', toks := tk'}) :
  wpAny (model PySem.Challenge.rw_kp0009_02.row.prog w) callerA (call (.ref 336) [.ref l]) Q E s := by
  revert X; w_top off; k_fill; intro X
  have B := below_caller s.heap
  refine wpAny_call ?_
  refine enterC X T.nolimit (by k_is) (by k_is) (by k_room) (by exact kp_binds X (fun _ => rfl)) rfl (by decide +kernel) ?_ rfl rfl rfl
  intro L' h₁ tk cells F N Y
  k_cells Y
  dsimp only
  obtain ⟨mm, Fm⟩ := Fr.veil1 F (Str.ofString "script") rfl
  clear F
  k_steps
  refine Hold.mk ?_
  (rename Fr _ _ _ _ => F'); (rename News _ _ _ _ => N')
  have hvl : vs.length = ns.length := hi.length
  refine slice_vals F' N' (hl.at fun o e => F'.keep _ o e) .none (.int _ _) (ms := vs.take 40) (pick_upto 40) ?_ (by with_unfolding_all rfl) (by intro _; with_unfolding_all rfl) (by rw [List.size_toArray, hvl]; exact Nat.le_trans hlay (by decide))
  intro D h2 F2 N2 l2
  k_lt l2
  obtain ⟨us, hus⟩ : ∃ us, us = vs.take 40 := ⟨_, rfl⟩
  rw [← hus] at N2
  clear F' N'
  k_steps
  refine Hold.mk ?_
  (rename Fr _ _ _ _ => F'); (rename News _ _ _ _ => N')
  refine Mine.len_K (n := us.length) (N'.isList (.head _)) List.size_toArray (by rw [hus, List.length_take]; exact Nat.le_trans (Nat.min_le_left ..) (by decide)) ?_
  k_steps
  refine Hold.mk ?_
  refine floordiv_2 ?_
  obtain ⟨n, hn⟩ : ∃ n, us.length / 2 = n := ⟨_, rfl⟩
  rw [hn]
  k_steps
  refine Hold.mk ?_
  refine for_inv ?_ (fun _ => by with_unfolding_all rfl)
  k_steps
  refine Hold.mk ?_
  (rename Fr _ _ _ _ => F'); (rename News _ _ _ _ => N')
  refine cutP fun GG hGG => ?_
  have hn20 : n ≤ 20 := by
    have := List.length_take_le 40 vs
    rw [← hus] at this
    (clear T hl hi ht hts hv hlay h X B hvl l2 hus F' N'; lia)
  have hu40 : us.length ≤ 40 := by rw [hus, List.length_take]; (clear T hl hi ht hts hv h X B l2 hus hn F' N' hn20; lia)
  have hn2 : 2 * n ≤ us.length := by (clear T hl hi ht hts hv hlay h X B hvl l2 hus F' N' hn20 hu40; lia)
  have huv : ∀ k, k < us.length → us[k]? = some (.int (ns.getD k 0) (t0 + k)) := fun k hk => by
    rw [hus] at hk ⊢
    rw [List.length_take] at hk
    rw [List.getElem?_take_of_lt (by (clear T hl hi ht hts hv h X B l2 hus hn F' N' hn20 hu40 hn2; lia)), hv k (by (clear T hl hi ht hts hv h X B l2 hus hn F' N' hn20 hu40 hn2; lia)), List.getD_eq_getElem?_getD, List.getElem?_eq_getElem (by (clear T hl hi ht hts hv h X B l2 hus hn F' N' hn20 hu40 hn2; lia))]
    rfl
  obtain ⟨q1, q2, q3, q4, q5, q6, q7, q8, q9⟩ := plus_ne L'
  obtain ⟨r1, r2, r3, r4, r5, r6⟩ := cells_ne L'
  refine hGG ?_
  clear hGG
  refine law_loop rfl rfl (by with_unfolding_all rfl) (by with_unfolding_all rfl) (by with_unfolding_all rfl) (by with_unfolding_all rfl) q1 q2 q3 q4 q5 q6 q7 q8 q9 F' N' rfl rfl rfl rfl rfl rfl rfl rfl rfl (by assumption) (by assumption) (by assumption) (by assumption) (by assumption) (by assumption) (fun m => m (Str.ofString "script") = some (.ref D) ∧ ∃ tn, m (Str.ofString "n") = some (.int n tn)) ⟨rfl, _, rfl⟩ (fun u v => ∃ iv jv ti tj, u = .int iv ti ∧ v = .int jv tj) ⟨_, _, _, _, rfl, rfl⟩ ⟨_, _, _, _, rfl, rfl⟩ ⟨_, _, _, _, rfl, rfl⟩ ?_ ?_
  · clear F' N'
    intro tl hDm t3 t4 t5 t6 QQ EE h tk m' o1 o2 o3 o4 o5 o6 u v hG hP F' N' e1 e2 e3 e4 e5 e6 fin
    obtain ⟨iv, jv, ti, tj, rfl, rfl⟩ := hG
    obtain ⟨hm1, tn, hm2⟩ := hP
    have F2 := Fr.two F' hm2 hm1
    obtain ⟨v3, e3⟩ := e3
    obtain ⟨v4, e4⟩ := e4
    obtain ⟨v5, e5⟩ := e5
    obtain ⟨v6, e6⟩ := e6
    clear F'
    k_steps
    refine Hold.mk ?_
    (rename Fr _ _ _ _ => F'); (rename News _ _ _ _ => N')
    refine ListComp_mod (iv := iv) (ci := L' + 1) rfl (by with_unfolding_all rfl) (by with_unfolding_all decide) (by with_unfolding_all rfl) (by with_unfolding_all decide) (by with_unfolding_all rfl) (fun _ => by with_unfolding_all rfl) (fun _ => by with_unfolding_all rfl) (by with_unfolding_all rfl) (by decide) (by decide) ?_ (fun _ => by with_unfolding_all rfl)
    k_steps
    refine Hold.mk ?_
    refine slice_vals F' N' ⟨_, (N' _ (List.mem_append_right [_, _, _, _, _, _] hDm)).1, rfl, _, rfl⟩ .none (.int _ _) (ms := us.take n) (pick_upto n) ?_ (by with_unfolding_all rfl) (by intro _; with_unfolding_all rfl) (by rw [List.size_toArray]; exact Nat.le_trans hu40 (by decide))
    intro Dx hx Fx Nx lx
    clear F' N'
    refine ⟨Dx, (us.take n).toArray, n, fun k => ns.getD k 0, t0, ti, rfl, ⟨_, News.nth Nx 0 rfl, rfl, _, rfl⟩, by rw [List.size_toArray, List.length_take]; (clear T hl hi ht hts hv hlay X B hvl l2 hus hn20 hn2 huv q1 q2 q3 q4 q5 q6 q7 q8 q9 r1 r2 r3 r4 r5 r6 hDm t3 t4 t5 t6 e1 e2 fin hm1 hm2 e3 e4 e5 e6 Fx Nx lx; lia), Nat.le_trans hn20 (by decide), ht, fun k hk => ?_, ⟨o1, News.nth Nx 6 rfl, e1⟩, fun X2 h2 tk2 xs xt k2 g2 f2 TX => ?_⟩
    · rw [List.getElem?_toArray, List.getElem?_take_of_lt hk]
      exact huv k (by (clear T hl hi ht hts hv hlay X B hvl l2 hus hn20 hu40 hn2 huv q1 q2 q3 q4 q5 q6 q7 q8 q9 r1 r2 r3 r4 r5 r6 hDm t3 t4 t5 t6 e1 e2 fin hm1 hm2 e3 e4 e5 e6 Fx Nx lx; lia))
    generalize (fun k => modBy iv (ns.getD k 0)) = XV at TX
    refine cutP fun GG hGG => ?_
    have F2 := Mine.Fr.grow Fx k2
    have N2 := News.part (Mine.News.new Fx (Mine.News.grow Nx k2) g2 f2) (.cons₂ _ (.cons _ (List.Sublist.refl _)))
    obtain ⟨x1, x2, x3, x4⟩ := new_ne4 Nx f2 1 rfl rfl rfl rfl
    clear Fx Nx
    refine hGG ?_
    clear hGG
    k_steps
    refine Hold.mk ?_
    (rename Fr _ _ _ _ => F'); (rename News _ _ _ _ => N')
    refine ListComp_mod (iv := jv) (ci := L' + 1 + 1) rfl (by with_unfolding_all rfl) (by with_unfolding_all decide) (by with_unfolding_all rfl) (by with_unfolding_all decide) (by with_unfolding_all rfl) (fun _ => by with_unfolding_all rfl) (fun _ => by with_unfolding_all rfl) (by with_unfolding_all rfl) (by decide) (by decide) ?_ (fun _ => by with_unfolding_all rfl)
    k_steps
    refine Hold.mk ?_
    refine slice_vals F' N' ⟨_, (N' _ (List.mem_append_right [_, _, _, _, _, _, _] hDm)).1, rfl, _, rfl⟩ (.int _ _) (.int _ _) (ms := (us.drop n).take (2 * n - n)) (by have := pick_run2 (vs := us) n (2 * n) (by (clear T hl hi ht hts hv hlay X B hvl l2 hus hn hu40 hn2 huv q1 q2 q3 q4 q5 q6 q7 q8 q9 r1 r2 r3 r4 r5 r6 hDm t3 t4 t5 t6 e1 e2 fin hm1 hm2 e3 e4 e5 e6 lx k2 g2 f2 TX x1 x2 x3 x4 F' N'; lia)) hn2; rw [Int.natCast_mul] at this; exact this) ?_ (by with_unfolding_all rfl) (by intro _; with_unfolding_all rfl) (by rw [List.size_toArray]; exact Nat.le_trans hu40 (by decide))
    intro Dy hy Fy Ny ly
    clear F' N'
    refine ⟨Dy, ((us.drop n).take (2 * n - n)).toArray, n, fun k => ns.getD (n + k) 0, t0 + n, tj, rfl, ⟨_, News.nth Ny 0 rfl, rfl, _, rfl⟩, by rw [List.size_toArray, List.length_take, List.length_drop]; (clear T hl hi ht hts hv hlay X B hvl l2 hus hn2 huv q1 q2 q3 q4 q5 q6 q7 q8 q9 r1 r2 r3 r4 r5 r6 hDm t3 t4 t5 t6 e1 e2 fin hm1 hm2 e3 e4 e5 e6 lx k2 g2 f2 TX x1 x2 x3 x4 Fy Ny ly; lia), Nat.le_trans hn20 (by decide), Nat.lt_of_lt_of_le ht (Nat.le_add_right _ _), fun k hk => ?_, ⟨o2, News.nth Ny 6 rfl, e2⟩, fun Y2 h3 tk3 ys yt k3 g3 f3 TY => ?_⟩
    · rw [List.getElem?_toArray, List.getElem?_take_of_lt (by (clear T hl hi ht hts hv hlay X B hvl l2 hus hn hu40 hn2 huv q1 q2 q3 q4 q5 q6 q7 q8 q9 r1 r2 r3 r4 r5 r6 hDm t3 t4 t5 t6 e1 e2 fin hm1 hm2 e3 e4 e5 e6 lx k2 g2 f2 TX x1 x2 x3 x4 Fy Ny ly; lia)), List.getElem?_drop, huv (n + k) (by (clear T hl hi ht hts hv hlay X B hvl l2 hus hn20 hu40 hn2 huv q1 q2 q3 q4 q5 q6 q7 q8 q9 r1 r2 r3 r4 r5 r6 hDm t3 t4 t5 t6 e1 e2 fin hm1 hm2 e3 e4 e5 e6 lx k2 g2 f2 TX x1 x2 x3 x4 Fy Ny ly; lia)), Nat.add_assoc]
    generalize (fun k => modBy jv (ns.getD (n + k) 0)) = YV at TY
    refine cutP fun GG hGG => ?_
    have F3 := Mine.Fr.grow Fy k3
    have N3 := News.part (Mine.News.new Fy (Mine.News.grow Ny k3) g3 f3) (.cons₂ _ (.cons _ (List.Sublist.refl _)))
    obtain ⟨y1, y2, y3, y4⟩ := new_ne4 Ny f3 2 rfl rfl rfl rfl
    clear Fy Ny
    refine hGG ?_
    clear hGG
    k_steps
    refine Hold.mk ?_
    (rename Fr _ _ _ _ => F'); (rename News _ _ _ _ => N')
    refine weights_spec X T (pushX B F' rfl rfl) (n := n) (xt := xt) (xv := XV) ⟨_, News.nth N' 1 rfl, rfl, _, rfl⟩ TX.size (Nat.le_trans hn20 (by decide)) TX.at' ?_
    intro h4 tk4 W2 ws C4 f4 l4 sw wsv
    refine cutP fun GG hGG => ?_
    obtain ⟨F4, N4⟩ := Calm.alone C4 F' N'
    obtain ⟨oW, gW, lW⟩ := list_obj l4
    have N5 := Mine.News.new F' N4 gW f4
    obtain ⟨w1, w2, w3, w4⟩ := new_ne4 N' f4 2 rfl rfl rfl rfl
    clear F' N' C4 N4 l4 gW f4
    refine hGG ?_
    clear hGG
    k_steps
    refine Hold.mk ?_
    (rename Fr _ _ _ _ => F'); (rename News _ _ _ _ => N')
    refine weights_spec X T (pushX B F' rfl rfl) (n := n) (xt := yt) (xv := YV) ⟨_, News.nth N' 1 rfl, rfl, _, rfl⟩ TY.size (Nat.le_trans hn20 (by decide)) TY.at' ?_
    intro h5 tk5 V2 vs2 C5 f5 l5 sv vsv
    refine cutP fun GG hGG => ?_
    obtain ⟨F4, N4⟩ := Calm.alone C5 F' N'
    obtain ⟨oV, gV, lV⟩ := list_obj l5
    have N5 := Mine.News.new F' N4 gV f5
    obtain ⟨v1', v2', v3', v4'⟩ := new_ne4 N' f5 3 rfl rfl rfl rfl
    clear F' N' C5 N4 l5 gV f5
    refine hGG ?_
    clear hGG
    k_steps
    refine Hold.mk ?_
    (rename Fr _ _ _ _ => F'); (rename News _ _ _ _ => N')
    refine ListComp_range (h₀ := s.heap) (L := L') (Fv := fun k y => ∃ t, y = .int (Wt n XV k * Wt n YV k) t) rfl (by with_unfolding_all rfl) (by with_unfolding_all decide) (by with_unfolding_all rfl) (by with_unfolding_all decide) (by with_unfolding_all rfl) ?_ (fun _ => by with_unfolding_all rfl)
    k_steps
    refine Hold.mk ?_
    (rename Fr _ _ _ _ => F'); (rename News _ _ _ _ => N'); (rename IsRange _ _ _ _ _ _ _ _ => R')
    refine ⟨_, _, _, n, _, _, _, rfl, F', N', R', Nat.le_trans hn20 (by decide), fun k t hk => ?_, fun S1 h5 tk5 zs F5 N5 P5 => ?_⟩
    · obtain ⟨tw, ew⟩ := wsv k hk
      obtain ⟨tv, ev⟩ := vsv k hk
      have b1 := wt_abs n XV k
      have b2 := wt_abs n YV k
      have b400 : ∀ {x : Nat}, x ≤ n → x < 2 ^ 400 := fun hx => Nat.lt_of_le_of_lt (Nat.le_trans hx hn20) (by decide)
      exact el_prod rfl (fun _ => by with_unfolding_all rfl) (fun _ => by with_unfolding_all rfl) (fun _ => by with_unfolding_all rfl) (by with_unfolding_all rfl) (by with_unfolding_all rfl) (by decide) (by decide) (by decide) (Nat.lt_of_lt_of_le hk (Nat.le_trans hn20 (by decide))) ⟨_, News.nth N' 6 rfl, by assumption⟩ ⟨_, News.nth N' 5 rfl, by assumption⟩ (lW _ (News.nth N' 2 rfl)) (lV _ (News.nth N' 1 rfl)) ew ev (b400 b1) (b400 b2)
    have I5 := ints_of_paired (fun k => Wt n XV k * Wt n YV k) P5 (fun i y q => q.2)
    clear F' N' R' P5
    k_steps
    refine Hold.mk ?_
    refine PyProof.Rows.LSm.sum_ints F5 N5 rfl ⟨_, News.nth N5 0 rfl, rfl, _, rfl⟩ I5 (fun h6 tk6 t6 F6 N6 => ?_)
    rw [dot_range]
    generalize hC : dotI ((List.range n).map (Wt n XV)) ((List.range n).map (Wt n YV)) = both
    have N6' := News.part N6 (.cons _ (.cons _ (List.Sublist.refl _)))
    clear F5 N5 I5 N6
    k_steps
    refine Hold.mk ?_
    (rename Fr _ _ _ _ => F'); (rename News _ _ _ _ => N')
    refine ListComp_list (h₀ := s.heap) (L := L') (Fv := fun v y => ∀ a t, v = .int a t → ∃ t', y = .int (a * a) t') rfl (by with_unfolding_all rfl) (by with_unfolding_all decide) (by with_unfolding_all rfl) (by with_unfolding_all decide) (by with_unfolding_all rfl) ?_ (fun _ => by with_unfolding_all rfl)
    k_steps
    refine Hold.mk ?_
    (rename Fr _ _ _ _ => F'); (rename News _ _ _ _ => N')
    refine ⟨_, _, _, _, rfl, F', N', lW _ (News.nth N' 1 rfl), by rw [sw]; exact Nat.le_trans hn20 (by decide), fun k v hv => ?_, fun S7 h7 tk7 zs7 F7 N7 P7 => ?_⟩
    · have hk : k < n := by rw [← sw]; exact (Array.getElem?_eq_some_iff.mp hv).1
      obtain ⟨tw, ew⟩ := wsv k hk
      obtain rfl := Option.some.inj (ew.symm.trans hv)
      intro C h tk m' g1 g2 g3
      refine wpAny_mono (el_sq rfl (fun _ => by with_unfolding_all rfl) (by decide) (Nat.lt_of_le_of_lt (Nat.le_trans (wt_abs n XV k) hn20) (by decide)) C h tk m' g1 g2 g3) (fun y s6 q => ⟨q.1, fun a t e => ?_⟩) (fun _ _ q => q)
      obtain ⟨_, t', e'⟩ := q
      injection e with z1 z2
      exact ⟨t', by rw [e', z1]⟩
    have I7 := ints_sq (ints_range (n := n) (ws := ws.toList) (Wt n XV) (by rw [Array.length_toList, sw]) (fun k hk => by rw [Array.getElem?_toList]; exact wsv k hk)) P7
    clear F' N' P7
    k_steps
    refine Hold.mk ?_
    refine PyProof.Rows.LSm.sum_ints F7 N7 rfl ⟨_, News.nth N7 0 rfl, rfl, _, rfl⟩ I7 (fun h9 tk9 t9 F9 N9 => ?_)
    rw [dot_sq]
    generalize hA : dotI ((List.range n).map (Wt n XV)) ((List.range n).map (Wt n XV)) = ownA
    have N9' := News.part N9 (.cons _ (List.Sublist.refl _))
    clear F7 N7 I7 N9
    k_steps
    refine Hold.mk ?_
    (rename Fr _ _ _ _ => F'); (rename News _ _ _ _ => N')
    refine ListComp_list (h₀ := s.heap) (L := L') (Fv := fun v y => ∀ a t, v = .int a t → ∃ t', y = .int (a * a) t') rfl (by with_unfolding_all rfl) (by with_unfolding_all decide) (by with_unfolding_all rfl) (by with_unfolding_all decide) (by with_unfolding_all rfl) ?_ (fun _ => by with_unfolding_all rfl)
    k_steps
    refine Hold.mk ?_
    (rename Fr _ _ _ _ => F'); (rename News _ _ _ _ => N')
    refine ⟨_, _, _, _, rfl, F', N', lV _ (News.nth N' 0 rfl), by rw [sv]; exact Nat.le_trans hn20 (by decide), fun k v hv => ?_, fun S8 h8 tk8 zs8 F8 N8 P8 => ?_⟩
    · have hk : k < n := by rw [← sv]; exact (Array.getElem?_eq_some_iff.mp hv).1
      obtain ⟨tw, ew⟩ := vsv k hk
      obtain rfl := Option.some.inj (ew.symm.trans hv)
      intro C h tk m' g1 g2 g3
      refine wpAny_mono (el_sq rfl (fun _ => by with_unfolding_all rfl) (by decide) (Nat.lt_of_le_of_lt (Nat.le_trans (wt_abs n YV k) hn20) (by decide)) C h tk m' g1 g2 g3) (fun y s6 q => ⟨q.1, fun a t e => ?_⟩) (fun _ _ q => q)
      obtain ⟨_, t', e'⟩ := q
      injection e with z1 z2
      exact ⟨t', by rw [e', z1]⟩
    have I8 := ints_sq (ints_range (n := n) (ws := vs2.toList) (Wt n YV) (by rw [Array.length_toList, sv]) (fun k hk => by rw [Array.getElem?_toList]; exact vsv k hk)) P8
    clear F' N' P8
    k_steps
    refine Hold.mk ?_
    refine PyProof.Rows.LSm.sum_ints F8 N8 rfl ⟨_, News.nth N8 0 rfl, rfl, _, rfl⟩ I8 (fun h9 tk9 t9 F9 N9 => ?_)
    rw [dot_sq]
    generalize hB : dotI ((List.range n).map (Wt n YV)) ((List.range n).map (Wt n YV)) = ownB
    have hM : IntMulOk ownA ownB := by rw [← hA, ← hB]; exact smallMul (Nat.lt_of_le_of_lt (dot_wt n XV XV hn20) (by decide)) (Nat.lt_of_le_of_lt (dot_wt n YV YV hn20) (by decide))
    refine cutP fun GG hGG => ?_
    obtain ⟨tl2, hpk, N10⟩ := News.pack (News.part N9 (.cons _ (.cons _ (.cons _ (List.Sublist.refl _)))))
    clear F8 N8 I8 N9
    refine hGG ?_
    clear hGG
    k_steps
    refine Hold.mk ?_
    (rename Fr _ _ _ _ => F'); (rename News _ _ _ _ => N')
    refine told_spec X T (pushX B F' rfl rfl) (n := n) (k := n) ⟨_, News.nth N' 1 rfl, rfl, _, rfl⟩ TX.size ⟨_, News.nth N' 0 rfl, rfl, _, rfl⟩ TY.size hn20 (Nat.le_trans hn20 (by decide)) TX.at' TX.pos TX.inj (fun _ => TY.at') (fun _ => TY.pos) (fun _ => TY.inj) ?_
    intro h10 tk10 A1 ws10 C10 f10 l10 R10
    refine cutP fun GG hGG => ?_
    obtain ⟨F4, N4⟩ := Calm.alone C10 F' N'
    obtain ⟨oA, gA, lA⟩ := list_obj l10
    have N5 := Mine.News.new F' N4 gA f10
    clear F' N' C10 N4 l10 gA f10
    refine hGG ?_
    clear hGG
    k_steps
    refine Hold.mk ?_
    (rename Fr _ _ _ _ => F'); (rename News _ _ _ _ => N')
    refine law_is_true X T (pushX B F' rfl rfl) (n := n) (lA _ (News.nth N' 0 rfl)) hn20 R10 hC.symm (by rw [hA, hB]) ?_
    intro h11 tk11 k11
    have F5 := F'.keeps k11
    have N5 := News.part (N'.grown k11) (.cons _ (List.Sublist.refl _))
    clear F' N' k11 R10
    k_steps
    refine Hold.mk ?_
    (rename Fr _ _ _ _ => F'); (rename News _ _ _ _ => N')
    refine PySem.W.kmk_add_lit F' N' ⟨_, News.nth N' 1 rfl, rfl, _, rfl⟩ ⟨_, News.nth N' 0 rfl, rfl, _, rfl⟩ rfl ?_ (by rw [Array.length_toList, TY.size]; exact Nat.le_trans (Nat.add_le_add_right hn20 1) (by decide))
    intro Z1 h12 F12 N12 lz
    have N13 := News.part N12 (.cons₂ _ (.cons _ (List.Sublist.refl _)))
    clear F' N' N12
    k_steps
    refine Hold.mk ?_
    (rename Fr _ _ _ _ => F'); (rename News _ _ _ _ => N')
    refine told_spec X T (pushX B F' rfl rfl) (n := n) (k := n + 1) (xt := xt) (yt := yt) (yv := YV) ⟨_, News.nth N' 2 rfl, rfl, _, rfl⟩ TX.size ⟨_, News.nth N' 0 rfl, rfl, _, rfl⟩ (by rw [List.size_toArray, List.length_append, Array.length_toList, TY.size]; rfl) hn20 (Nat.succ_le_succ hn20) TX.at' TX.pos TX.inj (fun q => absurd q (Nat.succ_ne_self n)) (fun q => absurd q (Nat.succ_ne_self n)) (fun q => absurd q (Nat.succ_ne_self n)) ?_
    intro h13 tk13 A2 ws13 C13 f13 l13 R13
    have e13 : ws13 = #[] := by
      rcases R13 with ⟨q, _⟩ | ⟨q, _⟩
      · exact absurd q (Nat.succ_ne_self n)
      · exact q
    subst e13
    refine cutP fun GG hGG => ?_
    obtain ⟨F4, N4⟩ := Calm.alone C13 F' N'
    obtain ⟨oB, gB, lB⟩ := list_obj l13
    have N5 := News.part (Mine.News.new F' N4 gB f13) (.cons₂ _ (.cons _ (List.Sublist.refl _)))
    clear F' N' C13 N4 l13 gB f13 R13
    refine hGG ?_
    clear hGG
    k_steps
    refine Hold.mk ?_
    (rename Fr _ _ _ _ => F'); (rename News _ _ _ _ => N')
    refine PySem.W.ne_intsK (vs := []) (us := []) (lB _ (News.nth N' 1 rfl)) .nil ⟨_, News.nth N' 0 rfl, rfl, _, rfl⟩ .nil (by units_room) ?_
    rw [show (!decide (([] : List Int) = [])) = false from rfl]
    have N6 := News.part N' (.cons _ (.cons _ (List.Sublist.refl _)))
    clear N'
    k_steps
    refine Hold.mk ?_
    (rename Fr _ _ _ _ => F'); (rename News _ _ _ _ => N')
    refine slice_vals F' N' ⟨_, News.nth N' 0 rfl, rfl, _, rfl⟩ (.int _ _) .none (ms := ys.toList.drop 1) (by have := pick_from (vs := ys.toList) 1; rw [Array.toArray_toList] at this; exact this) ?_ (by with_unfolding_all rfl) (by intro _; with_unfolding_all rfl) (by rw [TY.size]; exact Nat.le_trans hn20 (by decide))
    intro Z2 h14 F14 N14 lz2
    clear F' N'
    k_steps
    refine Hold.mk ?_
    (rename Fr _ _ _ _ => F'); (rename News _ _ _ _ => N')
    refine told_spec X T (pushX B F' rfl rfl) (n := n) (k := n - 1) (xt := xt) (yt := yt) (yv := YV) ⟨_, News.nth N' 2 rfl, rfl, _, rfl⟩ TX.size ⟨_, News.nth N' 0 rfl, rfl, _, rfl⟩ (by rw [List.size_toArray, List.length_drop, Array.length_toList, TY.size]) hn20 (by (clear T hl hi ht hts hv hlay X B hvl l2 hus hn hu40 hn2 huv q1 q2 q3 q4 q5 q6 q7 q8 q9 r1 r2 r3 r4 r5 r6 hDm t3 t4 t5 e1 e2 fin hm1 hm2 e3 e4 e5 e6 lx k2 g2 f2 TX x1 x2 x3 x4 ly k3 g3 f3 TY y1 y2 y3 y4 wsv lW w1 w2 w3 w4 vsv lV v1' v2' v3' v4' hC hA hB hM lA lz lB F' N' lz2; omega)) TX.at' TX.pos TX.inj (fun q k hk => absurd hk (by (clear T hl hi ht hts hv hlay X B hvl l2 hus hn hu40 hn2 huv q1 q2 q3 q4 q5 q6 q7 q8 q9 r1 r2 r3 r4 r5 r6 hDm t3 t4 t5 e1 e2 fin hm1 hm2 e3 e4 e5 e6 lx k2 g2 f2 TX x1 x2 x3 x4 ly k3 g3 f3 TY y1 y2 y3 y4 wsv lW w1 w2 w3 w4 vsv lV v1' v2' v3' v4' hC hA hB hM lA lz lB F' N' lz2; lia))) (fun q k hk => absurd hk (by (clear T hl hi ht hts hv hlay X B hvl l2 hus hn hu40 hn2 huv q1 q2 q3 q4 q5 q6 q7 q8 q9 r1 r2 r3 r4 r5 r6 hDm t3 t4 t5 e1 e2 fin hm1 hm2 e3 e4 e5 e6 lx k2 g2 f2 TX x1 x2 x3 x4 ly k3 g3 f3 TY y1 y2 y3 y4 wsv lW w1 w2 w3 w4 vsv lV v1' v2' v3' v4' hC hA hB hM lA lz lB F' N' lz2; lia))) (fun q j k hk => absurd hk (by (clear T hl hi ht hts hv hlay X B hvl l2 hus hn hu40 hn2 huv q1 q2 q3 q4 q5 q6 q7 q8 q9 r1 r2 r3 r4 r5 r6 hDm t3 t4 t5 e1 e2 fin hm1 hm2 e3 e4 e5 e6 lx k2 g2 f2 TX x1 x2 x3 x4 ly k3 g3 f3 TY y1 y2 y3 y4 wsv lW w1 w2 w3 w4 vsv lV v1' v2' v3' v4' hC hA hB hM lA lz lB F' N' lz2; lia))) ?_
    intro h15 tk15 A3 ws15 C15 f15 l15 R15
    have e15 : ws15 = #[] := by
      rcases R15 with ⟨q, q2, _⟩ | ⟨q, _⟩
      · (clear T hl hi ht hts hv hlay X B hvl l2 hus hn hu40 hn2 huv q1 q3 q4 q5 q6 q7 q8 q9 r1 r2 r3 r4 r5 r6 hDm t3 t4 t5 e1 e2 fin hm1 hm2 e3 e4 e5 e6 lx k2 g2 f2 TX x1 x2 x3 x4 ly k3 g3 f3 TY y1 y2 y3 y4 wsv lW w1 w2 w3 w4 vsv lV v1' v2' v3' v4' hC hA hB hM lA lz lB F' N' lz2 C15 f15 l15; lia)
      · exact q
    subst e15
    refine cutP fun GG hGG => ?_
    obtain ⟨F4, N4⟩ := Calm.alone C15 F' N'
    obtain ⟨oC, gC, lC⟩ := list_obj l15
    have N5 := News.part (Mine.News.new F' N4 gC f15) (.cons₂ _ (.cons _ (List.Sublist.refl _)))
    clear F' N' C15 N4 l15 gC f15 R15
    refine hGG ?_
    clear hGG
    k_steps
    refine Hold.mk ?_
    (rename Fr _ _ _ _ => F'); (rename News _ _ _ _ => N')
    refine PySem.W.ne_intsK (vs := []) (us := []) (lC _ (News.nth N' 1 rfl)) .nil ⟨_, News.nth N' 0 rfl, rfl, _, rfl⟩ .nil (by units_room) ?_
    rw [show (!decide (([] : List Int) = [])) = false from rfl]
    have N6 := News.part N' (.cons _ (.cons _ (List.Sublist.refl _)))
    clear N'
    k_steps
    refine Hold.mk ?_
    (rename Fr _ _ _ _ => F'); (rename News _ _ _ _ => N')
    refine ListComp_none (frs := [L']) rfl (by with_unfolding_all rfl) (by with_unfolding_all decide) (by with_unfolding_all rfl) (by with_unfolding_all decide) (by with_unfolding_all rfl) ?_ (fun _ => by with_unfolding_all rfl)
    k_steps
    refine Hold.mk ?_
    (rename Fr _ _ _ _ => F'); (rename News _ _ _ _ => N')
    refine ⟨_, _, rfl, ⟨_, News.nth N' 0 rfl, rfl, _, rfl⟩, Nat.le_of_ble_eq_true rfl, fun q => (N' _ (.head _)).2.1 (List.mem_singleton.mp q), fun b hb => ?_, fun i v hv C h tk m' hnC hmC hC Cm => ?_, fun Dn h16 tk16 C16 g16 f16 => ?_⟩
    · rw [List.mem_singleton.mp hb]
      obtain ⟨o, _, _, e, _⟩ := F'.ns
      exact ⟨o, e⟩
    · obtain ⟨nm, tm, rfl, hnm⟩ : ∃ nm tm, v = .str nm tm ∧ (nm = Str.ofString "rank" ∨ nm = Str.ofString "Ranked" ∨ nm = Str.ofString "linear " ∨ nm = Str.ofString "") := by
        rcases i with _ | _ | _ | _ | i
        · exact ⟨_, _, (Option.some.inj hv).symm, .inl rfl⟩
        · exact ⟨_, _, (Option.some.inj hv).symm, .inr (.inl rfl)⟩
        · exact ⟨_, _, (Option.some.inj hv).symm, .inr (.inr (.inl rfl))⟩
        · exact ⟨_, _, (Option.some.inj hv).symm, .inr (.inr (.inr rfl))⟩
        · exact absurd (Array.getElem?_eq_some_iff.mp hv).1 (by simp)
      obtain ⟨Fh, Nh⟩ := Calm.alone Cm F' N'
      clear F' N' hv
      refine wpAny_tests_one ?_
      k_steps
      refine Hold.mk ?_
      refine unknown_spec X T (pushX B Fh rfl rfl) (n := n) ⟨_, News.nth Nh 2 rfl, rfl, _, rfl⟩ TX.size ⟨_, News.nth Nh 1 rfl, rfl, _, rfl⟩ TY.size (Nat.le_trans hn20 (by decide)) hnm ?_
      intro h17 tk17 C17
      refine wpAny_truthy_bool ?_
      exact And.intro rfl ⟨_, _, rfl, C17⟩
    · refine cutP fun GG hGG => ?_
      obtain ⟨F4, N4⟩ := Calm.alone C16 F' N'
      have N5 := News.part (Mine.News.new F' N4 g16 f16) (.cons₂ _ (.cons _ (List.Sublist.refl _)))
      clear F' N' C16 N4 g16 f16
      refine hGG ?_
      clear hGG
      k_steps
      refine Hold.mk ?_
      (rename Fr _ _ _ _ => F'); (rename News _ _ _ _ => N')
      refine PySem.W.ne_intsK (vs := []) (us := []) ⟨_, News.nth N' 1 rfl, rfl, _, rfl⟩ .nil ⟨_, News.nth N' 0 rfl, rfl, _, rfl⟩ .nil (by units_room) ?_
      rw [show (!decide (([] : List Int) = [])) = false from rfl]
      have N6 := News.part N' (.cons _ (.cons _ (.cons _ (.cons _ (List.Sublist.refl _)))))
      clear N'
      k_steps
      (rename Fr _ _ _ _ => F')
      exact fin _ _ _ _ _ _ _ _ _ ⟨rfl, _, rfl⟩ F' (fun p hp => N6 p (hpk p hp)) ⟨_, e1⟩ ⟨_, e2⟩ ⟨_, by assumption⟩ ⟨_, by assumption⟩ ⟨_, by assumption⟩ ⟨_, by assumption⟩
  · intro hh tk m' hP F2
    k_steps
    exact h _ _ F2.keep
end Two
end
section
open PySem PySem.W PyProof.Rows
set_option maxRecDepth 100000
namespace Mine
section
variable {R : WRecords} {cl : Str → Option Addr} {P : Params} {ord : List DictEntry → List DictEntry}
theorem lay_ints : ∀ (ns : List Int) (s : Shared) (r : List Value × Shared), layAllW R cl P ord (ns.map WData.int) s = some r → r.2.toks = s.toks + ns.length ∧ r.1.length = ns.length ∧ ∀ k (hk : k < ns.length), r.1[k]? = some (.int ns[k] (s.toks + k))
  | [], s, r, h => by
    simp only [List.map_nil, layAllW, Option.some.injEq] at h
    subst h
    exact ⟨rfl, rfl, fun k hk => absurd hk (Nat.not_lt_zero _)⟩
  | n :: ns, s, r, h => by
    simp only [List.map_cons, layAllW, layW] at h
    split at h
    · rename_i r2 e2
      obtain ⟨h1, h2, h3⟩ := lay_ints ns _ _ e2
      injection h with h
      subst h
      refine ⟨by rw [h1, List.length_cons]; show s.toks + 1 + ns.length = _; (clear e2 h1 h2 h3; lia), by simp [h2], fun k hk => ?_⟩
      cases k with
      | zero => rfl
      | succ k =>
        have := h3 k (by simpa using hk)
        rw [List.getElem?_cons_succ, this, List.getElem_cons_succ]
        show some (Value.int _ (s.toks + 1 + k)) = _
        rw [Nat.add_assoc, Nat.add_comm 1 k]
    · cases h
theorem ofPys_ints : ∀ ns : List Int, ofPys (ns.map PyData.int) = ns.map WData.int
  | [] => rfl
  | n :: r => by
    show ofPy (.int n) :: ofPys (r.map PyData.int) = _
    rw [ofPys_ints r]
    rfl
theorem lay_script {ns : List Int} {s s₁ : Shared} {l : Addr} {vs : List Value} (h : layAllW R cl P ord [ofPy (PyData.list (ns.map PyData.int))] s = some ([.ref l], s₁)) (hl : s₁.heap.IsList l vs.toArray) :
    s.toks + ns.length ≤ s₁.toks ∧ ∀ k (hk : k < ns.length), vs[k]? = some (.int ns[k] (s.toks + k)) := by
  rw [show ofPy (PyData.list (ns.map PyData.int)) = WData.list (ns.map WData.int) from congrArg WData.list (ofPys_ints ns)] at h
  simp only [layAllW, layW] at h
  split at h
  · rename_i a ea
    split at ea
    · rename_i r er
      obtain ⟨h1, h2, h3⟩ := lay_ints ns _ _ er
      injection ea with ea
      subst ea
      injection h with h
      injection h with g1 g2
      injection g1 with g1 _
      injection g1 with g1
      subst g2
      refine ⟨Nat.le_of_eq h1.symm, ?_⟩
      obtain ⟨o, e, c, n, d⟩ := hl
      rw [← g1] at e
      have e2 : (r.2.heap.push { cls := .type "list", data := .seq r.1.toArray }).get? r.2.heap.objs.size = _ := Heap.get?_push_size _ rfl
      obtain rfl := Option.some.inj (e2.symm.trans e)
      injection d with d1 d2
      have : vs = r.1 := by simpa using congrArg Array.toList d1.symm
      rw [this]
      exact h3
    · cases ea
  · cases h
end
end Mine
end
section
open PySem PySem.W PySem.Calls PyProof.Rows PySem.Flt
set_option maxRecDepth 100000
set_option maxHeartbeats 8000000
namespace Two
theorem law_holds : PySem.Challenge.rw_kp0009_02.Holds := Two.hd (by
  w_top off; k_fill
  intro w s₀ s₁ mg mb G Y ht args vals as hpre hlay L
  have KX := kIn_of Y
  refine Ground.open G ?_
  intro T B D TE TW
  obtain ⟨ord, _, hlaid⟩ := L.laid
  have hge := L.gens
  have hrd := L.reads
  have hwl := L.well
  have hlo := L.old
  have hmg : mg "law" = some (.ref 336) := mg_of (n := "law") (v := .ref 336) KX T.g (by k_is)
  refine ⟨_, hmg, ?_⟩
  clear B D TE TW L
  wrow_args hpre hlay hrd hwl hlo
  (rename IntsAre _ _ => hI)
  (rename Heap.IsList _ _ _ => hL)
  obtain ⟨q1, q2⟩ := Mine.lay_script hlaid hL
  refine law_two KX T hL hI ht q1 q2 (by omega) (fun h' tk' hk => ?_)
  refine GoodW.toG ⟨.inl ⟨.bool true, _, [], rfl, raisesW_false ?_, ReadsW.bool _, ?_, unshared_nil⟩, hk, rfl, hge⟩
  · wrow_none_raised
  · wrow_post)
end Two
end
set_option maxRecDepth 100000 in
theorem PySem.Challenge.cw_kp0009_02_holds : PySem.Challenge.rw_kp0009_02.Holds := by
  exact Two.law_holds
